import PyProof.Rows.All
import Wide.All
import OpenK.AllK
import Wide.FinOn
import Lean
import PySem.Challenge.RW_pg0099_01
set_option Elab.async false
set_option maxRecDepth 100000
set_option maxHeartbeats 8000000

namespace Mine
open PySem PySem.W PyProof.Rows
open_top hd for PySem.Challenge.rw_pg0099_01
end Mine

namespace Mine
open PySem PySem.W PySem.Calls PySem.Spec PyProof.Rows
/-- the goal is hidden while a fact is taken apart -/
theorem hideGoal {G : Prop} (h : ∀ XX : Prop, (G → XX) → XX) : G := h G id

theorem enter {prog : Program} {w : World} {A : Around} {E : Value → Shared → Prop} {s : Shared} {K : Frag} {Q : Value → Shared → Prop} {name qual : Str} {params : Arguments} {body : List Stmt} {scope : Scope} {dV kV doc pm cdv ct oc : Value} {an od : Option Addr} {osl : Array (Option Value)} {f : Addr} {args : List Value} (binds : List (Str × Value))
    (X : K.In s.heap) (hlim : s.heap.NoLimit)
    (ho : K.lookup f = some ⟨oc, od, .func (fnOf name qual params body scope dV kV doc pm an cdv ct), osl⟩) (hcd : codeIn K cdv qual = true) (hroom : A.depth < recursionLimit)
    (hbind : BindsTo s (fnOf name qual params body scope dV kV doc pm an cdv ct) ⟨args, []⟩ binds) (hloc : ∀ y ∈ binds, scope.names.lookup y.1 = some .local)
    (h : ∀ h₁, Fr s.heap s.heap.objs.size h₁ (fun y => binds.reverse.lookup y) →
      wpAny (model prog w) (A.deeper (envOf qual scope s.heap.objs.size f cdv)) (execs body (envOf qual scope s.heap.objs.size f cdv))
        (fun fl s' => Q (match fl with | .ret v => v | _ => .none) s')
        (fun _ _ => False)
        { s with heap := h₁, toks := s.toks + binds.length })
    (hco : scope.isCoroutine = false) (hgen : scope.isGenerator = false) (hk : scope.kind = .function)
    (hcell : ∀ x ∈ scope.names, x.2 ≠ .cell) : wpAny (model prog w) A (call (.ref f) args) Q E s := by
  refine wpAny_call ?_
  refine codeAny_call_def (fd := fnOf name qual params body scope dV kV doc pm an cdv ct) (body := body) (binds := binds) hroom (X _ _ ho) rfl hlim (codeRec_of X hcd) rfl hbind hcell hloc (fun h₁ hns hk₁ => ?_) hco hgen hk
  exact wpAny_mono (h h₁ ⟨hns, hk₁, Nat.le_refl _⟩) (fun fl s' q => q) (fun e s' q => q.elim)
end Mine

namespace Mine
open PySem PySem.W PySem.Calls PySem.Spec PyProof.Rows

/-- an end: the walk stops here -/
def End (P : Prop) : Prop := P
theorem End.mk {P : Prop} (h : P) : End P := h
theorem End.out {P : Prop} (h : End P) : P := h

abbrev Never : Value → Shared → Prop := fun _ _ => False

theorem keeps_refl (s : Shared) : Keeps s s := ⟨s.heap, s.toks, rfl, fun _ _ e => e⟩
theorem keeps_trans {s s' s'' : Shared} (a : Keeps s s') (b : Keeps s' s'') : Keeps s s'' := by
  obtain ⟨h, t, rfl, k⟩ := a
  obtain ⟨h', t', rfl, k'⟩ := b
  exact ⟨h', t', rfl, fun b o e => k' b o (k b o e)⟩
theorem keeps_heap {s s' : Shared} (a : Keeps s s') : ∀ b o, s.heap.get? b = some o → s'.heap.get? b = some o := by
  obtain ⟨h, t, rfl, k⟩ := a
  exact k

/-- a for loop, any target, that no exception leaves -/
theorem for_ {prog : Program} {w : World} {A : Around} {env : Env} {s : Shared} {E : Value → Shared → Prop} {target iter : Expr} {body : List Stmt} {pos : Pos} {Q : Flow → Shared → Prop}
    (h : wpAny (model prog w) A (eval iter env) (fun x s₁ => wpAny (model prog w) A (pyIter x) (fun it s₂ =>
      ∃ (I : Nat → Shared → Prop) (n : Nat), I n s₂ ∧ ∀ n s, I n s → wpAny (model prog w) A (pyNext it) (fun r s₁ => match r with
        | none => Q .next s₁
        | some v => wpAny (model prog w) A (letOwnedTupleGo target it v) (fun _ s₁' => wpAny (model prog w) A (assign target env v) (fun _ s₂ =>
            wpAny (model prog w) A (execs body env) (fun f s₃ => match f with
              | .next | .cont => ∃ m, m < n ∧ I m s₃
              | .brk => Q .next s₃
              | .ret v => Q (.ret v) s₃) Never s₂) Never s₁') Never s₁) Never s) E s₁) E s)
    (hs : ∀ x, foldedSetIterable iter env x = pure x := by intro _; rfl) :
    wpAny (model prog w) A (exec (.For target iter body [] pos) env) Q E s := by
  refine wpAny_For (wpAny_mono h (fun x s₁ h₁ => wpAny_mono h₁ (fun it s₂ h₂ => ?_) fun _ _ e => e) fun _ _ e => e) hs
  obtain ⟨I, n, h0, turn⟩ := h₂
  refine codeAny_forLoop_any I (fun n s hI => ?_) n h0
  refine wpAny_mono (turn n s hI) (fun r s₁ h₁ => ?_) fun _ _ e => e.elim
  cases r with
  | none => exact wpAny_execs_nil h₁
  | some v =>
    refine wpAny_mono h₁ (fun _ s₂ h₂ => wpAny_mono h₂ (fun _ s₃ h₃ => wpAny_mono h₃ (fun f s₄ h₄ => ?_) fun _ _ e => e.elim) fun _ _ e => e.elim) fun _ _ e => e.elim
    cases f <;> exact h₄

/-- a for loop by an invariant over the heap; the iterator walks -/
def LoopW (prog : Program) (w : World) (A : Around) (env : Env) (target : Expr) (body : List Stmt) (Q : Flow → Shared → Prop) (it : Value) (s₂ : Shared) : Prop :=
  ∃ (I : Addr) (fp wr : List Addr) (n : Nat) (P : Nat → Value → Prop) (St : Nat → Heap → Prop) (J : Nat → Shared → Prop),
    it = .ref I ∧ Walks prog w A I fp wr n P St ∧ St 0 s₂.heap ∧ J 0 s₂ ∧
    (∀ i (s : Shared) h' tk, J i s → (∀ b o, b ∉ wr → s.heap.get? b = some o → h'.get? b = some o) → J i { s with heap := h', toks := tk }) ∧
    (∀ i v s₁, i < n → P i v → J i s₁ → St (i + 1) s₁.heap →
      wpAny (model prog w) A (letOwnedTupleGo target it v) (fun _ s₁' => wpAny (model prog w) A (assign target env v) (fun _ s₂ =>
        wpAny (model prog w) A (execs body env) (fun f s₃ => match f with
          | .next | .cont => End (J (i + 1) s₃ ∧ ∀ b ∈ fp, ∀ o, s₁.heap.get? b = some o → s₃.heap.get? b = some o)
          | .brk => Q .next s₃
          | .ret v => Q (.ret v) s₃) Never s₂) Never s₁') Never s₁) ∧
    ∀ s', J n s' → Q .next s'

theorem forW {prog : Program} {w : World} {A : Around} {env : Env} {s : Shared} {E : Value → Shared → Prop} {target iter : Expr} {body : List Stmt} {pos : Pos} {Q : Flow → Shared → Prop}
    (h : wpAny (model prog w) A (eval iter env) (fun x s₁ => wpAny (model prog w) A (pyIter x) (fun it s₂ => LoopW prog w A env target body Q it s₂) E s₁) E s)
    (hs : ∀ x, foldedSetIterable iter env x = pure x := by intro _; rfl) :
    wpAny (model prog w) A (exec (.For target iter body [] pos) env) Q E s := by
  refine for_ (wpAny_mono h (fun x s₁ h₁ => wpAny_mono h₁ (fun it s₂ h₂ => ?_) fun _ _ e => e) fun _ _ e => e) hs
  obtain ⟨I, fp, wr, n, P, St, J, rfl, W, hst, h0, stable, turn, done⟩ := h₂
  refine ⟨fun k s' => ∃ i, i ≤ n ∧ k = n + 1 - i ∧ St i s'.heap ∧ J i s', n + 1, ⟨0, Nat.zero_le _, rfl, hst, h0⟩, ?_⟩
  rintro k s' ⟨i, hi, rfl, hst', hJ⟩
  by_cases hlt : i < n
  · refine W.item i _ _ _ hlt hst' fun v h' tk hP hst₁ hk => ?_
    have hJ' := stable i s' h' tk hJ hk
    refine wpAny_mono (turn i v _ hlt hP hJ' hst₁) (fun _ s₁' h₁ => wpAny_mono h₁ (fun _ s₃ h₃ => wpAny_mono h₃ (fun f s₄ h₄ => ?_) fun _ _ e => e.elim) fun _ _ e => e.elim) fun _ _ e => e.elim
    cases f with
    | next => exact ⟨n + 1 - (i + 1), by omega, i + 1, hlt, rfl, W.frame _ _ _ hst₁ h₄.out.2, h₄.out.1⟩
    | cont => exact ⟨n + 1 - (i + 1), by omega, i + 1, hlt, rfl, W.frame _ _ _ hst₁ h₄.out.2, h₄.out.1⟩
    | brk => exact h₄
    | ret v => exact h₄
  · have : i = n := by omega
    subst this
    exact W.done s' _ _ hst' fun h' tk hk => done _ (stable i s' h' tk hJ hk)

theorem while_ {prog : Program} {w : World} {A : Around} {env : Env} {s : Shared} {E : Value → Shared → Prop} {test : Expr} {body : List Stmt} {pos : Pos} {Q : Flow → Shared → Prop} (I : Nat → Shared → Prop)
    (turn : ∀ n s, I n s → wpAny (model prog w) A (isTrue test env (eval test env)) (fun b s₂ =>
        if b then wpAny (model prog w) A (execs body env) (fun f s₃ => match f with
            | .next | .cont => End (∃ m, m < n ∧ I m s₃)
            | .brk => Q .next s₃
            | .ret v => Q (.ret v) s₃) Never s₂
        else Q .next s₂) Never s)
    (n : Nat) (h : I n s) : wpAny (model prog w) A (exec (.While test body [] pos) env) Q E s := by
  refine wpAny_While (codeAny_whileLoop I (fun n s hI => ?_) n h)
  refine wpAny_mono (turn n s hI) (fun b s₂ h₂ => ?_) fun _ _ e => e.elim
  cases b with
  | true =>
    refine wpAny_mono h₂ (fun f s₃ h₃ => ?_) fun _ _ e => e.elim
    cases f <;> exact h₃
  | false => exact wpAny_execs_nil h₂

theorem int_is {a b : Int} {t : Tok} (e : a = b) : ∃ t', Value.int a t = .int b t' := ⟨t, by rw [e]⟩

/-- the frame behind a step that keeps the heap -/
theorem fr_keeps {h₀ h h' : Heap} {L : Addr} {m : Str → Option Value} (F : Fr h₀ L h m) (k : ∀ b o, h.get? b = some o → h'.get? b = some o) : Fr h₀ L h' m := by
  obtain ⟨oL, es, ep, hL, r⟩ := F.ns
  exact ⟨⟨oL, es, ep, k _ _ hL, r⟩, fun b o e => k b o (F.keep b o e), F.above⟩
theorem news_keeps {h₀ h h' : Heap} {L : Addr} {news : List (Addr × Obj)} (N : News h₀ L h news) (k : ∀ b o, h.get? b = some o → h'.get? b = some o) : News h₀ L h' news :=
  fun p hp => ⟨k _ _ (N p hp).1, (N p hp).2⟩
end Mine

namespace Mine
open PySem PySem.W PySem.Calls PySem.Spec PyProof.Rows
example : True ∧ True := by
  w_top off
  (try walk1)
  all_goals trivial
example : (∀ P, hd.heap_39 P = hd.heap_39 P) → Challenge.rw_pg0099_01 = Challenge.rw_pg0099_01 := by k_fill; intro _; rfl

theorem fr_but {h₀ h h' : Heap} {L : Addr} {m : Str → Option Value} {wr : List Addr} (F : Fr h₀ L h m) (k : ∀ b o, b ∉ wr → h.get? b = some o → h'.get? b = some o) (hL : L ∉ wr) (h0 : ∀ b ∈ wr, h₀.get? b = none) : Fr h₀ L h' m := by
  obtain ⟨oL, es, ep, hL', r⟩ := F.ns
  refine ⟨⟨oL, es, ep, k _ _ hL hL', r⟩, fun b o e => k b o (fun hb => ?_) (F.keep b o e), F.above⟩
  rw [h0 b hb] at e; cases e
theorem news_but {h₀ h h' : Heap} {L : Addr} {news : List (Addr × Obj)} {wr : List Addr} (N : News h₀ L h news) (k : ∀ b o, b ∉ wr → h.get? b = some o → h'.get? b = some o) (hn : ∀ p ∈ news, p.1 ∉ wr) : News h₀ L h' news :=
  fun p hp => ⟨k _ _ (hn p hp) (N p hp).1, (N p hp).2⟩

/-- a pair of ints as a tuple -/
def PairAt (h : Heap) (t : Addr) (p : Nat × Int) : Prop := ∃ u v, IsTup h t #[.int p.1 u, .int p.2 v]
def PairsAt (h : Heap) : List Addr → List (Nat × Int) → Prop
  | [], [] => True
  | t :: ts, p :: ps => PairAt h t p ∧ PairsAt h ts ps
  | _, _ => False
theorem PairsAt.get {h : Heap} : ∀ {ts : List Addr} {ps : List (Nat × Int)}, PairsAt h ts ps → ∀ {i : Nat} {t : Addr}, ts[i]? = some t → ∃ p, ps[i]? = some p ∧ PairAt h t p
  | [], [], _, i, t, e => by cases i <;> cases e
  | _ :: ts, p :: ps, H, 0, t, e => by cases e; exact ⟨p, rfl, H.1⟩
  | _ :: ts, p :: ps, H, i + 1, t, e => by simpa using H.2.get (i := i) (t := t) (by simpa using e)
theorem PairsAt.length {h : Heap} : ∀ {ts : List Addr} {ps : List (Nat × Int)}, PairsAt h ts ps → ts.length = ps.length
  | [], [], _ => rfl
  | _ :: ts, _ :: ps, H => by simp [H.2.length]

/-- a TupleComp that selects by sel -/
def CompAt (h : Heap) (x : Addr) (sel : List (Nat × Int)) : Prop :=
  ∃ dx t n hsh tk ts, h.get? x = some (instObj 55 dx) ∧ h.get? dx = some (dictOf [⟨hsh, .str "comp_select_list" tk, .ref t⟩] n) ∧ h.IsTuple t (ts.map Value.ref).toArray ∧ PairsAt h ts sel

/-- a row of three ints -/
def RowAt (h : Heap) (r : Addr) (x : Nat → Int) : Prop := ∃ u v t, IsTup h r #[.int (x 0) u, .int (x 1) v, .int (x 2) t]

def cmpSel : List (Nat × Int) → (Nat → Int) → (Nat → Int) → Int
  | [], _, _ => 0
  | p :: r, x, y => if x p.1 < y p.1 then -p.2 else if x p.1 > y p.1 then p.2 else cmpSel r x y

theorem row_item {A : Around} {E : Value → Shared → Prop} {s : Shared} {r : Addr} {x : Nat → Int} {k : Nat} {u : Tok} {value slice : Expr} {Q : Value → Shared → Prop} {prog : Program} {w : World}
    (R : RowAt s.heap r x) (hk : k < 3) (h : ∀ t, Q (.int (x k) t) s)
    (hs : subscripted slice false (.ref r) (.int k u) = operate [.ref r, .int k u] (getItem (.ref r) (.int k u)) := by with_unfolding_all rfl) :
    wpAny (model prog w) A (subscriptTail value slice (.ref r) (.int k u)) Q E s := by
  obtain ⟨u1, u2, u3, ht⟩ := R
  match k, hk with
  | 0, _ => exact item_tupleT (l := [.int (x 0) u1, .int (x 1) u2, .int (x 2) u3]) ht (by decide) (by decide) (j := 0) rfl rfl (h _) hs
  | 1, _ => exact item_tupleT (l := [.int (x 0) u1, .int (x 1) u2, .int (x 2) u3]) ht (by decide) (by decide) (j := 1) rfl rfl (h _) hs
  | 2, _ => exact item_tupleT (l := [.int (x 0) u1, .int (x 1) u2, .int (x 2) u3]) ht (by decide) (by decide) (j := 2) rfl rfl (h _) hs

theorem RowAt.keeps {h h' : Heap} {r : Addr} {x : Nat → Int} (R : RowAt h r x) (k : ∀ b o, h.get? b = some o → h'.get? b = some o) : RowAt h' r x := by
  obtain ⟨u, v, t, e⟩ := R
  exact ⟨u, v, t, e.keeps k⟩
local macro_rules | `(tactic| walk_at "subscriptTail") => `(tactic| (k_here; (with_reducible show wpAny _ _ (subscriptTail _ _ (Value.ref _) (Value.int _ _)) _ _ _); (with_unfolding_all refine row_item (RowAt.keeps (by assumption) (Fr.keep (by assumption))) (by assumption) ?_); intro tt))
local macro_rules | `(tactic| walk_at "eval Name") => `(tactic| (k_here; k_dflt (refine' ld ?k1 ?k2 ?_; (case k1 => k_asm); (case k2 => first | exact rfl | assumption); k_whole)))
theorem compare_spec {w : World} {A : Around} {E : Value → Shared → Prop} {s : Shared} {p : Program} {loose : List Str} {mean : ExcName → Option Value} {mg mb : Str → Option Value}
  {self l r : Addr} {sel : List (Nat × Int)} {x y : Nat → Int}
  (X : (hd.heap_39 w.params).In s.heap) (T : Top p loose mean mg mb s.heap) (hdp : A.depth + 2 < recursionLimit) (hh : A.handled = none)
  (hc : CompAt s.heap self sel) (hsel : ∀ p ∈ sel, p.1 < 3) (hl : RowAt s.heap l x) (hr : RowAt s.heap r y)
  : wpAny (model Challenge.rw_pg0099_01.row.prog w) A (call (.ref 52) [.ref self, .ref l, .ref r]) (fun v s' => End ((∃ t, v = .int (cmpSel sel x y) t) ∧ Keeps s s')) E s := by
  refine enter (K := hd.heap_39 w.params) (w := w) [("self", .ref self), ("left", .ref l), ("right", .ref r)] X T.nolimit (by with_unfolding_all rfl) (by with_unfolding_all rfl) (by omega) (BindsTo.of_eq rfl) (locs rfl) (fun h₁ F => ?_) rfl rfl rfl (by decide)
  obtain ⟨dx, t, n, hsh, tk, ts, h1, h2, h3, h4⟩ := hc
  refine wpAny_execs_cons ?_
  refine forW ?_
  refine Attribute_name ?_
  walk1
  have k1 : ∀ b o, s.heap.get? b = some o → h₁.get? b = some o := F.keep
  refine get_value (K := hd.heap_39 w.params) (C := 55) (ox := instObj 55 dx) (od := some (dictOf [⟨hsh, .str "comp_select_list" tk, .ref t⟩] n)) (X.keeps k1) ⟨k1 _ _ h1, rfl, rfl, k1 _ _ h2⟩ (by k_is) (v := .ref t) rfl rfl ?_
  dsimp only
  have h3' : h₁.IsTuple t (ts.map Value.ref).toArray := h3.at fun o e => k1 _ _ e
  refine wpAny_pyIter_tuple h3' ?_
  dsimp only
  have htlt : t < h₁.objs.size := by obtain ⟨o, ho, _⟩ := h3'; exact Heap.lt_size ho
  refine ⟨h₁.objs.size, _, _, _, _, _, fun i s' => ∃ h' tk' m', s' = { s with heap := h', toks := tk' } ∧ Fr s.heap s.heap.objs.size h' m' ∧ m' "left" = some (.ref l) ∧ m' "right" = some (.ref r) ∧ cmpSel (sel.drop i) x y = cmpSel sel x y, rfl, Walks.tuple (by exact hh) _ t (Nat.ne_of_lt htlt) (ts.map Value.ref).toArray, ⟨⟨_, Heap.get?_push_size _ rfl, rfl, rfl⟩, h3'.push _⟩, ?_, ?_, ?_, ?_⟩
  · exact ⟨_, _, _, rfl, F.push _, rfl, rfl, rfl⟩
  · intro i s' h' tk' hG1 hk
    refine hideGoal fun XX kX => ?_
    obtain ⟨h2', tk2, m', rfl, F', e1, e2, e3⟩ := hG1
    refine kX ?_
    clear kX XX
    refine ⟨h', tk', m', rfl, fr_but F' hk ?_ ?_, e1, e2, e3⟩
    · simp only [List.mem_singleton]; exact Nat.ne_of_lt F.ns.lt
    · intro b hb
      simp at hb
      subst hb
      exact Heap.get?_none_of_le (Nat.le_of_lt F.ns.lt)
  · intro i v s' hi hP hG1 hG2
    refine hideGoal fun XX kX => ?_
    obtain ⟨h', tk', m', rfl, F', e1, e2, e3⟩ := hG1
    obtain ⟨⟨oI, hoI, hoc, hod⟩, hst⟩ := hG2
    refine kX ?_
    clear kX XX
    dsimp only at hoI hst
    have hP' : (ts.map Value.ref)[i]? = some v := by simpa using hP
    rw [List.getElem?_map] at hP'
    obtain ⟨tj, htj, rfl⟩ := Option.map_eq_some_iff.mp hP'
    obtain ⟨p, hp, u, u', hpt⟩ := h4.get htj
    have N' : News s.heap s.heap.objs.size h' [(h₁.objs.size, oI)] := by
      intro q hq
      rw [List.mem_singleton.mp hq]
      exact ⟨hoI, Nat.ne_of_gt F.ns.lt, Heap.get?_none_of_le (Nat.le_of_lt F.ns.lt)⟩
    have hp3 : p.1 < 3 := hsel _ (List.mem_of_getElem? hp)
    have hdrop : sel.drop i = p :: sel.drop (i + 1) := by
      obtain ⟨hlt, e⟩ := List.getElem?_eq_some_iff.mp hp
      rw [List.drop_eq_getElem_cons hlt, e]
    rw [hdrop] at e3
    refine wpAny_bind (wpAny_load hoI ?_)
    rw [hoc, hod]
    refine wpAny_pure ?_
    have hpt' : IsTup h' tj #[.int p.1 u, .int p.2 u'] := hpt.keeps F'.keep
    refine unpackN_ F' N' hpt' hh rfl rfl (fun h2 F2 N2 => ?_)
    have FK : ∀ b o, s.heap.get? b = some o → h'.get? b = some o := F'.keep
    clear F' N' hpt' k1 h3' hst hP hP'
    have hIs := F.ns.lt
    clear F
    repeat' walk1
    · have hlt : x p.1 < y p.1 := by assumption
      refine End.mk ⟨int_is ?_, ⟨_, _, rfl, Fr.keep (by assumption)⟩⟩
      rw [← e3]; simp only [cmpSel]; rw [if_pos hlt]
    · have hlt : ¬ x p.1 < y p.1 := by assumption
      have hgt : x p.1 > y p.1 := by assumption
      refine End.mk ⟨int_is ?_, ⟨_, _, rfl, Fr.keep (by assumption)⟩⟩
      rw [← e3]; simp only [cmpSel]; rw [if_neg hlt, if_pos hgt]
    · have hlt : ¬ x p.1 < y p.1 := by assumption
      have hgt : ¬ x p.1 > y p.1 := by assumption
      refine End.mk ⟨⟨_, _, _, rfl, by assumption, ?_, ?_, ?_⟩, ?_⟩
      · assumption
      · assumption
      · rw [← e3]; simp only [cmpSel]; rw [if_neg hlt, if_neg hgt]
      · intro b hb o ho
        rcases List.mem_cons.mp hb with rfl | hb
        · have ho : h'.get? h₁.objs.size = some o := ho
          rw [hoI] at ho
          cases ho
          exact News.get (h₀ := s.heap) (L := s.heap.objs.size) (news := [(h₁.objs.size, oI)]) (by assumption) (List.mem_singleton.mpr rfl)
        · rw [List.mem_singleton.mp hb] at ho ⊢
          obtain ⟨o3, ho3, _⟩ := h3
          have h9 := FK _ _ ho3
          have ho : h'.get? t = some o := ho
          rw [h9] at ho
          cases ho
          exact Fr.keep (h₀ := s.heap) (L := s.heap.objs.size) (by assumption) _ _ ho3
  · intro s' hG1
    refine hideGoal fun XX kX => ?_
    obtain ⟨h', tk', m', rfl, F', e1, e2, e3⟩ := hG1
    refine kX ?_
    clear kX XX
    refine wpAny_execs_cons (wpAny_Return_some (wpAny_Constant_int ?_))
    refine End.mk ⟨int_is ?_, ⟨_, _, rfl, F'.keep⟩⟩
    have hl' := h4.length
    rw [List.drop_eq_nil_of_le (by simp [hl'])] at e3
    rw [← e3]
    rfl
end Mine

namespace Mine
open PySem PySem.W PySem.Calls PySem.Spec PyProof.Rows

def Stop (P : Prop) : Prop := P
theorem Stop.at {P : Prop} (h : Stop P) : P := h
theorem Stop.go {P : Prop} (h : P) : Stop P := h
/-- where a turn of a loop ends -/
def TurnEnd (s : Shared) (h₀ : Heap) (L I : Addr) (oI : Obj) (G : (Str → Option Value) → List (Addr × Obj) → Prop) (s₃ : Shared) : Prop :=
  ∃ h' tk' m' news', s₃ = { s with heap := h', toks := tk' } ∧ Fr h₀ L h' m' ∧ News h₀ L h' ((I, oI) :: news') ∧ (∀ p ∈ news', p.1 ≠ I) ∧ G m' news'
theorem TurnEnd.mk {s : Shared} {h₀ : Heap} {L I : Addr} {oI : Obj} {G : (Str → Option Value) → List (Addr × Obj) → Prop} {h' : Heap} {tk' : Nat} {m' : Str → Option Value} {news' : List (Addr × Obj)}
    (F : Fr h₀ L h' m') (N : News h₀ L h' ((I, oI) :: news')) (ho : ∀ p ∈ news', p.1 ≠ I) (g : G m' news') : TurnEnd s h₀ L I oI G { s with heap := h', toks := tk' } :=
  ⟨h', tk', m', news', rfl, F, N, ho, g⟩

theorem loopFr {prog : Program} {w : World} {A : Around} {env : Env} {s : Shared} {target : Expr} {body : List Stmt} {Q : Flow → Shared → Prop} {h₀ : Heap} {L I : Addr} {fp : List Addr} {n : Nat} {P : Nat → Value → Prop} {St : Nat → Heap → Prop}
    {m : Str → Option Value} {news : List (Addr × Obj)}
    (W : Walks prog w A I fp [I] n P St) (hfp : ∀ b ∈ fp, b = I ∨ ∃ o, h₀.get? b = some o) (hst : St 0 s.heap) (hI0 : h₀.get? I = none) (hIL : I ≠ L) (hlive : ∀ i h, St i h → ∃ o, h.get? I = some o)
    (hgo : ∀ i (s' : Shared) v (Q' : Unit → Shared → Prop), St i s'.heap → Q' () s' → wpAny (model prog w) A (letOwnedTupleGo target (.ref I) v) Q' Never s')
    (F : Fr h₀ L s.heap m) (N : News h₀ L s.heap news) (hoff : ∀ p ∈ news, p.1 ≠ I)
    (G : Nat → (Str → Option Value) → List (Addr × Obj) → Prop) (h0 : G 0 m news)
    (turn : ∀ i v m₁ news₁ h tk oI, i < n → P i v → G i m₁ news₁ → (∀ p ∈ news₁, p.1 ≠ I) → I < h.objs.size → Fr h₀ L h m₁ → News h₀ L h ((I, oI) :: news₁) →
      wpAny (model prog w) A (assign target env v) (fun _ s₂ => wpAny (model prog w) A (execs body env) (fun f s₃ => match f with
          | .next | .cont => End (TurnEnd s h₀ L I oI (G (i + 1)) s₃)
          | .brk => Q .next s₃
          | .ret v => Q (.ret v) s₃) Never s₂) Never { s with heap := h, toks := tk })
    (done : ∀ m' news' h tk, G n m' news' → Fr h₀ L h m' → News h₀ L h news' → Q .next { s with heap := h, toks := tk }) :
    LoopW prog w A env target body Q (.ref I) s := by
  refine ⟨I, fp, [I], n, P, St, fun i s' => ∃ h' tk m' news', s' = { s with heap := h', toks := tk } ∧ Fr h₀ L h' m' ∧ News h₀ L h' news' ∧ (∀ p ∈ news', p.1 ≠ I) ∧ G i m' news', rfl, W, hst, ⟨s.heap, s.toks, m, news, rfl, F, N, hoff, h0⟩, ?_, ?_, ?_⟩
  · intro i s' h' tk hG1 hk
    refine hideGoal fun XX kX => ?_
    obtain ⟨h1, tk1, m', news', rfl, F', N', ho, g⟩ := hG1
    refine kX ?_
    clear kX XX
    refine ⟨h', tk, m', news', rfl, fr_but F' hk ?_ ?_, news_but N' hk ?_, ho, g⟩
    · simpa using Ne.symm hIL
    · intro b hb; rw [List.mem_singleton.mp hb]; exact hI0
    · intro p hp; simpa using ho p hp
  · intro i v s' hi hP hG1 hst1
    refine hideGoal fun XX kX => ?_
    obtain ⟨h1, tk1, m', news', rfl, F', N', ho, g⟩ := hG1
    refine kX ?_
    clear kX XX
    obtain ⟨oI, hoI⟩ := hlive _ _ hst1
    refine hgo (i + 1) _ v _ hst1 ?_
    have NI : News h₀ L h1 ((I, oI) :: news') := by
      intro p hp
      rcases List.mem_cons.mp hp with rfl | hp
      · exact ⟨hoI, hIL, hI0⟩
      · exact N' p hp
    refine wpAny_mono (turn i v m' news' h1 tk1 oI hi hP g ho (Heap.lt_size hoI) F' NI) (fun _ s₂ h₂ => wpAny_mono h₂ (fun f s₃ h₃ => ?_) fun _ _ e => e) fun _ _ e => e
    have fin : End (TurnEnd s h₀ L I oI (G (i + 1)) s₃) → End ((∃ h' tk m' news', s₃ = { s with heap := h', toks := tk } ∧ Fr h₀ L h' m' ∧ News h₀ L h' news' ∧ (∀ p ∈ news', p.1 ≠ I) ∧ G (i + 1) m' news') ∧
        ∀ b ∈ fp, ∀ o, h1.get? b = some o → s₃.heap.get? b = some o) := by
      intro hG1
      refine hideGoal fun XX kX => ?_
      obtain ⟨h2, tk2, m2, news2, rfl, F2, N2, ho2, g2⟩ := hG1
      refine kX ?_
      clear kX XX
      refine ⟨⟨h2, tk2, m2, news2, rfl, F2, fun p hp => N2 p (.tail _ hp), ho2, g2⟩, fun b hb o e => ?_⟩
      rcases hfp b hb with rfl | ⟨o', e'⟩
      · rw [hoI] at e; cases e
        exact (N2 _ (.head _)).1
      · have := F'.keep _ _ e'
        rw [e] at this; cases this
        exact F2.keep _ _ e'
    cases f with
    | next => exact fin h₃
    | cont => exact fin h₃
    | brk => exact h₃
    | ret v => exact h₃
  · intro s' hG1
    refine hideGoal fun XX kX => ?_
    obtain ⟨h1, tk1, m', news', rfl, F', N', ho, g⟩ := hG1
    refine kX ?_
    clear kX XX
    exact done m' news' h1 tk1 g F' N'

theorem fr_lt {h₀ h : Heap} {L : Addr} {m : Str → Option Value} (F : Fr h₀ L h m) : L < h.objs.size := F.ns.lt
theorem small_range (n : Nat) (hn : n < 2 ^ 62) : Builtin.Range.small 0 n 1 = true := small_one (by omega) (by omega) (by omega) (by omega)

theorem iterRange {prog : Program} {w : World} {A : Around} {env : Env} {s : Shared} {E : Value → Shared → Prop} {x : Str} {px : Pos} {body : List Stmt} {Q : Flow → Shared → Prop} {h₀ : Heap} {L r : Addr} {n : Nat} {t u v : Tok}
    {m : Str → Option Value} {news : List (Addr × Obj)} (hr : IsRange s.heap r 0 n 1 t u v) (hn : n < 2 ^ 62) (hh : A.handled = none)
    (F : Fr h₀ L s.heap m) (N : News h₀ L s.heap news)
    (G : Nat → (Str → Option Value) → List (Addr × Obj) → Prop) (h0 : G 0 m news)
    (turn : ∀ i tt m₁ news₁ h tk I oI, i < n → G i m₁ news₁ → (∀ p ∈ news₁, p.1 ≠ I) → I < h.objs.size → Fr h₀ L h m₁ → News h₀ L h ((I, oI) :: news₁) →
      wpAny (model prog w) A (assign (.Name x px) env (.int (i : Nat) tt)) (fun _ s₂ => wpAny (model prog w) A (execs body env) (fun f s₃ => match f with
          | .next | .cont => End (TurnEnd s h₀ L I oI (G (i + 1)) s₃)
          | .brk => Q .next s₃
          | .ret v => Q (.ret v) s₃) Never s₂) Never { s with heap := h, toks := tk })
    (done : ∀ m' news' h tk, G n m' news' → Fr h₀ L h m' → News h₀ L h news' → Q .next { s with heap := h, toks := tk }) :
    wpAny (model prog w) A (pyIter (.ref r)) (fun it s₂ => LoopW prog w A env (.Name x px) body Q it s₂) E s := by
  refine wpAny_pyIter_range hr (small_range n hn) ?_
  have hL := fr_lt F
  have hI0 : h₀.get? s.heap.objs.size = none := Heap.get?_none_of_le (Nat.le_trans F.above (Nat.le_of_lt hL))
  have hsz : Builtin.Range.rangeSize 0 n 1 = n := by simp [Builtin.Range.rangeSize]; omega
  refine loopFr (h₀ := h₀) (L := L) (m := m) (news := news) (Walks.range hh s.heap.objs.size 0 1 n) (by simp) ?_ hI0 (Nat.ne_of_gt hL) (fun i h e => ⟨_, e⟩) (fun i s' v Q' _ q => wpAny_pure q) (F.push _)
    (fun p hp => ⟨Heap.get?_push_of_some _ (N p hp).1, (N p hp).2⟩) (fun p hp => Nat.ne_of_lt (Heap.lt_size (N p hp).1)) G h0 ?_ ?_
  · show (s.heap.push _).get? _ = some _
    rw [Heap.get?_push_size _ rfl, hsz]
    simp
  · rintro i v m₁ news₁ h tk oI hi ⟨tt, rfl⟩ g ho hIs F1 N1
    have : (0 : Int) + (i : Nat) * 1 = (i : Nat) := by omega
    rw [this]
    exact turn i tt m₁ news₁ h tk _ oI hi g ho hIs F1 N1
  · intro m' news' h tk g F' N'
    exact done m' news' h tk g F' N'

theorem iterList {prog : Program} {w : World} {A : Around} {env : Env} {s : Shared} {E : Value → Shared → Prop} {x : Str} {px : Pos} {body : List Stmt} {Q : Flow → Shared → Prop} {h₀ : Heap} {L l : Addr} {vs : List Value}
    {m : Str → Option Value} {news : List (Addr × Obj)} (hl : h₀.IsList l vs.toArray) (hh : A.handled = none)
    (F : Fr h₀ L s.heap m) (N : News h₀ L s.heap news)
    (G : Nat → (Str → Option Value) → List (Addr × Obj) → Prop) (h0 : G 0 m news)
    (turn : ∀ i v m₁ news₁ h tk I oI, vs[i]? = some v → G i m₁ news₁ → (∀ p ∈ news₁, p.1 ≠ I) → I < h.objs.size → Fr h₀ L h m₁ → News h₀ L h ((I, oI) :: news₁) →
      wpAny (model prog w) A (assign (.Name x px) env v) (fun _ s₂ => wpAny (model prog w) A (execs body env) (fun f s₃ => match f with
          | .next | .cont => End (TurnEnd s h₀ L I oI (G (i + 1)) s₃)
          | .brk => Q .next s₃
          | .ret v => Q (.ret v) s₃) Never s₂) Never { s with heap := h, toks := tk })
    (done : ∀ m' news' h tk, G vs.length m' news' → Fr h₀ L h m' → News h₀ L h news' → Q .next { s with heap := h, toks := tk }) :
    wpAny (model prog w) A (pyIter (.ref l)) (fun it s₂ => LoopW prog w A env (.Name x px) body Q it s₂) E s := by
  have hls : s.heap.IsList l vs.toArray := hl.at fun o e => F.keep l o e
  refine wpAny_pyIter_list hls ?_
  have hL := fr_lt F
  have hI0 : h₀.get? s.heap.objs.size = none := Heap.get?_none_of_le (Nat.le_trans F.above (Nat.le_of_lt hL))
  have hll : l ≠ s.heap.objs.size := by obtain ⟨o, ho, _⟩ := hls; exact Nat.ne_of_lt (Heap.lt_size ho)
  have e : vs.toArray.size = vs.length := by simp
  refine loopFr (h₀ := h₀) (L := L) (m := m) (news := news) (Walks.list hh s.heap.objs.size l hll vs.toArray) ?_ ?_ hI0 (Nat.ne_of_gt hL) (fun i h e => by obtain ⟨⟨o, ho, _⟩, _⟩ := e; exact ⟨o, ho⟩) (fun i s' v Q' _ q => wpAny_pure q) (F.push _)
    (fun p hp => ⟨Heap.get?_push_of_some _ (N p hp).1, (N p hp).2⟩) (fun p hp => Nat.ne_of_lt (Heap.lt_size (N p hp).1)) G h0 ?_ ?_
  · intro b hb
    rcases List.mem_cons.mp hb with rfl | hb
    · exact .inl rfl
    · rw [List.mem_singleton.mp hb]; obtain ⟨o, ho, _⟩ := hl; exact .inr ⟨o, ho⟩
  · exact ⟨⟨_, Heap.get?_push_size _ rfl, rfl, rfl⟩, hls.push _⟩
  · rintro i v m₁ news₁ h tk oI hi hP g ho hIs F1 N1
    exact turn i v m₁ news₁ h tk _ oI (by simpa using hP) g ho hIs F1 N1
  · intro m' news' h tk g F' N'
    rw [e] at g
    exact done m' news' h tk g F' N'
end Mine

namespace Mine
open PySem PySem.W PySem.Calls PySem.Spec PyProof.Rows
example : True ∧ True := by
  w_top off
  (try walk1)
  all_goals trivial
example : (∀ P, hd.heap_39 P = hd.heap_39 P) → Challenge.rw_pg0099_01 = Challenge.rw_pg0099_01 := by k_fill; intro _; rfl

local macro_rules | `(tactic| walk_at "eval Name") => `(tactic| (k_here; k_dflt (refine' ld ?k1 ?k2 ?_; (case k1 => k_asm); (case k2 => first | exact rfl | assumption); k_whole)))
theorem list_at {h₀ h : Heap} {L l : Addr} {m : Str → Option Value} {its : Array Value} (F : Fr h₀ L h m) (x : h₀.IsList l its) : h.IsList l its := x.at fun _ e => F.keep _ _ e
local macro_rules | `(tactic| walk_at "subscriptTail Name Slice ref ref") => `(tactic| (k_here; k_dflt (refine' kmk_slice_ints ?F ?N ?l ?p ?q ?i ?m ?c ?_ ?s ?t ?z; (case F => k_asm); (case N => k_asm); (case l => exact list_at (by k_asm) (by assumption)); (case p => kmk_part); (case q => kmk_part); (case i => assumption); (case m => first | exact kmk_upto (by assumption) (by omega) | exact kmk_from (by assumption) (by omega)); (case c => first | exact List.length_take | exact List.length_drop); (case s => with_unfolding_all rfl); (case t => kmk_pure); (case z => (rw [List.size_toArray, IntsAre.length (by assumption), sizeLine_eq]; omega))); intro D' ws' h' F' N' l1 hI' hC' hL'; (try k_lt l1); (try k_sweep)))
/-- place k is the middle of a fall of three -/
def FallAt (ns : List Int) (k : Nat) : Prop := (∃ a ∈ ns.take (k + 1), ns.getD k 0 < a) ∧ ∃ b ∈ ns.drop k, b < ns.getD k 0

theorem three_spec {w : World} {A : Around} {E : Value → Shared → Prop} {s : Shared} {p : Program} {loose : List Str} {mean : ExcName → Option Value} {mg mb : Str → Option Value}
  {l : Addr} {vs : List Value} {ns : List Int}
  (X : (hd.heap_39 w.params).In s.heap) (T : Top p loose mean mg mb s.heap) (hdp : A.depth + 2 < recursionLimit) (hu : A.units + 20 < cLine) (hh : A.handled = none)
  (hl : s.heap.IsList l vs.toArray) (hi : IntsAre vs ns) (hn : ns.length < 64)
  : wpAny (model Challenge.rw_pg0099_01.row.prog w) A (call (.ref 126) [.ref l]) (fun v s' => End ((∃ b, v = .bool b ∧ (b = true ↔ ∃ k, k < ns.length ∧ FallAt ns k)) ∧ Keeps s s')) E s := by
  obtain ⟨ha, dp, fr, gd, un⟩ := A
  have hh' : ha = none := hh
  subst hh'
  dsimp only at hdp hu
  refine enter (K := hd.heap_39 w.params) (w := w) [("order", .ref l)] X T.nolimit (by k_is) (by k_is) (show dp < recursionLimit by omega) (BindsTo.of_eq rfl) (locs rfl) (fun h₁ F => ?_) rfl rfl rfl (by decide)
  have N : News s.heap s.heap.objs.size h₁ [] := News.nil
  refine wpAny_execs_cons (forW ?_)
  repeat walk1
  rename IsRange _ _ _ _ _ _ _ _ => hrg
  rename Fr _ _ _ _ => F2
  rename News _ _ _ _ => N2
  refine iterRange hrg (by omega) hh F2 N2 (fun i m' news' => m' "order" = some (.ref l) ∧ ∀ k, k < i → ¬ FallAt ns k) ⟨rfl, fun k hk => absurd hk (Nat.not_lt_zero _)⟩ ?_ ?_
  · rintro i tt m₁ news₁ h tk I oI hin ⟨g, gf⟩ ho hIs F1 N1
    clear hrg F2 N2
    repeat' walk1
    · rename (_ ∈ List.take _ ns) => q1
      rename (_ ∈ List.drop _ ns) => q2
      have e1 : ((i : Int) + 1).toNat = i + 1 := by omega
      have e2 : ((i : Int)).toNat = i := by omega
      rw [e1] at q1
      rw [e2] at q2
      refine End.mk ⟨⟨true, rfl, ⟨fun _ => ⟨i, hin, ⟨_, q1, ?_⟩, ⟨_, q2, ?_⟩⟩, fun _ => rfl⟩⟩, ⟨_, _, rfl, Fr.keep (by assumption)⟩⟩
      · rw [← e2]; assumption
      · rw [← e2]; assumption
    · rename (∀ a, a ∈ List.drop _ ns → _) => q2
      rename (¬ _ < _) => q3
      rename Fr _ _ _ _ => F9
      rename News _ _ _ _ => N9
      refine End.mk (TurnEnd.mk (news' := news₁) F9 (cb_drop N9 (by intro p hp; first | exact hp | exact .tail _ hp | exact .tail _ (.tail _ hp) | exact .tail _ (.tail _ (.tail _ hp)))) ho ⟨g, ?_⟩)
      · intro k hk
        by_cases hki : k < i
        · exact gf k hki
        · have hke : k = i := by omega
          subst hke
          rintro ⟨_, b, hb, hlt⟩
          have e2 : ((k : Int)).toNat = k := by omega
          rw [e2] at q2 q3
          have := q2 b hb
          omega
    · rename (∀ a, a ∈ List.take _ ns → _) => q2
      rename (¬ _ < _) => q3
      rename Fr _ _ _ _ => F9
      rename News _ _ _ _ => N9
      refine End.mk (TurnEnd.mk (news' := news₁) F9 (cb_drop N9 (by intro p hp; first | exact hp | exact .tail _ hp | exact .tail _ (.tail _ hp) | exact .tail _ (.tail _ (.tail _ hp)))) ho ⟨g, ?_⟩)
      · intro k hk
        by_cases hki : k < i
        · exact gf k hki
        · have hke : k = i := by omega
          subst hke
          rintro ⟨⟨b, hb, hlt⟩, _⟩
          have e2 : ((k : Int)).toNat = k := by omega
          have e1 : ((k : Int) + 1).toNat = k + 1 := by omega
          rw [e1] at q2
          rw [e2] at q3
          have := q2 b hb
          omega
  · rintro m' news' h tk ⟨g, gf⟩ F' N'
    repeat walk1
    refine End.mk ⟨⟨false, rfl, ?_⟩, ⟨_, _, rfl, F'.keep⟩⟩
    constructor
    · intro h; cases h
    · rintro ⟨k, hk, hf⟩; exact absurd hf (gf k hk)
end Mine

namespace Mine
def sumN (g : Nat → Nat) : Nat → Nat
  | 0 => 0
  | n + 1 => sumN g n + g n
/-- the pairs that stand turned round -/
def inv (ns : List Int) : Nat := sumN (fun j => sumN (fun i => if ns.getD j 0 < ns.getD i 0 then 1 else 0) j) ns.length
/-- all places together by which the items lie off -/
def disp (ns : List Int) : Nat := sumN (fun i => (ns.getD i 0 - i).natAbs) ns.length
def unfixed (ns : List Int) : Nat := sumN (fun i => if ns.getD i 0 = i then 0 else 1) ns.length
def Pm (ns : List Int) : Prop := (∀ i, i < ns.length → 0 ≤ ns.getD i 0 ∧ ns.getD i 0 < ns.length) ∧ ∀ i j, i < ns.length → j < ns.length → ns.getD i 0 = ns.getD j 0 → i = j
def exch (ns : List Int) (k : Nat) : List Int := (ns.set k (ns.getD (ns.getD k 0).toNat 0)).set (ns.getD k 0).toNat (ns.getD k 0)
theorem sum_zero {g : Nat → Nat} : ∀ {n : Nat}, (∀ i, i < n → g i = 0) → sumN g n = 0
  | 0, _ => rfl
  | n + 1, h => by rw [sumN, sum_zero fun i hi => h i (by omega), h n (by omega)]
theorem fixed_end (ns : List Int) (h : ∀ j, j < ns.length → ns.getD j 0 = j) : inv ns = 0 ∧ disp ns = 0 := by
  constructor
  · refine sum_zero fun j hj => sum_zero fun i hi => ?_
    rw [h j hj, h i (by omega), if_neg (by omega)]
  · refine sum_zero fun i hi => ?_
    rw [h i hi]; simp
end Mine

namespace Mine
theorem sum_congr {g h : Nat → Nat} : ∀ {n : Nat}, (∀ i, i < n → g i = h i) → sumN g n = sumN h n
  | 0, _ => rfl
  | n + 1, e => by rw [sumN, sumN, sum_congr fun i hi => e i (by omega), e n (by omega)]
theorem sum_le {g h : Nat → Nat} : ∀ {n : Nat}, (∀ i, i < n → g i ≤ h i) → sumN g n ≤ sumN h n
  | 0, _ => Nat.le_refl _
  | n + 1, e => by rw [sumN, sumN]; have := sum_le (n := n) fun i hi => e i (by omega); have := e n (by omega); omega
theorem sum_add (g h : Nat → Nat) : ∀ n : Nat, sumN (fun i => g i + h i) n = sumN g n + sumN h n
  | 0 => rfl
  | n + 1 => by rw [sumN, sumN, sumN, sum_add g h n]; omega
theorem sum_const (c : Nat) : ∀ n : Nat, sumN (fun _ => c) n = n * c
  | 0 => by simp [sumN]
  | n + 1 => by rw [sumN, sum_const c n, Nat.succ_mul]
theorem sum_swap (g : Nat → Nat → Nat) : ∀ n m : Nat, sumN (fun i => sumN (g i) m) n = sumN (fun j => sumN (fun i => g i j) n) m
  | 0, m => by rw [sumN]; exact (sum_zero fun _ _ => rfl).symm
  | n + 1, m => by rw [sumN, sum_swap g n m, ← sum_add]; rfl
/-- one place taken out -/
theorem sum_split (g : Nat → Nat) : ∀ {n k : Nat}, k < n → sumN g n = g k + sumN (fun i => if i = k then 0 else g i) n
  | 0, k, h => by omega
  | n + 1, k, h => by
    by_cases hk : k = n
    · subst hk
      rw [sumN, sumN, if_pos rfl, sum_congr (g := fun i => if i = k then 0 else g i) (h := g) fun i hi => if_neg (by omega)]
      omega
    · rw [sumN, sumN, sum_split g (n := n) (k := k) (by omega), if_neg (fun e => hk e.symm)]
      omega
end Mine

namespace Mine
/-- how many of the items are below v -/
def cntLt (f : Nat → Int) (n : Nat) (v : Int) : Nat := sumN (fun j => if f j < v then 1 else 0) n
theorem one_at_most (f : Nat → Int) (v : Int) : ∀ n : Nat, (∀ i j, i < n → j < n → f i = f j → i = j) → sumN (fun j => if f j = v then 1 else 0) n ≤ 1
  | 0, _ => by simp [sumN]
  | n + 1, h => by
    rw [sumN]
    by_cases e : f n = v
    · have hz : sumN (fun j => if f j = v then 1 else 0) n = 0 := sum_zero fun i hi => if_neg fun q => by
        have := h i n (by omega) (by omega) (q.trans e.symm)
        omega
      rw [if_pos e, hz]; omega
    · rw [if_neg e]
      have := one_at_most f v n fun i j hi hj => h i j (by omega) (by omega)
      omega
theorem cnt_succ (f : Nat → Int) (n : Nat) (v : Int) : cntLt f n (v + 1) = cntLt f n v + sumN (fun j => if f j = v then 1 else 0) n := by
  unfold cntLt
  rw [← sum_add]
  refine sum_congr fun i _ => ?_
  by_cases h1 : f i < v
  · rw [if_pos (by omega), if_pos h1, if_neg (by omega)]
  · by_cases h2 : f i = v
    · rw [if_pos (by omega), if_neg h1, if_pos h2]
    · rw [if_neg (by omega), if_neg h1, if_neg h2]
theorem cnt_is (f : Nat → Int) (n : Nat) (hb : ∀ i, i < n → 0 ≤ f i ∧ f i < n) (hinj : ∀ i j, i < n → j < n → f i = f j → i = j) (v : Nat) (hv : v ≤ n) : cntLt f n v = v := by
  have h0 : cntLt f n 0 = 0 := sum_zero fun i hi => if_neg (by have := hb i hi; omega)
  have hn : cntLt f n n = n := by
    unfold cntLt
    rw [sum_congr (h := fun _ => 1) fun i hi => if_pos (hb i hi).2, sum_const]; omega
  have step : ∀ u : Nat, cntLt f n ((u + 1 : Nat) : Int) ≤ cntLt f n (u : Int) + 1 := fun u => by
    have := cnt_succ f n u
    have := one_at_most f u n hinj
    push_cast
    omega
  have up : ∀ u : Nat, cntLt f n (u : Int) ≤ u := by
    intro u
    induction u with
    | zero => exact Nat.le_of_eq h0
    | succ u ih => have := step u; omega
  have down : ∀ d u : Nat, u + d = n → n ≤ cntLt f n (u : Int) + d := by
    intro d
    induction d with
    | zero => intro u h; have : u = n := by omega
              subst this; omega
    | succ d ih => intro u h; have := ih (u + 1) (by omega); have := step u; omega
  have := up v
  have := down (n - v) v (by omega)
  omega
end Mine

namespace Mine
def Lc (f : Nat → Int) (i : Nat) : Nat := sumN (fun j => if f i < f j then 1 else 0) i
def Rc (f : Nat → Int) (n i : Nat) : Nat := sumN (fun j => if i < j ∧ f j < f i then 1 else 0) n
theorem sum_upto (g : Nat → Nat) : ∀ (n j : Nat), j ≤ n → sumN (fun i => if i < j then g i else 0) n = sumN g j
  | 0, j, h => by have : j = 0 := by omega
                  subst this; rfl
  | n + 1, j, h => by
    rw [sumN]
    by_cases e : j = n + 1
    · subst e
      rw [if_pos (by omega), sumN, sum_congr (h := g) fun i hi => if_pos (by omega)]
    · rw [if_neg (by omega), sum_upto g n j (by omega)]; rfl
theorem sum_L (f : Nat → Int) (n : Nat) : sumN (Lc f) n = sumN (Rc f n) n := by
  have e1 : sumN (Lc f) n = sumN (fun j => sumN (fun i => if i < j ∧ f j < f i then 1 else 0) n) n := by
    refine sum_congr fun j hj => ?_
    unfold Lc
    rw [← sum_upto (fun i => if f j < f i then 1 else 0) n j (by omega)]
    refine sum_congr fun i _ => ?_
    by_cases h1 : i < j <;> by_cases h2 : f j < f i <;> simp [h1, h2]
  rw [e1, sum_swap (fun j i => if i < j ∧ f j < f i then 1 else 0)]
  rfl
theorem place_is (f : Nat → Int) (n : Nat) (hb : ∀ i, i < n → 0 ≤ f i ∧ f i < n) (hinj : ∀ i j, i < n → j < n → f i = f j → i = j) (i : Nat) (hi : i < n) : f i + Lc f i = i + Rc f n i := by
  have h := hb i hi
  have c := cnt_is f n hb hinj (f i).toNat (by omega)
  rw [show (((f i).toNat : Nat) : Int) = f i by omega] at c
  have e : cntLt f n (f i) = sumN (fun j => if f j < f i then 1 else 0) i + Rc f n i := by
    unfold cntLt Rc
    rw [← sum_upto (fun j => if f j < f i then 1 else 0) n i (by omega), ← sum_add]
    refine sum_congr fun j hj => ?_
    by_cases h1 : j < i
    · rw [if_pos h1, if_neg (show ¬ (i < j ∧ f j < f i) from fun q => by omega)]; rfl
    · rw [if_neg h1]
      by_cases h2 : f j < f i
      · have : j ≠ i := by rintro rfl; omega
        rw [if_pos h2, if_pos ⟨by omega, h2⟩]
      · rw [if_neg h2, if_neg (fun q => h2 q.2)]
  have l : sumN (fun j => if f j < f i then 1 else 0) i + Lc f i = i := by
    unfold Lc
    rw [← sum_add, sum_congr (h := fun _ => 1), sum_const]
    · omega
    · intro j hj
      have : f j ≠ f i := fun q => by have := hinj j i (by omega) hi q; omega
      by_cases h1 : f j < f i
      · rw [if_pos h1, if_neg (by omega)]
      · rw [if_neg h1, if_pos (by omega)]
  omega
/-- D ≤ 2 I, with equality just where no item has a greater one ahead and a lesser one behind -/
theorem upper (ns : List Int) (hp : Pm ns) : disp ns ≤ 2 * inv ns ∧ (disp ns = 2 * inv ns ↔ ∀ i, i < ns.length → Lc (fun i => ns.getD i 0) i = 0 ∨ Rc (fun i => ns.getD i 0) ns.length i = 0) := by
  have hI : inv ns = sumN (Lc fun i => ns.getD i 0) ns.length := rfl
  have h2 : 2 * inv ns = sumN (fun i => Lc (fun i => ns.getD i 0) i + Rc (fun i => ns.getD i 0) ns.length i) ns.length := by
    rw [sum_add, ← sum_L, ← hI]; omega
  have pl := place_is (fun i => ns.getD i 0) ns.length hp.1 hp.2
  have term : ∀ i, i < ns.length → (ns.getD i 0 - i).natAbs ≤ Lc (fun i => ns.getD i 0) i + Rc (fun i => ns.getD i 0) ns.length i := fun i hi => by
    have := pl i hi
    omega
  refine ⟨by rw [h2]; exact sum_le term, ?_⟩
  rw [h2]
  have eqs : ∀ (g h : Nat → Nat) (n : Nat), (∀ i, i < n → g i ≤ h i) → (sumN g n = sumN h n ↔ ∀ i, i < n → g i = h i) := by
    intro g h n
    induction n with
    | zero => intro _; exact ⟨fun _ i hi => by omega, fun _ => rfl⟩
    | succ n ih =>
      intro hle
      have hs := sum_le (n := n) fun i hi => hle i (by omega)
      have hn := hle n (by omega)
      constructor
      · intro e i hi
        rw [sumN, sumN] at e
        by_cases q : i = n
        · subst q; omega
        · exact (ih fun i hi => hle i (by omega)).mp (by omega) i (by omega)
      · intro e
        exact sum_congr e
  unfold disp
  rw [eqs _ _ _ term]
  constructor
  · intro e i hi
    have := e i hi
    have := pl i hi
    omega
  · intro e i hi
    have := e i hi
    have := pl i hi
    omega
end Mine

namespace Mine
/-- two places taken out -/
def ex2 (k v : Nat) (g : Nat → Nat) (i : Nat) : Nat := if i = k ∨ i = v then 0 else g i
theorem sum_split2 (g : Nat → Nat) {n k v : Nat} (hk : k < n) (hv : v < n) (hne : k ≠ v) : sumN g n = g k + g v + sumN (ex2 k v g) n := by
  rw [sum_split g hk, sum_split (fun i => if i = k then 0 else g i) hv, if_neg (Ne.symm hne)]
  have : sumN (fun i => if i = v then 0 else if i = k then 0 else g i) n = sumN (ex2 k v g) n := sum_congr fun i _ => by
    unfold ex2
    by_cases h1 : i = v <;> by_cases h2 : i = k <;> simp [h1, h2]
  omega
def pr (f : Nat → Int) (i j : Nat) : Nat := if i < j ∧ f j < f i then 1 else 0
theorem inv_pairs (ns : List Int) : inv ns = sumN (fun i => sumN (pr (fun i => ns.getD i 0) i) ns.length) ns.length := by
  show sumN (Lc fun i => ns.getD i 0) ns.length = _
  rw [sum_L]; rfl
/-- the pairs with k or v in them, and the others -/
theorem pairs_split (f : Nat → Int) {n k v : Nat} (hk : k < n) (hv : v < n) (hkv : k < v) :
    sumN (fun i => sumN (pr f i) n) n = pr f k v + sumN (ex2 k v fun j => pr f k j + pr f v j + pr f j k + pr f j v) n + sumN (ex2 k v fun i => sumN (ex2 k v (pr f i)) n) n := by
  have hne : k ≠ v := by omega
  rw [sum_split2 _ hk hv hne, sum_split2 (pr f k) hk hv hne, sum_split2 (pr f v) hk hv hne]
  have e : sumN (ex2 k v fun i => sumN (pr f i) n) n = sumN (ex2 k v fun i => pr f i k + pr f i v) n + sumN (ex2 k v fun i => sumN (ex2 k v (pr f i)) n) n := by
    rw [← sum_add]
    refine sum_congr fun i _ => ?_
    unfold ex2
    split
    · rfl
    · exact sum_split2 (pr f i) hk hv hne
  have e2 : sumN (ex2 k v fun j => pr f k j + pr f v j + pr f j k + pr f j v) n = sumN (ex2 k v (pr f k)) n + sumN (ex2 k v (pr f v)) n + sumN (ex2 k v fun i => pr f i k + pr f i v) n := by
    rw [← sum_add, ← sum_add]
    refine sum_congr fun i _ => ?_
    unfold ex2
    split
    · rfl
    · show _ + _ + _ + _ = _ + _ + (_ + _)
      omega
  have z1 : pr f k k = 0 := if_neg fun q => by omega
  have z2 : pr f v v = 0 := if_neg fun q => by omega
  have z3 : pr f v k = 0 := if_neg fun q => by omega
  omega
end Mine

namespace Mine
theorem exch_get (ns : List Int) (k : Nat) (hk : k < ns.length) (hV : (ns.getD k 0).toNat < ns.length) (i : Nat) :
    (exch ns k).getD i 0 = if i = (ns.getD k 0).toNat then ns.getD k 0 else if i = k then ns.getD (ns.getD k 0).toNat 0 else ns.getD i 0 := by
  unfold exch
  simp only [List.getD_eq_getElem?_getD, List.getElem?_set, List.length_set]
  by_cases h1 : (ns[k]?.getD 0).toNat = i
  · have h1' : i = (ns[k]?.getD 0).toNat := h1.symm
    simp only [List.getD_eq_getElem?_getD] at hV
    rw [if_pos h1, if_pos h1', if_pos hV]; rfl
  · have h1' : ¬ i = (ns[k]?.getD 0).toNat := fun e => h1 e.symm
    rw [if_neg h1, if_neg h1']
    by_cases h2 : k = i
    · have h2' : i = k := h2.symm
      rw [if_pos h2, if_pos h2', if_pos hk]; rfl
    · have h2' : ¬ i = k := fun e => h2 e.symm
      rw [if_neg h2, if_neg h2']
theorem exch_len (ns : List Int) (k : Nat) : (exch ns k).length = ns.length := by simp [exch]

theorem term_le (k V u j : Nat) (z : Int) (hkV : k < V) (huk : k ≤ u) (h1 : j ≠ k) (h2 : j ≠ V) (o1 : z ≠ (V : Int)) (o2 : z ≠ (u : Int)) (hlow : j < k → z = j) :
    (if k < j ∧ z < (V : Int) then 1 else 0) + (if V < j ∧ z < (u : Int) then 1 else 0) + (if j < k ∧ (V : Int) < z then 1 else 0) + (if j < V ∧ (u : Int) < z then 1 else 0)
      ≤ (if k < j ∧ z < (u : Int) then 1 else 0) + (if V < j ∧ z < (V : Int) then 1 else 0) + (if j < k ∧ (u : Int) < z then 1 else 0) + (if j < V ∧ (V : Int) < z then 1 else 0)
        + ((if (u : Int) < z ∧ z < (V : Int) then 1 else 0) + (if (u : Int) < z ∧ z < (V : Int) then 1 else 0)) := by
  by_cases c1 : j < k
  · have hz := hlow c1
    have n1 : ¬ k < j := by omega
    have n2 : ¬ V < j := by omega
    have n3 : ¬ (V : Int) < z := by omega
    have n4 : ¬ (u : Int) < z := by omega
    simp [n1, n2, n3, n4]
  · by_cases c2 : j < V
    · have n1 : k < j := by omega
      have n2 : ¬ V < j := by omega
      by_cases c3 : z < (V : Int) <;> by_cases c4 : z < (u : Int)
      · have n3 : ¬ (V : Int) < z := by omega
        have n4 : ¬ (u : Int) < z := by omega
        simp [n1, n2, n3, n4, c1, c2, c3, c4]
      · have n3 : ¬ (V : Int) < z := by omega
        have n4 : (u : Int) < z := by omega
        simp [n1, n2, n3, n4, c1, c2, c3, c4]
      · have n3 : (V : Int) < z := by omega
        have n4 : ¬ (u : Int) < z := by omega
        simp [n1, n2, n3, n4, c1, c2, c3, c4]
      · have n3 : (V : Int) < z := by omega
        have n4 : (u : Int) < z := by omega
        simp [n1, n2, n3, n4, c1, c2, c3, c4]
    · have n1 : k < j := by omega
      have n2 : V < j := by omega
      by_cases c3 : z < (V : Int) <;> by_cases c4 : z < (u : Int) <;> simp [n1, n2, c1, c2, c3, c4]

theorem exch_num {I1 I2 D1 D2 SA SB SC SD SE k V u : Nat} (h1 : I1 = (if u < V then 1 else 0) + SA + SC) (h2 : I2 = (if V < u then 1 else 0) + SB + SC) (d1 : D1 = ((V : Int) - k).natAbs + ((u : Int) - V).natAbs + SD) (d2 : D2 = ((u : Int) - k).natAbs + ((V : Int) - V).natAbs + SD)
    (M : SA ≤ SB + (SE + SE)) (bt : SE + (u + 1) ≤ V ∨ V ≤ u) (Mz : V ≤ u → SE = 0) (hkV : k < V) (huk : k ≤ u) (huV : u ≠ V) : I1 + 1 + D2 ≤ D1 + I2 := by
  rcases Nat.lt_or_gt_of_ne huV with h | h
  · rw [if_pos h] at h1
    rw [if_neg (Nat.not_lt.mpr (Nat.le_of_lt h))] at h2
    clear Mz huV
    omega
  · rw [if_neg (Nat.not_lt.mpr (Nat.le_of_lt h))] at h1
    rw [if_pos h] at h2
    have := Mz (Nat.le_of_lt h)
    clear Mz bt huV
    omega
theorem exch_step (ns : List Int) (k : Nat) (hp : Pm ns) (hk : k < ns.length) (hlow : ∀ j, j < k → ns.getD j 0 = j) (hne : ns.getD k 0 ≠ k) :
    Pm (exch ns k) ∧ (exch ns k).length = ns.length ∧ (∀ j, j < k → (exch ns k).getD j 0 = j) ∧ inv ns + 1 + disp (exch ns k) ≤ disp ns + inv (exch ns k) ∧ unfixed (exch ns k) < unfixed ns := by
  obtain ⟨hb, hinj⟩ := hp
  have hbk := hb k hk
  obtain ⟨V, hVe⟩ : ∃ V : Nat, ns.getD k 0 = V := ⟨(ns.getD k 0).toNat, by omega⟩
  have hVn : V < ns.length := by omega
  have hkV : k < V := by
    rcases Nat.lt_trichotomy k V with h | h | h
    · exact h
    · exact absurd (by rw [hVe, h]) hne
    · have := hinj V k hVn hk (by rw [hlow V h, hVe]); omega
  have hbu := hb V hVn
  obtain ⟨u, hu⟩ : ∃ u : Nat, ns.getD V 0 = u := ⟨(ns.getD V 0).toNat, by omega⟩
  have hun : u < ns.length := by omega
  have huk : k ≤ u := by
    rcases Nat.lt_or_ge u k with h | h
    · have := hinj u V hun hVn (by rw [hlow u h, hu]); omega
    · exact h
  have huV : u ≠ V := by
    intro e
    have := hinj k V hk hVn (by rw [hVe, hu, e]); omega
  have hG : ∀ i, (exch ns k).getD i 0 = if i = V then (V : Int) else if i = k then (u : Int) else ns.getD i 0 := by
    intro i
    have := exch_get ns k hk (by rw [hVe]; simpa using hVn) i
    rw [hVe] at this
    simp only [Int.toNat_natCast] at this
    rw [this, hu]
  have hlen := exch_len ns k
  have gV : (exch ns k).getD V 0 = V := by rw [hG, if_pos rfl]
  have gk : (exch ns k).getD k 0 = u := by rw [hG, if_neg (Nat.ne_of_lt hkV), if_pos rfl]
  have go : ∀ i, i ≠ k → i ≠ V → (exch ns k).getD i 0 = ns.getD i 0 := fun i h1 h2 => by rw [hG, if_neg h2, if_neg h1]
  have off : ∀ i, i < ns.length → i ≠ k → i ≠ V → ns.getD i 0 ≠ (V : Int) ∧ ns.getD i 0 ≠ (u : Int) := fun i hi h1 h2 =>
    ⟨fun e => h1 (hinj i k hi hk (e.trans hVe.symm)), fun e => h2 (hinj i V hi hVn (e.trans hu.symm))⟩
  refine ⟨⟨?_, ?_⟩, hlen, ?_, ?_, ?_⟩
  · intro i hi
    rw [hlen] at hi ⊢
    rw [hG]
    split
    · exact ⟨Int.natCast_nonneg _, Int.ofNat_lt.mpr hVn⟩
    · split
      · exact ⟨Int.natCast_nonneg _, Int.ofNat_lt.mpr hun⟩
      · exact hb i hi
  · intro i j hi hj e
    rw [hlen] at hi hj
    have val : ∀ i, i < ns.length → (i = V ∧ (exch ns k).getD i 0 = V) ∨ (i = k ∧ (exch ns k).getD i 0 = u) ∨ (i ≠ k ∧ i ≠ V ∧ (exch ns k).getD i 0 = ns.getD i 0 ∧ ns.getD i 0 ≠ (V : Int) ∧ ns.getD i 0 ≠ (u : Int)) := by
      intro i hi
      by_cases h2 : i = V
      · exact .inl ⟨h2, by rw [h2]; exact gV⟩
      · by_cases h1 : i = k
        · exact .inr (.inl ⟨h1, by rw [h1]; exact gk⟩)
        · exact .inr (.inr ⟨h1, h2, go i h1 h2, off i hi h1 h2⟩)
    rcases val i hi with ⟨a, b⟩ | ⟨a, b⟩ | ⟨a, a', b, c, d⟩ <;> rcases val j hj with ⟨a2, b2⟩ | ⟨a2, b2⟩ | ⟨a2, a2', b2, c2, d2⟩
    · omega
    · rw [b, b2] at e; omega
    · rw [b, b2] at e; exact absurd e.symm c2
    · rw [b, b2] at e; omega
    · omega
    · rw [b, b2] at e; exact absurd e.symm d2
    · rw [b, b2] at e; exact absurd e c
    · rw [b, b2] at e; exact absurd e d
    · rw [b, b2] at e; exact hinj i j hi hj e
  · intro j hj
    rw [go j (Nat.ne_of_lt hj) (Nat.ne_of_lt (Nat.lt_trans hj hkV))]; exact hlow j hj
  · have D1 : disp ns = ((V : Int) - k).natAbs + ((u : Int) - V).natAbs + sumN (ex2 k V fun i => (ns.getD i 0 - i).natAbs) ns.length := by
      unfold disp
      rw [sum_split2 _ hk hVn (Nat.ne_of_lt hkV), hVe, hu]
    have D2 : disp (exch ns k) = ((u : Int) - k).natAbs + ((V : Int) - V).natAbs + sumN (ex2 k V fun i => (ns.getD i 0 - i).natAbs) ns.length := by
      unfold disp
      rw [hlen, sum_split2 _ hk hVn (Nat.ne_of_lt hkV), gk, gV]
      congr 1
      refine sum_congr fun i _ => ?_
      unfold ex2
      split
      · rfl
      · rename_i h
        dsimp only
        rw [go i (fun e => h (.inl e)) (fun e => h (.inr e))]
    have I1 := inv_pairs ns
    have I2 := inv_pairs (exch ns k)
    rw [hlen] at I2
    rw [pairs_split _ hk hVn hkV] at I1 I2
    have rest : sumN (ex2 k V fun i => sumN (ex2 k V (pr (fun i => (exch ns k).getD i 0) i)) ns.length) ns.length = sumN (ex2 k V fun i => sumN (ex2 k V (pr (fun i => ns.getD i 0) i)) ns.length) ns.length := by
      refine sum_congr fun i _ => ?_
      unfold ex2
      split
      · rfl
      · rename_i h
        refine sum_congr fun j _ => ?_
        split
        · rfl
        · rename_i h'
          unfold pr
          dsimp only
          simp only [go i (fun e => h (.inl e)) (fun e => h (.inr e)), go j (fun e => h' (.inl e)) (fun e => h' (.inr e))]
    rw [rest] at I2
    have p1 : pr (fun i => ns.getD i 0) k V = if u < V then 1 else 0 := by
      unfold pr
      dsimp only
      simp only [hVe, hu]
      by_cases h : u < V
      · rw [if_pos h, if_pos ⟨hkV, by omega⟩]
      · rw [if_neg h, if_neg (fun q => h (by omega))]
    have p2 : pr (fun i => (exch ns k).getD i 0) k V = if V < u then 1 else 0 := by
      unfold pr
      dsimp only
      simp only [gk, gV]
      by_cases h : V < u
      · rw [if_pos h, if_pos ⟨hkV, by omega⟩]
      · rw [if_neg h, if_neg (fun q => h (by omega))]
    rw [p1] at I1
    rw [p2] at I2
    have between : sumN (fun j => if (u : Int) < ns.getD j 0 ∧ ns.getD j 0 < (V : Int) then 1 else 0) ns.length + (u + 1) ≤ V ∨ V ≤ u := by
      by_cases h : u < V
      · left
        have c1 := cnt_is (fun i => ns.getD i 0) ns.length hb hinj V (by omega)
        have c2 := cnt_is (fun i => ns.getD i 0) ns.length hb hinj (u + 1) (by omega)
        have e : cntLt (fun i => ns.getD i 0) ns.length (V : Int) = cntLt (fun i => ns.getD i 0) ns.length ((u + 1 : Nat) : Int) + sumN (fun j => if (u : Int) < ns.getD j 0 ∧ ns.getD j 0 < (V : Int) then 1 else 0) ns.length := by
          unfold cntLt
          rw [← sum_add]
          refine sum_congr fun j _ => ?_
          dsimp only
          by_cases h1 : ns.getD j 0 < (V : Int)
          · by_cases h2 : ns.getD j 0 < ((u + 1 : Nat) : Int)
            · rw [if_pos h1, if_pos h2, if_neg (by omega)]
            · rw [if_pos h1, if_neg h2, if_pos ⟨by omega, h1⟩]
          · rw [if_neg h1, if_neg (by omega), if_neg (by omega)]
        omega
      · right; omega
    have M : sumN (ex2 k V fun j => pr (fun i => ns.getD i 0) k j + pr (fun i => ns.getD i 0) V j + pr (fun i => ns.getD i 0) j k + pr (fun i => ns.getD i 0) j V) ns.length
        ≤ sumN (ex2 k V fun j => pr (fun i => (exch ns k).getD i 0) k j + pr (fun i => (exch ns k).getD i 0) V j + pr (fun i => (exch ns k).getD i 0) j k + pr (fun i => (exch ns k).getD i 0) j V) ns.length
          + (sumN (fun j => if (u : Int) < ns.getD j 0 ∧ ns.getD j 0 < (V : Int) then 1 else 0) ns.length + sumN (fun j => if (u : Int) < ns.getD j 0 ∧ ns.getD j 0 < (V : Int) then 1 else 0) ns.length) := by
      rw [← sum_add, ← sum_add]
      refine sum_le fun j hj => ?_
      unfold ex2
      split
      · omega
      · rename_i h
        obtain ⟨o1, o2⟩ := off j hj (fun e => h (.inl e)) (fun e => h (.inr e))
        unfold pr
        dsimp only
        simp only [go j (fun e => h (.inl e)) (fun e => h (.inr e)), gk, gV, hVe, hu]
        exact term_le k V u j _ hkV huk (fun e => h (.inl e)) (fun e => h (.inr e)) o1 o2 (fun c => hlow j c)
    have Mz : V ≤ u → sumN (fun j => if (u : Int) < ns.getD j 0 ∧ ns.getD j 0 < (V : Int) then 1 else 0) ns.length = 0 := fun h => sum_zero fun j _ => if_neg (by omega)
    exact exch_num I1 I2 D1 D2 M between Mz hkV huk huV
  · have U1 : unfixed ns = 1 + 1 + sumN (ex2 k V fun i => if ns.getD i 0 = i then 0 else 1) ns.length := by
      unfold unfixed
      rw [sum_split2 _ hk hVn (Nat.ne_of_lt hkV), hVe, hu, if_neg (by omega), if_neg (by omega)]
    have U2 : unfixed (exch ns k) = (if (u : Int) = k then 0 else 1) + 0 + sumN (ex2 k V fun i => if ns.getD i 0 = i then 0 else 1) ns.length := by
      unfold unfixed
      rw [hlen, sum_split2 _ hk hVn (Nat.ne_of_lt hkV), gk, gV, if_pos (rfl : (V : Int) = V)]
      congr 1
      refine sum_congr fun i _ => ?_
      unfold ex2
      split
      · rfl
      · rename_i h
        dsimp only
        rw [go i (fun e => h (.inl e)) (fun e => h (.inr e))]
    rw [U1, U2]
    split <;> omega
end Mine

namespace Mine
open PySem PySem.W PySem.Calls PySem.Spec PyProof.Rows
example : True ∧ True := by
  w_top off
  (try walk1)
  all_goals trivial
example : (∀ P, hd.heap_39 P = hd.heap_39 P) → Challenge.rw_pg0099_01 = Challenge.rw_pg0099_01 := by k_fill; intro _; rfl
local macro_rules | `(tactic| walk_at "eval Name") => `(tactic| (k_here; k_dflt (refine' ld ?k1 ?k2 ?_; (case k1 => k_asm); (case k2 => first | exact rfl | assumption); k_whole)))

local macro_rules | `(tactic| walk_at "loadName") => `(tactic| (k_here; k_dflt (refine' ldn ?k1 ?k2 ?_; (case k1 => k_asm); (case k2 => first | exact rfl | assumption); k_whole)))
local macro_rules | `(tactic| walk_at "exec For Name Call cons nil") => `(tactic| (k_dflt (refine forW ?_)))
local macro_rules | `(tactic| walk_at "exec While Compare cons nil") => `(tactic| (refine Stop.at ?_))
/-- what the loops of _law_exchanges keep -/
inductive ExO (ns : List Int) (i : Nat) (m' : Str → Option Value) (news' : List (Addr × Obj)) : Prop
  | mk (D : Addr) (gl : m' "line" = some (.ref D)) (its : List Value) (line : List Int) (c cnt : Nat) (tc : Tok) (e : news' = [(D, listOf its.toArray c)]) (hi : IntsAre its line) (gc : m' "count" = some (.int cnt tc))
    (hp : Pm line) (hl : line.length = ns.length) (hf : ∀ j, j < i → line.getD j 0 = j) (hv : inv ns + cnt + disp line ≤ disp ns + inv line)
inductive ExW (s : Shared) (ns : List Int) (i : Nat) (I D : Addr) (oI : Obj) (tt : Tok) (n : Nat) (s' : Shared) : Prop
  | mk (h' : Heap) (tk' : Nat) (m' : Str → Option Value) (its : List Value) (line : List Int) (c cnt : Nat) (tc : Tok) (e : s' = { s with heap := h', toks := tk' }) (F : Fr s.heap s.heap.objs.size h' m') (N : News s.heap s.heap.objs.size h' [(I, oI), (D, listOf its.toArray c)])
    (gl : m' "line" = some (.ref D)) (gk : m' "k" = some (.int i tt)) (gc : m' "count" = some (.int cnt tc)) (hi : IntsAre its line) (hp : Pm line) (hl : line.length = ns.length) (hf : ∀ j, j < i → line.getD j 0 = j) (hv : inv ns + cnt + disp line ≤ disp ns + inv line) (hn : n = unfixed line)
theorem exch_spec {w : World} {A : Around} {E : Value → Shared → Prop} {s : Shared} {p : Program} {loose : List Str} {mean : ExcName → Option Value} {mg mb : Str → Option Value}
  {l : Addr} {vs : List Value} {ns : List Int}
  (X : (hd.heap_39 w.params).In s.heap) (T : Top p loose mean mg mb s.heap) (hdp : A.depth + 2 < recursionLimit) (hu : A.units + 20 < cLine) (hh : A.handled = none)
  (hl : s.heap.IsList l vs.toArray) (hi : IntsAre vs ns) (hn : ns.length < 64) (hp : Pm ns)
  : wpAny (model Challenge.rw_pg0099_01.row.prog w) A (call (.ref 119) [.ref l]) (fun v s' => End ((∃ c : Nat, ∃ t, v = .int c t ∧ inv ns + c ≤ disp ns) ∧ Keeps s s')) E s := by
  obtain ⟨ha, dp, fr, gd, un⟩ := A
  have hh' : ha = none := hh
  subst hh'
  dsimp only at hdp hu
  refine enter (K := hd.heap_39 w.params) (w := w) [("order", .ref l)] X T.nolimit (by k_is) (by k_is) (show dp < recursionLimit by omega) (BindsTo.of_eq rfl) (locs rfl) (fun h₁ F => ?_) rfl rfl rfl (by decide)
  have N : News s.heap s.heap.objs.size h₁ [] := News.nil
  repeat walk1
  rename IsRange _ _ _ _ _ _ _ _ => hrg
  rename Fr _ _ _ _ => F2
  rename News _ _ _ _ => N2
  refine iterRange hrg (by omega) hh F2 N2 (ExO ns) ⟨_, rfl, vs, ns, _, 0, _, rfl, hi, rfl, hp, rfl, fun j hj => absurd hj (Nat.not_lt_zero _), by omega⟩ ?_ ?_
  · intro i tt m₁ news₁ h tk I oI hin hG1 ho hIs F1 N1
    refine hideGoal fun XX kX => ?_
    obtain ⟨D, g1, its, line, c, cnt, tc, rfl, hil, g2, hpm, hlen, hfix, hpot⟩ := hG1
    refine kX ?_
    clear kX XX
    clear hrg F2 N2
    repeat' walk1
    refine Stop.go ?_
    rename Fr _ _ _ _ => F3
    rename News _ _ _ _ => N3
    refine while_ (ExW s ns i I D oI tt) ?_ (unfixed line)
      ⟨_, _, _, its, line, c, cnt, tc, rfl, F3, N3, g1, rfl, g2, hil, hpm, hlen, hfix, hpot, rfl⟩
    clear F3 N3 g1 g2 hil hpm hlen hfix hpot
    have hID := neN (a := D) (b := I) (ho _ (List.mem_singleton.mpr rfl))
    intro n s' hG1
    refine hideGoal fun XX kX => ?_
    obtain ⟨h', tk', m', its, line, c, cnt, tc, rfl, F4, N4, g1, g3, g2, hil, hpm, hlen, hfix, hpot, rfl⟩ := hG1
    refine kX ?_
    clear kX XX
    have hb1 : 0 ≤ line.getD (i : Int).toNat 0 := (hpm.1 i (by omega)).1
    have hb2 : line.getD (i : Int).toNat 0 < line.length := (hpm.1 i (by omega)).2
    have hlit : its.length = line.length := hil.length
    repeat' walk1
    · rename Fr _ _ _ _ => F9
      rename News _ _ _ _ => N9
      rename (line.getD _ _ ≠ _) => hne
      obtain ⟨q1, q2, q3, q4, q5⟩ := exch_step line i hpm (by omega) hfix hne
      refine End.mk ⟨unfixed (exch line i), q5, _, _, _, _, exch line i, _, cnt + 1, _, rfl, F9, N9, g1, g3, rfl, by assumption, q1, by omega, q3, by omega, rfl⟩
    · rename Fr _ _ _ _ => F9
      rename News _ _ _ _ => N9
      rename (line.getD _ _ = _) => heq
      refine End.mk (TurnEnd.mk F9 N9 (by intro p hp; rw [List.mem_singleton.mp hp]; exact hID) ⟨D, g1, its, line, c, cnt, tc, rfl, hil, g2, hpm, hlen, ?_, hpot⟩)
      intro j hj
      by_cases hji : j < i
      · exact hfix j hji
      · have : j = i := by omega
        subst this
        exact heq
  · intro m' news' h tk hG1 F' N'
    refine hideGoal fun XX kX => ?_
    obtain ⟨D, g1, its, line, c, cnt, tc, rfl, hil, g2, hpm, hlen, hfix, hpot⟩ := hG1
    refine kX ?_
    clear kX XX
    clear hrg F2 N2
    repeat' walk1
    refine End.mk ⟨⟨cnt, tc, rfl, ?_⟩, ⟨_, _, rfl, F'.keep⟩⟩
    have := fixed_end line (by rw [hlen]; exact hfix)
    omega
end Mine

namespace Mine
open PySem PySem.W PySem.Calls PySem.Spec PyProof.Rows
example : True ∧ True := by
  w_top off
  (try walk1)
  all_goals trivial
example : (∀ P, hd.heap_39 P = hd.heap_39 P) → Challenge.rw_pg0099_01 = Challenge.rw_pg0099_01 := by k_fill; intro _; rfl

/-- a list of rows -/
def RowsAt (h : Heap) (l : Addr) (n : Nat) (x : Nat → Nat → Int) : Prop :=
  ∃ rs : List Addr, rs.length = n ∧ h.IsList l (rs.map Value.ref).toArray ∧ ∀ i r, rs[i]? = some r → RowAt h r (x i)
theorem CompAt.keeps {h h' : Heap} {c : Addr} {sel : List (Nat × Int)} (C : CompAt h c sel) (k : ∀ b o, h.get? b = some o → h'.get? b = some o) : CompAt h' c sel := by
  obtain ⟨dx, t, n, hsh, tk, ts, a, b, e, d⟩ := C
  refine ⟨dx, t, n, hsh, tk, ts, k _ _ a, k _ _ b, e.at fun _ e => k _ _ e, ?_⟩
  have : ∀ (ts : List Addr) (ps : List (Nat × Int)), PairsAt h ts ps → PairsAt h' ts ps := by
    intro ts
    induction ts with
    | nil => intro ps; cases ps <;> exact id
    | cons t ts ih =>
      intro ps
      cases ps with
      | nil => exact id
      | cons p ps => rintro ⟨⟨u, v, q⟩, r⟩; exact ⟨⟨u, v, q.keeps k⟩, ih ps r⟩
  exact this _ _ d
theorem RowsAt.keeps {h h' : Heap} {l : Addr} {n : Nat} {x : Nat → Nat → Int} (R : RowsAt h l n x) (k : ∀ b o, h.get? b = some o → h'.get? b = some o) : RowsAt h' l n x := by
  obtain ⟨rs, a, b, c⟩ := R
  exact ⟨rs, a, b.at fun _ e => k _ _ e, fun i r e => (c i r e).keeps k⟩

section
variable {w : World} {A : Around} {E : Value → Shared → Prop} {s : Shared} {p : Program} {loose : List Str} {mean : ExcName → Option Value} {mg mb : Str → Option Value} {h₀ : Heap} {L : Addr} {m : Str → Option Value} {news : List (Addr × Obj)}

theorem rows_item {value slice : Expr} {l : Addr} {n k : Nat} {x : Nat → Nat → Int} {u : Tok} {Q : Value → Shared → Prop} {prog : Program} (F : Fr h₀ L s.heap m) (R : RowsAt h₀ l n x) (hk : k < n) (hn : n < 2 ^ 62) (h : ∀ r, RowAt h₀ r (x k) → Q (.ref r) s)
    (hs : subscripted slice false (.ref l) (.int k u) = operate [.ref l, .int k u] (getItem (.ref l) (.int k u)) := by with_unfolding_all rfl) :
    wpAny (model prog w) A (subscriptTail value slice (.ref l) (.int k u)) Q E s := by
  obtain ⟨rs, e, hl, hr⟩ := R
  have hk' : k < rs.length := by omega
  have hl' : s.heap.IsList l (rs.map Value.ref).toArray := hl.at fun _ e => F.keep _ _ e
  exact tail_any hl'.typeIs slot_list_getitem.lookup (wpAny_getItem_list (k := (k : Int)) (x := .ref rs[k]) hl' (by omega) (by omega) (by simp [hk']) (h _ (hr k _ (by simp [hk'])))) hs

theorem rows_len {l : Addr} {n : Nat} {x : Nat → Nat → Int} {Q : Value → Shared → Prop} {prog : Program} (F : Fr h₀ L s.heap m) (R : RowsAt h₀ l n x) (hn : n < 2 ^ 62) (h : Q (.int n (s.toks + 1)) { s with toks := s.toks + 1 + 1 }) :
    wpAny (model prog w) A (call (.builtin "len") [.ref l]) Q E s := by
  obtain ⟨rs, e, hl, hr⟩ := R
  have hl' : s.heap.IsList l (rs.map Value.ref).toArray := hl.at fun _ e => F.keep _ _ e
  have e2 : ((rs.map Value.ref).toArray.size : Int) = n := by simp [e]
  refine len_list hl' (by rw [e2]; omega) ?_
  rw [e2]; exact h

theorem method_cmp {c : Addr} {sel : List (Nat × Int)} {pl : Sem Bool} {Q : Value × List Value → Shared → Prop} {prog : Program} (F : Fr h₀ L s.heap m) (X : (hd.heap_39 w.params).In h₀) (C : CompAt h₀ c sel) (h : Q (.ref 52, [.ref c]) s) :
    wpAny (model prog w) A (getMethod (.ref c) "compare" pl) Q E s := by
  obtain ⟨dx, t, n, hsh, tk, ts, a, b, e, d⟩ := C
  exact method_fn (K := hd.heap_39 w.params) (C := 55) (ox := instObj 55 dx) (od := some (dictOf [⟨hsh, .str "comp_select_list" tk, .ref t⟩] n)) (X.keeps F.keep) ⟨F.keep _ _ a, rfl, rfl, F.keep _ _ b⟩ (by k_is) (by k_is) (by k_is) (by k_is) rfl h

theorem compare_use {c l r : Addr} {sel : List (Nat × Int)} {x y : Nat → Int} {Q : Value → Shared → Prop} (F : Fr h₀ L s.heap m) (N : News h₀ L s.heap news) (X : (hd.heap_39 w.params).In h₀) (T : Top p loose mean mg mb h₀) (hdp : A.depth + 2 < recursionLimit) (hh : A.handled = none)
    (C : CompAt h₀ c sel) (hsel : ∀ p ∈ sel, p.1 < 3) (hl : RowAt h₀ l x) (hr : RowAt h₀ r y)
    (h : ∀ t h' tk', Fr h₀ L h' m → News h₀ L h' news → Q (.int (cmpSel sel x y) t) { s with heap := h', toks := tk' }) :
    wpAny (model Challenge.rw_pg0099_01.row.prog w) A (call (.ref 52) [.ref c, .ref l, .ref r]) Q E s := by
  refine wpAny_mono (compare_spec (E := Never) (X.keeps F.keep) (T.keeps F.keep) hdp hh (C.keeps F.keep) hsel (hl.keeps F.keep) (hr.keeps F.keep)) ?_ fun _ _ e => e.elim
  intro v s' hG1
  refine hideGoal fun XX kX => ?_
  obtain ⟨⟨t, rfl⟩, ⟨h', tk', rfl, hk⟩⟩ := hG1
  refine kX ?_
  clear kX XX
  exact h t h' tk' (fr_keeps F hk) (news_keeps N hk)
end

theorem int_opt {a b : Int} {t : Tok} (e : a = b) : ∃ t', some (Value.int a t) = some (.int b t') := ⟨t, by rw [e]⟩
/-- the pairs that two ways to compare tell unlike -/
def crossedN (s1 s2 : List (Nat × Int)) (x : Nat → Nat → Int) (n : Nat) : Nat := sumN (fun j => sumN (fun i => if cmpSel s1 (x i) (x j) + cmpSel s2 (x i) (x j) = 0 then 1 else 0) j) n

local macro_rules | `(tactic| walk_at "eval Name") => `(tactic| (k_here; k_dflt (refine' ld ?k1 ?k2 ?_; (case k1 => k_asm); (case k2 => first | exact rfl | assumption); k_whole)))
local macro_rules | `(tactic| walk_at "loadName") => `(tactic| (k_here; k_dflt (refine' ldn ?k1 ?k2 ?_; (case k1 => k_asm); (case k2 => first | exact rfl | assumption); k_whole)))
local macro_rules | `(tactic| walk_at "exec For Name Call cons nil") => `(tactic| (k_dflt (refine forW ?_)))
local macro_rules | `(tactic| walk_at "subscriptTail") => `(tactic| (k_here; (with_reducible show wpAny _ _ (subscriptTail _ _ (Value.ref _) (Value.int _ _)) _ _ _); (with_unfolding_all refine' rows_item ?k1 ?k2 ?k3 ?k4 ?_; (case k1 => k_asm); (case k2 => assumption); (case k3 => omega); (case k4 => omega)); intro rr hrr))
local macro_rules | `(tactic| walk_at "getMethod ref") => `(tactic| (k_here; (with_unfolding_all refine' method_cmp ?k1 ?k2 ?k3 ?_; (case k1 => k_asm); (case k2 => k_asm); (case k3 => assumption)); (try dsimp only)))
local macro_rules | `(tactic| walk_at "call ref") => `(tactic| (k_here; (with_reducible show wpAny _ _ (call (Value.ref 52) _) _ _ _); (with_unfolding_all refine' compare_use ?k1 ?k2 ?k3 ?k4 ?k5 ?k6 ?k7 ?k8 ?k9 ?k10 ?_; (case k1 => k_asm); (case k2 => k_asm); (case k3 => k_asm); (case k4 => k_asm); (case k5 => (dsimp only [Around.deeper]; omega)); (case k6 => rfl); (case k7 => assumption); (case k8 => assumption); (case k9 => assumption); (case k10 => assumption)); intro t' h' tk' F' N'; (try k_sweep)))

local macro_rules | `(tactic| walk_at "call builtin:len") => `(tactic| (k_here; (with_unfolding_all refine' rows_len ?k1 ?k2 ?k3 ?_; (case k1 => k_asm); (case k2 => assumption); (case k3 => omega))))

/-- what the loops of _law_crossed keep -/
inductive CrO (l c1 c2 : Addr) (s1 s2 : List (Nat × Int)) (x : Nat → Nat → Int) (j : Nat) (m' : Str → Option Value) (_ : List (Addr × Obj)) : Prop
  | mk (ga : m' "records" = some (.ref l)) (gb : m' "one" = some (.ref c1)) (gc : m' "two" = some (.ref c2)) (gt : ∃ t, m' "crossed" = some (.int (crossedN s1 s2 x j) t))
inductive CrI (l c1 c2 : Addr) (s1 s2 : List (Nat × Int)) (x : Nat → Nat → Int) (j : Nat) (tt : Tok) (nw : List (Addr × Obj)) (i : Nat) (m' : Str → Option Value) (news' : List (Addr × Obj)) : Prop
  | mk (e : news' = nw) (ga : m' "records" = some (.ref l)) (gb : m' "one" = some (.ref c1)) (gc : m' "two" = some (.ref c2)) (gh : m' "high" = some (.int j tt)) 
    (gt : ∃ t, m' "crossed" = some (.int (crossedN s1 s2 x j + sumN (fun i => if cmpSel s1 (x i) (x j) + cmpSel s2 (x i) (x j) = 0 then 1 else 0) i : Nat) t))
theorem crossed_spec {w : World} {A : Around} {E : Value → Shared → Prop} {s : Shared} {p : Program} {loose : List Str} {mean : ExcName → Option Value} {mg mb : Str → Option Value}
  {l c1 c2 : Addr} {n : Nat} {x : Nat → Nat → Int} {s1 s2 : List (Nat × Int)}
  (X : (hd.heap_39 w.params).In s.heap) (T : Top p loose mean mg mb s.heap) (hdp : A.depth + 4 < recursionLimit) (hu : A.units + 20 < cLine) (hh : A.handled = none)
  (R : RowsAt s.heap l n x) (hn : n < 64) (C1 : CompAt s.heap c1 s1) (hs1 : ∀ p ∈ s1, p.1 < 3) (C2 : CompAt s.heap c2 s2) (hs2 : ∀ p ∈ s2, p.1 < 3)
  : wpAny (model Challenge.rw_pg0099_01.row.prog w) A (call (.ref 107) [.ref l, .ref c1, .ref c2]) (fun v s' => End ((∃ t, v = .int (crossedN s1 s2 x n) t) ∧ Keeps s s')) E s := by
  obtain ⟨ha, dp, fr, gd, un⟩ := A
  have hh' : ha = none := hh
  subst hh'
  dsimp only at hdp hu
  refine enter (K := hd.heap_39 w.params) (w := w) [("records", .ref l), ("one", .ref c1), ("two", .ref c2)] X T.nolimit (by k_is) (by k_is) (show dp < recursionLimit by omega) (BindsTo.of_eq rfl) (locs rfl) (fun h₁ F => ?_) rfl rfl rfl (by decide)
  have N : News s.heap s.heap.objs.size h₁ [] := News.nil
  obtain ⟨rs, hrs, hll, _⟩ := id R
  repeat walk1
  rename IsRange _ _ _ _ _ _ _ _ => hrg
  rename Fr _ _ _ _ => F2
  rename News _ _ _ _ => N2
  refine iterRange hrg (by omega) hh F2 N2 (CrO l c1 c2 s1 s2 x) ⟨rfl, rfl, rfl, _, rfl⟩ ?_ ?_
  · intro j tt m₁ news₁ h tk I oI hin hG1 ho hIs F1 N1
    refine hideGoal fun XX kX => ?_
    obtain ⟨g1, g2, g3, t4, g4⟩ := hG1
    refine kX ?_
    clear kX XX
    clear hrg F2 N2
    repeat' walk1
    rename IsRange _ _ _ _ _ _ _ _ => hrg
    rename Fr _ _ _ _ => F2
    rename News _ _ _ _ => N2
    refine iterRange hrg (by omega) hh F2 N2 (CrI l c1 c2 s1 s2 x j tt ((I, oI) :: news₁)) ⟨rfl, g1, g2, g3, rfl, t4, g4⟩ ?_ ?_
    · intro i ti m₂ news₂ h2 tk2 I2 oI2 hin2 hG1 ho2 hIs2 F3 N3
      refine hideGoal fun XX kX => ?_
      obtain ⟨rfl, g1, g2, g3, g5, t5, g4⟩ := hG1
      refine kX ?_
      clear kX XX
      clear hrg F2 N2
      repeat' walk1
      · rename Fr _ _ _ _ => F9
        rename News _ _ _ _ => N9
        rename (_ + _ = _) => heq
        refine End.mk (TurnEnd.mk F9 N9 ho2 ⟨rfl, g1, g2, g3, g5, int_opt ?_⟩)
        rw [sumN, if_pos heq]
        omega
      · rename Fr _ _ _ _ => F9
        rename News _ _ _ _ => N9
        rename (¬ _ + _ = _) => heq
        refine End.mk (TurnEnd.mk F9 N9 ho2 ⟨rfl, g1, g2, g3, g5, t5, ?_⟩)
        rw [sumN, if_neg heq]
        exact g4
    · intro m' news' h tk hG1 F' N'
      refine hideGoal fun XX kX => ?_
      obtain ⟨rfl, g1, g2, g3, g5, t5, g4⟩ := hG1
      refine kX ?_
      clear kX XX
      clear hrg F2 N2
      repeat' walk1
      exact End.mk (TurnEnd.mk F' N' ho ⟨g1, g2, g3, t5, g4⟩)
  · intro m' news' h tk hG1 F' N'
    refine hideGoal fun XX kX => ?_
    obtain ⟨g1, g2, g3, t4, g4⟩ := hG1
    refine kX ?_
    clear kX XX
    clear hrg F2 N2
    repeat' walk1
    exact End.mk ⟨⟨t4, rfl⟩, ⟨_, _, rfl, F'.keep⟩⟩
end Mine

namespace Mine
open PySem PySem.W PySem.Calls PySem.Spec PyProof.Rows
example : True ∧ True := by
  w_top off
  (try walk1)
  all_goals trivial
example : (∀ P, hd.heap_39 P = hd.heap_39 P) → Challenge.rw_pg0099_01 = Challenge.rw_pg0099_01 := by k_fill; intro _; rfl
local macro_rules | `(tactic| walk_at "eval Name") => `(tactic| (k_here; k_dflt (refine' ld ?k1 ?k2 ?_; (case k1 => k_asm); (case k2 => first | exact rfl | assumption); k_whole)))

def subCost (x y : Str) : Int := if x == y then 0 else if Txt.lower x == Txt.lower y then 1 else 2
theorem subst_spec {w : World} {A : Around} {E : Value → Shared → Prop} {s : Shared} {p : Program} {loose : List Str} {mean : ExcName → Option Value} {mg mb : Str → Option Value}
  {x y : Str} {u v : Tok}
  (X : (hd.heap_39 w.params).In s.heap) (T : Top p loose mean mg mb s.heap) (hdp : A.depth + 2 < recursionLimit) (hu : A.units + 20 < cLine) (hh : A.handled = none) (hx : x.length ≤ 9) (hy : y.length ≤ 9)
  : wpAny (model Challenge.rw_pg0099_01.row.prog w) A (call (.ref 83) [.str x u, .str y v]) (fun v s' => End ((∃ t, v = .int (subCost x y) t) ∧ Keeps s s')) E s := by
  obtain ⟨ha, dp, fr, gd, un⟩ := A
  have hh' : ha = none := hh
  subst hh'
  dsimp only at hdp hu
  refine enter (K := hd.heap_39 w.params) (w := w) [("ch_a", .str x u), ("ch_b", .str y v)] X T.nolimit (by k_is) (by k_is) (show dp < recursionLimit by omega) (BindsTo.of_eq rfl) (locs rfl) (fun h₁ F => ?_) rfl rfl rfl (by decide)
  have N : News s.heap s.heap.objs.size h₁ [] := News.nil
  repeat' walk1
  · refine End.mk ⟨int_is ?_, ⟨_, _, rfl, Fr.keep (by assumption)⟩⟩
    rename (_ == _) = true => q1
    unfold subCost; rw [if_pos q1]
  · refine End.mk ⟨int_is ?_, ⟨_, _, rfl, Fr.keep (by assumption)⟩⟩
    unfold subCost; rw [if_neg (by simp_all), if_pos (by assumption)]
  · refine End.mk ⟨int_is ?_, ⟨_, _, rfl, Fr.keep (by assumption)⟩⟩
    unfold subCost; rw [if_neg (by simp_all), if_neg (by simp_all)]
end Mine

namespace Mine
open PySem PySem.W PySem.Calls PySem.Spec PyProof.Rows
example : True ∧ True := by
  w_top off
  (try walk1)
  all_goals trivial
example : (∀ P, hd.heap_39 P = hd.heap_39 P) → Challenge.rw_pg0099_01 = Challenge.rw_pg0099_01 := by k_fill; intro _; rfl
local macro_rules | `(tactic| walk_at "eval Name") => `(tactic| (k_here; k_dflt (refine' ld ?k1 ?k2 ?_; (case k1 => k_asm); (case k2 => first | exact rfl | assumption); k_whole)))
local macro_rules | `(tactic| walk_at "loadName") => `(tactic| (k_here; k_dflt (refine' ldn ?k1 ?k2 ?_; (case k1 => k_asm); (case k2 => first | exact rfl | assumption); k_whole)))

local macro_rules | `(tactic| walk_at "exec While BoolOp") => `(tactic| (refine Stop.at ?_))
local macro_rules | `(tactic| walk_at "exec While") => `(tactic| (refine Stop.at ?_))
local macro_rules | `(tactic| walk_at "exec While BoolOp cons nil") => `(tactic| (refine Stop.at ?_))
/-- dots, then a sign -/
def Dt (p c : Nat) : Str := ⟨(List.replicate p 46 ++ [c]).toArray⟩
theorem Dt_len (p c : Nat) : (Dt p c).length = p + 1 := by simp [Dt, Str.length]
theorem Dt_inj {p c q d : Nat} (h : Dt p c = Dt q d) : p = q ∧ c = d := by
  have h1 : (Dt p c).length = (Dt q d).length := by rw [h]
  rw [Dt_len, Dt_len] at h1
  have : p = q := by omega
  subst this
  unfold Dt at h
  simp at h
  exact ⟨rfl, h⟩

theorem Dt_from {p c k : Nat} (hk : k ≤ p) : Txt.slice (Dt p c) (some (k : Int)) none = Dt (p - k) c := by
  have e : Txt.slice (Dt p c) (some (k : Int)) none = PySem.StrLaws.sliceText (Dt p c) (some (k : Int)) (some ((p + 1 : Nat) : Int)) := by
    show PySem.StrLaws.sliceText _ _ _ = _
    unfold PySem.StrLaws.sliceText
    rw [PySem.StrLaws.sliceIdx_none_hi, Dt_len]
  rw [e, PySem.StrLaws.sliceText_nat _ (by omega) (by rw [Dt_len]; omega)]
  unfold Dt
  congr 2
  rw [List.take_of_length_le (by simp <;> omega)]
  simp [List.drop_append, show k - p = 0 by omega]
theorem Dt_all {p c : Nat} : Txt.slice (Dt p c) none none = Dt p c := by
  have e : Txt.slice (Dt p c) none none = PySem.StrLaws.sliceText (Dt p c) (some ((0 : Nat) : Int)) (some ((p + 1 : Nat) : Int)) := by
    show PySem.StrLaws.sliceText _ _ _ = _
    unfold PySem.StrLaws.sliceText
    rw [PySem.StrLaws.sliceIdx_none_hi, PySem.StrLaws.sliceIdx_none_lo, Dt_len]; rfl
  rw [e, PySem.StrLaws.sliceText_nat _ (by omega) (by rw [Dt_len]; omega)]
  unfold Dt
  congr 2
  rw [List.take_of_length_le (by simp)]
  simp
def sgn (c : Nat) : Str := ⟨#[c]⟩
theorem sgn_inj {a b : Nat} (h : (sgn a == sgn b) = true) : a = b := by
  have : sgn a = sgn b := by simpa using h
  unfold sgn at this
  simpa using this
theorem Dt_item {p c k : Nat} (hk : k ≤ p) : Txt.item (Dt p c) (k : Int) = sgn (if k < p then 46 else c) := by
  unfold Txt.item Txt.charAt sgn
  have e : seqIndex? (k : Int) (Dt p c).length = some k := by
    unfold seqIndex?
    rw [Dt_len]
    simp; omega
  rw [e]
  congr 2
  simp only [Option.bind_some, Dt]
  by_cases h : k < p
  · simp [h, List.getElem?_append]
  · have : k = p := by omega
    subst this
    simp [List.getElem?_append]
theorem Dt_last {p c : Nat} : Txt.item (Dt p c) (-1) = sgn c := by
  unfold Txt.item Txt.charAt sgn
  have e : seqIndex? (-1) (Dt p c).length = some p := by
    unfold seqIndex?
    rw [Dt_len]
    simp
    omega
  rw [e]
  congr 2
  simp [Dt, List.getElem?_append]

theorem whileX {prog : Program} {w : World} {A : Around} {env : Env} {s : Shared} {E : Value → Shared → Prop} {test : Expr} {body : List Stmt} {pos : Pos} {Q : Flow → Shared → Prop} (I : Nat → Shared → Prop) (X : Shared → Prop)
    (turn : ∀ n s, I n s → wpAny (model prog w) A (isTrue test env (eval test env)) (fun b s₂ =>
        if b then wpAny (model prog w) A (execs body env) (fun f s₃ => match f with
            | .next | .cont => End (∃ m, m < n ∧ I m s₃)
            | .brk => Q .next s₃
            | .ret v => Q (.ret v) s₃) Never s₂
        else End (X s₂)) Never s)
    (n : Nat) (h : I n s) (done : ∀ s', X s' → Q .next s') : wpAny (model prog w) A (exec (.While test body [] pos) env) Q E s := by
  refine while_ I (fun n s hI => wpAny_mono (turn n s hI) (fun b s₂ h₂ => ?_) fun _ _ e => e) n h
  cases b with
  | true => exact h₂
  | false => exact done _ h₂.out
section
variable {prog : Program} {w : World} {A : Around} {E : Value → Shared → Prop} {s : Shared} {h₀ : Heap} {L : Addr} {m : Str → Option Value} {news : List (Addr × Obj)} {value slice : Expr} {p c k : Nat} {t ui : Tok}
theorem dt_from {Q : Value → Shared → Prop} (hF : Fr h₀ L s.heap m) (hN : News h₀ L s.heap news) (hk : k ≤ p) (hp : p ≤ 1000) (h : ∀ h' t' n, Fr h₀ L h' m → News h₀ L h' news → Q (.str (Dt (p - k) c) t') { s with heap := h', toks := n })
    (hs : subscripted slice false (.str (Dt p c) t) (.ref s.heap.objs.size) = operate [.ref s.heap.objs.size, .str (Dt p c) t] (getItem (.str (Dt p c) t) (.ref s.heap.objs.size)) := by with_unfolding_all rfl)
    (ht : ∀ r, letTemporaryGo value (.str (Dt p c) t) r = pure () := by intro _; with_unfolding_all rfl) :
    wpAny (model prog w) A (subscriptTail value slice (.str (Dt p c) t) (.ref s.heap.objs.size)) Q E { s with heap := s.heap.push { cls := .type "slice", data := .fields #[.int k ui, .none, .none] } } :=
  slice_strN_sn hF hN (fun h' t' n a b => by rw [Dt_from hk]; exact h h' t' n a b) hs ht (by rw [Dt_len, sizeLine_eq]; omega)
theorem dt_all {Q : Value → Shared → Prop} (hF : Fr h₀ L s.heap m) (hN : News h₀ L s.heap news) (hp : p ≤ 1000) (h : ∀ h' t' n, Fr h₀ L h' m → News h₀ L h' news → Q (.str (Dt p c) t') { s with heap := h', toks := n })
    (hs : subscripted slice false (.str (Dt p c) t) (.ref s.heap.objs.size) = operate [.ref s.heap.objs.size, .str (Dt p c) t] (getItem (.str (Dt p c) t) (.ref s.heap.objs.size)) := by with_unfolding_all rfl)
    (ht : ∀ r, letTemporaryGo value (.str (Dt p c) t) r = pure () := by intro _; with_unfolding_all rfl) :
    wpAny (model prog w) A (subscriptTail value slice (.str (Dt p c) t) (.ref s.heap.objs.size)) Q E { s with heap := s.heap.push { cls := .type "slice", data := .fields #[.none, .none, .none] } } :=
  slice_strN_nn hF hN (fun h' t' n a b => by rw [Dt_all]; exact h h' t' n a b) hs ht (by rw [Dt_len, sizeLine_eq]; omega)
theorem dt_true {Q : Bool → Shared → Prop} (hp : p ≤ 1000) (h : Q true { s with toks := s.toks + 1 + 1 }) : wpAny (model prog w) A (PySem.truthy (.str (Dt p c) t)) Q E s :=
  SBL.truthy (by rw [Dt_len]; omega) (by rw [Dt_len]; have : (((p + 1 : Nat) : Int) != 0) = true := by simp; omega
                                         rw [this]; exact h)
theorem dt_len {Q : Value → Shared → Prop} (hp : p ≤ 1000) (h : ∀ t' n, Q (.int ((p : Int) + 1) t') { s with toks := n }) : wpAny (model prog w) A (call (.builtin "len") [.str (Dt p c) t]) Q E s :=
  SBL.len (by rw [Dt_len]; omega) (by rw [Dt_len]; exact h _ _)
theorem dt_item {Q : Value → Shared → Prop} (hk : k ≤ p) (hp : p ≤ 1000) (h : Q (.str (sgn (if k < p then 46 else c)) s.toks) { s with toks := s.toks + 1 })
    (hs : subscripted slice false (.str (Dt p c) t) (.int k ui) = operate [.str (Dt p c) t, .int k ui] (getItem (.str (Dt p c) t) (.int k ui)) := by with_unfolding_all rfl)
    (ht : ∀ r, letTemporaryGo value (.str (Dt p c) t) r = pure () := by intro _; with_unfolding_all rfl) :
    wpAny (model prog w) A (subscriptTail value slice (.str (Dt p c) t) (.int k ui)) Q E s :=
  item_str (fitsSsize_of (N := 9223372036854775808) (by omega) (by omega) (Int.le_refl _)) (by omega) (by rw [Dt_len]; omega) (fun _ => by rw [Dt_item hk]; exact h) hs ht
theorem dt_last {Q : Value → Shared → Prop} {i : Int} (hi : i = -1) (h : Q (.str (sgn c) s.toks) { s with toks := s.toks + 1 })
    (hs : subscripted slice false (.str (Dt p c) t) (.int i ui) = operate [.str (Dt p c) t, .int i ui] (getItem (.str (Dt p c) t) (.int i ui)) := by with_unfolding_all rfl)
    (ht : ∀ r, letTemporaryGo value (.str (Dt p c) t) r = pure () := by intro _; with_unfolding_all rfl) :
    wpAny (model prog w) A (subscriptTail value slice (.str (Dt p c) t) (.int i ui)) Q E s := by
  subst hi
  exact item_str (by decide) (by rw [Dt_len]; omega) (by rw [Dt_len]; omega) (fun _ => by rw [Dt_last]; exact h) hs ht
end
local macro_rules | `(tactic| walk_at "truthy str") => `(tactic| (k_here; (with_reducible show wpAny _ _ (PySem.truthy (Value.str (Dt _ _) _)) _ _ _); (refine dt_true (by omega) ?_)))
theorem subst_use {x y : Str} {u v : Tok} {pp : Program} {loose : List Str} {mean : ExcName → Option Value} {mg mb : Str → Option Value} {cost : Int} {Q : Value → Shared → Prop} (F : Fr h₀ L s.heap m) (N : News h₀ L s.heap news) (X : (hd.heap_39 w.params).In h₀) (T : Top pp loose mean mg mb h₀)
    (hdp : A.depth + 2 < recursionLimit) (hu : A.units + 20 < cLine) (hh : A.handled = none) (hx : x.length ≤ 9) (hy : y.length ≤ 9) (hc : subCost x y = cost)
    (h : ∀ t h' tk', Fr h₀ L h' m → News h₀ L h' news → Q (.int cost t) { s with heap := h', toks := tk' }) :
    wpAny (model Challenge.rw_pg0099_01.row.prog w) A (call (.ref 83) [.str x u, .str y v]) Q E s := by
  subst hc
  refine wpAny_mono (subst_spec (E := Never) (X.keeps F.keep) (T.keeps F.keep) hdp hu hh hx hy) ?_ fun _ _ e => e.elim
  intro v s' hG1
  refine hideGoal fun XX kX => ?_
  obtain ⟨⟨t, rfl⟩, ⟨h', tk', rfl, hk⟩⟩ := hG1
  refine kX ?_
  clear kX XX
  exact h t h' tk' (fr_keeps F hk) (news_keeps N hk)
theorem execCut {prog : Program} {w : World} {A : Around} {env : Env} {s : Shared} {E : Value → Shared → Prop} {st : Stmt} {Q : Flow → Shared → Prop} (Mid : Shared → Prop)
    (h1 : wpAny (model prog w) A (exec st env) (fun f s' => End (f = .next ∧ Mid s')) Never s) (h2 : ∀ s', Mid s' → Q .next s') : wpAny (model prog w) A (exec st env) Q E s := by
  refine wpAny_mono h1 (fun f s' h => ?_) fun _ _ e => e.elim
  have h3 := End.out h
  obtain ⟨e, h4⟩ := h3
  subst e
  exact h2 _ h4
theorem list_two {Q : Value → Shared → Prop} {r : Addr} {b : Int} {u v : Tok} (hh : A.handled = none) (F : Fr h₀ L s.heap m) (N : News h₀ L s.heap news) (hr : IsRange s.heap r 2 b 2 t u v) (hb : b = 4)
    (h : ∀ D us c h' tk, Fr h₀ L h' m → News h₀ L h' ((D, listOf (List.toArray us) c) :: news) → (∀ p ∈ news, p.1 < D) → IntsAre us [2] → Q (.ref D) { s with heap := h', toks := tk }) :
    wpAny (model prog w) A (call (.type "list") [.ref r]) Q E s := by
  subst hb
  refine call_list_range (n := 1) hh hr (by decide) (by decide) (by decide) fun h' tk acc c hk hD hI => ?_
  have h1 : acc.size = 1 := hI.1
  obtain ⟨tt, ht⟩ := hI.2 0 acc[0] (by simp [h1])
  have : acc = #[.int 2 tt] := by
    apply Array.ext
    · simp [h1]
    · intro i h2 h3
      have : i = 0 := by omega
      subst this
      rw [ht]; rfl
  subst this
  exact h _ [.int 2 tt] c h' tk (F.keeps hk) (news_pushed F N hk hD rfl) (fun p hp => Heap.lt_size (N p hp).1) (.cons _ _ .nil)
local macro_rules | `(tactic| walk_at "call type:list") => `(tactic| (k_here; (with_reducible show wpAny _ _ (call (Value.type _) [Value.ref _]) _ _ _); (with_reducible rename IsRange _ _ _ _ _ _ _ _ => rgX); (with_unfolding_all refine' list_two ?k0 ?k1 ?k2 ?k3 ?k4 ?_; (case k0 => rfl); (case k1 => k_asm); (case k2 => k_asm); (case k3 => exact rgX); (case k4 => omega)); intro D' t' c' h' tk' F' N' l1 hI'; (clear rgX); (try k_lt l1); (try k_sweep)))
local macro_rules | `(tactic| walk_at "exec If") => `(tactic| (k_here; (with_reducible show wpAny _ _ (exec (Stmt.If _ [Stmt.Assign [Expr.Tuple _ _ _] _ _] _ _) _) _ _ _); (fail_if_success (with_reducible show wpAny _ _ _ (fun _ _ => End _) _ _)); (refine Stop.at ?_)))
local macro_rules | `(tactic| walk_at "exec For Name Call cons nil") => `(tactic| (k_dflt (refine forW ?_)))
local macro_rules | `(tactic| walk_at "setItem ref int") => `(tactic| (refine Stop.at ?_))
local macro_rules | `(tactic| walk_at "call builtin:len") => `(tactic| (k_here; (with_reducible show wpAny _ _ (call _ [Value.str (Dt _ _) _]) _ _ _); (refine dt_len (by omega) ?_); intro _ _))
local macro_rules | `(tactic| walk_at "subscriptTail Name Name str int") => `(tactic| (k_here; (with_reducible show wpAny _ _ (subscriptTail _ _ (Value.str (Dt _ _) _) (Value.int _ _)) _ _ _); (with_unfolding_all refine' dt_item ?k1 ?k2 ?_; (case k1 => omega); (case k2 => omega))))
local macro_rules | `(tactic| walk_at "subscriptTail Name BinOp str int") => `(tactic| (k_here; (with_reducible show wpAny _ _ (subscriptTail _ _ (Value.str (Dt _ _) _) (Value.int _ _)) _ _ _); (with_unfolding_all refine' dt_last ?k1 ?_; (case k1 => omega))))
local macro_rules | `(tactic| walk_at "subscriptTail") => `(tactic| (k_here; (with_reducible show wpAny _ _ (subscriptTail _ (Expr.Slice _ _ _ _) (Value.str (Dt _ _) _) (Value.ref _)) _ _ _); (with_reducible rename Fr _ _ _ _ => F'); (with_reducible rename News _ _ _ _ => N'); first
  | (refine' dt_from (s := ⟨_, _, _, _, _⟩) F' N' ?k1 ?k2 ?_; (case k1 => omega); (case k2 => omega))
  | (refine' dt_all (s := ⟨_, _, _, _, _⟩) F' N' ?k2 ?_; (case k2 => omega))); (clear F' N'); intro _ _ _ F' N'; (try k_sweep))
local macro_rules | `(tactic| walk_at "subscriptTail Name Slice str ref") => `(tactic| (k_here; (with_reducible show wpAny _ _ (subscriptTail _ (Expr.Slice _ _ _ _) (Value.str (Dt _ _) _) (Value.ref _)) _ _ _); (with_reducible rename Fr _ _ _ _ => F'); (with_reducible rename News _ _ _ _ => N'); first
  | (refine' dt_from (s := ⟨_, _, _, _, _⟩) F' N' ?k1 ?k2 ?_; (case k1 => omega); (case k2 => omega))
  | (refine' dt_all (s := ⟨_, _, _, _, _⟩) F' N' ?k2 ?_; (case k2 => omega))); (clear F' N'); intro _ _ _ F' N'; (try k_sweep))

theorem min_step (i cost r : Int) (h1 : 1 ≤ cost) (h2 : cost ≤ 2) (hr : r = 2 * i ∨ (i = 0 ∧ r = 2)) : (if 2 * i + cost < (if r < 2 * i then r else 2 * i) + 2 then 2 * i + cost else (if r < 2 * i then r else 2 * i) + 2) = 2 * i + cost := by
  have e : (if r < 2 * i then r else 2 * i) = 2 * i := by
    rcases hr with rfl | ⟨rfl, rfl⟩
    · split <;> rfl
    · rfl
  rw [e]
  split <;> omega
/-- what the loops and cuts of _levenshtein_distance keep -/
inductive LW1 (s : Shared) (p q c d : Nat) (u v tm : Tok) (mc : Int) (o : Nat) (s' : Shared) : Prop
  | mk (h' : Heap) (tk' : Nat) (m' : Str → Option Value) (k : Nat) (tt : Tok) (e : s' = { s with heap := h', toks := tk' }) (F : Fr s.heap s.heap.objs.size h' m') (N : News s.heap s.heap.objs.size h' [])
    (ga : m' "a" = some (.str (Dt p c) u)) (gb : m' "b" = some (.str (Dt q d) v)) (gm : m' "max_cost" = some (.int mc tm)) (gp : m' "pre" = some (.int k tt)) (h1 : k ≤ p) (h2 : k ≤ q) (h3 : o = p - k)
inductive LW1e (s : Shared) (p q c d : Nat) (u v tm : Tok) (mc : Int) (s' : Shared) : Prop
  | mk (h' : Heap) (tk' : Nat) (m' : Str → Option Value) (k : Nat) (tt : Tok) (e : s' = { s with heap := h', toks := tk' }) (F : Fr s.heap s.heap.objs.size h' m') (N : News s.heap s.heap.objs.size h' [])
    (ga : m' "a" = some (.str (Dt p c) u)) (gb : m' "b" = some (.str (Dt q d) v)) (gm : m' "max_cost" = some (.int mc tm)) (gp : m' "pre" = some (.int k tt)) (h3 : k = min p q)
inductive LW2 (s : Shared) (p q c d : Nat) (tm : Tok) (mc : Int) (s' : Shared) : Prop
  | mk (h' : Heap) (tk' : Nat) (m' : Str → Option Value) (u v tt : Tok) (e : s' = { s with heap := h', toks := tk' }) (F : Fr s.heap s.heap.objs.size h' m') (N : News s.heap s.heap.objs.size h' [])
    (ga : m' "a" = some (.str (Dt p c) u)) (gb : m' "b" = some (.str (Dt q d) v)) (gm : m' "max_cost" = some (.int mc tm)) (gp : m' "post" = some (.int 0 tt))
inductive LCut (s : Shared) (n : Nat) (tm : Tok) (mc : Int) (s' : Shared) : Prop
  | mk (h' : Heap) (tk' : Nat) (m' : Str → Option Value) (x y : Nat) (u v : Tok) (e : s' = { s with heap := h', toks := tk' }) (F : Fr s.heap s.heap.objs.size h' m') (N : News s.heap s.heap.objs.size h' [])
    (ga : m' "a" = some (.str (Dt 0 x) u)) (gb : m' "b" = some (.str (Dt n y) v)) (gm : m' "max_cost" = some (.int mc tm)) (k1 : subCost (sgn y) (sgn x) = 1) (k2 : subCost (sgn 46) (sgn x) = 2)
inductive LOut (x y n : Nat) (u v tm : Tok) (mc : Int) (i : Nat) (m' : Str → Option Value) (news' : List (Addr × Obj)) : Prop
  | mk (ga : m' "a" = some (.str (Dt 0 x) u)) (gb : m' "b" = some (.str (Dt n y) v)) (gm : m' "max_cost" = some (.int mc tm)) (D : Addr) (r : Int) (its : List Value) (c : Nat) (t : Tok) (hi : IntsAre its [r]) (gr : m' "row" = some (.ref D)) (e : news' = [(D, listOf its.toArray c)])
    (gs : m' "result" = some (.int (if i ≤ n then 2 * i else 2 * n + 1) t)) (hr : i ≤ n → r = if i = 0 then 2 else 2 * i)
inductive LIn (x y n : Nat) (u v tm : Tok) (mc r : Int) (i : Nat) (I D : Addr) (oI : Obj) (j : Nat) (m' : Str → Option Value) (news' : List (Addr × Obj)) : Prop
  | mk (ga : m' "a" = some (.str (Dt 0 x) u)) (gb : m' "b" = some (.str (Dt n y) v)) (gm : m' "max_cost" = some (.int mc tm)) (r' dd rr mm : Int) (its : List Value) (c : Nat) (t1 t2 t3 t4 : Tok) (hi : IntsAre its [r']) (gr : m' "row" = some (.ref D)) (e : news' = [(I, oI), (D, listOf its.toArray c)])
    (gs : m' "result" = some (.int rr t1)) (gd : m' "distance" = some (.int dd t2)) (gn : m' "minimum" = some (.int mm t3)) (gb' : m' "bchar" = some (.str (sgn (if i < n then 46 else y)) t4))
    (h0 : j = 0 → r' = r ∧ dd = 2 * i ∧ rr = 2 * i ∧ mm = 9223372036854775807) (h1 : j = 1 → r' = rr ∧ mm = rr ∧ rr = if i < n then 2 * i + 2 else 2 * i + 1)
theorem lev_spec {w : World} {A : Around} {E : Value → Shared → Prop} {s : Shared} {P : Program} {loose : List Str} {mean : ExcName → Option Value} {mg mb : Str → Option Value}
  {p q c d n : Nat} {u v : Tok} {mc : Int} {tm : Tok}
  (X : (hd.heap_39 w.params).In s.heap) (T : Top P loose mean mg mb s.heap) (hdp : A.depth + 4 < recursionLimit) (hu : A.units + 30 < cLine) (hh : A.handled = none) (hp : p ≤ 20) (hq : q ≤ 20)
  (hcd : c ≠ d) (hc : c ≠ 46) (hdd : d ≠ 46) (hs1 : subCost (sgn c) (sgn d) = 1) (hs2 : subCost (sgn d) (sgn c) = 1) (hs3 : subCost (sgn 46) (sgn c) = 2) (hs4 : subCost (sgn 46) (sgn d) = 2) (hn : (p = q + n ∧ 0 < n) ∨ q = p + n) (hmc : mc = 2 * n + 1)
  : wpAny (model Challenge.rw_pg0099_01.row.prog w) A (call (.ref 90) [.str (Dt p c) u, .str (Dt q d) v, .int mc tm]) (fun v s' => End ((∃ t, v = .int mc t) ∧ Keeps s s')) E s := by
  obtain ⟨ha, dp, fr, gd, un⟩ := A
  have hh' : ha = none := hh
  subst hh'
  dsimp only at hdp hu
  refine enter (K := hd.heap_39 w.params) (w := w) [("a", .str (Dt p c) u), ("b", .str (Dt q d) v), ("max_cost", .int mc tm)] X T.nolimit (by k_is) (by k_is) (show dp < recursionLimit by omega) (BindsTo.of_eq rfl) (locs rfl) (fun h₁ F => ?_) rfl rfl rfl (by decide)
  have N : News s.heap s.heap.objs.size h₁ [] := News.nil
  repeat' walk1
  · exfalso
    rename (_ == _) = true => q1
    have := (Dt_inj (by simpa using q1)).2
    exact hcd this
  refine Stop.go ?_
  rename Fr _ _ _ _ => F2
  rename News _ _ _ _ => N2
  refine whileX (LW1 s p q c d u v tm mc) (LW1e s p q c d u v tm mc) ?_ p
      ⟨_, _, _, 0, _, rfl, F2, N2, rfl, rfl, rfl, rfl, by omega, by omega, by omega⟩ ?_
  · clear F2 N2
    intro o s' hG1
    refine hideGoal fun XX kX => ?_
    obtain ⟨h', tk', m', k, tt, rfl, F4, N4, g1, g2, g3, g4, hkp, hkq, rfl⟩ := hG1
    refine kX ?_
    clear kX XX
    repeat' walk1
    · rename Fr _ _ _ _ => F9
      rename News _ _ _ _ => N9
      rename (sgn _ == sgn _) = true => q1
      have q2 := sgn_inj q1
      have q3 : k < p ∧ k < q := by
        by_cases h1 : k < p <;> by_cases h2 : k < q
        · exact ⟨h1, h2⟩
        · rw [if_pos h1, if_neg h2] at q2; exact absurd q2.symm hdd
        · rw [if_neg h1, if_pos h2] at q2; exact absurd q2 hc
        · rw [if_neg h1, if_neg h2] at q2; exact absurd q2 hcd
      exact End.mk ⟨p - (k + 1), by omega, _, _, _, k + 1, _, rfl, F9, N9, g1, g2, g3, rfl, by omega, by omega, rfl⟩
    · rename Fr _ _ _ _ => F9
      rename News _ _ _ _ => N9
      rename (sgn _ == sgn _) = false => q1
      refine End.mk ⟨_, _, _, k, _, rfl, F9, N9, g1, g2, g3, g4, ?_⟩
      by_cases h1 : k < p <;> by_cases h2 : k < q
      · rw [if_pos h1, if_pos h2] at q1; simp at q1
      all_goals omega
  · clear F2 N2
    intro s' hG1
    refine hideGoal fun XX kX => ?_
    obtain ⟨h', tk', m', k, tt, rfl, F4, N4, g1, g2, g3, g4, hk⟩ := hG1
    refine kX ?_
    clear kX XX
    have hkp : k ≤ p := by omega
    have hkq : k ≤ q := by omega
    repeat' walk1
    refine Stop.go ?_
    rename Fr _ _ _ _ => F2
    rename News _ _ _ _ => N2
    refine whileX (fun _ => LW2 s (p - k) (q - k) c d tm mc) (LW2 s (p - k) (q - k) c d tm mc) ?_ 0
      ⟨_, _, _, _, _, _, rfl, F2, N2, rfl, rfl, g3, rfl⟩ ?_
    · clear F2 N2 g1 g2 g3 g4
      intro o s' hG1
      refine hideGoal fun XX kX => ?_
      obtain ⟨h', tk', m', u, v, tt, rfl, F4, N4, g1, g2, g3, g4⟩ := hG1
      refine kX ?_
      clear kX XX
      repeat' walk1
      · rename (sgn _ == sgn _) = true => q1
        exact absurd (sgn_inj q1) hcd
      · rename Fr _ _ _ _ => F9
        rename News _ _ _ _ => N9
        exact End.mk ⟨_, _, _, _, _, _, rfl, F9, N9, g1, g2, g3, g4⟩
    · clear F2 N2 g1 g2 g3 g4
      intro s' hG1
      refine hideGoal fun XX kX => ?_
      obtain ⟨h', tk', m', u, v, tt, rfl, F4, N4, g1, g2, g3, g4⟩ := hG1
      refine kX ?_
      clear kX XX
      repeat' walk1
      refine Stop.go ?_
      rename Fr _ _ _ _ => F2
      rename News _ _ _ _ => N2
      refine execCut (LCut s n tm mc) ?_ ?_
      · repeat' walk1
        · rename Fr _ _ _ _ => F9
          rename News _ _ _ _ => N9
          have e1 : q - k = 0 := by omega
          have e2 : p - k = n := by omega
          rw [e1, e2] at F9
          exact End.mk ⟨rfl, _, _, _, d, c, _, _, rfl, F9, News.nil, rfl, rfl, g3, hs1, hs4⟩
        · rename Fr _ _ _ _ => F9
          rename News _ _ _ _ => N9
          have e1 : p - k = 0 := by omega
          have e2 : q - k = n := by omega
          rw [e1, e2] at F9
          exact End.mk ⟨rfl, _, _, _, c, d, _, _, rfl, F9, News.nil, rfl, rfl, g3, hs2, hs3⟩
      · clear F2 N2 g1 g2 g3 g4
        intro s' hG1
        refine hideGoal fun XX kX => ?_
        obtain ⟨h', tk', m', x, y, u, v, rfl, F4, N4, g1, g2, g3, k1, k2⟩ := hG1
        refine kX ?_
        clear kX XX
        repeat' walk1
        rename IsRange _ _ _ _ _ _ _ _ => hrg
        rename Fr _ _ _ _ => F2
        rename News _ _ _ _ => N2
        have e1 : ((n : Int) + 1) = ((n + 1 : Nat) : Int) := by omega
        rw [e1] at hrg
        refine iterRange hrg (by omega) hh F2 N2 (LOut x y n u v tm mc) ⟨g1, g2, g3, _, 2, _, _, _, by assumption, rfl, rfl, by rw [if_pos (Nat.zero_le _)]; rfl, fun _ => rfl⟩ ?_ ?_
        · intro i tt m₁ news₁ h tk I oI hin hG1 ho hIs F1 N1
          refine hideGoal fun XX kX => ?_
          obtain ⟨g1, g2, g3, D, r, its, c, t, hil, g4, rfl, g5, hr⟩ := hG1
          refine kX ?_
          clear kX XX
          clear hrg F2 N2
          repeat' walk1
          rename IsRange _ _ _ _ _ _ _ _ => hrg
          rename Fr _ _ _ _ => F2
          rename News _ _ _ _ => N2
          have e1 : (((0 : Nat) : Int) + 1) = ((1 : Nat) : Int) := by omega
          rw [e1] at hrg
          have hin' : i ≤ n := by omega
          rw [if_pos hin'] at g5
          have hr := hr hin'
          refine iterRange hrg (by omega) hh F2 N2 (LIn x y n u v tm mc r i I D oI)
            ⟨g1, g2, g3, r, _, _, _, _, _, _, _, _, _, hil, g4, rfl, rfl, rfl, rfl, rfl, ?_, fun e => absurd e (by decide)⟩ ?_ ?_
          · intro _; exact ⟨rfl, by omega, by omega, rfl⟩
          · intro j tj m₁ news₁ h tk J oJ hj1 hG1 ho2 hJs F3 N3
            refine hideGoal fun XX kX => ?_
            obtain ⟨g1, g2, g3, r', dd, rr, mm, it2, c2, t1, t2, t3, t4, hil2, q1, rfl, q2, q3, q4, q5, q6, q7⟩ := hG1
            refine kX ?_
            clear kX XX
            clear hrg F2 N2
            have hj0 : j = 0 := by omega
            subst hj0
            obtain ⟨rfl, rfl, rfl, rfl⟩ := q6 rfl
            have hDI := neN (a := D) (b := I) (ho _ (List.mem_singleton.mpr rfl))
            have hDJ := neN (a := D) (b := J) (ho2 _ (.tail _ (.head _)))
            clear q6 q7
            have hcost : subCost (sgn (if i < n then 46 else y)) (sgn (if 0 < 0 then 46 else x)) = if i < n then 2 else 1 := by
              rw [if_neg (Nat.lt_irrefl 0)]
              split
              · exact k2
              · exact k1
            repeat' walk1
            rename Fr _ _ _ _ => F5
            rename News _ _ _ _ => N5
            refine subst_use F5 N5 X T (by dsimp only [Around.deeper]; omega) (by dsimp only [Around.deeper]; omega) rfl (Nat.le_of_ble_eq_true rfl) (Nat.le_of_ble_eq_true rfl) hcost ?_
            clear F5 N5
            intro t' h' tk' F' N'
            generalize hge : (if i < n then (2 : Int) else 1) = cost
            repeat' walk1
            refine Stop.go ?_
            rename Fr _ _ _ _ => F5
            rename News _ _ _ _ => N5
            have hv : (if 2 * (i:Int) + cost < (if [r'].getD ((0:Nat):Int).toNat 0 < 2 * (i:Int) then [r'].getD ((0:Nat):Int).toNat 0 else 2 * (i:Int)) + 2 then 2 * (i:Int) + cost else (if [r'].getD ((0:Nat):Int).toNat 0 < 2 * (i:Int) then [r'].getD ((0:Nat):Int).toNat 0 else 2 * (i:Int)) + 2) = 2 * (i : Int) + cost := by
              have hc2 : cost ≤ 2 ∧ 1 ≤ cost := by rw [← hge]; split <;> omega
              refine min_step i cost r' hc2.2 hc2.1 ?_
              rw [hr]
              by_cases hi0 : i = 0
              · right; rw [if_pos hi0]; omega
              · left; rw [if_neg hi0]; omega
            rw [hv] at F5
            rw [hv]
            refine' ksa_set (vs := it2) (n := c2) F5 N5 ?U hil2 (by decide) (by simp) (by decide) ?_
            case U => k_upd
            clear F5 N5
            intro h' F' N' hil' _ _
            repeat' walk1
            rename Fr _ _ _ _ => F9
            rename News _ _ _ _ => N9
            refine End.mk (TurnEnd.mk F9 N9 ?_ ⟨g1, g2, g3, 2 * i + cost, _, 2 * i + cost, 2 * i + cost, _, _, _, _, _, _, hil', q1, rfl, rfl, rfl, rfl, q5, fun e => absurd e (by decide), fun _ => ⟨rfl, rfl, ?_⟩⟩)
            · intro p hp
              rcases List.mem_cons.mp hp with rfl | hp
              · exact ho2 _ (.head _)
              · rw [List.mem_singleton.mp hp]; exact hDJ
            · rw [← hge]; split <;> rfl
          · intro m' news' h tk hG1 F' N'
            refine hideGoal fun XX kX => ?_
            obtain ⟨g1, g2, g3, r', dd, rr, mm, it2, c2, t1, t2, t3, t4, hil2, q1, rfl, q2, q3, q4, q5, q6, q7⟩ := hG1
            refine kX ?_
            clear kX XX
            obtain ⟨hra, hrb, hrr⟩ := q7 rfl
            subst hra
            subst hrb
            clear hrg F2 N2 q6 q7
            have hle : mm ≤ mc := by rw [hrr, hmc]; split <;> omega
            repeat' walk1
            · rename Fr _ _ _ _ => F9
              rename News _ _ _ _ => N9
              refine End.mk (TurnEnd.mk F9 N9 ?_ ⟨g1, g2, g3, D, mm, it2, c2, t1, hil2, q1, rfl, ?_, ?_⟩)
              · intro p hp
                rw [List.mem_singleton.mp hp]; exact ho (D, listOf its.toArray c) (List.mem_singleton.mpr rfl)
              · rw [q2, hrr]
                congr 2
                by_cases h1 : i < n
                · rw [if_pos h1, if_pos (by omega)]; omega
                · rw [if_neg h1, if_neg (by omega)]; omega
              · intro h1
                rw [hrr, if_pos (by omega), if_neg (by omega)]; omega
        · intro m' news' h tk hG1 F' N'
          refine hideGoal fun XX kX => ?_
          obtain ⟨g1, g2, g3, D, r, its, c, t, hil, g4, rfl, g5, hr⟩ := hG1
          refine kX ?_
          clear kX XX
          clear hrg F2 N2
          rw [if_neg (by omega)] at g5
          repeat' walk1
          refine End.mk ⟨int_is hmc.symm, ⟨_, _, rfl, F'.keep⟩⟩
end Mine

namespace Mine
open PySem PySem.W PySem.Calls PySem.Spec PyProof.Rows

theorem enterC {prog : Program} {w : World} {A : Around} {E : Value → Shared → Prop} {s : Shared} {K : Frag} {Q : Value → Shared → Prop} {name qual : Str} {params : Arguments} {body : List Stmt} {scope : Scope} {dV kV doc pm cdv ct oc : Value} {an od : Option Addr} {osl : Array (Option Value)} {f : Addr} {args : List Value} (binds : List (Str × Value))
    (X : K.In s.heap) (hlim : s.heap.NoLimit)
    (ho : K.lookup f = some ⟨oc, od, .func (fnOf name qual params body scope dV kV doc pm an cdv ct), osl⟩) (hcd : codeIn K cdv qual = true) (hroom : A.depth < recursionLimit)
    (hbind : BindsTo s (fnOf name qual params body scope dV kV doc pm an cdv ct) ⟨args, []⟩ binds) (hkind : (binds.all fun y => scope.names.lookup y.1 == some .local || scope.names.lookup y.1 == some .cell) = true)
    (hnd : ((cellsFrom 0 scope.names []).map (·.1)).Nodup)
    (h : ∀ h₁ tk cells, Fr s.heap s.heap.objs.size h₁ (bindL (envOfC qual scope s.heap.objs.size f cdv).kindOf binds fun _ => none) → News s.heap s.heap.objs.size h₁ cells →
      CellsAre (bindC (envOfC qual scope s.heap.objs.size f cdv).kindOf binds fun _ => none) (cellsFrom (s.heap.objs.size + 1) scope.names []) cells →
      wpAny (model prog w) (A.deeper (envOfC qual scope s.heap.objs.size f cdv)) (execs body (envOfC qual scope s.heap.objs.size f cdv))
        (fun fl s' => Q (match fl with | .ret v => v | _ => .none) s')
        (fun _ _ => False)
        { s with heap := h₁, toks := tk })
    (hco : scope.isCoroutine = false) (hgen : scope.isGenerator = false) (hk : scope.kind = .function) : wpAny (model prog w) A (call (.ref f) args) Q E s := by
  refine wpAny_call ?_
  refine codeAny_call_function hroom (X _ _ ho) rfl hco hgen rfl (codeRec_of X hcd) (hbind _ _ _ _ ?_)
  refine wpAny_newFunctionEnv_cells hk (kindsX hkind _) fun env' he s' x => ?_
  subst he
  refine ⟨hlim.keeps x.toInCall.keep, codeAny_func ?_⟩
  obtain ⟨h₁, tk, rfl, _⟩ := x.done
  obtain ⟨cells, NC, Y⟩ := Cl.news (h₀ := s.heap) (Nat.le_refl _) fun n c hm => ⟨x.cell n c (lookup_of_mem_nodup (cellsFrom_names scope.names 0 (s.heap.objs.size + 1) [] [] rfl ▸ hnd) hm), x.above n c hm⟩
  exact wpAny_mono (h h₁ tk cells ⟨x.toInCall.ns, x.toInCall.keep, Nat.le_refl _⟩ NC Y) (fun fl s' q => q) (fun e s' q => q.elim)
end Mine

namespace Mine
open PySem PySem.W PySem.Calls PySem.Spec PyProof.Rows

theorem nameFr {M : Model} {A : Around} {E : Value → Shared → Prop} {s : Shared} {env : Env} {x : Str} {pos : Pos} {v : Value} {Q : Value → Shared → Prop} {h₀ : Heap} {m : Str → Option Value} (F : Fr h₀ env.locals s.heap m) (hv : m x = some v) (h : Q v s)
    (hk : env.scope.kind = .function := by rfl) (hl : env.kindOf x = some .local := by rfl) (hd : (x == ("__debug__" : Str)) = false := by decide) :
    wpAny M A (eval (.Name x pos) env) Q E s := wpAny_Name (wpAny_loadName_local hk hl F.ns hv h) hd
/-- what a list comprehension without a test asks behind its source -/
def CompW (prog : Program) (w : World) (A : Around) (env : Env) (scope : Scope) (cl : List (Str × Addr)) (x : Str) (elt : Expr) (F : Value → Value → Prop) (Q : Value → Shared → Prop) (it : Value) (s₂ : Shared) : Prop :=
  ∃ I fp wr n P St, it = .ref I ∧ Walks prog w A I fp wr n P St ∧ n ≤ sizeLine ∧ St 0 s₂.heap ∧ (∀ b ∈ fp, b < s₂.heap.objs.size) ∧
      QuietOnC prog w A env scope cl x [] elt wr P (fun _ => true) F s₂ ∧
      (∀ D h' tk ys (vs : List Value), s₂.heap.get? D = none → h'.IsList D ys → h'.PlainList D ys → vs.length = n → (∀ j v, vs[j]? = some v → P j v) → Paired F (vs.filter fun _ => true) ys.toList →
        (∀ b o, b ∉ wr → s₂.heap.get? b = some o → h'.get? b = some o) → Q (.ref D) { s₂ with heap := h', toks := tk })

theorem paired_get {α β : Type} {F : α → β → Prop} {l₁ : List α} {l₂ : List β} (h : Paired F l₁ l₂) : l₁.length = l₂.length ∧ ∀ (i : Nat) (b : β), l₂[i]? = some b → ∃ a, l₁[i]? = some a ∧ F a b := by
  induction h with
  | nil => exact ⟨rfl, fun i b e => by simp at e⟩
  | @cons a b l₁ l₂ hab _ ih =>
    refine ⟨by simp [ih.1], fun i c e => ?_⟩
    cases i with
    | zero => simp at e; subst e; exact ⟨a, rfl, hab⟩
    | succ i => simpa using ih.2 i c (by simpa using e)

theorem test_none {M : Model} {A : Around} {E : Value → Shared → Prop} {s : Shared} {env : Env} {Q : Bool → Shared → Prop} (h : Q true s) :
    wpAny M A (forIn ([] : List Expr) true fun c r => if r = true then do let ok ← isTrue c env (eval c env); pure (ForInStep.yield ok) else pure (ForInStep.yield r)) Q E s := by
  simp only [List.forIn_nil]
  exact wpAny_pure h

section
variable {prog : Program} {w : World} {A : Around} {E : Value → Shared → Prop} {env : Env} {s : Shared} {h₀ : Heap} {L : Addr} {m : Str → Option Value} {news : List (Addr × Obj)} {scope : Scope} {cl : List (Str × Addr)} {x : Str} {elt : Expr} {Q : Value → Shared → Prop}

/-- the iterator made, the rest is the elements' -/
theorem compCore {I : Addr} {oI : Obj} {fp : List Addr} {n : Nat} {P : Nat → Value → Prop} {St : Nat → Heap → Prop} (hI : I = s.heap.objs.size) (W : Walks prog w A I fp [I] n P St) (hn : n ≤ sizeLine)
    (hst : St 0 (s.heap.push oI)) (hfp : ∀ b ∈ fp, b < (s.heap.push oI).objs.size) (F : Fr h₀ L s.heap m) (N : News h₀ L s.heap news) (G : Nat → Value → Prop) (FG : Value → Value → Prop)
    (hFG : ∀ i v y, i < n → P i v → FG v y → G i y) (hGF : ∀ i v y, i < n → P i v → G i y → FG v y)
    (turn : ∀ i v C s₃ m₃ E', i < n → P i v → Fr h₀ L s₃.heap m → News h₀ L s₃.heap news → s₃.heap.Ns C m₃ → m₃ x = some v →
      wpAny (model prog w) A (eval elt (compEnvC scope cl C env)) (fun y s₄ => G i y ∧ Keeps s₃ s₄) E' s₃)
    (done : ∀ D h' tk ys nn, Fr h₀ L h' m → News h₀ L h' ((D, listOf ys nn) :: news) → (∀ p ∈ news, p.1 ≠ D) → s.heap.get? D = none → ys.size = n → (∀ i y, ys[i]? = some y → G i y) → (∀ b o, s.heap.get? b = some o → h'.get? b = some o) → Q (.ref D) { s with heap := h', toks := tk }) :
    CompW prog w A env scope cl x elt FG Q (.ref I) { s with heap := s.heap.push oI } := by
  have hlt := F.ns.lt
  have up : ∀ b o, s.heap.get? b = some o → (s.heap.push oI).get? b = some o := fun b o e => Heap.get?_push_of_some _ e
  have nI : ∀ b o, s.heap.get? b = some o → b ∉ [I] := fun b o e hb => by
    rw [List.mem_singleton.mp hb, hI] at e
    exact absurd (Heap.lt_size e) (Nat.lt_irrefl _)
  have frUp : ∀ h' : Heap, (∀ b o, b ∉ [I] → (s.heap.push oI).get? b = some o → h'.get? b = some o) → ∀ b o, s.heap.get? b = some o → h'.get? b = some o := fun h' hk b o e => hk b o (nI b o e) (up b o e)
  refine ⟨I, fp, [I], n, _, St, rfl, W.bound, hn, hst, hfp, ⟨?_, ?_⟩, ?_⟩
  · intro C i v s₃ m₃ E' hC hP hns hm hk htk
    exact test_none ⟨rfl, keeps_refl _⟩
  · intro C i v s₃ m₃ E' hC hP _ hns hm hk htk
    have k3 := frUp _ hk
    exact wpAny_mono (turn i v C s₃ m₃ E' hP.1 hP.2 (fr_keeps F k3) (news_keeps N k3) hns hm) (fun y s₄ h => ⟨hGF i v y hP.1 hP.2 h.1, h.2⟩) fun _ _ e => e
  · intro D h' tk ys vs hD hl hpl hlen hP hpair hk
    have k3 := frUp _ hk
    obtain ⟨nn, hDe⟩ := hpl
    have hD0 : s.heap.get? D = none := by
      cases e : s.heap.get? D with
      | none => rfl
      | some o => rw [up _ _ e] at hD; cases hD
    have pg := paired_get hpair
    have hft : (vs.filter fun _ => true) = vs := by simp
    rw [hft] at pg
    refine done D h' tk ys nn (fr_keeps F k3) ?_ ?_ hD0 ?_ ?_ k3
    · intro p hp
      rcases List.mem_cons.mp hp with rfl | hp
      · refine ⟨hDe, ?_, ?_⟩
        · rintro rfl
          obtain ⟨oL, _, _, hL, _⟩ := F.ns
          rw [hL] at hD0; cases hD0
        · cases e : h₀.get? D with
          | none => rfl
          | some o => rw [F.keep _ _ e] at hD0; cases hD0
      · exact news_keeps N k3 p hp
    · intro p hp e
      rw [← e, (N p hp).1] at hD0; cases hD0
    · have := pg.1
      rw [← Array.length_toList, ← this, hlen]
    · intro i y hy
      obtain ⟨a, ha, hF⟩ := pg.2 i y (by simpa using hy)
      exact hFG i a y (hP i a ha).1 (hP i a ha).2 hF

theorem compRange {r : Addr} {n : Nat} {t u v : Tok} (hr : IsRange s.heap r 0 n 1 t u v) (hn : n < 2 ^ 20) (hh : A.handled = none) (F : Fr h₀ L s.heap m) (N : News h₀ L s.heap news) (G : Nat → Value → Prop)
    (turn : ∀ (i : Nat) tt C s₃ m₃ E', i < n → Fr h₀ L s₃.heap m → News h₀ L s₃.heap news → s₃.heap.Ns C m₃ → m₃ x = some (.int i tt) →
      wpAny (model prog w) A (eval elt (compEnvC scope cl C env)) (fun y s₄ => G i y ∧ Keeps s₃ s₄) E' s₃)
    (done : ∀ D h' tk ys nn, Fr h₀ L h' m → News h₀ L h' ((D, listOf ys nn) :: news) → (∀ p ∈ news, p.1 ≠ D) → s.heap.get? D = none → ys.size = n → (∀ i y, ys[i]? = some y → G i y) → (∀ b o, s.heap.get? b = some o → h'.get? b = some o) → Q (.ref D) { s with heap := h', toks := tk }) :
    wpAny (model prog w) A (pyIter (.ref r)) (fun it s₂ => CompW prog w A env scope cl x elt (fun v y => ∃ (i : Nat) (a : Tok), v = .int i a ∧ G i y) Q it s₂) E s := by
  refine wpAny_pyIter_range hr (small_range n (by omega)) ?_
  have hsz : Builtin.Range.rangeSize 0 n 1 = n := by simp [Builtin.Range.rangeSize]; omega
  have hI : s.heap.objs.size < s.heap.objs.size + 1 := Nat.lt_succ_self _
  refine compCore (G := G) (FG := fun v y => ∃ (i : Nat) (a : Tok), v = .int i a ∧ G i y) rfl (Walks.range hh s.heap.objs.size 0 1 n) (by rw [sizeLine_eq]; omega) ?_ ?_ F N ?_ ?_ ?_ done
  · show IsRangeIter _ _ _ _ _
    rw [hsz]
    simpa using Heap.get?_push_size _ rfl
  · intro b hb
    rw [List.mem_singleton.mp hb, Heap.size_push]; exact hI
  · rintro i v y hi ⟨t, rfl⟩ ⟨j, a, e, g⟩
    have : (0 : Int) + (i : Nat) * 1 = (j : Int) := by injection e
    have hij : i = j := by omega
    rw [hij]; exact g
  · rintro i v y hi ⟨t, rfl⟩ g
    exact ⟨i, t, by congr 1; omega, g⟩
  · rintro i v C s₃ m₃ E' hi ⟨tt, rfl⟩ F3 N3 hns hm
    have : (0 : Int) + (i : Nat) * 1 = (i : Nat) := by omega
    rw [this] at hm
    exact turn i tt C s₃ m₃ E' hi F3 N3 hns hm

theorem compList {l : Addr} {vs : List Value} (hls : s.heap.IsList l vs.toArray) (hn : vs.length < 2 ^ 20) (hh : A.handled = none) (F : Fr h₀ L s.heap m) (N : News h₀ L s.heap news) (G : Nat → Value → Prop) (FG : Value → Value → Prop)
    (hFG : ∀ (i : Nat) v y, vs[i]? = some v → FG v y → G i y) (hGF : ∀ (i : Nat) v y, vs[i]? = some v → G i y → FG v y)
    (turn : ∀ (i : Nat) v C s₃ m₃ E', vs[i]? = some v → Fr h₀ L s₃.heap m → News h₀ L s₃.heap news → s₃.heap.Ns C m₃ → m₃ x = some v →
      wpAny (model prog w) A (eval elt (compEnvC scope cl C env)) (fun y s₄ => G i y ∧ Keeps s₃ s₄) E' s₃)
    (done : ∀ D h' tk ys nn, Fr h₀ L h' m → News h₀ L h' ((D, listOf ys nn) :: news) → (∀ p ∈ news, p.1 ≠ D) → s.heap.get? D = none → ys.size = vs.length → (∀ (i : Nat) y, ys[i]? = some y → G i y) → (∀ b o, s.heap.get? b = some o → h'.get? b = some o) → Q (.ref D) { s with heap := h', toks := tk }) :
    wpAny (model prog w) A (pyIter (.ref l)) (fun it s₂ => CompW prog w A env scope cl x elt FG Q it s₂) E s := by
  refine wpAny_pyIter_list hls ?_
  have hll : l ≠ s.heap.objs.size := by obtain ⟨o, ho, _⟩ := hls; exact Nat.ne_of_lt (Heap.lt_size ho)
  have e : vs.toArray.size = vs.length := by simp
  have eg : ∀ (i : Nat) v, vs.toArray[i]? = some v → vs[i]? = some v := fun i v h => by simpa using h
  refine compCore (G := G) (FG := FG) (n := vs.toArray.size) rfl (Walks.list hh s.heap.objs.size l hll vs.toArray) (by rw [sizeLine_eq]; omega) ?_ ?_ F N (fun i v y _ h => hFG i v y (eg i v h)) (fun i v y _ h => hGF i v y (eg i v h)) (fun i v C s₃ m₃ E' _ h => turn i v C s₃ m₃ E' (eg i v h)) ?_
  · exact ⟨⟨_, Heap.get?_push_size _ rfl, rfl, rfl⟩, hls.push _⟩
  · intro b hb
    rw [Heap.size_push]
    rcases List.mem_cons.mp hb with rfl | hb
    · exact Nat.lt_succ_self _
    · rw [List.mem_singleton.mp hb]
      obtain ⟨o, ho, _⟩ := hls
      exact Nat.lt_succ_of_lt (Heap.lt_size ho)
  · rw [e]; exact done

theorem listComp {iter : Expr} {px pos : Pos} (F : Value → Value → Prop) (hclos : closureFor scope env = pure cl) (hcell : ∀ y ∈ scope.names, y.2 ≠ .cell) (hkind : scope.kind = .function)
    (hnames : ∀ y ∈ scope.names, y.2 = .local → scope.names.lookup y.1 = some .local) (hx : scope.names.lookup x = some .local)
    (h : wpAny (model prog w) A (eval iter env) (fun xv s₁ => wpAny (model prog w) A (pyIter xv) (fun it s₂ => CompW prog w A env scope cl x elt F Q it s₂) E s₁) E s)
    (hs : ∀ x, foldedSetIterable iter env x = pure x := by intro _; rfl) :
    wpAny (model prog w) A (eval (.ListComp elt [⟨.Name x px, iter, [], 0⟩] scope pos) env) Q E s :=
  wpAny_ListComp_free (fun _ => true) F hclos hcell hkind hnames hx h hs
end
end Mine

namespace Mine
open PySem PySem.W PySem.Calls PySem.Spec PyProof.Rows
example : True ∧ True := by
  w_top off
  (try walk1)
  all_goals trivial
example : (∀ P, hd.heap_39 P = hd.heap_39 P) → Challenge.rw_pg0099_01 = Challenge.rw_pg0099_01 := by k_fill; intro _; rfl

/-- how many stand ahead of place i -/
def rankN (sel : List (Nat × Int)) (x : Nat → Nat → Int) (n i : Nat) : Nat := sumN (fun j => if cmpSel sel (x i) (x j) = 1 then 1 else 0) n

/-- what a value holds as a row -/
def rowOf (h : Heap) (v : Value) (k : Nat) : Int :=
  match v with
  | .ref a => match h.get? a with
    | some o => match o.data with
      | .seq xs _ => match xs[k]? with
        | some (.int i _) => i
        | _ => 0
      | _ => 0
    | none => 0
  | _ => 0
theorem RowAt.rowOf {h : Heap} {r : Addr} {x : Nat → Int} (R : RowAt h r x) {k : Nat} (hk : k < 3) : rowOf h (.ref r) k = x k := by
  obtain ⟨u, v, t, o, ho, hc, n, hd⟩ := R
  unfold Mine.rowOf
  simp only [ho, hd]
  match k, hk with
  | 0, _ => rfl
  | 1, _ => rfl
  | 2, _ => rfl
theorem cmpSel_congr : ∀ {sel : List (Nat × Int)} {x y x' y' : Nat → Int}, (∀ p ∈ sel, p.1 < 3) → (∀ k, k < 3 → x k = x' k) → (∀ k, k < 3 → y k = y' k) → cmpSel sel x y = cmpSel sel x' y'
  | [], _, _, _, _, _, _, _ => rfl
  | p :: r, x, y, x', y', hs, hx, hy => by
    have hp := hs p (.head _)
    simp only [cmpSel]
    rw [hx _ hp, hy _ hp, cmpSel_congr (sel := r) (fun q hq => hs q (.tail _ hq)) hx hy]
theorem test_one {M : Model} {A : Around} {E : Value → Shared → Prop} {s : Shared} {c : Expr} {env : Env} {Q : Bool → Shared → Prop} (h : wpAny M A (isTrue c env (eval c env)) Q E s) :
    wpAny M A (forIn [c] true fun c r => if r = true then do let ok ← isTrue c env (eval c env); pure (ForInStep.yield ok) else pure (ForInStep.yield r)) Q E s := by
  simp only [List.forIn_cons, List.forIn_nil, if_true, bind_assoc, pure_bind]
  exact wpAny_bind (wpAny_mono h (fun b s' q => wpAny_pure q) fun _ _ e => e)
theorem compare_useK {w : World} {A : Around} {E : Value → Shared → Prop} {s : Shared} {p : Program} {loose : List Str} {mean : ExcName → Option Value} {mg mb : Str → Option Value} {h₀ : Heap} {L : Addr} {m : Str → Option Value} {news : List (Addr × Obj)}
    {c l r : Addr} {sel : List (Nat × Int)} {x y : Nat → Int} {Q : Value → Shared → Prop} (F : Fr h₀ L s.heap m) (N : News h₀ L s.heap news) (X : (hd.heap_39 w.params).In h₀) (T : Top p loose mean mg mb h₀) (hdp : A.depth + 2 < recursionLimit) (hh : A.handled = none)
    (C : CompAt h₀ c sel) (hsel : ∀ p ∈ sel, p.1 < 3) (hl : RowAt h₀ l x) (hr : RowAt h₀ r y)
    (h : ∀ t h' tk', Fr h₀ L h' m → News h₀ L h' news → (∀ b o, s.heap.get? b = some o → h'.get? b = some o) → Q (.int (cmpSel sel x y) t) { s with heap := h', toks := tk' }) :
    wpAny (model Challenge.rw_pg0099_01.row.prog w) A (call (.ref 52) [.ref c, .ref l, .ref r]) Q E s := by
  refine wpAny_mono (compare_spec (E := Never) (X.keeps F.keep) (T.keeps F.keep) hdp hh (C.keeps F.keep) hsel (hl.keeps F.keep) (hr.keeps F.keep)) ?_ fun _ _ e => e.elim
  intro v s' hG1
  refine hideGoal fun XX kX => ?_
  obtain ⟨⟨t, rfl⟩, ⟨h', tk', rfl, hk⟩⟩ := hG1
  refine kX ?_
  clear kX XX
  exact h t h' tk' (fr_keeps F hk) (news_keeps N hk) hk
local macro_rules | `(tactic| walk_at "eval Name") => `(tactic| (k_here; (with_reducible show wpAny _ _ (eval (Expr.Name _ _) (envOfC _ _ _ _ _)) _ _ _); k_dflt (refine' nameFr ?k1 ?k2 ?_; (case k1 => k_asm); (case k2 => first | exact rfl | assumption))))
local macro_rules | `(tactic| walk_at "eval Name") => `(tactic| (k_here; (with_reducible show wpAny _ _ (eval (Expr.Name _ _) (compEnvC _ _ _ _)) _ _ _); k_dflt (first
  | (refine' ldCellK ?k1 ?k2 ?_; (case k1 => exact rfl); (case k2 => assumption))
  | (refine' ldVarK ?k1 ?k2 ?_; (case k1 => assumption); (case k2 => assumption)))))
local macro_rules | `(tactic| walk_at "getMethod ref") => `(tactic| (k_here; (with_unfolding_all refine' method_cmp ?k1 ?k2 ?k3 ?_; (case k1 => k_asm); (case k2 => k_asm); (case k3 => assumption)); (try dsimp only)))
local macro_rules | `(tactic| walk_at "call ref") => `(tactic| (k_here; (with_reducible show wpAny _ _ (call (Value.ref 52) _) _ _ _); (with_unfolding_all refine' compare_useK ?k1 ?k2 ?k3 ?k4 ?k5 ?k6 ?k7 ?k8 ?k9 ?k10 ?_; (case k1 => k_asm); (case k2 => k_asm); (case k3 => k_asm); (case k4 => k_asm); (case k5 => (dsimp only [Around.deeper]; omega)); (case k6 => rfl); (case k7 => assumption); (case k8 => assumption); (case k9 => assumption); (case k10 => assumption)); intro t' h' tk' F' N' hkeep; (try k_sweep)))
local macro_rules | `(tactic| walk_at "eval ListComp") => `(tactic| (refine Stop.at ?_))
theorem sum_shift (g : Nat → Nat) : ∀ n, sumN g (n + 1) = g 0 + sumN (fun j => g (j + 1)) n
  | 0 => by simp [sumN]
  | n + 1 => by rw [sumN, sum_shift g n, sumN]; omega
theorem filter_sum {α : Type} (q : α → Bool) : ∀ {l : List α} {g : Nat → Nat}, (∀ j v, l[j]? = some v → g j = if q v then 1 else 0) → (l.filter q).length = sumN g l.length
  | [], _, _ => rfl
  | a :: l, g, h => by
    have ih := filter_sum q (l := l) (g := fun j => g (j + 1)) fun j v hv => h (j + 1) v (by simpa using hv)
    have h0 := h 0 a rfl
    rw [List.length_cons, sum_shift, h0, ← ih, List.filter_cons]
    cases q a
    · simp
    · simp; omega
theorem count_rows {h : Heap} {rs : List Addr} {n i : Nat} {x : Nat → Nat → Int} {sel : List (Nat × Int)} (hr : ∀ i r, rs[i]? = some r → RowAt h r (x i)) (hs : ∀ p ∈ sel, p.1 < 3) (hn : rs.length = n) :
    ((rs.map Value.ref).filter fun v => decide (cmpSel sel (x i) (rowOf h v) = 1)).length = rankN sel x n i := by
  unfold rankN
  rw [filter_sum (g := fun j => if cmpSel sel (x i) (x j) = 1 then 1 else 0), List.length_map, hn]
  intro j v hv
  rw [List.getElem?_map] at hv
  obtain ⟨r, hr', rfl⟩ := Option.map_eq_some_iff.mp hv
  rw [cmpSel_congr (x' := x i) hs (fun k _ => rfl) (fun k hk => RowAt.rowOf (hr j r hr') hk)]
  simp
theorem ints_snoc {vs : List Value} {ns : List Int} (h : IntsAre vs ns) (i : Int) (t : Tok) : IntsAre (vs ++ [.int i t]) (ns ++ [i]) := by
  induction h with
  | nil => exact .cons i t .nil
  | cons n u _ ih => exact .cons n u ih
theorem rank_le (sel : List (Nat × Int)) (x : Nat → Nat → Int) (i : Nat) : ∀ n, rankN sel x n i ≤ n
  | 0 => Nat.le_refl _
  | n + 1 => by
    have := rank_le sel x i n
    unfold rankN at this ⊢
    rw [sumN]
    split <;> omega
/-- what the loop of _law_ranks keeps -/
inductive RkI (L2 L1 : Nat) (l : Addr) (o2 : Obj) (sel : List (Nat × Int)) (x : Nat → Nat → Int) (n i : Nat) (m' : Str → Option Value) (news' : List (Addr × Obj)) : Prop
  | mk (ga : m' "records" = some (.ref l)) (D : Addr) (us : List Value) (cc : Nat) (o3 : Obj) (ov : Option Value) (gr : m' "ranks" = some (.ref D)) (e : news' = [(D, listOf us.toArray cc), (L2, o3), (L1, o2)]) (hD : @LT.lt Nat instLTNat L2 D) (hd : o3.data = .cell ov) (hi : IntsAre us ((List.range i).map fun i => (rankN sel x n i : Int)))
theorem ranks_spec {w : World} {A : Around} {E : Value → Shared → Prop} {s : Shared} {p : Program} {loose : List Str} {mean : ExcName → Option Value} {mg mb : Str → Option Value}
  {l c : Addr} {n : Nat} {x : Nat → Nat → Int} {sel : List (Nat × Int)}
  (X : (hd.heap_39 w.params).In s.heap) (T : Top p loose mean mg mb s.heap) (hdp : A.depth + 4 < recursionLimit) (hu : A.units + 20 < cLine) (hh : A.handled = none)
  (R : RowsAt s.heap l n x) (hn : n < 64) (C : CompAt s.heap c sel) (hs : ∀ p ∈ sel, p.1 < 3)
  : wpAny (model Challenge.rw_pg0099_01.row.prog w) A (call (.ref 100) [.ref l, .ref c]) (fun v s' => End ((∃ D vs, v = .ref D ∧ s.heap.get? D = none ∧ s'.heap.PlainList D vs.toArray ∧ IntsAre vs ((List.range n).map fun i => (rankN sel x n i : Int))) ∧ Keeps s s')) E s := by
  obtain ⟨ha, dp, fr, gd, un⟩ := A
  have hh' : ha = none := hh
  subst hh'
  dsimp only at hdp hu
  refine enterC (K := hd.heap_39 w.params) (w := w) [("records", .ref l), ("comp", .ref c)] X T.nolimit (by k_is) (by k_is) (show dp < recursionLimit by omega) (BindsTo.of_eq rfl) (by rfl) (by decide) (fun h₁ tk cells F N Y => ?_) rfl rfl rfl
  obtain ⟨o1, o2, rfl, d1, d2⟩ := Y.two
  repeat walk1
  refine forW ?_
  rename Fr _ _ _ _ => F2
  rename News _ _ _ _ => N2
  obtain ⟨rs, hrs, hl, hr⟩ := id R
  repeat walk1
  refine iterList (vs := rs.map Value.ref) hl hh F2 N2 (RkI (s.heap.objs.size + 1 + 1) (s.heap.objs.size + 1) l o2 sel x n)
     ⟨rfl, _, [], _, o1, _, rfl, rfl, ?_, d1, .nil⟩ ?_ ?_
  · rename (_ < _ ∧ _ < _) => q
    exact q.1
  · intro i v m₁ news₁ h tk I oI hv hG1 ho hIs F1 N1
    refine hideGoal fun XX kX => ?_
    obtain ⟨g1, D, us, cc, o3, ov, g2, rfl, hD, d3, hus⟩ := hG1
    refine kX ?_
    clear kX XX
    clear F2 N2
    rw [List.getElem?_map] at hv
    obtain ⟨r, hri, rfl⟩ := Option.map_eq_some_iff.mp hv
    walk1
    refine stCN (own := [(I, oI), (D, listOf us.toArray cc)]) (rest := [(s.heap.objs.size + 1, o2)]) F1 N1 (by rfl) d3 ?_ ?_ ?_ rfl rfl
    · have q1 : I ≠ s.heap.objs.size + 1 + 1 := fun e => ho _ (.tail _ (.head _)) e.symm
      have q2 : D ≠ s.heap.objs.size + 1 + 1 := Nat.ne_of_gt hD
      intro p hp
      rcases List.mem_cons.mp hp with rfl | hp
      · exact q1
      · rw [List.mem_singleton.mp hp]; exact q2
    · intro p hp
      rw [List.mem_singleton.mp hp]
      exact Nat.ne_of_lt (Nat.lt_succ_self _)
    clear F1 N1
    intro h o3' F1 N1 d3'
    dsimp only [List.cons_append, List.nil_append] at N1
    repeat walk1
    refine Stop.go ?_
    rename Fr _ _ _ _ => F2
    rename News _ _ _ _ => N2
    have hlt := F2.ns.lt
    refine wpAny_ListComp_free (fun v => decide (cmpSel sel (x i) (rowOf s.heap v) = 1)) (fun _ _ => True) rfl (by decide) rfl (by decide) rfl ?_
    refine nameFr F2 g1 ?_
    have hls : h.IsList l (rs.map Value.ref).toArray := hl.at fun o e => F2.keep l o e
    refine wpAny_pyIter_list hls ?_
    have hll : l ≠ h.objs.size := by obtain ⟨o, ho, _⟩ := hls; exact Nat.ne_of_lt (Heap.lt_size ho)
    have hI0 : s.heap.get? h.objs.size = none := Heap.get?_none_of_le (Nat.le_trans F2.above (Nat.le_of_lt hlt))
    refine ⟨h.objs.size, _, _, _, _, _, rfl, Walks.list (by exact hh) h.objs.size l hll (rs.map Value.ref).toArray, ?_, ⟨⟨_, Heap.get?_push_size _ rfl, rfl, rfl⟩, hls.push _⟩, ?_, ⟨?_, ?_⟩, ?_⟩
    · rw [List.size_toArray, List.length_map, hrs, sizeLine_eq]; omega
    · intro b hb
      show b < (h.push _).objs.size
      rw [Heap.size_push]
      rcases List.mem_cons.mp hb with rfl | hb
      · exact Nat.lt_succ_self _
      · rw [List.mem_singleton.mp hb]
        obtain ⟨o, ho, _⟩ := hls
        exact Nat.lt_succ_of_lt (Heap.lt_size ho)
    · intro CC j v s₃ m₃ E' hCC hP hns hm₃ hk htk
      have hP' : (rs.map Value.ref)[j]? = some v := by simpa using hP
      rw [List.getElem?_map] at hP'
      obtain ⟨rj, hrj, rfl⟩ := Option.map_eq_some_iff.mp hP'
      have F3 : Fr s.heap s.heap.objs.size s₃.heap m₁ := by
        refine fr_but F2 (wr := [h.objs.size]) (fun b o hb e => hk b o hb (Heap.get?_push_of_some _ e)) ?_ ?_
        · rw [List.mem_singleton]; exact Nat.ne_of_lt hlt
        · intro b hb; rw [List.mem_singleton.mp hb]; exact hI0
      have N3 : News s.heap s.heap.objs.size s₃.heap [(I, oI), (D, listOf us.toArray cc), (s.heap.objs.size + 1 + 1, o3'), (s.heap.objs.size + 1, o2)] := by
        refine news_but N2 (wr := [h.objs.size]) (fun b o hb e => hk b o hb (Heap.get?_push_of_some _ e)) ?_
        intro p hp hq
        exact absurd (Heap.lt_size (N2 p hp).1) (by rw [List.mem_singleton.mp hq]; exact Nat.lt_irrefl _)
      refine test_one ?_
      have c1 : s₃.heap.IsCell (s.heap.objs.size + 1) (some (.ref c)) := ⟨o2, (N3 (_, o2) (.tail _ (.tail _ (.tail _ (.head _))))).1, d2⟩
      have c2 : s₃.heap.IsCell (s.heap.objs.size + 1 + 1) (some (.ref r)) := ⟨o3', (N3 (_, o3') (.tail _ (.tail _ (.head _)))).1, d3'⟩
      have r1 := hr i r hri
      have r2 := hr j rj hrj
      clear F2 N2
      repeat walk1
      · rw [cmpSel_congr (x' := x i) hs (fun k _ => rfl) (fun k hk => (RowAt.rowOf r2 hk).symm)]
        rfl
      · exact ⟨_, _, rfl, by assumption⟩
    · intro CC j v s₃ m₃ E' hCC hP hp hns hm₃ hk htk
      exact ldVarK hns hm₃ ⟨trivial, keeps_refl _⟩
    · intro D2 h' tk' ys vs hD2 hlist hplain hlen hPv hpair hk
      dsimp only at hk hD2
      obtain ⟨nn, hD2e⟩ := hplain
      have hkk : ∀ b o, h.get? b = some o → h'.get? b = some o := fun b o e => hk b o (fun hb => by rw [List.mem_singleton.mp hb] at e; exact absurd (Heap.lt_size e) (Nat.lt_irrefl _)) (Heap.get?_push_of_some _ e)
      have F3 := fr_keeps F2 hkk
      have N3 := news_keeps N2 hkk
      clear F2 N2
      have hcnt : (ys.size : Int) = rankN sel x n i := by
        have e1 : ys.size = (vs.filter fun v => decide (cmpSel sel (x i) (rowOf s.heap v) = 1)).length := by rw [hpair.length]; simp
        have e2 : vs = rs.map Value.ref := by
          apply List.ext_getElem?
          intro j
          by_cases hj : j < vs.length
          · have := hPv j vs[j] (by simp [hj])
            simp at this
            rw [List.getElem?_eq_getElem hj, List.getElem?_map]
            obtain ⟨a, ha, he⟩ := this
            rw [ha, ← he]; rfl
          · rw [List.getElem?_eq_none (by omega), List.getElem?_eq_none (by simp; simp at hlen; omega)]
        rw [e1, e2, count_rows hr hs hrs]
      repeat walk1
      refine len_list hlist ?_ ?_
      · have := rank_le sel x i n
        omega
      rw [hcnt]
      have hDI := neN (a := D) (b := I) (ho _ (.head _))
      have hul := hus.length
      rw [List.length_map, List.length_range] at hul
      repeat walk1
      have hin : i < n := by
        have := (List.getElem?_eq_some_iff.mp hri).1
        omega
      refine' append_K F3 N3 ?U ?_ ?z
      case U => k_upd
      case z => rw [List.size_toArray, sizeLine_eq]; omega
      clear F3 N3
      intro h4 F4 N4
      have e4 : ∀ v : Value, us.toArray.push v = (us ++ [v]).toArray := fun v => by simp
      rw [e4] at N4
      repeat walk1
      refine End.mk (TurnEnd.mk F4 N4 ?_ ⟨g1, D, us ++ [_], cc + 1, o3', _, g2, rfl, hD, d3', ?_⟩)
      · intro p hp
        rcases List.mem_cons.mp hp with rfl | hp
        · exact hDI
        · rcases List.mem_cons.mp hp with rfl | hp
          · exact ho (_, o3) (.tail _ (.head _))
          · exact ho p (.tail _ (.tail _ hp))
      · rw [List.range_succ, List.map_append]
        exact ints_snoc hus _ _
  · intro m' news' h tk hG1 F' N'
    refine hideGoal fun XX kX => ?_
    obtain ⟨g1, D, us, cc, o3, ov, g2, rfl, hD, d3, hus⟩ := hG1
    refine kX ?_
    clear kX XX
    clear F2 N2
    repeat walk1
    refine End.mk ⟨⟨D, us, rfl, ?_, ⟨cc, (N' _ (.head _)).1⟩, ?_⟩, ⟨_, _, rfl, F'.keep⟩⟩
    · exact (N' _ (.head _)).2.2
    · rw [List.length_map, hrs] at hus
      exact hus
end Mine

namespace Mine
open PySem PySem.W PySem.Calls PySem.Spec PyProof.Rows
open PySem.Sre

def iterM : Nat → M → M
  | 0, m => m
  | n + 1, m => iterM n m.step

theorem step_done {m : M} (h : m.outcome.isSome = true) : m.step = m := by
  unfold M.step; rw [if_pos h]
theorem iter_done {m : M} (h : m.outcome.isSome = true) : ∀ n, iterM n m = m
  | 0 => rfl
  | n + 1 => by show iterM n m.step = m; rw [step_done h]; exact iter_done h n
theorem iter_add (a b : Nat) : ∀ m, iterM (a + b) m = iterM b (iterM a m) := by
  induction a with
  | zero => intro m; simp [iterM]
  | succ a ih => intro m; rw [Nat.succ_add]; exact ih m.step
theorem runFor_iter : ∀ n m, M.runFor n m = iterM n m
  | 0, m => rfl
  | n + 1, m => by
    unfold M.runFor
    split
    · rename_i h; rw [iter_done h]
    · exact runFor_iter n m.step

theorem drive_ {M' : Model} {A : Around} {E : Value → Shared → Prop} {s : Shared} {Q : M → Shared → Prop} : ∀ (turns : Nat) (m : M) (K : Nat), K ≤ 4 * turns → (iterM K m).outcome.isSome = true → 0 < turns → Q (iterM K m) s →
    wpAny M' A (Builtin.Re.reDrive turns m) Q E s
  | 0, _, _, _, _, h0, _ => absurd h0 (Nat.lt_irrefl _)
  | turns + 1, m, K, hK, hd, _, hQ => by
    unfold Builtin.Re.reDrive
    rw [runFor_iter]
    show wpAny M' A (if (iterM 4 m).outcome.isSome = true then pure (iterM 4 m) else _) Q E s
    split
    · rename_i h4
      refine wpAny_pure ?_
      by_cases hle : K ≤ 4
      · have : iterM 4 m = iterM K m := by
          have e : 4 = K + (4 - K) := by omega
          rw [e, iter_add, iter_done hd]
        rw [this]; exact hQ
      · have : iterM K m = iterM 4 m := by
          have e : K = 4 + (K - 4) := by omega
          rw [e, iter_add, iter_done h4]
        rw [← this]; exact hQ
    · rename_i h4
      have hgt : 4 < K := by
        rcases Nat.lt_or_ge 4 K with h | h
        · exact h
        · exfalso
          apply h4
          have e : 4 = K + (4 - K) := by omega
          rw [e, iter_add, iter_done hd]; exact hd
      have e : iterM K m = iterM (K - 4) (iterM 4 m) := by rw [← iter_add]; congr 1; omega
      rw [e] at hd hQ
      refine wpAny_bind (wpAny_rule ?_)
      refine drive_ turns (iterM 4 m) (K - 4) (by omega) hd (by omega) hQ

theorem rules_ {M' : Model} {A : Around} {E : Value → Shared → Prop} {s : Shared} {Q : PUnit → Shared → Prop} (f : Nat → Bool) (g : Nat → String) : ∀ (l : List Nat), Q ⟨⟩ s →
    wpAny M' A (forIn l PUnit.unit fun i _ => if f i = true then do rule (g i); pure (ForInStep.yield PUnit.unit) else pure (ForInStep.yield PUnit.unit)) Q E s
  | [], h => by rw [List.forIn_nil]; exact wpAny_pure h
  | i :: l, h => by
    rw [List.forIn_cons]
    refine wpAny_bind ?_
    split
    · exact wpAny_bind (wpAny_rule (wpAny_pure (rules_ f g l h)))
    · exact wpAny_pure (rules_ f g l h)

theorem runToEnd_ {M' : Model} {A : Around} {E : Value → Shared → Prop} {s : Shared} {Q : Option M → Shared → Prop} {m : M} (K : Nat) (hK : K ≤ 2 ^ 65)
    (h : (∃ e, (iterM K m).outcome = some .matched ∧ e = iterM K m ∧ Q (some e) s) ∨ ((iterM K m).outcome = some .failed ∧ Q none s)) :
    wpAny M' A (Builtin.Re.reRunToEnd m) Q E s := by
  unfold Builtin.Re.reRunToEnd
  refine wpAny_bind (drive_ (2 ^ 64) m K (by omega) ?_ (by decide) ?_)
  · rcases h with ⟨e, h, _⟩ | ⟨h, _⟩ <;> rw [h] <;> rfl
  · refine wpAny_bind (rules_ _ _ _ ?_)
    rcases h with ⟨e, h, rfl, hq⟩ | ⟨h, hq⟩
    · rw [h]; exact wpAny_pure hq
    · rw [h]; exact wpAny_pure hq
end Mine

namespace Mine
open PySem PySem.W PySem.Calls PySem.Spec PyProof.Rows
open PySem.Sre

theorem step_failed {m : M} (h : m.outcome = some .failed) : m.step.outcome = some .failed := by rw [step_done (by rw [h]; rfl)]; exact h

def c1 : Array Nat := #[14, 4, 0, 1, 1, 6, 1, 16, 46, 1]
/-- the machine of (?m)^\. about to look at place p -/
def S1 (t : Array Nat) (p : Nat) (first : Bool) (sn : Sre.Seen) : M :=
  { code := c1, text := t, lim := t.size, start := p, lastStart := t.size, pc := 5, pos := p, handed := p, outermost := first, marks := Array.replicate 0 none, frames := [{ wait := .nextStart, pc := 5, pos := p, outermost := first }], weight := 1, seen := sn }

theorem s1_start (t : Array Nat) (p : Nat) (hp : p < t.size) : ∃ sn, forSearch c1 t 0 p t.size false = S1 t p true sn := by
  refine ⟨({} : Sre.Seen).add 14, ?_⟩
  have h : ¬ ((decide (p > t.size) || decide (t.size - p < 1)) = true) := by simp; omega
  exact if_neg h

theorem s1_none (t : Array Nat) (p : Nat) (hp : ¬ p < t.size) : (iterM 1 (forSearch c1 t 0 p t.size false)).outcome = some .failed := by
  have h : ((decide (p > t.size) || decide (t.size - p < 1)) = true) := by simp; omega
  have e : forSearch c1 t 0 p t.size false = M.say { code := c1, text := t, lim := t.size, start := p, pc := 5, pos := p, handed := p, marks := Array.replicate 0 none, seen := ({} : Sre.Seen).add 14 } false := if_pos h
  rw [e]; rfl

def s1ok (t : Array Nat) (p : Nat) : Bool := p == 0 || t.getD (p - 1) 0 == 10

theorem s1_a (t : Array Nat) (p : Nat) (first : Bool) (sn : Sre.Seen) : (S1 t p first sn).step =
    if s1ok t p = true then { S1 t p first sn with seen := (sn.add 6).add 44, pc := 7 } else { S1 t p first sn with seen := (sn.add 6).add 44, answer := some false } := rfl

theorem s1_no (t : Array Nat) (p : Nat) (first : Bool) (sn sn' : Sre.Seen) (pc : Nat) (hp : p < t.size) : ({ S1 t p first sn with seen := sn', pc := pc, answer := some false } : M).step = S1 t (p + 1) false sn' := by
  show (if p < t.size then S1 t (p + 1) false sn' else _) = _
  rw [if_pos hp]
theorem s1_over (t : Array Nat) (p : Nat) (first : Bool) (sn sn' : Sre.Seen) (pc : Nat) (hp : ¬ p < t.size) : (({ S1 t p first sn with seen := sn', pc := pc, answer := some false } : M).step).step.outcome = some .failed := by
  have e : ({ S1 t p first sn with seen := sn', pc := pc, answer := some false } : M).step = { S1 t p first sn with seen := sn', pc := 5, frames := [], weight := 0, answer := some false } := by
    show (if p < t.size then _ else _) = _
    rw [if_neg hp]; rfl
  rw [e]; rfl

theorem s1_b (t : Array Nat) (p : Nat) (first : Bool) (sn sn' : Sre.Seen) : ({ S1 t p first sn with seen := sn', pc := 7 } : M).step =
    if p ≥ t.size then { S1 t p first sn with seen := sn'.add 16, pc := 7, answer := some false } else
    if (t.getD p 0 == 46) = true then { S1 t p first sn with seen := sn'.add 16, pc := 9, pos := p + 1 } else { S1 t p first sn with seen := sn'.add 16, pc := 7, answer := some false } := by
  by_cases h : p ≥ t.size
  · show (if p ≥ t.size then _ else _) = _
    rw [if_pos h, if_pos h]; rfl
  · show (if p ≥ t.size then _ else _) = _
    rw [if_neg h, if_neg h]
    cases hb : (t.getD p 0 == 46)
    · show (match (Except.ok (t.getD p 0 == 46, _) : Except String (Bool × Sre.Seen)) with | .error why => _ | .ok (false, seen) => _ | .ok (true, seen) => _) = _
      rw [hb]; rfl
    · show (match (Except.ok (t.getD p 0 == 46, _) : Except String (Bool × Sre.Seen)) with | .error why => _ | .ok (false, seen) => _ | .ok (true, seen) => _) = _
      rw [hb]; rfl

theorem s1_c (t : Array Nat) (p : Nat) (first : Bool) (sn sn' : Sre.Seen) : ∃ e, iterM 3 ({ S1 t p first sn with seen := sn', pc := 9, pos := p + 1 } : M) = e ∧ e.outcome = some .matched ∧ e.start = p ∧ e.handed = p + 1 := by
  refine ⟨_, rfl, ?_⟩
  have e : ({ S1 t p first sn with seen := sn', pc := 9, pos := p + 1 } : M).step = { S1 t p first sn with seen := sn'.add 1, pc := 9, pos := p + 1, handed := p + 1, answer := some true } := by
    show (if (first && ((false && _) || (false && _))) = true then _ else _) = _
    rw [if_neg (by simp)]; rfl
  show (iterM 2 _).outcome = _ ∧ (iterM 2 _).start = _ ∧ (iterM 2 _).handed = _
  rw [e]
  exact ⟨rfl, rfl, rfl⟩

/-- the first place from p on where a line begins with a dot -/
def find1 (t : Array Nat) : Nat → Nat → Option Nat
  | 0, _ => none
  | f + 1, p => if s1ok t p = true ∧ t.getD p 0 = 46 then some p else find1 t f (p + 1)

theorem s1_last (t : Array Nat) (p : Nat) (first : Bool) (sn : Sre.Seen) (hp : ¬ p < t.size) : (iterM 4 (S1 t p first sn)).outcome = some .failed := by
  show (iterM 3 (S1 t p first sn).step).outcome = some .failed
  rw [s1_a]
  split
  · show (iterM 2 (M.step _)).outcome = some .failed
    rw [s1_b, if_pos (by omega)]
    exact s1_over t p first sn (((sn.add 6).add 44).add 16) 7 hp
  · have h := s1_over t p first sn ((sn.add 6).add 44) 5 hp
    exact step_failed h

theorem s1_next (t : Array Nat) (p : Nat) (first : Bool) (sn : Sre.Seen) (hp : p < t.size) (hn : ¬ (s1ok t p = true ∧ t.getD p 0 = 46)) : ∃ K sn', K ≤ 3 ∧ iterM K (S1 t p first sn) = S1 t (p + 1) false sn' := by
  by_cases h : s1ok t p = true
  · have hc : ¬ ((t.getD p 0 == 46) = true) := by intro e; exact hn ⟨h, by simpa using e⟩
    refine ⟨3, ((sn.add 6).add 44).add 16, by omega, ?_⟩
    show iterM 2 (S1 t p first sn).step = _
    rw [s1_a, if_pos h]
    show iterM 1 (M.step _) = _
    rw [s1_b, if_neg (by omega), if_neg hc]
    exact s1_no t p first sn _ 7 hp
  · refine ⟨2, (sn.add 6).add 44, by omega, ?_⟩
    show iterM 1 (S1 t p first sn).step = _
    rw [s1_a, if_neg h]
    exact s1_no t p first sn _ 5 hp

theorem s1_hit (t : Array Nat) (p : Nat) (first : Bool) (sn : Sre.Seen) (hp : p < t.size) (hn : (s1ok t p = true ∧ t.getD p 0 = 46)) : ∃ e, iterM 5 (S1 t p first sn) = e ∧ e.outcome = some .matched ∧ e.start = p ∧ e.handed = p + 1 := by
  have hc : ((t.getD p 0 == 46) = true) := by simpa using hn.2
  obtain ⟨e, he, r⟩ := s1_c t p first sn (((sn.add 6).add 44).add 16)
  refine ⟨e, ?_, r⟩
  rw [← he]
  show iterM 4 (S1 t p first sn).step = _
  rw [s1_a, if_pos hn.1]
  show iterM 3 (M.step _) = _
  rw [s1_b, if_neg (by omega), if_pos hc]

theorem s1_find (t : Array Nat) : ∀ (f p : Nat) (first : Bool) (sn : Sre.Seen), p + f = t.size → ∃ K, K ≤ 3 * f + 5 ∧
    (match find1 t f p with
    | some q => ∃ e, iterM K (S1 t p first sn) = e ∧ e.outcome = some .matched ∧ e.start = q ∧ e.handed = q + 1
    | none => (iterM K (S1 t p first sn)).outcome = some .failed)
  | 0, p, first, sn, hf => ⟨4, by omega, s1_last t p first sn (by omega)⟩
  | f + 1, p, first, sn, hf => by
    unfold find1
    by_cases h : s1ok t p = true ∧ t.getD p 0 = 46
    · rw [if_pos h]
      exact ⟨5, by omega, s1_hit t p first sn (by omega) h⟩
    · rw [if_neg h]
      obtain ⟨K, sn', hK, e⟩ := s1_next t p first sn (by omega) h
      obtain ⟨K', hK', r⟩ := s1_find t f (p + 1) false sn' (by omega)
      refine ⟨K + K', by omega, ?_⟩
      rw [iter_add, e]
      exact r
end Mine

namespace Mine
open PySem PySem.W PySem.Calls PySem.Spec PyProof.Rows
open PySem.Sre

def c2 : Array Nat := #[14, 9, 4, 1, 2, 16, 10, 16, 13, 0, 7, 7, 16, 13, 16, 10, 15, 18, 5, 16, 10, 15, 13, 11, 16, 13, 5, 5, 0, 16, 10, 1, 15, 2, 0, 1]
/-- the machine of the newlines' pattern, on the way from place p -/
def G (t : Array Nat) (p pc pos hnd : Nat) (om : Bool) (fr : List Sre.Frame) (wt : Nat) (ans : Option Bool) (sn : Sre.Seen) : M :=
  { code := c2, text := t, lim := t.size, start := p, lastStart := t.size, pc := pc, pos := pos, handed := hnd, outermost := om, marks := Array.replicate 0 none, frames := fr, weight := wt, answer := ans, seen := sn }
def fS (p : Nat) (first : Bool) : Sre.Frame := { wait := .nextStart, pc := 10, pos := p, outermost := first }
def fB (p alt : Nat) (first : Bool) : Sre.Frame := { wait := .nextBranch, pc := alt, pos := p, outermost := first }
def fL (p : Nat) (first : Bool) : Sre.Frame := { wait := .lookNot, pc := 26, pos := p, outermost := first }

theorem g_lit12 (t : Array Nat) (p pos hnd : Nat) (om : Bool) (fr : List Sre.Frame) (wt : Nat) (sn : Sre.Seen) : (G t p 12 pos hnd om fr wt none sn).step =
    if pos ≥ t.size then G t p 12 pos hnd om fr wt (some false) (sn.add 16) else
    if (t.getD pos 0 == 13) = true then G t p 14 (pos + 1) hnd om fr wt none (sn.add 16) else G t p 12 pos hnd om fr wt (some false) (sn.add 16) := by
  by_cases h : pos ≥ t.size
  · show (if pos ≥ t.size then _ else _) = _
    rw [if_pos h, if_pos h]; rfl
  · show (if pos ≥ t.size then _ else _) = _
    rw [if_neg h, if_neg h]
    cases hb : (t.getD pos 0 == 13)
    · show (match (Except.ok (t.getD pos 0 == 13, _) : Except String (Bool × Sre.Seen)) with | .error why => _ | .ok (false, seen) => _ | .ok (true, seen) => _) = _
      rw [hb]; rfl
    · show (match (Except.ok (t.getD pos 0 == 13, _) : Except String (Bool × Sre.Seen)) with | .error why => _ | .ok (false, seen) => _ | .ok (true, seen) => _) = _
      rw [hb]; rfl

theorem g_lit14 (t : Array Nat) (p pos hnd : Nat) (om : Bool) (fr : List Sre.Frame) (wt : Nat) (sn : Sre.Seen) : (G t p 14 pos hnd om fr wt none sn).step =
    if pos ≥ t.size then G t p 14 pos hnd om fr wt (some false) (sn.add 16) else
    if (t.getD pos 0 == 10) = true then G t p 16 (pos + 1) hnd om fr wt none (sn.add 16) else G t p 14 pos hnd om fr wt (some false) (sn.add 16) := by
  by_cases h : pos ≥ t.size
  · show (if pos ≥ t.size then _ else _) = _
    rw [if_pos h, if_pos h]; rfl
  · show (if pos ≥ t.size then _ else _) = _
    rw [if_neg h, if_neg h]
    cases hb : (t.getD pos 0 == 10)
    · show (match (Except.ok (t.getD pos 0 == 10, _) : Except String (Bool × Sre.Seen)) with | .error why => _ | .ok (false, seen) => _ | .ok (true, seen) => _) = _
      rw [hb]; rfl
    · show (match (Except.ok (t.getD pos 0 == 10, _) : Except String (Bool × Sre.Seen)) with | .error why => _ | .ok (false, seen) => _ | .ok (true, seen) => _) = _
      rw [hb]; rfl

theorem g_lit19 (t : Array Nat) (p pos hnd : Nat) (om : Bool) (fr : List Sre.Frame) (wt : Nat) (sn : Sre.Seen) : (G t p 19 pos hnd om fr wt none sn).step =
    if pos ≥ t.size then G t p 19 pos hnd om fr wt (some false) (sn.add 16) else
    if (t.getD pos 0 == 10) = true then G t p 21 (pos + 1) hnd om fr wt none (sn.add 16) else G t p 19 pos hnd om fr wt (some false) (sn.add 16) := by
  by_cases h : pos ≥ t.size
  · show (if pos ≥ t.size then _ else _) = _
    rw [if_pos h, if_pos h]; rfl
  · show (if pos ≥ t.size then _ else _) = _
    rw [if_neg h, if_neg h]
    cases hb : (t.getD pos 0 == 10)
    · show (match (Except.ok (t.getD pos 0 == 10, _) : Except String (Bool × Sre.Seen)) with | .error why => _ | .ok (false, seen) => _ | .ok (true, seen) => _) = _
      rw [hb]; rfl
    · show (match (Except.ok (t.getD pos 0 == 10, _) : Except String (Bool × Sre.Seen)) with | .error why => _ | .ok (false, seen) => _ | .ok (true, seen) => _) = _
      rw [hb]; rfl

theorem g_lit24 (t : Array Nat) (p pos hnd : Nat) (om : Bool) (fr : List Sre.Frame) (wt : Nat) (sn : Sre.Seen) : (G t p 24 pos hnd om fr wt none sn).step =
    if pos ≥ t.size then G t p 24 pos hnd om fr wt (some false) (sn.add 16) else
    if (t.getD pos 0 == 13) = true then G t p 26 (pos + 1) hnd om fr wt none (sn.add 16) else G t p 24 pos hnd om fr wt (some false) (sn.add 16) := by
  by_cases h : pos ≥ t.size
  · show (if pos ≥ t.size then _ else _) = _
    rw [if_pos h, if_pos h]; rfl
  · show (if pos ≥ t.size then _ else _) = _
    rw [if_neg h, if_neg h]
    cases hb : (t.getD pos 0 == 13)
    · show (match (Except.ok (t.getD pos 0 == 13, _) : Except String (Bool × Sre.Seen)) with | .error why => _ | .ok (false, seen) => _ | .ok (true, seen) => _) = _
      rw [hb]; rfl
    · show (match (Except.ok (t.getD pos 0 == 13, _) : Except String (Bool × Sre.Seen)) with | .error why => _ | .ok (false, seen) => _ | .ok (true, seen) => _) = _
      rw [hb]; rfl

theorem g_lit29 (t : Array Nat) (p pos hnd : Nat) (om : Bool) (fr : List Sre.Frame) (wt : Nat) (sn : Sre.Seen) : (G t p 29 pos hnd om fr wt none sn).step =
    if pos ≥ t.size then G t p 29 pos hnd om fr wt (some false) (sn.add 16) else
    if (t.getD pos 0 == 10) = true then G t p 31 (pos + 1) hnd om fr wt none (sn.add 16) else G t p 29 pos hnd om fr wt (some false) (sn.add 16) := by
  by_cases h : pos ≥ t.size
  · show (if pos ≥ t.size then _ else _) = _
    rw [if_pos h, if_pos h]; rfl
  · show (if pos ≥ t.size then _ else _) = _
    rw [if_neg h, if_neg h]
    cases hb : (t.getD pos 0 == 10)
    · show (match (Except.ok (t.getD pos 0 == 10, _) : Except String (Bool × Sre.Seen)) with | .error why => _ | .ok (false, seen) => _ | .ok (true, seen) => _) = _
      rw [hb]; rfl
    · show (match (Except.ok (t.getD pos 0 == 10, _) : Except String (Bool × Sre.Seen)) with | .error why => _ | .ok (false, seen) => _ | .ok (true, seen) => _) = _
      rw [hb]; rfl

theorem g_branch (t : Array Nat) (p : Nat) (om : Bool) (sn : Sre.Seen) : (G t p 10 p p om [fS p om] 1 none sn).step = G t p 12 p p om [fB p 11 om, fS p om] 2 none (sn.add 7) := rfl
theorem g_jump16 (t : Array Nat) (p pos hnd : Nat) (om : Bool) (fr : List Sre.Frame) (wt : Nat) (sn : Sre.Seen) : (G t p 16 pos hnd om fr wt none sn).step = G t p 35 pos hnd om fr wt none (sn.add 15) := rfl
theorem g_jump21 (t : Array Nat) (p pos hnd : Nat) (om : Bool) (fr : List Sre.Frame) (wt : Nat) (sn : Sre.Seen) : (G t p 21 pos hnd om fr wt none sn).step = G t p 35 pos hnd om fr wt none (sn.add 15) := rfl
theorem g_jump32 (t : Array Nat) (p pos hnd : Nat) (om : Bool) (fr : List Sre.Frame) (wt : Nat) (sn : Sre.Seen) : (G t p 32 pos hnd om fr wt none sn).step = G t p 35 pos hnd om fr wt none (sn.add 15) := rfl
theorem g_not (t : Array Nat) (p pos hnd : Nat) (om : Bool) (fr : List Sre.Frame) (sn : Sre.Seen) : (G t p 26 pos hnd om fr 2 none sn).step = G t p 29 pos pos false (fL pos om :: fr) 3 none (sn.add 5) := rfl
theorem g_alt1 (t : Array Nat) (p pos hnd pc : Nat) (om om' : Bool) (sn : Sre.Seen) : (G t p pc pos hnd om' [fB p 11 om, fS p om] 2 (some false) sn).step = G t p 19 p p om [fB p 18 om, fS p om] 2 none sn := rfl
theorem g_alt2 (t : Array Nat) (p pos hnd pc : Nat) (om om' : Bool) (sn : Sre.Seen) : (G t p pc pos hnd om' [fB p 18 om, fS p om] 2 (some false) sn).step = G t p 24 p p om [fB p 23 om, fS p om] 2 none sn := rfl
theorem g_looked (t : Array Nat) (p pos hnd pc q : Nat) (om om' : Bool) (fr : List Sre.Frame) (sn : Sre.Seen) : (G t p pc pos hnd om' (fL q om :: fr) 3 (some false) sn).step = G t p 32 q hnd om fr 2 none sn := rfl
theorem g_end (t : Array Nat) (p pos hnd alt : Nat) (om : Bool) (sn : Sre.Seen) : ∃ e, iterM 4 (G t p 35 pos hnd om [fB p alt om, fS p om] 2 none sn) = e ∧ e.outcome = some .matched ∧ e.start = p ∧ e.handed = pos := by
  refine ⟨_, rfl, ?_⟩
  have e : (G t p 35 pos hnd om [fB p alt om, fS p om] 2 none sn).step = G t p 35 pos pos om [fB p alt om, fS p om] 2 (some true) (sn.add 1) := by
    show (if (om && ((false && _) || (false && _))) = true then _ else _) = _
    rw [if_neg (by simp)]; rfl
  show (iterM 3 _).outcome = _ ∧ (iterM 3 _).start = _ ∧ (iterM 3 _).handed = _
  rw [e]
  exact ⟨rfl, rfl, rfl⟩

theorem iter_step {m m' : M} (n : Nat) (h : m.step = m') : iterM (n + 1) m = iterM n m' := by rw [← h]; rfl

/-- how far the newline at p goes -/
def nlEnd (t : Array Nat) (p : Nat) : Nat := if t.getD p 0 = 13 ∧ p + 1 < t.size ∧ t.getD (p + 1) 0 = 10 then p + 2 else p + 1

theorem g_hit (t : Array Nat) (p : Nat) (om : Bool) (sn : Sre.Seen) (hp : p < t.size) (hc : t.getD p 0 = 10 ∨ t.getD p 0 = 13) :
    ∃ K, K ≤ 20 ∧ ∃ e, iterM K (G t p 10 p p om [fS p om] 1 none sn) = e ∧ e.outcome = some .matched ∧ e.start = p ∧ e.handed = nlEnd t p := by
  have hge : ¬ p ≥ t.size := by omega
  rcases hc with hc | hc
  · have h13 : ¬ ((t.getD p 0 == 13) = true) := by rw [hc]; decide
    have h10 : (t.getD p 0 == 10) = true := by rw [hc]; rfl
    have hn : nlEnd t p = p + 1 := by unfold nlEnd; rw [if_neg (by rw [hc]; rintro ⟨h, _⟩; cases h)]
    obtain ⟨e, he, r⟩ := g_end t p (p + 1) p 18 om ((((sn.add 7).add 16).add 16).add 15)
    refine ⟨9, by omega, e, ?_, by rw [hn]; exact r⟩
    rw [← he, iter_step 8 (g_branch t p om sn), iter_step 7 (g_lit12 ..), if_neg hge, if_neg h13, iter_step 6 (g_alt1 ..), iter_step 5 (g_lit19 ..), if_neg hge, if_pos h10, iter_step 4 (g_jump21 ..)]
  · have h13 : (t.getD p 0 == 13) = true := by rw [hc]; rfl
    have h10 : ¬ ((t.getD p 0 == 10) = true) := by rw [hc]; decide
    by_cases h2 : p + 1 < t.size ∧ t.getD (p + 1) 0 = 10
    · have hn : nlEnd t p = p + 2 := by unfold nlEnd; rw [if_pos ⟨hc, h2⟩]
      have hge2 : ¬ p + 1 ≥ t.size := by omega
      have h10' : (t.getD (p + 1) 0 == 10) = true := by rw [h2.2]; rfl
      obtain ⟨e, he, r⟩ := g_end t p (p + 2) p 11 om ((((sn.add 7).add 16).add 16).add 15)
      refine ⟨8, by omega, e, ?_, by rw [hn]; exact r⟩
      rw [← he, iter_step 7 (g_branch t p om sn), iter_step 6 (g_lit12 ..), if_neg hge, if_pos h13, iter_step 5 (g_lit14 ..), if_neg hge2, if_pos h10', iter_step 4 (g_jump16 ..)]
    · have hn : nlEnd t p = p + 1 := by unfold nlEnd; rw [if_neg (fun h => h2 h.2)]
      have key14 : ∀ hnd om' fr wt sn, (G t p 14 (p + 1) hnd om' fr wt none sn).step = G t p 14 (p + 1) hnd om' fr wt (some false) (sn.add 16) := by
        intro hnd om' fr wt sn
        rw [g_lit14]
        split
        · rfl
        · rw [if_neg]; intro e; exact h2 ⟨by omega, by simpa using e⟩
      have key29 : ∀ hnd om' fr wt sn, (G t p 29 (p + 1) hnd om' fr wt none sn).step = G t p 29 (p + 1) hnd om' fr wt (some false) (sn.add 16) := by
        intro hnd om' fr wt sn
        rw [g_lit29]
        split
        · rfl
        · rw [if_neg]; intro e; exact h2 ⟨by omega, by simpa using e⟩
      obtain ⟨e, he, r⟩ := g_end t p (p + 1) (p + 1) 23 om (((((((sn.add 7).add 16).add 16).add 16).add 16).add 5).add 16 |>.add 15)
      refine ⟨15, by omega, e, ?_, by rw [hn]; exact r⟩
      rw [← he, iter_step 14 (g_branch t p om sn), iter_step 13 (g_lit12 ..), if_neg hge, if_pos h13, iter_step 12 (key14 ..), iter_step 11 (g_alt1 ..), iter_step 10 (g_lit19 ..), if_neg hge, if_neg h10,
        iter_step 9 (g_alt2 ..), iter_step 8 (g_lit24 ..), if_neg hge, if_pos h13, iter_step 7 (g_not ..), iter_step 6 (key29 ..), iter_step 5 (g_looked ..), iter_step 4 (g_jump32 ..)]

/-- the first place from p on that is a newline's -/
def find2 (t : Array Nat) : Nat → Nat → Option Nat
  | 0, _ => none
  | f + 1, p => if t.getD p 0 = 10 ∨ t.getD p 0 = 13 then some p else find2 t f (p + 1)

theorem in_set (c : Nat) (sn : Sre.Seen) : ∃ sn', inSet c2 c 36 5 true sn = .ok (decide (c = 10 ∨ c = 13), sn') := by
  by_cases h : c = 10
  · subst h; exact ⟨_, rfl⟩
  · by_cases h' : c = 13
    · subst h'; exact ⟨_, rfl⟩
    · refine ⟨((sn.add 16).add 16).add 0, ?_⟩
      have e1 : (c == 10) = false := by simpa using h
      have e2 : (c == 13) = false := by simpa using h'
      have e3 : decide (c = 10 ∨ c = 13) = false := by simp [h, h']
      rw [e3]
      show (if (c == 10) = true then _ else (if (c == 13) = true then _ else _)) = _
      rw [e1, e2]
      rfl

theorem admitted_find (m : M) (t : Array Nat) (hc : m.code = c2) (ht : m.text = t) (hl : m.lim = t.size) : ∀ (f p : Nat) (sn : Sre.Seen), p + f = t.size → ∃ sn', m.admitted (f + 1) p sn = .ok (find2 t f p, sn')
  | 0, p, sn, h => by
    refine ⟨sn, ?_⟩
    unfold M.admitted
    rw [if_pos (by rw [hl]; omega)]
    rfl
  | f + 1, p, sn, h => by
    obtain ⟨sn1, e1⟩ := in_set (t.getD p 0) sn
    unfold M.admitted find2
    rw [if_neg (by rw [hl]; omega), hc, ht]
    have e1' : inSet c2 (t.getD p 0) c2.size 5 true sn = .ok (decide (t.getD p 0 = 10 ∨ t.getD p 0 = 13), sn1) := e1
    rw [e1']
    by_cases hd : t.getD p 0 = 10 ∨ t.getD p 0 = 13
    · rw [if_pos hd, decide_eq_true hd]
      exact ⟨sn1, rfl⟩
    · rw [if_neg hd, decide_eq_false hd]
      exact admitted_find m t hc ht hl f (p + 1) sn1 (by omega)

theorem find2_some (t : Array Nat) : ∀ (f p q : Nat), find2 t f p = some q → p ≤ q ∧ q < p + f ∧ (t.getD q 0 = 10 ∨ t.getD q 0 = 13)
  | 0, _, _, h => by cases h
  | f + 1, p, q, h => by
    unfold find2 at h
    split at h
    · cases h; rename_i h'; exact ⟨Nat.le_refl _, by omega, h'⟩
    · have := find2_some t f (p + 1) q h; exact ⟨by omega, by omega, this.2.2⟩

theorem g_find (t : Array Nat) (f p : Nat) (hf : p + f = t.size) (hp : p < t.size) : ∃ K, K ≤ 20 ∧
    (match find2 t f p with
    | some q => ∃ e, iterM K (forSearch c2 t 0 p t.size false) = e ∧ e.outcome = some .matched ∧ e.start = q ∧ e.handed = nlEnd t q
    | none => (iterM K (forSearch c2 t 0 p t.size false)).outcome = some .failed) := by
  have h : ¬ ((decide (p > t.size) || decide (t.size - p < 1)) = true) := by simp; omega
  let m0 : M := { code := c2, text := t, lim := t.size, start := p, lastStart := t.size, pc := 10, pos := p, handed := p, marks := Array.replicate 0 none, seen := ({} : Sre.Seen).add 14 }
  have e0 : forSearch c2 t 0 p t.size false = m0.attemptFrom p true := if_neg h
  obtain ⟨sn', ea⟩ := admitted_find m0 t rfl rfl rfl f p m0.seen hf
  have e1 : m0.attemptFrom p true = (match find2 t f p with | some q => { m0 with mustAdvance := false, seen := sn' }.attemptAt q true | none => ({ m0 with seen := sn' }.say false)) := by
    show (match m0.admitted (t.size + 1 - p) p m0.seen with | .ok (some s, seen) => _ | .ok (none, seen) => _ | .error why => _) = _
    rw [show t.size + 1 - p = f + 1 by omega, ea]
    cases find2 t f p <;> rfl
  rw [e0, e1]
  cases hq : find2 t f p with
  | none => exact ⟨1, by omega, rfl⟩
  | some q =>
    obtain ⟨a, b, c⟩ := find2_some t f p q hq
    obtain ⟨K, hK, e, he, r⟩ := g_hit t q true sn' (by omega) c
    exact ⟨K, hK, e, he, r⟩

theorem g_none (t : Array Nat) (p : Nat) (hp : ¬ p < t.size) : (iterM 1 (forSearch c2 t 0 p t.size false)).outcome = some .failed := by
  have h : ((decide (p > t.size) || decide (t.size - p < 1)) = true) := by simp; omega
  have e : forSearch c2 t 0 p t.size false = M.say { code := c2, text := t, lim := t.size, start := p, pc := 10, pos := p, handed := p, marks := Array.replicate 0 none, seen := ({} : Sre.Seen).add 14 } false := if_pos h
  rw [e]; rfl
end Mine

namespace Mine
open PySem PySem.W PySem.Calls PySem.Spec PyProof.Rows
open PySem.Sre PySem.Builtin.Re

theorem sizeLine_is : sizeLine = 16777216 := by unfold sizeLine; decide

/-- a compiled pattern without groups -/
def PatAt (h : Heap) (pat : Addr) (code : Array Nat) : Prop :=
  ∃ o vs ct o' items n, h.get? pat = some o ∧ o.cls = .type "re.Pattern" ∧ o.data = .fields vs ∧ vs.getD 2 .none = .int 0 0 ∧ vs.getD 5 .none = .ref ct ∧ vs.getD 6 .none = .int 0 0 ∧
    h.get? ct = some o' ∧ o'.data = .seq items n ∧ (items.map reRawOf).map (·.toNat) = code
theorem PatAt.keeps {h h' : Heap} {pat : Addr} {code : Array Nat} (P : PatAt h pat code) (k : ∀ b o, h.get? b = some o → h'.get? b = some o) : PatAt h' pat code := by
  obtain ⟨o, vs, ct, o', items, n, a, b, c, d, e, f, g, i⟩ := P
  exact ⟨o, vs, ct, o', items, n, k _ _ a, b, c, d, e, f, k _ _ g, i⟩

theorem target_ {M : Model} {A : Around} {E : Value → Shared → Prop} {s : Shared} {pat : Addr} {code : Array Nat} {x : Str} {u : Tok} {Q : ReTarget → Shared → Prop} (P : PatAt s.heap pat code)
    (h : Q { pattern := .ref pat, string := .str x u, code := code, text := x.cps, kind := 0, groups := 0, pos := 0, lim := x.cps.size } s) : wpAny M A (reWholeTarget (.ref pat) (.str x u)) Q E s := by
  obtain ⟨o, vs, ct, o', items, n, a, b, c, d, e, f, g, i, j⟩ := P
  unfold reWholeTarget
  refine wpAny_bind (wpAny_fieldsOf a c ?_)
  refine wpAny_bind (m := reTextOf _) (wpAny_of_eq (a := (x.cps, 0)) rfl ?_)
  dsimp only
  rw [f, d, e]
  refine wpAny_bind (m := reNoCollectionInside _ _) (wpAny_of_eq (a := ()) rfl ?_)
  unfold reRawItems
  refine wpAny_bind (wpAny_bind (wpAny_seqItems g i (wpAny_pure ?_)))
  dsimp only [Option.getD]
  rw [j]
  exact wpAny_pure h

/-- what a search of the pattern finds -/
def Finds (code : Array Nat) (find : Array Nat → Nat → Option (Nat × Nat)) : Prop :=
  ∀ (t : Array Nat) (p : Nat), t.size ≤ 1000 → ∃ K, K ≤ 2 ^ 65 ∧ (match find t p with
    | some (b, e) => p ≤ b ∧ b < e ∧ e ≤ t.size ∧ ∃ m, iterM K (forSearch code t 0 p t.size false) = m ∧ m.outcome = some .matched ∧ m.start = b ∧ m.handed = e
    | none => (iterM K (forSearch code t 0 p t.size false)).outcome = some .failed)

def subFrom (find : Array Nat → Nat → Option (Nat × Nat)) (repl : List Nat) (t : Array Nat) : Nat → Nat → List Nat
  | 0, p => t.toList.drop p
  | f + 1, p => match find t p with
    | none => t.toList.drop p
    | some (b, e) => (t.extract p b).toList ++ (repl ++ subFrom find repl t f e)

theorem entry_sub_loop : entryFor table "re.Pattern.sub.loop" = some Builtin.«re.Pattern.sub.loop» := entryFor_of_tree (by kernel_rfl)
theorem plain_sub_loop : plainId "re.Pattern.sub.loop" = true := by decide +kernel

def catL (ys : List Str) : List Nat := ys.flatMap fun y => y.cps.toList
theorem catL_append (a b : List Str) : catL (a ++ b) = catL a ++ catL b := by simp [catL]

theorem strsAre_snoc {y : Str} {t : Tok} : ∀ {vs : List Value} {ys : List Str}, StrsAre vs ys → StrsAre (vs ++ [.str y t]) (ys ++ [y])
  | _, _, .nil => .cons y t .nil
  | _, _, .cons z u r => .cons z u (strsAre_snoc r)

theorem updSeq_push {M : Model} {A : Around} {E : Value → Shared → Prop} {s : Shared} {D : Addr} {vs : List Value} {c : Nat} {v : Value} {Q : Unit → Shared → Prop} (hl : s.heap.get? D = some (listOf vs.toArray c)) (hz : vs.length ≤ 10000)
    (h : ∀ h', h'.get? D = some (listOf (vs ++ [v]).toArray (c + 1)) → (∀ b o, b ≠ D → s.heap.get? b = some o → h'.get? b = some o) → Q () { s with heap := h' }) : wpAny M A (updateSeq D (·.push v)) Q E s := by
  refine wpAny_updateSeq hl rfl (h _ ?_ fun b o hb e => ?_) (by rw [sizeLine_is]; simp; omega) (by rw [sizeLine_is]; simp; omega)
  · have e : Obj.mapSeq (·.push v) (listOf vs.toArray c) = listOf (vs ++ [v]).toArray (c + 1) := by simp [Obj.mapSeq]
    rw [Heap.get?_update_self _ hl (by rw [e]; rfl), e]
  · rw [Heap.get?_update_ne _ _ _ _ hb]; exact e

theorem join_cat (ys : List Str) : Txt.join ⟨#[]⟩ ys = ⟨(catL ys).toArray⟩ := by
  have key : ∀ (l : List Str) (a : Array Nat), l.foldl (fun acc p => acc ++ (#[] : Array Nat) ++ p.cps) a = a ++ (catL l).toArray := by
    intro l
    induction l with
    | nil => intro a; simp [catL]
    | cons y r ih => intro a; rw [List.foldl_cons, ih]; apply Array.ext'; simp [catL]
  show (⟨(ys.drop 1).foldl (fun acc p => acc ++ (#[] : Array Nat) ++ p.cps) (ys.headD Str.empty).cps⟩ : Str) = _
  rw [key]
  cases ys with
  | nil => rfl
  | cons y r => simp [catL]

theorem reSlice0 (t : Array Nat) (b e : Nat) : reSlice t 0 b e = mkStr ⟨t.extract b e⟩ := rfl

theorem sub_loop {prog : Program} {w : World} {A : Around} {pat D : Addr} {code : Array Nat} {find : Array Nat → Nat → Option (Nat × Nat)} {x y : Str} {u v : Tok} {h₀ : Heap} (hf : Finds code find) (hx : x.cps.size ≤ 1000) (hy : y.cps.size ≤ 2)
    (P : PatAt h₀ pat code) (hD0 : h₀.get? D = none) :
    ∀ (f p : Nat) (k : Int) (s : Shared) (vs : List Value) (ys : List Str) (c : Nat) (R : Result → Shared → Prop), x.cps.size < p + f → p ≤ x.cps.size → (∀ b o, h₀.get? b = some o → s.heap.get? b = some o) → s.heap.get? D = some (listOf vs.toArray c) →
      StrsAre vs ys → (ys.map (·.length)).sum ≤ 3 * p → vs.length ≤ 2 * p →
      (∀ tk h' n, (∀ b o, h₀.get? b = some o → h'.get? b = some o) → R (.ok (.ret (.str ⟨(catL ys ++ subFrom find y.cps.toList x.cps f p).toArray⟩ tk))) { s with heap := h', toks := n }) →
      codeAny (model prog w) A (.builtin "re.Pattern.sub.loop" ⟨[.ref pat, .str x u, .str y v, rawInt 0, rawInt 0, rawInt k, rawInt p, rawInt p, .bool false, .ref D, .bool false], []⟩) R s := by
  have off : ∀ b o, h₀.get? b = some o → b ≠ D := fun b o e q => by rw [q, hD0] at e; cases e
  intro f
  induction f with
  | zero => intro p k s vs ys c R h1 h2; omega
  | succ f ih =>
    intro p k s vs ys c R h1 h2 hk hl hs hsum hlen hR
    refine codeAny_builtin entry_sub_loop ?_
    rw [Around.under_plainId plain_sub_loop]
    show wpAny _ _ (do let t ← reWholeTarget (.ref pat) (.str x u); _) _ _ s
    refine wpAny_bind (target_ (P.keeps hk) ?_)
    dsimp only
    simp only [beq_self_eq_true, ↓reduceIte, bne_self_eq_false, Bool.false_and, Bool.false_eq_true, Int.toNat_natCast]
    refine wpAny_bind (m := reLiteralCannotBeTurned _) (wpAny_of_eq (a := ()) rfl ?_)
    obtain ⟨K, hK, hm⟩ := hf x.cps p hx
    unfold reNextFound
    dsimp only
    have hsub : subFrom find y.cps.toList x.cps (f + 1) p = (match find x.cps p with
      | none => x.cps.toList.drop p
      | some (b, e) => (x.cps.extract p b).toList ++ (y.cps.toList ++ subFrom find y.cps.toList x.cps f e)) := rfl
    cases hfd : find x.cps p with
    | none =>
      rw [hfd] at hm hsub
      refine wpAny_bind (runToEnd_ K hK (.inr ⟨hm, ?_⟩))
      dsimp only
      have fin : ∀ (h1 : Heap) (tk1 : Nat) (vs' : List Value) (ys' : List Str) (c' : Nat), (∀ b o, h₀.get? b = some o → h1.get? b = some o) → h1.get? D = some (listOf vs'.toArray c') → StrsAre vs' ys' →
          (ys'.map (·.length)).sum ≤ 3000 → vs'.length ≤ 3000 → catL ys' = catL ys ++ x.cps.toList.drop p →
          wpAny (model prog w) A.in1 (do
            let joiner ← reSlice x.cps 0 0 0
            let __do_lift ← seqItems? (Value.ref D)
            if (__do_lift.getD #[]).isEmpty = true then do
                let text ← pure joiner
                ret text
              else do
                let text ← call (Value.builtin "str.join") [joiner, Value.ref D]
                ret text) (fun fin s' => match fin with
              | Fin.done f => R (Except.ok f) s'
              | Fin.again c' => c'.quiet = true ∧ codeAny (model prog w) A c' R s') (fun e s' => R (Except.error e) s') { s with heap := h1, toks := tk1 } := by
        intro h1 tk1 vs' ys' c' hk1 hl1 hs1 hsum1 hlen1 hcat
        have he0 : x.cps.extract 0 0 = #[] := by simp
        rw [reSlice0, he0]
        refine wpAny_bind (wpAny_mkStr ?_ (by show (0 : Nat) ≤ _; omega))
        refine wpAny_bind (wpAny_seqItems hl1 rfl ?_)
        dsimp only [Option.getD]
        by_cases hem : vs' = []
        · subst hem
          cases hs1
          rw [if_pos (show (#[] : Array Value).isEmpty = true from rfl)]
          refine wpAny_bind (wpAny_pure (wpAny_pure ?_))
          have := hR tk1 h1 (tk1 + 1) hk1
          rw [hsub, ← hcat] at this
          exact this
        · rw [if_neg (by simpa using hem)]
          have hil : h1.IsList D vs'.toArray := ⟨_, hl1, rfl, _, rfl⟩
          refine wpAny_bind (join_list (s := { s with heap := h1, toks := tk1 + 1 }) hil (ys := ys') (by simpa using hs1) (by simp [Str.length]; simp [Str.length] at hsum1; omega) fun t' k' => ?_)
          rw [join_cat, hcat]
          have := hR t' h1 k' hk1
          rw [hsub] at this
          exact wpAny_pure this
      by_cases hlt : p < x.cps.size
      · rw [if_pos hlt]
        rw [reSlice0]
        refine wpAny_bind (wpAny_mkStr ?_ (by show (x.cps.extract p x.cps.size).size ≤ _; rw [sizeLine_is]; simp; omega))
        refine wpAny_bind (updSeq_push (s := { s with toks := s.toks + 1 }) hl (by omega) fun h' hl' hk' => ?_)
        refine fin h' _ _ _ _ (fun b o e => hk' b o (off b o e) (hk b o e)) hl' (strsAre_snoc hs) ?_ ?_ ?_
        · simp only [List.map_append, List.sum_append, List.map_cons, List.map_nil, List.sum_cons, List.sum_nil, Str.length, Array.size_extract]
          simp only [Str.length] at hsum
          omega
        · simp; omega
        · rw [catL_append]
          congr 1
          simp [catL, Array.toList_extract]
          rw [List.take_of_length_le (by simp)]
      · rw [if_neg hlt]
        refine fin s.heap s.toks vs ys c hk hl hs (by omega) (by omega) ?_
        rw [List.drop_eq_nil_of_le (by simp; omega)]; simp
    | some be =>
      obtain ⟨b, e⟩ := be
      rw [hfd] at hm hsub
      obtain ⟨hpb, hbe, het, m, hm1, hm2, hm3, hm4⟩ := hm
      refine wpAny_bind (runToEnd_ K hK (.inl ⟨m, by rw [hm1]; exact hm2, hm1.symm, ?_⟩))
      dsimp only
      rw [hm3, hm4]
      have heb : (e == b) = false := by simp; omega
      rw [heb]
      have go : ∀ (h1 : Heap) (tk1 : Nat) (vs' : List Value) (ys' : List Str) (c' : Nat), (∀ b o, h₀.get? b = some o → h1.get? b = some o) → h1.get? D = some (listOf vs'.toArray c') → StrsAre vs' ys' →
          (ys'.map (·.length)).sum ≤ 3 * p + (b - p) → vs'.length ≤ 2 * p + (if p < b then 1 else 0) → catL ys' = catL ys ++ (x.cps.extract p b).toList →
          wpAny (model prog w) A.in1 (do
            let item ← pure (Value.str y v)
            if (item != Value.none) = true then do
                updateSeq D fun x => x.push item
                again (Code.builtin "re.Pattern.sub.loop" { pos := [Value.ref pat, Value.str x u, Value.str y v, rawInt 0, rawInt 0, rawInt (k + 1), rawInt ↑e, rawInt ↑e, Value.bool false, Value.ref D, Value.bool false] })
              else
                again (Code.builtin "re.Pattern.sub.loop" { pos := [Value.ref pat, Value.str x u, Value.str y v, rawInt 0, rawInt 0, rawInt (k + 1), rawInt ↑e, rawInt ↑e, Value.bool false, Value.ref D, Value.bool false] }))
            (fun fin s' => match fin with
              | Fin.done f => R (Except.ok f) s'
              | Fin.again c' => c'.quiet = true ∧ codeAny (model prog w) A c' R s') (fun e s' => R (Except.error e) s') { s with heap := h1, toks := tk1 } := by
        intro h1 tk1 vs' ys' c' hk1 hl1 hs1 hsum1 hlen1 hcat
        have hlen2 : vs'.length ≤ 2 * p + 1 := by split at hlen1 <;> omega
        refine wpAny_bind (wpAny_pure ?_)
        rw [if_pos (show (Value.str y v != Value.none) = true from rfl)]
        refine wpAny_bind (updSeq_push (s := { s with heap := h1, toks := tk1 }) hl1 (by omega) fun h' hl' hk' => ?_)
        refine wpAny_pure ⟨plainId_quiet plain_sub_loop _, ?_⟩
        refine ih e (k + 1) { s with heap := h', toks := tk1 } _ _ _ R (by omega) het (fun b' o' e' => hk' b' o' (off b' o' e') (hk1 b' o' e')) hl' (strsAre_snoc hs1) ?_ ?_ fun tk h2 n hk2 => ?_
        · simp only [List.map_append, List.sum_append, List.map_cons, List.map_nil, List.sum_cons, List.sum_nil, Str.length]
          simp only [Str.length] at hsum1
          omega
        · rw [List.length_append]
          show vs'.length + 1 ≤ 2 * e
          split at hlen1 <;> omega
        · have := hR tk h2 n hk2
          rw [hsub] at this
          rw [catL_append, hcat]
          simpa [catL] using this
      by_cases hlt : p < b
      · rw [if_pos hlt]
        rw [reSlice0]
        refine wpAny_bind (wpAny_mkStr ?_ (by show (x.cps.extract p b).size ≤ _; rw [sizeLine_is]; simp; omega))
        refine wpAny_bind (updSeq_push (s := { s with toks := s.toks + 1 }) hl (by omega) fun h' hl' hk' => ?_)
        refine go h' _ _ _ _ (fun b o e => hk' b o (off b o e) (hk b o e)) hl' (strsAre_snoc hs) ?_ ?_ ?_
        · simp only [List.map_append, List.sum_append, List.map_cons, List.map_nil, List.sum_cons, List.sum_nil, Str.length, Array.size_extract]
          simp only [Str.length] at hsum
          omega
        · rw [if_pos hlt]; simp; omega
        · rw [catL_append]; simp [catL]
      · rw [if_neg hlt]
        refine go s.heap s.toks vs ys c hk hl hs (by omega) (by omega) ?_
        have : (x.cps.extract p b).toList = [] := by simp [Array.toList_extract]; omega
        rw [this]; simp
end Mine

namespace Mine
open PySem PySem.W PySem.Calls PySem.Spec PyProof.Rows
open PySem.Sre PySem.Builtin.Re

theorem slot_re_sub : Slot "re.Pattern" "sub" "re.Pattern.sub" :=
  .of (owner := "re.Pattern") (n := "sub") (by rw [typeLookup_type, builtinLookup_eq_fast]; kernel_rfl) (by decide +kernel) (by decide +kernel) (by decide +kernel)
    (by first | exact .inl (by decide +kernel) | exact .inr (by decide +kernel)) (by rw [isSubtype_type]; kernel_rfl)
theorem entry_re_sub : entryFor table "re.Pattern.sub" = some Builtin.«re.Pattern.sub» := entryFor_of_tree (by kernel_rfl)
theorem args_re_sub (a b c : Value) : argsOk "re.Pattern.sub" ⟨[a, b, c], []⟩ := by unfold argsOk; kernel_rfl
theorem str_no_call : typeLookup (.type "str") "__call__" = pure none := by rw [typeLookup_type, builtinLookup_eq_fast]; kernel_rfl

theorem re_sub {prog : Program} {w : World} {A : Around} {E : Value → Shared → Prop} {s : Shared} {pat : Addr} {code : Array Nat} {find : Array Nat → Nat → Option (Nat × Nat)} {x y : Str} {u v : Tok} (hf : Finds code find) (hx : x.cps.size ≤ 1000) (hy : y.cps.size ≤ 2) (hb : y.cps.contains 92 = false)
    (P : PatAt s.heap pat code) :
    wpAny (model prog w) A (call (.builtin "re.Pattern.sub") [.ref pat, .str y v, .str x u]) (fun r s' => (∃ tk, r = .str ⟨(subFrom find y.cps.toList x.cps (x.cps.size + 1) 0).toArray⟩ tk) ∧ Keeps s s') E s := by
  have hT : s.TypeIs (.ref pat) "re.Pattern" := by
    obtain ⟨o, vs, ct, o', items, n, a, b, r⟩ := P
    exact ⟨o, a, b⟩
  refine wpAny_call (codeAny_call_builtin slot_re_sub.plain entry_re_sub (slot_re_sub.check _ _ _ _ _ _ _ _ hT (args_re_sub _ _ _) ?_))
  show wpAny _ _ (reSubstitute "re.Pattern.sub" "sub" false ⟨[.ref pat, .str y v, .str x u], []⟩) _ _ s
  unfold reSubstitute
  refine wpAny_bind (m := reNamed _ _ _ _ _ _) (wpAny_of_eq (a := [some (.str y v), some (.str x u), none]) rfl ?_)
  refine wpAny_bind (wpAny_pure ?_)
  refine wpAny_bind (wpAny_specialOf (typeIs_str _ _ _) str_no_call ?_)
  refine wpAny_bind (wpAny_of_eq (a := some y) rfl ?_)
  dsimp only
  rw [hb]
  refine wpAny_bind (wpAny_pure ?_)
  show wpAny _ _ (do let __x ← pure (Value.str y v, 0); _) _ _ s
  refine wpAny_bind (wpAny_pure ?_)
  refine wpAny_bind (wpAny_holding (target_ P ?_))
  show wpAny _ _ (do let l ← newList []; again _) _ _ s
  refine wpAny_bind (wpAny_newList ?_)
  refine wpAny_pure ⟨plainId_quiet plain_sub_loop _, ?_⟩
  refine sub_loop (h₀ := s.heap) hf hx hy P (Heap.get?_none_of_le (Nat.le_refl _)) (x.cps.size + 1) 0 0 _ [] [] 0 _ (by omega) (by omega) (fun b o e => Heap.get?_push_of_some _ e) (Heap.get?_push_size _ rfl) .nil (by simp) (by simp) ?_
  intro tk h' n hk
  exact ⟨⟨tk, by simp [catL]⟩, ⟨h', n, rfl, hk⟩⟩
end Mine

namespace Mine
open PySem PySem.W PySem.Calls PySem.Spec PyProof.Rows
open PySem.Sre PySem.Builtin.Re

def isNl (c : Nat) : Bool := c == 10 || c == 13
def norm : List Nat → List Nat
  | [] => []
  | c :: r => if c = 10 then 13 :: 10 :: norm r else if c = 13 then 13 :: 10 :: norm (if r.head? = some 10 then r.drop 1 else r) else c :: norm r
termination_by l => l.length
decreasing_by
  · simp
  · split
    · simp; omega
    · simp
  · simp
def dots : Bool → List Nat → List Nat
  | _, [] => []
  | b, c :: r => if b = true ∧ c = 46 then 46 :: 46 :: dots false r else c :: dots (c == 10) r

def findNl (t : Array Nat) (p : Nat) : Option (Nat × Nat) := if p < t.size then (find2 t (t.size - p) p).map fun q => (q, nlEnd t q) else none
def findDot (t : Array Nat) (p : Nat) : Option (Nat × Nat) := if p < t.size then (find1 t (t.size - p) p).map fun q => (q, q + 1) else none

theorem find1_some (t : Array Nat) : ∀ (f p q : Nat), find1 t f p = some q → p ≤ q ∧ q < p + f ∧ s1ok t q = true ∧ t.getD q 0 = 46
  | 0, _, _, h => by cases h
  | f + 1, p, q, h => by
    unfold find1 at h
    split at h
    · cases h; rename_i h'; exact ⟨Nat.le_refl _, by omega, h'⟩
    · have := find1_some t f (p + 1) q h; exact ⟨by omega, by omega, this.2.2⟩

theorem finds2 : Finds c2 findNl := by
  intro t p ht
  unfold findNl
  by_cases hp : p < t.size
  · rw [if_pos hp]
    obtain ⟨K, hK, h⟩ := g_find t (t.size - p) p (by omega) hp
    refine ⟨K, by omega, ?_⟩
    cases hq : find2 t (t.size - p) p with
    | none => rw [hq] at h; exact h
    | some q =>
      rw [hq] at h
      obtain ⟨a, b, c⟩ := find2_some t _ p q hq
      obtain ⟨e, h1, h2, h3, h4⟩ := h
      refine ⟨a, ?_, ?_, e, h1, h2, h3, h4⟩
      · unfold nlEnd; split <;> omega
      · unfold nlEnd; split <;> omega
  · rw [if_neg hp]
    exact ⟨1, by omega, g_none t p hp⟩
theorem finds1 : Finds c1 findDot := by
  intro t p ht
  unfold findDot
  by_cases hp : p < t.size
  · rw [if_pos hp]
    obtain ⟨sn, e0⟩ := s1_start t p hp
    obtain ⟨K, hK, h⟩ := s1_find t (t.size - p) p true sn (by omega)
    refine ⟨K, by omega, ?_⟩
    rw [e0]
    cases hq : find1 t (t.size - p) p with
    | none => rw [hq] at h; exact h
    | some q =>
      rw [hq] at h
      obtain ⟨a, b, c⟩ := find1_some t _ p q hq
      obtain ⟨e, h1, h2, h3, h4⟩ := h
      exact ⟨a, by omega, by omega, e, h1, h2, h3, h4⟩
  · rw [if_neg hp]
    exact ⟨1, by omega, s1_none t p hp⟩

theorem drop_cons (t : Array Nat) (p : Nat) (hp : p < t.size) : t.toList.drop p = t.getD p 0 :: t.toList.drop (p + 1) := by
  have hp' : p < t.toList.length := by simpa using hp
  rw [List.drop_eq_getElem_cons hp']
  congr 1
  simp [hp]
theorem extract_cons (t : Array Nat) (p q : Nat) (hp : p < q) (hq : q ≤ t.size) : (t.extract p q).toList = t.getD p 0 :: (t.extract (p + 1) q).toList := by
  have e : ∀ a, (t.extract a q).toList = (t.toList.drop a).take (q - a) := fun a => by simp [Array.toList_extract]
  rw [e, e, drop_cons t p (by omega)]
  rw [show q - p = (q - (p + 1)) + 1 by omega, List.take_succ_cons]
theorem extract_nil (t : Array Nat) (p : Nat) : (t.extract p p).toList = [] := by simp

theorem find2_norm (t : Array Nat) : ∀ (f p : Nat), p + f = t.size → (match find2 t f p with
    | some q => norm (t.toList.drop p) = (t.extract p q).toList ++ norm (t.toList.drop q)
    | none => norm (t.toList.drop p) = t.toList.drop p)
  | 0, p, h => by
    show norm _ = _
    rw [List.drop_eq_nil_of_le (by simp; omega)]
    simp [norm]
  | f + 1, p, h => by
    unfold find2
    by_cases hc : t.getD p 0 = 10 ∨ t.getD p 0 = 13
    · rw [if_pos hc]
      show norm _ = (t.extract p p).toList ++ _
      rw [extract_nil]; rfl
    · rw [if_neg hc]
      have ih := find2_norm t f (p + 1) (by omega)
      have hn : norm (t.toList.drop p) = t.getD p 0 :: norm (t.toList.drop (p + 1)) := by
        rw [drop_cons t p (by omega)]
        rw [norm]
        rw [if_neg (fun h => hc (.inl h)), if_neg (fun h => hc (.inr h))]
      cases hq : find2 t f (p + 1) with
      | none =>
        rw [hq] at ih
        show norm _ = _
        rw [hn, ih, ← drop_cons t p (by omega)]
      | some q =>
        rw [hq] at ih
        obtain ⟨a, b, _⟩ := find2_some t f (p + 1) q hq
        show norm _ = _
        rw [hn, ih, extract_cons t p q (by omega) (by omega)]
        rfl

theorem norm_nl (t : Array Nat) (q : Nat) (hq : q < t.size) (hc : t.getD q 0 = 10 ∨ t.getD q 0 = 13) : norm (t.toList.drop q) = 13 :: 10 :: norm (t.toList.drop (nlEnd t q)) := by
  rw [drop_cons t q hq, norm]
  unfold nlEnd
  rcases hc with hc | hc
  · rw [if_pos hc, if_neg (by rw [hc]; rintro ⟨h, _⟩; cases h)]
  · rw [if_neg (by rw [hc]; decide), if_pos hc]
    by_cases h2 : q + 1 < t.size ∧ t.getD (q + 1) 0 = 10
    · rw [if_pos (⟨hc, h2⟩ : t.getD q 0 = 13 ∧ q + 1 < t.size ∧ t.getD (q + 1) 0 = 10), drop_cons t (q + 1) h2.1, h2.2]
      simp
    · have hh : ¬ (t.toList.drop (q + 1)).head? = some 10 := by
        intro h
        apply h2
        by_cases hl : q + 1 < t.size
        · rw [drop_cons t (q + 1) hl] at h
          exact ⟨hl, by simpa using h⟩
        · rw [List.drop_eq_nil_of_le (by simp; omega)] at h; cases h
      rw [if_neg hh, if_neg (fun h : t.getD q 0 = 13 ∧ q + 1 < t.size ∧ t.getD (q + 1) 0 = 10 => h2 h.2)]

theorem sub_norm (t : Array Nat) : ∀ (f p : Nat), t.size < p + f → p ≤ t.size → subFrom findNl [13, 10] t f p = norm (t.toList.drop p) := by
  intro f
  induction f with
  | zero => intro p h1 h2; omega
  | succ f ih =>
    intro p h1 h2
    have e : subFrom findNl [13, 10] t (f + 1) p = (match findNl t p with
      | none => t.toList.drop p
      | some (b, e) => (t.extract p b).toList ++ ([13, 10] ++ subFrom findNl [13, 10] t f e)) := rfl
    rw [e]
    unfold findNl
    by_cases hp : p < t.size
    · rw [if_pos hp]
      have k := find2_norm t (t.size - p) p (by omega)
      cases hq : find2 t (t.size - p) p with
      | none => rw [hq] at k; exact k.symm
      | some q =>
        rw [hq] at k
        obtain ⟨a, b, c⟩ := find2_some t _ p q hq
        have hle : nlEnd t q ≤ t.size := by unfold nlEnd; split <;> omega
        have hgt : q < nlEnd t q := by unfold nlEnd; split <;> omega
        show (t.extract p q).toList ++ ([13, 10] ++ subFrom findNl [13, 10] t f (nlEnd t q)) = _
        rw [k, norm_nl t q (by omega) c, ih (nlEnd t q) (by omega) hle]
        rfl
    · rw [if_neg hp, List.drop_eq_nil_of_le (by simp; omega)]
      simp [norm]

theorem find1_dots (t : Array Nat) : ∀ (f p : Nat), p + f = t.size → (match find1 t f p with
    | some q => dots (s1ok t p) (t.toList.drop p) = (t.extract p q).toList ++ dots true (t.toList.drop q)
    | none => dots (s1ok t p) (t.toList.drop p) = t.toList.drop p)
  | 0, p, h => by
    show dots _ _ = _
    rw [List.drop_eq_nil_of_le (by simp; omega)]
    simp [dots]
  | f + 1, p, h => by
    unfold find1
    by_cases hc : s1ok t p = true ∧ t.getD p 0 = 46
    · rw [if_pos hc]
      show dots _ _ = (t.extract p p).toList ++ _
      rw [extract_nil, hc.1]; rfl
    · rw [if_neg hc]
      have ih := find1_dots t f (p + 1) (by omega)
      have hn : dots (s1ok t p) (t.toList.drop p) = t.getD p 0 :: dots (s1ok t (p + 1)) (t.toList.drop (p + 1)) := by
        rw [drop_cons t p (by omega), dots, if_neg hc]
        congr 2
      cases hq : find1 t f (p + 1) with
      | none =>
        rw [hq] at ih
        show dots _ _ = _
        rw [hn, ih, ← drop_cons t p (by omega)]
      | some q =>
        rw [hq] at ih
        obtain ⟨a, b, _⟩ := find1_some t f (p + 1) q hq
        show dots _ _ = _
        rw [hn, ih, extract_cons t p q (by omega) (by omega)]
        rfl

theorem sub_dots (t : Array Nat) : ∀ (f p : Nat), t.size < p + f → p ≤ t.size → subFrom findDot [46, 46] t f p = dots (s1ok t p) (t.toList.drop p) := by
  intro f
  induction f with
  | zero => intro p h1 h2; omega
  | succ f ih =>
    intro p h1 h2
    have e : subFrom findDot [46, 46] t (f + 1) p = (match findDot t p with
      | none => t.toList.drop p
      | some (b, e) => (t.extract p b).toList ++ ([46, 46] ++ subFrom findDot [46, 46] t f e)) := rfl
    rw [e]
    unfold findDot
    by_cases hp : p < t.size
    · rw [if_pos hp]
      have k := find1_dots t (t.size - p) p (by omega)
      cases hq : find1 t (t.size - p) p with
      | none => rw [hq] at k; exact k.symm
      | some q =>
        rw [hq] at k
        obtain ⟨a, b, c1, c2⟩ := find1_some t _ p q hq
        show (t.extract p q).toList ++ ([46, 46] ++ subFrom findDot [46, 46] t f (q + 1)) = _
        rw [k, ih (q + 1) (by omega) (by omega), drop_cons t q (by omega), dots, if_pos ⟨rfl, c2⟩]
        have : s1ok t (q + 1) = false := by unfold s1ok; simp; rw [← Array.getD_eq_getD_getElem?, c2]; decide
        rw [this]
        rfl
    · rw [if_neg hp, List.drop_eq_nil_of_le (by simp; omega)]
      simp [dots]

/-- quotedata, over the signs' numbers -/
def quoted (t : List Nat) : List Nat := dots true (norm t)
theorem quoted_is (t : Array Nat) : subFrom findDot [46, 46] (subFrom findNl [13, 10] t (t.size + 1) 0).toArray ((subFrom findNl [13, 10] t (t.size + 1) 0).toArray.size + 1) 0 = quoted t.toList := by
  rw [sub_dots _ _ _ (by omega) (by omega), sub_norm _ _ _ (by omega) (by omega)]
  simp [quoted, s1ok]
end Mine

namespace Mine
open PySem PySem.W PySem.Calls PySem.Spec PyProof.Rows
example : True ∧ True := by
  w_top off
  (try walk1)
  all_goals trivial
example : (∀ P, hd.heap_39 P = hd.heap_39 P) → Challenge.rw_pg0099_01 = Challenge.rw_pg0099_01 := by k_fill; intro _; rfl

theorem pat1 {w : World} {h : Heap} (X : (hd.heap_39 w.params).In h) : PatAt h 64 c1 :=
  ⟨_, _, 63, _, _, _, X 64 _ (by k_is), rfl, rfl, rfl, rfl, rfl, X 63 _ (by k_is), rfl, by decide +kernel⟩
theorem pat2 {w : World} {h : Heap} (X : (hd.heap_39 w.params).In h) : PatAt h 69 c2 :=
  ⟨_, _, 68, _, _, _, X 69 _ (by k_is), rfl, rfl, rfl, rfl, rfl, X 68 _ (by k_is), rfl, by decide +kernel⟩

theorem plainAttrs_re : PlainAttrs "re.Pattern" :=
  ⟨⟨"object.__getattribute__", by rw [typeLookup_type, builtinLookup_eq_fast]; kernel_rfl, by decide +kernel⟩, by rw [typeLookup_type, builtinLookup_eq_fast]; kernel_rfl⟩
theorem type_re_sub : typeOf (.builtin "re.Pattern.sub") = pure (.type "method_descriptor") := by show builtinType _ = _; rw [builtinType_eq_fast]; kernel_rfl
theorem method_re {prog : Program} {w : World} {A : Around} {E : Value → Shared → Prop} {s : Shared} {a : Addr} {vs : Array Value} {pl : Sem Bool} {Q : Value × List Value → Shared → Prop} (ho : s.heap.get? a = some { cls := .type "re.Pattern", data := .fields vs })
    (h : Q (.builtin "re.Pattern.sub", [.ref a]) s) : wpAny (model prog w) A (getMethod (.ref a) "sub" pl) Q E s :=
  getMethod_builtin ⟨_, ho, rfl⟩ plainAttrs_re slot_re_sub type_re_sub (fun a e => by cases e; exact ⟨_, ho, rfl⟩) h

theorem norm_len : ∀ (l : List Nat), (norm l).length ≤ 2 * l.length
  | [] => by simp [norm]
  | c :: r => by
    rw [norm]
    split
    · have := norm_len r; simp; omega
    · split
      · split
        · have := norm_len (r.drop 1); simp at this ⊢; omega
        · have := norm_len r; simp; omega
      · have := norm_len r; simp; omega
termination_by l => l.length
decreasing_by all_goals (simp; try omega)

theorem quote_spec {w : World} {A : Around} {E : Value → Shared → Prop} {s : Shared} {p : Program} {loose : List Str} {mean : ExcName → Option Value} {mg mb : Str → Option Value} {x : Str} {u : Tok}
  (X : (hd.heap_39 w.params).In s.heap) (T : Top p loose mean mg mb s.heap) (hdp : A.depth + 2 < recursionLimit) (hh : A.handled = none) (hx : x.cps.size ≤ 300)
  : wpAny (model Challenge.rw_pg0099_01.row.prog w) A (call (.ref 76) [.str x u]) (fun v s' => End ((∃ t, v = .str ⟨(quoted x.cps.toList).toArray⟩ t) ∧ Keeps s s')) E s := by
  refine enter (K := hd.heap_39 w.params) (w := w) [("data", .str x u)] X T.nolimit (by k_is) (by k_is) (by omega) (BindsTo.of_eq rfl) (locs rfl) (fun h₁ F => ?_) rfl rfl rfl (by decide)
  have N : News s.heap s.heap.objs.size h₁ [] := News.nil
  repeat walk1
  refine method_re (F.keep _ _ (X 64 _ (by k_is))) ?_
  dsimp only
  repeat walk1
  refine method_re (F.keep _ _ (X 69 _ (by k_is))) ?_
  dsimp only
  repeat walk1
  have e1 : (Str.ofString "\x0d\n").cps.toList = [13, 10] := by decide +kernel
  have e2 : (Str.ofString "..").cps.toList = [46, 46] := by decide +kernel
  refine wpAny_mono (re_sub finds2 (by omega) (by decide +kernel) (by decide +kernel) (pat2 (X.keeps F.keep))) ?_ (fun _ _ e => e.elim) (E := Never)
  rintro v s' ⟨⟨t, rfl⟩, ⟨h2, tk2, rfl, hk2⟩⟩
  walk1
  have hlen : (subFrom findNl (Str.ofString "\x0d\n").cps.toList x.cps (x.cps.size + 1) 0).toArray.size ≤ 1000 := by
    rw [e1, sub_norm _ _ _ (by omega) (by omega)]
    have := norm_len x.cps.toList
    simp at this ⊢
    omega
  refine wpAny_mono (re_sub finds1 hlen (by decide +kernel) (by decide +kernel) (pat1 ((X.keeps F.keep).keeps hk2))) ?_ (fun _ _ e => e.elim) (E := Never)
  rintro v s' ⟨⟨t, rfl⟩, ⟨h3, tk3, rfl, hk3⟩⟩
  refine End.mk ⟨⟨t, ?_⟩, ⟨h3, tk3, rfl, fun b o e => hk3 b o (hk2 b o (F.keep b o e))⟩⟩
  rw [e1, e2, quoted_is]
end Mine

namespace Mine
open PySem PySem.W PySem.Calls PySem.Spec PyProof.Rows

/-- lines set together -/
def Jn (e : List Nat) : List (List Nat) → List Nat
  | [] => []
  | r :: t => match t with
    | [] => r
    | _ :: _ => r ++ e ++ Jn e t
theorem Jn_one (e r : List Nat) : Jn e [r] = r := rfl
theorem Jn_cons (e r s : List Nat) (t : List (List Nat)) : Jn e (r :: s :: t) = r ++ e ++ Jn e (s :: t) := rfl

theorem norm_app : ∀ (r l : List Nat), 10 ∉ r → 13 ∉ r → norm (r ++ l) = r ++ norm l
  | [], l, _, _ => rfl
  | c :: r, l, h1, h2 => by
    have a : c ≠ 10 := fun e => h1 (by rw [e]; exact .head _)
    have b : c ≠ 13 := fun e => h2 (by rw [e]; exact .head _)
    rw [List.cons_append, norm, if_neg a, if_neg b, norm_app r l (fun h => h1 (.tail _ h)) (fun h => h2 (.tail _ h))]
    rfl
theorem norm_10 (l : List Nat) : norm (10 :: l) = 13 :: 10 :: norm l := by rw [norm, if_pos rfl]
theorem norm_1310 (l : List Nat) : norm (13 :: 10 :: l) = 13 :: 10 :: norm l := by
  rw [norm, if_neg (by decide), if_pos rfl]; simp
theorem norm_13 (c : Nat) (l : List Nat) (h : c ≠ 10) : norm (13 :: c :: l) = 13 :: 10 :: norm (c :: l) := by
  rw [norm, if_neg (by decide), if_pos rfl, if_neg (by simpa using h)]

def Ends (e : List Nat) : Prop := e = [10] ∨ e = [13] ∨ e = [13, 10]
def RowOk (r : List Nat) : Prop := r ≠ [] ∧ 10 ∉ r ∧ 13 ∉ r
theorem norm_J (e : List Nat) (he : Ends e) : ∀ (rows : List (List Nat)), (∀ r ∈ rows, RowOk r) → norm (Jn e rows) = Jn [13, 10] rows
  | [], _ => by simp [Jn, norm]
  | [r], h => by
    obtain ⟨a, b, c⟩ := h r (.head _)
    rw [Jn_one, Jn_one]
    have := norm_app r [] b c
    rw [List.append_nil] at this
    rw [this]; simp [norm]
  | r :: s :: t, h => by
    obtain ⟨a, b, c⟩ := h r (.head _)
    obtain ⟨a2, b2, c2⟩ := h s (.tail _ (.head _))
    have ih := norm_J e he (s :: t) fun r hr => h r (.tail _ hr)
    rw [Jn_cons, Jn_cons, List.append_assoc, norm_app r _ b c, List.append_assoc, ← ih]
    congr 1
    rcases he with rfl | rfl | rfl
    · exact norm_10 _
    · cases s with
      | nil => exact absurd rfl a2
      | cons d s' =>
        have hd : d ≠ 10 := fun e => b2 (by rw [e]; exact .head _)
        have hhead : ∃ l, Jn [13] ((d :: s') :: t) = d :: l := by
          cases t with
          | nil => exact ⟨_, rfl⟩
          | cons u v => exact ⟨_, rfl⟩
        obtain ⟨l, hl⟩ := hhead
        rw [hl]
        exact norm_13 d l hd
    · exact norm_1310 _

/-- a dot more where a dot stands first -/
def dd (r : List Nat) : List Nat := if r.head? = some 46 then 46 :: r else r
theorem dots_false : ∀ (r l : List Nat), 10 ∉ r → dots false (r ++ l) = r ++ dots false l
  | [], l, _ => rfl
  | c :: r, l, h => by
    have a : c ≠ 10 := fun e => h (by rw [e]; exact .head _)
    have b : (c == 10) = false := by simpa using a
    rw [List.cons_append, dots, if_neg (by simp), b, dots_false r l (fun h' => h (.tail _ h'))]
    rfl
theorem dots_true (r l : List Nat) (h0 : r ≠ []) (h : 10 ∉ r) : dots true (r ++ l) = dd r ++ dots false l := by
  cases r with
  | nil => exact absurd rfl h0
  | cons c r =>
    have a : c ≠ 10 := fun e => h (by rw [e]; exact .head _)
    have b : (c == 10) = false := by simpa using a
    have hr : 10 ∉ r := fun h' => h (.tail _ h')
    by_cases hc : c = 46
    · subst hc
      rw [List.cons_append, dots, if_pos ⟨rfl, rfl⟩, dots_false r l hr]
      rfl
    · rw [List.cons_append, dots, if_neg (by simp [hc]), b, dots_false r l hr]
      unfold dd
      rw [if_neg (by simpa using hc)]
      rfl
theorem dots_sep (l : List Nat) : dots false (13 :: 10 :: l) = 13 :: 10 :: dots true l := by
  rw [dots, if_neg (by simp)]
  show 13 :: dots false (10 :: l) = _
  rw [dots, if_neg (by simp)]
  rfl
theorem dots_J : ∀ (rows : List (List Nat)), (∀ r ∈ rows, RowOk r) → dots true (Jn [13, 10] rows) = Jn [13, 10] (rows.map dd)
  | [], _ => by simp [Jn, dots]
  | [r], h => by
    obtain ⟨a, b, c⟩ := h r (.head _)
    have := dots_true r [] a b
    rw [List.append_nil] at this
    show dots true r = dd r
    rw [this]; simp [dots]
  | r :: s :: t, h => by
    obtain ⟨a, b, c⟩ := h r (.head _)
    have ih := dots_J (s :: t) fun r hr => h r (.tail _ hr)
    rw [Jn_cons, List.map_cons, List.map_cons, Jn_cons, List.append_assoc, dots_true r _ a b, List.append_assoc]
    rw [List.map_cons] at ih
    congr 1
    show dots false (13 :: 10 :: Jn [13, 10] (s :: t)) = 13 :: 10 :: _
    rw [dots_sep, ih]; rfl
theorem quoted_J (e : List Nat) (he : Ends e) (rows : List (List Nat)) (h : ∀ r ∈ rows, RowOk r) : quoted (Jn e rows) = Jn [13, 10] (rows.map dd) := by
  unfold quoted
  rw [norm_J e he rows h, dots_J rows h]

theorem joined (sep : Str) : ∀ (texts : List Str), (Txt.join sep texts).cps.toList = Jn sep.cps.toList (texts.map fun x => x.cps.toList)
  | [] => rfl
  | x :: t => by
    have key : ∀ (t : List Str) (acc : Array Nat), (t.foldl (fun acc p => acc ++ sep.cps ++ p.cps) acc).toList = (match t with | [] => acc.toList | _ :: _ => acc.toList ++ sep.cps.toList ++ Jn sep.cps.toList (t.map fun x => x.cps.toList)) := by
      intro t
      induction t with
      | nil => intro acc; rfl
      | cons y t ih =>
        intro acc
        rw [List.foldl_cons, ih]
        cases t with
        | nil => simp [Jn]
        | cons z t => simp [Jn]
    show ((t.foldl (fun acc p => acc ++ sep.cps ++ p.cps) x.cps)).toList = _
    rw [key]
    cases t with
    | nil => rfl
    | cons y t => rfl

theorem split_J (x y : Str) (hy : y.cps.toList = [13, 10]) : ∀ (rows : List (List Nat)) (a f : Nat) (cuts : List Nat), rows ≠ [] → (∀ r ∈ rows, 13 ∉ r) → x.cps.toList.drop a = Jn [13, 10] rows → a ≤ x.length →
    StrLaws.ChainG x y x.length a cuts f → (∀ k, f ≤ k → ¬ StrLaws.At x y x.length k) → StrLaws.partsFrom x 2 a cuts = rows.map fun r => (⟨r.toArray⟩ : Str)
  | [], _, _, _, h, _, _, _, _, _ => absurd rfl h
  | [r], a, f, cuts, _, hr, hx, ha, hG, hn => by
    have hyl : y.length = 2 := by unfold Str.length; rw [← Array.length_toList, hy]; rfl
    have hxl : x.cps.toList.length = x.length := by simp [Str.length]
    cases cuts with
    | nil =>
      show [Builtin.Str.strSub x a x.length] = _
      congr 1
      apply Str.ext'
      apply Array.toList_inj.mp
      rw [StrLaws.strSub_toList, List.take_of_length_le (by rw [List.length_drop]; omega), hx]
      rfl
    | cons c t =>
      exfalso
      obtain ⟨h1, ⟨h2, h3⟩, _⟩ := hG
      rw [StrLaws.subAt_eq, hyl, hy] at h3
      have h4 : (x.cps.toList.drop c).take 2 = [13, 10] := by simpa using h3
      have h5 : x.cps.toList.drop c = r.drop (c - a) := by
        have : x.cps.toList.drop c = (x.cps.toList.drop a).drop (c - a) := by rw [List.drop_drop]; congr 1; omega
        rw [this, hx]; rfl
      rw [h5] at h4
      have h6 : 13 ∈ (r.drop (c - a)).take 2 := by rw [h4]; exact .head _
      exact hr r (.head _) (List.mem_of_mem_drop (List.mem_of_mem_take h6))
  | r :: s :: rs, a, f, cuts, _, hr, hx, ha, hG, hn => by
    have hyl : y.length = 2 := by unfold Str.length; rw [← Array.length_toList, hy]; rfl
    have hxl : x.cps.toList.length = x.length := by simp [Str.length]
    rw [Jn_cons] at hx
    have hlen : x.length - a = r.length + (2 + (Jn [13, 10] (s :: rs)).length) := by
      have := congrArg List.length hx
      rw [List.length_drop, hxl] at this
      simp at this
      omega
    have dr : ∀ k, x.cps.toList.drop (a + k) = (r ++ [13, 10] ++ Jn [13, 10] (s :: rs)).drop k := fun k => by rw [← hx, List.drop_drop]
    have d0 : x.cps.toList.drop (a + r.length) = [13, 10] ++ Jn [13, 10] (s :: rs) := by
      rw [dr, List.append_assoc, List.drop_left]
    have d2 : x.cps.toList.drop (a + r.length + 2) = Jn [13, 10] (s :: rs) := by
      rw [← List.drop_drop, d0]; rfl
    have hAt : StrLaws.At x y x.length (a + r.length) := by
      refine ⟨by rw [hyl]; omega, ?_⟩
      rw [StrLaws.subAt_eq, hyl, hy, d0]
      rfl
    cases cuts with
    | nil =>
      have e : f = a := hG
      exact absurd hAt (hn _ (by omega))
    | cons c t =>
      obtain ⟨h1, ⟨h2, h3⟩, h4, h5⟩ := hG
      have hc1 : c ≤ a + r.length := by
        rcases Nat.lt_or_ge (a + r.length) c with h | h
        · exact absurd hAt (h4 _ (by omega) h)
        · exact h
      have hc : c = a + r.length := by
        rcases Nat.lt_or_ge c (a + r.length) with h | h
        · exfalso
          rw [StrLaws.subAt_eq, hyl, hy] at h3
          have h6 : (x.cps.toList.drop c).take 2 = [13, 10] := by simpa using h3
          have h7 : (x.cps.toList.drop c).head? = some 13 := by
            cases hq : x.cps.toList.drop c with
            | nil => rw [hq] at h6; cases h6
            | cons z w => rw [hq, List.take_succ_cons] at h6; injection h6 with h6a _; rw [h6a]; rfl
          have h8 : c = a + (c - a) := by omega
          rw [h8, dr, List.append_assoc, List.drop_append_of_le_length (by omega)] at h7
          have h9 : (r.drop (c - a)).head? = some 13 := by
            cases hq : r.drop (c - a) with
            | nil => have := congrArg List.length hq; rw [List.length_drop] at this; simp at this; omega
            | cons z w => rw [hq] at h7; simpa using h7
          have : 13 ∈ r.drop (c - a) := List.mem_of_mem_head? (by rw [h9]; rfl)
          exact hr r (.head _) (List.mem_of_mem_drop this)
        · omega
      subst hc
      show Builtin.Str.strSub x a (a + r.length) :: StrLaws.partsFrom x 2 (a + r.length + 2) t = _
      rw [hyl] at h5
      rw [split_J x y hy (s :: rs) (a + r.length + 2) f t (by simp) (fun q hq => hr q (.tail _ hq)) d2 (by omega) h5 hn]
      show _ = (⟨r.toArray⟩ : Str) :: _
      congr 1
      apply Str.ext'
      apply Array.toList_inj.mp
      rw [StrLaws.strSub_toList, hx, show a + r.length - a = r.length by omega, List.append_assoc, List.take_left]

theorem split_rows (x y : Str) (hy : y.cps.toList = [13, 10]) (rows : List (List Nat)) (h0 : rows ≠ []) (hr : ∀ r ∈ rows, 13 ∉ r) (hx : x.cps.toList = Jn [13, 10] rows) :
    Txt.split x y = rows.map fun r => (⟨r.toArray⟩ : Str) := by
  have hyl : y.length = 2 := by unfold Str.length; rw [← Array.length_toList, hy]; rfl
  obtain ⟨f, hG, hn⟩ := StrLaws.occ_tight x y (by omega)
  have key := split_J x y hy rows 0 f _ h0 hr (by rw [List.drop_zero]; exact hx) (Nat.zero_le _) hG hn
  have whole : [x] = StrLaws.partsFrom x 2 0 [] := by
    show [x] = [Builtin.Str.strSub x 0 x.length]
    rw [StrLaws.sub_whole]
  unfold Txt.split
  split
  · rename_i hc
    rw [Bool.or_eq_true, decide_eq_true_eq, decide_eq_true_eq] at hc
    rcases hc with hc | hc
    · rw [whole, ← key]
      cases ho : Builtin.Str.occurrences x y 0 x.length (x.length + 1) with
      | nil => rfl
      | cons c t =>
        rw [ho] at hG
        have := hG.2.1.1
        omega
    · exfalso
      have e : Builtin.Str.strKind y = 1 := by
        have : y = ⟨#[13, 10]⟩ := by
          apply Str.ext'
          apply Array.toList_inj.mp
          exact hy
        rw [this]; decide +kernel
      have : 1 ≤ Builtin.Str.strKind x := by unfold Builtin.Str.strKind; split <;> (try split) <;> omega
      omega
  · split
    · rename_i he
      rw [List.isEmpty_iff.mp he] at key
      rw [whole, key]
    · rw [StrLaws.partsBetween_eq, hyl]
      exact key
end Mine

namespace Mine
open PySem PySem.W PySem.Calls PySem.Spec PyProof.Rows
example : True ∧ True := by
  w_top off
  (try walk1)
  all_goals trivial
example : (∀ P, hd.heap_39 P = hd.heap_39 P) → Challenge.rw_pg0099_01 = Challenge.rw_pg0099_01 := by k_fill; intro _; rfl

local macro_rules | `(tactic| walk_at "eval Name") => `(tactic| (k_here; (with_reducible show wpAny _ _ (eval (Expr.Name _ _) (envOfC _ _ _ _ _)) _ _ _); k_dflt (first
  | (refine' nameFr ?k1 ?k2 ?_; (case k1 => k_asm); (case k2 => first | exact rfl | assumption))
  | (refine' ldCN ?k1 ?k2 ?k3 ?k4 ?_; (case k1 => k_asm); (case k2 => exact rfl); (case k3 => k_mem); (case k4 => assumption)))))
local macro_rules | `(tactic| walk_at "eval Name") => `(tactic| (k_here; (with_reducible show wpAny _ _ (eval (Expr.Name _ _) (compEnvC _ _ _ _)) _ _ _); k_dflt (first
  | (refine' ldCellK ?k1 ?k2 ?_; (case k1 => exact rfl); (case k2 => assumption))
  | (refine' ldVarK ?k1 ?k2 ?_; (case k1 => assumption); (case k2 => assumption)))))
local macro_rules | `(tactic| walk_at "eval ListComp") => `(tactic| (refine Stop.at ?_))
local macro_rules | `(tactic| walk_at "exec For Name Call cons nil") => `(tactic| (k_dflt (refine forW ?_)))

theorem len_of {prog : Program} {w : World} {A : Around} {E : Value → Shared → Prop} {s : Shared} {h₀ : Heap} {L : Addr} {m : Str → Option Value} {l : Addr} {vs : List Value} {n : Nat} {Q : Value → Shared → Prop} (F : Fr h₀ L s.heap m) (hl : h₀.IsList l vs.toArray) (hn : vs.length = n) (hs : n < 2 ^ 62)
    (h : Q (.int n (s.toks + 1)) { s with toks := s.toks + 1 + 1 }) : wpAny (model prog w) A (call (.builtin "len") [.ref l]) Q E s := by
  have e : (vs.toArray.size : Int) = n := by simp [hn]
  refine len_list (hl.at fun _ e => F.keep _ _ e) (by rw [e]; omega) ?_
  rw [e]; exact h
local macro_rules | `(tactic| walk_at "call builtin:len") => `(tactic| (k_here; (with_reducible show wpAny _ _ (call _ [Value.ref _]) _ _ _); k_dflt (refine' len_of ?k1 ?k2 ?k3 ?k4 ?_; (case k1 => k_asm); (case k2 => assumption); (case k3 => assumption); (case k4 => omega))))
/-- dots that k sendings add -/
def bump (i n : Nat) : Nat := if n = 0 then 0 else n + i

theorem mul_dots : ∀ n : Nat, n ≤ 7 → Txt.mul (Str.ofString ".") (n : Int) = ⟨(List.replicate n 46).toArray⟩
  | 0, _ => by decide +kernel
  | 1, _ => by decide +kernel
  | 2, _ => by decide +kernel
  | 3, _ => by decide +kernel
  | 4, _ => by decide +kernel
  | 5, _ => by decide +kernel
  | 6, _ => by decide +kernel
  | 7, _ => by decide +kernel
  | n + 8, h => by omega
theorem item_sgn (sg : Str) (k : Nat) (h : k < sg.length) : Txt.item sg (k : Int) = ⟨#[sg.cps.getD k 0]⟩ := by
  unfold Txt.item Txt.charAt
  have e : seqIndex? (k : Int) sg.length = some k := by
    unfold seqIndex?
    simp; omega
  rw [e]
  congr 2
  have h' : k < sg.cps.size := h
  simp [h']
theorem dots_sign (sg : Str) (n k : Nat) (hn : n ≤ 7) (h : k < sg.length) : Txt.mul (Str.ofString ".") (n : Int) ++ Txt.item sg (k : Int) = Dt n (sg.cps.getD k 0) := by
  rw [mul_dots n hn, item_sgn sg k h]
  apply Str.ext'
  apply Array.toList_inj.mp
  rw [Str.cps_append]
  simp [Dt]
theorem strs_of_get : ∀ (vs : List Value) (g : Nat → Str), (∀ (i : Nat) v, vs[i]? = some v → ∃ b, v = .str (g i) b) → StrsAre vs ((List.range vs.length).map g)
  | [], _, _ => .nil
  | v :: vs, g, h => by
    obtain ⟨b, rfl⟩ := h 0 v rfl
    rw [List.length_cons, List.range_succ_eq_map, List.map_cons, List.map_map]
    exact .cons _ _ (strs_of_get vs (fun i => g (i + 1)) fun i v hv => h (i + 1) v (by simpa using hv))
theorem Jn_len (e : List Nat) (B : Nat) : ∀ (rows : List (List Nat)), (∀ r ∈ rows, r.length ≤ B) → (Jn e rows).length ≤ rows.length * (B + e.length)
  | [], _ => by simp [Jn]
  | [r], h => by
    have := h r (.head _)
    rw [Jn_one]
    show r.length ≤ 1 * _
    omega
  | r :: s :: t, h => by
    have h1 := h r (.head _)
    have h2 := Jn_len e B (s :: t) fun q hq => h q (.tail _ hq)
    rw [Jn_cons, List.length_cons, Nat.succ_mul]
    simp only [List.length_append]
    omega
/-- the mail's rows behind i sendings -/
def rowsL (n i : Nat) (f c : Nat → Nat) : List (List Nat) := (List.range n).map fun k => (Dt (bump i (f k)) (c k)).cps.toList
theorem Dt_list (p c : Nat) : (Dt p c).cps.toList = List.replicate p 46 ++ [c] := by simp [Dt]
theorem rowsL_ok {n i : Nat} {f c : Nat → Nat} (hc : ∀ k, k < n → c k ≠ 46 ∧ c k ≠ 10 ∧ c k ≠ 13) : ∀ r ∈ rowsL n i f c, RowOk r := by
  intro r hr
  obtain ⟨k, hk, rfl⟩ := List.mem_map.mp hr
  obtain ⟨a, b, d⟩ := hc k (List.mem_range.mp hk)
  rw [Dt_list]
  refine ⟨by simp, ?_, ?_⟩
  · simp; exact fun e => b e.symm
  · simp; exact fun e => d e.symm
theorem rowsL_dd {n i : Nat} {f c : Nat → Nat} (hc : ∀ k, k < n → c k ≠ 46 ∧ c k ≠ 10 ∧ c k ≠ 13) : (rowsL n i f c).map dd = rowsL n (i + 1) f c := by
  unfold rowsL
  rw [List.map_map]
  refine List.map_congr_left fun k hk => ?_
  obtain ⟨a, b, d⟩ := hc k (List.mem_range.mp hk)
  show dd (Dt (bump i (f k)) (c k)).cps.toList = _
  rw [Dt_list, Dt_list]
  unfold bump dd
  by_cases h : f k = 0
  · rw [if_pos h, if_pos h]
    simp [a]
  · rw [if_neg h, if_neg h]
    have e : f k + i = (f k + i - 1) + 1 := by omega
    have e2 : f k + (i + 1) = ((f k + i - 1) + 1) + 1 := by omega
    rw [e, e2, List.replicate_succ, List.replicate_succ (n := f k + i - 1 + 1), List.replicate_succ]
    simp
theorem rows_small {n i : Nat} {f c : Nat → Nat} {e : List Nat} (hn : n ≤ 7) (hf : ∀ i, i < n → f i ≤ 7) (hi : i ≤ 2) (he : e.length ≤ 2) : (Jn e (rowsL n i f c)).length ≤ 84 := by
  have h1 := Jn_len e 10 (rowsL n i f c) (by
    intro r hr
    obtain ⟨k, hk, rfl⟩ := List.mem_map.mp hr
    have := hf k (List.mem_range.mp hk)
    rw [Dt_list]
    simp
    unfold bump
    split <;> omega)
  have h3 : (rowsL n i f c).length = n := by simp [rowsL]
  rw [h3] at h1
  have h4 : n * (10 + e.length) ≤ 7 * 12 := Nat.mul_le_mul hn (by omega)
  omega
theorem quote_use {w : World} {A : Around} {E : Value → Shared → Prop} {s : Shared} {p : Program} {loose : List Str} {mean : ExcName → Option Value} {mg mb : Str → Option Value} {h₀ : Heap} {L : Addr} {m : Str → Option Value} {news : List (Addr × Obj)} {x : Str} {u : Tok} {Q : Value → Shared → Prop}
    (F : Fr h₀ L s.heap m) (N : News h₀ L s.heap news) (X : (hd.heap_39 w.params).In h₀) (T : Top p loose mean mg mb h₀) (hdp : A.depth + 2 < recursionLimit) (hh : A.handled = none) (hx : x.cps.size ≤ 300)
    (h : ∀ t h' tk', Fr h₀ L h' m → News h₀ L h' news → Q (.str ⟨(quoted x.cps.toList).toArray⟩ t) { s with heap := h', toks := tk' }) :
    wpAny (model Challenge.rw_pg0099_01.row.prog w) A (call (.ref 76) [.str x u]) Q E s := by
  refine wpAny_mono (quote_spec (E := Never) (X.keeps F.keep) (T.keeps F.keep) hdp hh hx) ?_ fun _ _ e => e.elim
  intro v s' hG1
  refine hideGoal fun XX kX => ?_
  obtain ⟨⟨t, rfl⟩, ⟨h', tk', rfl, hk⟩⟩ := hG1
  refine kX ?_
  clear kX XX
  exact h t h' tk' (fr_keeps F hk) (news_keeps N hk)
local macro_rules | `(tactic| walk_at "call builtin:str.split") => `(tactic| (refine Stop.at ?_))
theorem sent_spec {w : World} {A : Around} {E : Value → Shared → Prop} {s : Shared} {p : Program} {loose : List Str} {mean : ExcName → Option Value} {mg mb : Str → Option Value}
  {l : Addr} {vs : List Value} {f : Nat → Nat} {n times : Nat} {sg e : Str} {u v t : Tok}
  (X : (hd.heap_39 w.params).In s.heap) (T : Top p loose mean mg mb s.heap) (hdp : A.depth + 6 < recursionLimit) (hu : A.units + 30 < cLine) (hh : A.handled = none)
  (hl : s.heap.IsList l vs.toArray) (hi : IntsAre vs ((List.range n).map fun i => (f i : Int))) (hn1 : 1 ≤ n) (hn7 : n ≤ 7) (hf : ∀ i, i < n → f i ≤ 7) (hsg : n ≤ sg.length) (hsg9 : sg.length ≤ 9)
  (hc : ∀ k, k < n → sg.cps.getD k 0 ≠ 46 ∧ sg.cps.getD k 0 ≠ 10 ∧ sg.cps.getD k 0 ≠ 13) (he : e.cps.toList = [10] ∨ e.cps.toList = [13]) (ht1 : 1 ≤ times) (ht2 : times ≤ 2)
  : wpAny (model Challenge.rw_pg0099_01.row.prog w) A (call (.ref 112) [.ref l, .str sg u, .str e v, .int times t]) (fun v s' => End ((∃ D us, v = .ref D ∧ s.heap.get? D = none ∧ s'.heap.IsList D (strValues us).toArray ∧ us.map (·.1) = (List.range n).map fun k => Dt (bump times (f k)) (sg.cps.getD k 0)) ∧ Keeps s s')) E s := by
  obtain ⟨ha, dp, fr, gd, un⟩ := A
  have hh' : ha = none := hh
  subst hh'
  dsimp only at hdp hu
  refine enterC (K := hd.heap_39 w.params) (w := w) [("ranks", .ref l), ("signs", .str sg u), ("end", .str e v), ("times", .int times t)] X T.nolimit (by k_is) (by k_is) (show dp < recursionLimit by omega) (BindsTo.of_eq rfl) (by rfl) (by decide) (fun h₁ tk cells F N Y => ?_) rfl rfl rfl
  obtain ⟨o1, o2, rfl, d1, d2⟩ := Y.two
  have d1' : o1.data = .cell (some (.str sg u)) := d1
  have d2' : o2.data = .cell (some (.ref l)) := d2
  clear d1 d2 Y
  have hvl := hi.length
  rw [List.length_map, List.length_range] at hvl
  repeat walk1
  refine Stop.go ?_
  refine listComp (fun v y => ∃ (k : Nat) (a : Tok), v = .int k a ∧ ∃ b, y = .str (Dt (f k) (sg.cps.getD k 0)) b) rfl (by decide) rfl (by decide) rfl ?_
  repeat walk1
  rename IsRange _ _ _ _ _ _ _ _ => hrg
  rename Fr _ _ _ _ => F2
  rename News _ _ _ _ => N2
  refine compRange (n := n) hrg (by omega) (by exact hh) F2 N2 (fun k y => ∃ b, y = .str (Dt (f k) (sg.cps.getD k 0)) b) ?_ ?_
  · intro k tt C s₃ m₃ E' hk F3 N3 hns hm
    clear F2 N2 hrg
    have c1 : s₃.heap.IsCell (s.heap.objs.size + 1) (some (.ref l)) := ⟨o2, (N3 (_, o2) (.tail _ (.head _))).1, d2'⟩
    have c2 : s₃.heap.IsCell (s.heap.objs.size + 1 + 1) (some (.str sg u)) := ⟨o1, (N3 (_, o1) (.head _)).1, d1'⟩
    repeat walk1
    have hv : (List.map (fun i => (f i : Int)) (List.range n)).getD ((k : Nat) : Int).toNat 0 = (f k : Int) := by
      simp [hk]
    rw [hv]
    have hfk := hf k hk
    refine KXi.mul (n := 1) (by rfl) (by decide) (by omega) (by omega) ?_
    intro t1 k1 _ hm2
    have hml := hm2 (by omega)
    repeat walk1
    · exact congrArg (fun z => Value.str z _) (dots_sign sg (f k) k hfk (by omega))
    · exact ⟨_, _, rfl, fun b o e => e⟩
  · intro D h' tk' ys nn F3 N3 hne hD hys hG hkeep
    clear F2 N2 hrg
    repeat walk1
    have hel : e.length = 1 := by
      show e.cps.size = 1
      rw [← Array.length_toList]
      rcases he with he | he <;> rw [he] <;> rfl
    have hrl : ∀ y ∈ (List.range n).map (fun k => Dt (f k) (sg.cps.getD k 0)), y.length ≤ 8 := by
      intro y hy
      obtain ⟨k, hk, rfl⟩ := List.mem_map.mp hy
      have := hf k (List.mem_range.mp hk)
      rw [Dt_len]; omega
    refine join_listC (ys := (List.range n).map fun k => Dt (f k) (sg.cps.getD k 0)) (PySem.IsL.isList (n := nn) (N3 _ (.head _)).1) ?_ ?_ ?_ ?_
    · have := strs_of_get ys.toList (fun k => Dt (f k) (sg.cps.getD k 0)) fun i v hv => hG i v (by simpa using hv)
      rw [Array.length_toList, hys] at this
      exact this
    · rw [hel]; decide
    · have := StrLaws.sumLen_le _ hrl
      rw [List.length_map, List.length_range] at this ⊢
      omega
    intro t3 k3
    repeat walk1
    rename IsRange _ _ _ _ _ _ _ _ => hrg
    rename Fr _ _ _ _ => F2
    rename News _ _ _ _ => N2
    refine iterRange hrg (by omega) (by exact hh) F2 N2 (fun i m' news' => ∃ (x : Str) (tx : Tok), m' "mail" = some (.str x tx) ∧ x.cps.toList = Jn (if i = 0 then e.cps.toList else [13, 10]) (rowsL n i f fun k => sg.cps.getD k 0)) ⟨_, _, rfl, ?_⟩ ?_ ?_
    · rw [joined, if_pos rfl, List.map_map]
      congr 1
      unfold rowsL
      refine List.map_congr_left fun k _ => ?_
      show (Dt (f k) _).cps.toList = _
      unfold bump
      split
      · rename_i h; rw [h]
      · rfl
    · rintro i ti m₁ news₁ h4 tk4 I oI hin ⟨x, tx, g1, g2⟩ ho hIs F1 N1
      clear hrg F2 N2
      have hxs : x.cps.size ≤ 300 := by
        have h2 : (if i = 0 then e.cps.toList else [13, 10]).length ≤ 2 := by
          split
          · rcases he with he | he <;> rw [he] <;> decide
          · decide
        have h1 := rows_small (i := i) (c := fun k => sg.cps.getD k 0) hn7 hf (by omega) h2
        rw [← g2, Array.length_toList] at h1
        omega
      repeat walk1
      rename Fr _ _ _ _ => F5
      rename News _ _ _ _ => N5
      refine quote_use F5 N5 X T ?_ rfl hxs ?_
      · show dp + 1 + 2 < recursionLimit
        omega
      clear F5 N5
      intro t5 h5 tk5 F5 N5
      repeat walk1
      rename Fr _ _ _ _ => F6
      rename News _ _ _ _ => N6
      refine End.mk (TurnEnd.mk F6 N6 ho ⟨_, _, rfl, ?_⟩)
      show (quoted x.cps.toList).toArray.toList = _
      rw [g2, quoted_J _ ?_ _ (rowsL_ok hc), rowsL_dd hc, if_neg (Nat.succ_ne_zero i)]
      split
      · rcases he with he | he
        · exact .inl he
        · exact .inr (.inl he)
      · exact .inr (.inr rfl)
    · rintro m' news' h4 tk4 ⟨x, tx, g1, g2⟩ F' N'
      clear hrg F2 N2
      repeat walk1
      refine Stop.go ?_
      rw [if_neg (by omega)] at g2
      have h1 := rows_small (i := times) (c := fun k => sg.cps.getD k 0) (e := [13, 10]) hn7 hf ht2 (by decide)
      rw [← g2, Array.length_toList] at h1
      refine splitN1 F' N' (by decide +kernel) ?_ (by rw [sizeLine_eq]; show x.cps.size + 2 ≤ _; omega)
      intro us h5 k5 hus F5 N5
      repeat walk1
      refine End.mk ⟨⟨_, us, rfl, (N5 _ (.head _)).2.2, News.isList N5 (.head _), ?_⟩, ⟨_, _, rfl, F5.keep⟩⟩
      have h0 : rowsL n times f (fun k => sg.cps.getD k 0) ≠ [] := by
        intro h
        have : (rowsL n times f fun k => sg.cps.getD k 0).length = n := by simp [rowsL]
        rw [h] at this
        simp at this
        omega
      rw [hus, split_rows x _ (by decide +kernel) _ h0 (fun r hr => (rowsL_ok hc r hr).2.2) g2]
      unfold rowsL
      rw [List.map_map]
      refine List.map_congr_left fun k _ => ?_
      apply Str.ext'
      rfl
end Mine

namespace Mine
open PySem PySem.W PySem.Calls PySem.Spec PyProof.Rows
example : True ∧ True := by
  w_top off
  (try walk1)
  all_goals trivial
example : (∀ P, hd.heap_39 P = hd.heap_39 P) → Challenge.rw_pg0099_01 = Challenge.rw_pg0099_01 := by k_fill; intro _; rfl

local macro_rules | `(tactic| walk_at "eval Name") => `(tactic| (k_here; k_dflt (refine' ld ?k1 ?k2 ?_; (case k1 => k_asm); (case k2 => first | exact rfl | assumption); k_whole)))
local macro_rules | `(tactic| walk_at "eval ListComp") => `(tactic| (refine Stop.at ?_))
local macro_rules | `(tactic| walk_at "exec For Name Call cons nil") => `(tactic| (k_dflt (refine forW ?_)))

theorem ints_of_all : ∀ (ws : List Value), (∀ v ∈ ws, ∃ i t, v = .int i t) → ∃ ms, IntsAre ws ms
  | [], _ => ⟨[], .nil⟩
  | v :: ws, h => by
    obtain ⟨i, t, rfl⟩ := h v (.head _)
    obtain ⟨ms, hm⟩ := ints_of_all ws fun v hv => h v (.tail _ hv)
    exact ⟨i :: ms, .cons i t hm⟩
theorem ints_mem {vs : List Value} {ns : List Int} (h : IntsAre vs ns) : ∀ v ∈ vs, ∃ i t, v = .int i t := by
  induction h with
  | nil => intro v hv; cases hv
  | cons n t _ ih =>
    intro v hv
    rcases List.mem_cons.mp hv with rfl | hv
    · exact ⟨n, t, rfl⟩
    · exact ih v hv
theorem slice_any {prog : Program} {w : World} {A : Around} {E : Value → Shared → Prop} {s : Shared} {h₀ : Heap} {L l : Addr} {m : Str → Option Value} {news : List (Addr × Obj)} {value slice : Expr} {vs : List Value} {ns : List Int} {vl vu vt : Value} {lo hi st : Option Int} {Q : Value → Shared → Prop}
    (F : Fr h₀ L s.heap m) (N : News h₀ L s.heap news) (hl : s.heap.IsList l vs.toArray) (hi' : IntsAre vs ns) (pl : IsPart vl lo) (pu : IsPart vu hi) (pt : IsPart vt st) (h0 : st ≠ some 0) (hz : ns.length < 64)
    (h : ∀ D ws ms h', Fr h₀ L h' m → News h₀ L h' ((D, listOf (List.toArray ws) 0) :: news) → (∀ p ∈ news, p.1 < D) → IntsAre ws ms → ms.length ≤ ns.length → Q (.ref D) { s with heap := h' })
    {ops : List Value} (hs : subscripted slice false (.ref l) (.ref s.heap.objs.size) = operate ops (getItem (.ref l) (.ref s.heap.objs.size))) :
    wpAny (model prog w) A (subscriptTail value slice (.ref l) (.ref s.heap.objs.size)) Q E { s with heap := s.heap.push { cls := .type "slice", data := .fields #[vl, vu, vt] } } := by
  have hvl := hi'.length
  obtain ⟨ms, hms⟩ := ints_of_all (slicePick vs.toArray lo hi st).toList fun v hv => by
    unfold slicePick at hv
    obtain ⟨i, _, hi2⟩ := List.mem_filterMap.mp (by simpa using hv)
    exact ints_mem hi' v (List.mem_of_getElem? (by simpa using hi2))
  have hle : ms.length ≤ ns.length := by
    have q := slicePick_size_le vs.toArray lo hi st
    rw [← hms.length, Array.length_toList]
    simp at q
    omega
  refine tail_any (T := "list") (Heap.IsList.typeIs (s := { s with heap := s.heap.push { cls := .type "slice", data := .fields #[vl, vu, vt] } }) (hl.push _)) slot_list_getitem.lookup (wpAny_getItem_list_slice (hl.push _) (Heap.IsSliceOf.new ..) pl pu pt h0 ?_ (by rw [List.size_toArray, sizeLine_eq]; omega)) hs
  have N1 := News.push (F.push { cls := .type "slice", data := .fields #[vl, vu, vt] }) (N.grown fun _ _ e => Heap.get?_push_of_some _ e) { cls := .type "list", data := .seq (slicePick vs.toArray lo hi st) }
  rw [Heap.size_push] at N1
  show Q (.ref (s.heap.push _).objs.size) _
  rw [Heap.size_push]
  refine h (s.heap.objs.size + 1) (slicePick vs.toArray lo hi st).toList ms _ ((F.push _).push _) ?_ (fun p hp => Nat.lt_succ_of_lt (Heap.lt_size (N p hp).1)) hms hle
  rw [Array.toArray_toList]
  exact N1
local macro_rules | `(tactic| walk_at "subscriptTail Name Slice ref ref") => `(tactic| (refine Stop.at ?_))
local macro_rules | `(tactic| walk_at "subscriptTail Subscript Slice ref ref") => `(tactic| (refine Stop.at ?_))
/-- what the loop of _law_records keeps -/
inductive RecI (l : Addr) (ns : List Int) (i : Nat) (m' : Str → Option Value) (news' : List (Addr × Obj)) : Prop
  | mk (gs : m' "script" = some (.ref l)) (tz : Tok) (gz : m' "size" = some (.int (5 + min ns.length 2 : Nat) tz)) (D O : Addr) (rs : List Addr) (cc : Nat) (t1 t2 t3 t4 t5 t6 t7 : Tok) (tup : List (Addr × Obj)) (gr : m' "records" = some (.ref D)) (go : m' "own" = some (.ref O))
    (e : news' = (D, listOf (rs.map Value.ref).toArray cc) :: (O, listOf #[.int 25 t1, .int 47 t2, .int 8 t3, .int 32 t4, .int 19 t5, .int 54 t6, .int 5 t7] 0) :: tup) (hl : rs.length = i) (hOD : O ≠ D) (hD : ∀ p ∈ tup, p.1 ≠ D)
    (ht : ∀ (j : Nat) r, rs[j]? = some r → ∃ (a b : Int) (u v t : Tok), (r, ({ cls := .type "tuple", data := .seq #[.int a u, .int b v, .int j t] } : Obj)) ∈ tup)
theorem recs_spec {w : World} {A : Around} {E : Value → Shared → Prop} {s : Shared} {p : Program} {loose : List Str} {mean : ExcName → Option Value} {mg mb : Str → Option Value}
  {l : Addr} {vs : List Value} {ns : List Int}
  (X : (hd.heap_39 w.params).In s.heap) (T : Top p loose mean mg mb s.heap) (hdp : A.depth + 6 < recursionLimit) (hu : A.units + 30 < cLine) (hh : A.handled = none)
  (hl : s.heap.IsList l vs.toArray) (hi : IntsAre vs ns) (hn : ns.length < 64)
  : wpAny (model Challenge.rw_pg0099_01.row.prog w) A (call (.ref 95) [.ref l]) (fun v s' => End ((∃ (D : Addr) (x : Nat → Nat → Int) (rs : List Addr), v = .ref D ∧ s.heap.get? D = none ∧ rs.length = 5 + min ns.length 2 ∧ s'.heap.IsList D (rs.map Value.ref).toArray ∧ (∀ (i : Nat) r, rs[i]? = some r → RowAt s'.heap r (x i) ∧ s.heap.get? r = none) ∧ ∀ i, i < 5 + min ns.length 2 → x i 2 = i) ∧ Keeps s s')) E s := by
  obtain ⟨ha, dp, fr, gd, un⟩ := A
  have hh' : ha = none := hh
  subst hh'
  dsimp only at hdp hu
  refine enter (K := hd.heap_39 w.params) (w := w) [("script", .ref l)] X T.nolimit (by k_is) (by k_is) (show dp < recursionLimit by omega) (BindsTo.of_eq rfl) (locs rfl) (fun h₁ F => ?_) rfl rfl rfl (by decide)
  have N : News s.heap s.heap.objs.size h₁ [] := News.nil
  have hz : (5 + if 2 < (ns.length : Int) then 2 else (ns.length : Int)) = ((5 + min ns.length 2 : Nat) : Int) := by split <;> omega
  repeat walk1
  rename IsRange _ _ _ _ _ _ _ _ => hrg
  rename Fr _ _ _ _ => F2
  rename News _ _ _ _ => N2
  rw [hz] at hrg F2
  refine iterRange hrg (by omega) (by exact hh) F2 N2 (RecI l ns) ⟨rfl, _, rfl, _, _, [], _, _, _, _, _, _, _, _, [], rfl, rfl, rfl, rfl, ?_, (fun p hp => nomatch hp), ?_⟩ ?_ ?_
  · rename (_ < _) => q
    exact Nat.ne_of_lt q
  · intro j r hj; simp at hj
  · intro i ti m₁ news₁ h4 tk4 I oI hin hG1 ho hIs F1 N1
    refine hideGoal fun XX kX => ?_
    obtain ⟨g1, tz, g2, D, O, rs, cc, t1, t2, t3, t4, t5, t6, t7, tup, g3, g4, rfl, hrs, hOD, hDt, htup⟩ := hG1
    refine kX ?_
    clear kX XX
    clear hrg F2 N2
    repeat walk1
    refine Stop.go ?_
    refine listComp (fun _ y => ∃ (i : Int) (t : Tok), y = .int i t ∧ 0 ≤ i ∧ i < 1000000) rfl (by decide) rfl (by decide) rfl ?_
    repeat walk1
    refine Stop.go ?_
    rename Fr _ _ _ _ => F3
    rename News _ _ _ _ => N3
    refine slice_any (s := ⟨_, _, _, _, _⟩) F3 N3 (hl.at fun _ e => F3.keep _ _ e) hi (by kmk_part) (by kmk_part) .none (by simp) hn ?_ (by with_unfolding_all rfl)
    intro D1 ws1 ms1 h5 F5 N5 l1 hm1 hle1
    repeat walk1
    refine Stop.go ?_
    rename Fr _ _ _ _ => F6
    rename News _ _ _ _ => N6
    refine slice_any (s := ⟨_, _, _, _, _⟩) F6 N6 (PySem.IsL.isList (n := 0) (N6 _ (.head _)).1) hm1 (by kmk_part) (by kmk_part) (by kmk_part) (by simp; omega) (by omega) ?_ (by with_unfolding_all rfl)
    intro D2 ws2 ms2 h7 F7 N7 l2 hm2 hle2
    have hml2 := hm2.length
    refine compList (vs := ws2) (PySem.IsL.isList (n := 0) (N7 _ (.head _)).1) (by omega) (by exact hh) F7 N7 (fun _ y => ∃ (i : Int) (t : Tok), y = .int i t ∧ 0 ≤ i ∧ i < 1000000) (FG := fun _ y => ∃ (i : Int) (t : Tok), y = .int i t ∧ 0 ≤ i ∧ i < 1000000) (fun _ _ _ _ h => h) (fun _ _ _ _ h => h) ?_ ?_
    · intro k v C s₃ m₃ E' hk F8 N8 hns hm₃
      obtain ⟨iv, tv, rfl⟩ := ints_mem hm2 v (List.mem_of_getElem? hk)
      repeat walk1
      exact ⟨_, _, rfl, fun b o e => e⟩
    · intro D3 h8 tk8 ys nn F8 N8 hne3 hD3 hys hG hkeep
      obtain ⟨ms3, hm3⟩ := ints_of_all ys.toList fun v hv => by
        obtain ⟨k, hk⟩ := List.getElem?_of_mem hv
        obtain ⟨i, t, e, _⟩ := hG k v (by simpa using hk)
        exact ⟨i, t, e⟩
      have hys2 : ys = ys.toList.toArray := by simp
      rw [hys2] at N8
      have hDI := neN (a := D) (b := I) (ho _ (.head _))
      have hDD3 := neN (a := D) (b := D3) (hne3 (D, _) (.tail _ (.tail _ (.tail _ (.head _)))))
      have N9 := cb_drop (news := (D3, listOf ys.toList.toArray nn) :: (I, oI) :: (D, listOf (rs.map Value.ref).toArray cc) :: (O, listOf #[.int 25 t1, .int 47 t2, .int 8 t3, .int 32 t4, .int 19 t5, .int 54 t6, .int 5 t7] 0) :: tup) N8 (by
        intro p hp
        rcases List.mem_cons.mp hp with rfl | hp
        · exact .head _
        · exact .tail _ (.tail _ (.tail _ hp)))
      clear N8
      repeat walk1
      rename Addr => TT
      rename News _ _ _ _ => N10
      rename Fr _ _ _ _ => F10
      rename (_ < _ ∧ _ < _ ∧ _ < _ ∧ _ < _ ∧ AllLt _ _) => l9
      refine' append_K F10 N10 ?U ?_ ?z
      case U =>
        refine .tail (Nat.ne_of_gt l9.2.2.1) (.tail hDD3.symm (.tail hDI.symm (.head ?_)))
        intro p hp
        rcases List.mem_cons.mp hp with rfl | hp
        · exact hOD
        · exact hDt p hp
      case z => rw [List.size_toArray, List.length_map, hrs, sizeLine_eq]; omega
      clear F10 N10
      intro h11 F11 N11
      have e4 : (rs.map Value.ref).toArray.push (Value.ref TT) = ((rs ++ [TT]).map Value.ref).toArray := by simp
      rw [e4] at N11
      repeat walk1
      have N12 := cb_drop (news := (I, oI) :: (D, listOf ((rs ++ [TT]).map Value.ref).toArray (cc + 1)) :: (O, listOf #[.int 25 t1, .int 47 t2, .int 8 t3, .int 32 t4, .int 19 t5, .int 54 t6, .int 5 t7] 0) :: (TT, _) :: tup) N11 (by
        intro p hp
        rcases List.mem_cons.mp hp with rfl | hp
        · exact .tail _ (.tail _ (.head _))
        rcases List.mem_cons.mp hp with rfl | hp
        · exact .tail _ (.tail _ (.tail _ (.head _)))
        rcases List.mem_cons.mp hp with rfl | hp
        · exact .tail _ (.tail _ (.tail _ (.tail _ (.head _))))
        rcases List.mem_cons.mp hp with rfl | hp
        · exact .head _
        · exact .tail _ (.tail _ (.tail _ (.tail _ (.tail _ hp)))))
      refine End.mk (TurnEnd.mk F11 N12 ?_ ⟨g1, tz, g2, D, O, rs ++ [TT], cc + 1, t1, t2, t3, t4, t5, t6, t7, _, g3, g4, rfl, by simp [hrs], hOD, ?_, ?_⟩)
      · intro p hp
        rcases List.mem_cons.mp hp with rfl | hp
        · exact hDI
        rcases List.mem_cons.mp hp with rfl | hp
        · exact ho _ (.tail _ (.head _))
        rcases List.mem_cons.mp hp with rfl | hp
        · exact Nat.ne_of_gt l9.2.1
        · exact ho p (.tail _ (.tail _ hp))
      · intro p hp
        rcases List.mem_cons.mp hp with rfl | hp
        · exact Nat.ne_of_gt l9.2.2.1
        · exact hDt p hp
      · intro j r hj
        by_cases hji : j < rs.length
        · rw [List.getElem?_append_left hji] at hj
          obtain ⟨a, b, u, v, t, hm⟩ := htup j r hj
          exact ⟨a, b, u, v, t, .tail _ hm⟩
        · rw [List.getElem?_append_right (by omega)] at hj
          have hj0 : j - rs.length = 0 := by
            rcases Nat.eq_zero_or_pos (j - rs.length) with h | h
            · exact h
            · rw [List.getElem?_eq_none (by simp; omega)] at hj; cases hj
          have hji2 : j = i := by omega
          subst hji2
          rw [hj0] at hj
          cases hj
          exact ⟨_, _, _, _, _, .head _⟩
  · intro m' news' h4 tk4 hG1 F' N'
    refine hideGoal fun XX kX => ?_
    obtain ⟨g1, tz, g2, D, O, rs, cc, t1, t2, t3, t4, t5, t6, t7, tup, g3, g4, rfl, hrs, hOD, hDt, htup⟩ := hG1
    refine kX ?_
    clear kX XX
    clear hrg F2 N2
    repeat walk1
    refine End.mk ⟨⟨D, fun j k => rowOf h4 (.ref (rs.getD j 0)) k, rs, rfl, (N' _ (.head _)).2.2, hrs, PySem.IsL.isList (n := cc) (N' _ (.head _)).1, ?_, ?_⟩, ⟨_, _, rfl, F'.keep⟩⟩
    · intro j r hj
      obtain ⟨a, b, u, v, t, hm⟩ := htup j r hj
      have hg := (N' _ (.tail _ (.tail _ hm))).1
      refine ⟨⟨u, v, t, _, hg, rfl, 0, ?_⟩, (N' _ (.tail _ (.tail _ hm))).2.2⟩
      simp only [List.getD_eq_getElem?_getD, hj, Option.getD_some]
      unfold rowOf
      simp only [hg]
      rfl
    · intro j hj
      have hjl : j < rs.length := by omega
      obtain ⟨a, b, u, v, t, hm⟩ := htup j rs[j] (by simp [hjl])
      have hg := (N' _ (.tail _ (.tail _ hm))).1
      simp only [List.getD_eq_getElem?_getD, List.getElem?_eq_getElem hjl, Option.getD_some]
      unfold rowOf
      simp only [hg]
      rfl
end Mine

namespace Mine
open PySem PySem.W PySem.Calls PySem.Spec PyProof.Rows

/-- what a tree of questions comes to where the answers are lt's -/
def Runs (n : Nat) (lt : Nat → Nat → Bool) {α : Type} : KasT α → (α → Prop) → Prop
  | .ret a, P => P a
  | .ask i j k, P => i < n ∧ j < n ∧ Runs n lt (k (lt i j)) P
theorem Runs.bind {n : Nat} {lt : Nat → Nat → Bool} {α β : Type} {f : α → KasT β} {P : β → Prop} : ∀ {t : KasT α}, Runs n lt t (fun a => Runs n lt (f a) P) → Runs n lt (t.bind f) P
  | .ret _, h => h
  | .ask _ _ _, h => ⟨h.1, h.2.1, Runs.bind h.2.2⟩
theorem Runs.mono {n : Nat} {lt : Nat → Nat → Bool} {α : Type} {P P' : α → Prop} (hp : ∀ a, P a → P' a) : ∀ {t : KasT α}, Runs n lt t P → Runs n lt t P'
  | .ret _, h => hp _ h
  | .ask _ _ _, h => ⟨h.1, h.2.1, Runs.mono hp h.2.2⟩
theorem Runs.wp {n : Nat} {lt : Nat → Nat → Bool} {α : Type} {cmp : Nat → Nat → (Bool → Shared → Prop) → Shared → Prop} {Inv : Shared → Prop} {P : α → Prop} {Q : α → Shared → Prop}
    (hc : ∀ i j C s, i < n → j < n → Inv s → (∀ s', Inv s' → C (lt i j) s') → cmp i j C s) (hq : ∀ a s, P a → Inv s → Q a s) : ∀ {t : KasT α} {s : Shared}, Runs n lt t P → Inv s → t.kasWp cmp Q s
  | .ret _, _, h, hi => hq _ _ h hi
  | .ask i j k, s, h, hi => hc i j _ s h.1 h.2.1 hi fun s' hi' => Runs.wp hc hq h.2.2 hi'

section
variable {n : Nat} {g : Nat → Nat}
def lessBy (g : Nat → Nat) (i j : Nat) : Bool := decide (g i < g j)
def Kp (g : Nat → Nat) (p : Array Nat) (k : Nat) : Nat := g (p.getD k 0)
structure IsP (n : Nat) (p : Array Nat) : Prop where
  size : p.size = n
  lt : ∀ i, i < n → p.getD i 0 < n
  inj : ∀ i j, i < n → j < n → p.getD i 0 = p.getD j 0 → i = j
def Up (g : Nat → Nat) (p : Array Nat) (m : Nat) : Prop := ∀ i j, i < j → j < m → Kp g p i < Kp g p j
def Down (g : Nat → Nat) (p : Array Nat) (m : Nat) : Prop := ∀ i j, i < j → j < m → Kp g p j < Kp g p i
def GInj (n : Nat) (g : Nat → Nat) : Prop := ∀ i j, i < n → j < n → g i = g j → i = j

theorem IsP.ne {p : Array Nat} (hp : IsP n p) (hg : GInj n g) {i j : Nat} (hi : i < n) (hj : j < n) (h : i ≠ j) : Kp g p i ≠ Kp g p j := fun e => h (hp.inj i j hi hj (hg _ _ (hp.lt i hi) (hp.lt j hj) e))
theorem Up.succ {p : Array Nat} {a : Nat} (h : Up g p a) (h1 : 1 ≤ a) (hk : Kp g p (a - 1) < Kp g p a) : Up g p (a + 1) := by
  intro i j hij hj
  by_cases e : j = a
  · subst e
    by_cases e2 : i = j - 1
    · subst e2; exact hk
    · exact Nat.lt_trans (h i (j - 1) (by omega) (by omega)) hk
  · exact h i j hij (by omega)
theorem Down.succ {p : Array Nat} {a : Nat} (h : Down g p a) (h1 : 1 ≤ a) (hk : Kp g p a < Kp g p (a - 1)) : Down g p (a + 1) := by
  intro i j hij hj
  by_cases e : j = a
  · subst e
    by_cases e2 : i = j - 1
    · subst e2; exact hk
    · exact Nat.lt_trans hk (h i (j - 1) (by omega) (by omega))
  · exact h i j hij (by omega)
theorem lessBy_K {p : Array Nat} {i j : Nat} : lessBy g (p.getD i 0) (p.getD j 0) = decide (Kp g p i < Kp g p j) := rfl

theorem run_asc {p : Array Nat} (hp : IsP n p) (hg : GInj n g) : ∀ (f a : Nat), 1 ≤ a → a + f ≤ n → Up g p a → Runs n (lessBy g) (kas_asc p f a) (fun m => a ≤ m ∧ m ≤ a + f ∧ Up g p m ∧ (m < a + f → Kp g p m < Kp g p (m - 1)))
  | 0, a, _, _, h => ⟨Nat.le_refl _, by omega, h, fun q => by omega⟩
  | f + 1, a, h1, ha, h => by
    refine ⟨hp.lt _ (by omega), hp.lt _ (by omega), ?_⟩
    rw [lessBy_K]
    by_cases hk : Kp g p a < Kp g p (a - 1)
    · rw [decide_eq_true hk]; dsimp only; rw [if_pos rfl]
      exact ⟨Nat.le_refl _, by omega, h, fun _ => hk⟩
    · rw [decide_eq_false hk]; dsimp only; rw [if_neg (by decide)]
      have := hp.ne hg (i := a) (j := a - 1) (by omega) (by omega) (by omega)
      refine Runs.mono ?_ (run_asc hp hg f (a + 1) (by omega) (by omega) (h.succ h1 (by omega)))
      rintro m ⟨q1, q2, q3, q4⟩
      exact ⟨by omega, by omega, q3, fun q => q4 (by omega)⟩

theorem run_desc {p : Array Nat} (hp : IsP n p) (hg : GInj n g) : ∀ (f a : Nat), 1 ≤ a → a + f ≤ n → Down g p a → Runs n (lessBy g) (kas_desc f p a 0) (fun r => r.1 = p ∧ r.2.2 = 0 ∧ a ≤ r.2.1 ∧ r.2.1 ≤ a + f ∧ Down g p r.2.1)
  | 0, a, _, _, h => ⟨rfl, rfl, Nat.le_refl _, Nat.le_refl _, h⟩
  | f + 1, a, h1, ha, h => by
    refine ⟨hp.lt _ (by omega), hp.lt _ (by omega), ?_⟩
    rw [lessBy_K]
    by_cases hk : Kp g p a < Kp g p (a - 1)
    · rw [decide_eq_true hk]; dsimp only; rw [if_pos rfl, if_neg (by omega)]
      refine Runs.mono ?_ (run_desc hp hg f (a + 1) (by omega) (by omega) (h.succ h1 hk))
      rintro r ⟨q1, q2, q3, q4, q5⟩
      exact ⟨q1, q2, by omega, by omega, q5⟩
    · rw [decide_eq_false hk]; dsimp only; rw [if_neg (by decide)]
      have := hp.ne hg (i := a) (j := a - 1) (by omega) (by omega) (by omega)
      refine ⟨hp.lt _ (by omega), hp.lt _ (by omega), ?_⟩
      rw [lessBy_K, decide_eq_true (by omega)]; dsimp only; rw [if_pos rfl]
      exact ⟨rfl, rfl, Nat.le_refl _, Nat.le_add_right _ _, h⟩

theorem getD_of {p : Array Nat} {i : Nat} {q : Option Nat} (h : p[i]? = q) : p.getD i 0 = q.getD 0 := by rw [← h]; simp
theorem rev_get {p : Array Nat} {a : Nat} (ha : a ≤ p.size) (k : Nat) : (kas_rev p 0 a).getD k 0 = if k < a then p.getD (a - 1 - k) 0 else p.getD k 0 := by
  unfold kas_rev
  rw [getD_of (getElem?_mirror_all ha k)]
  by_cases h : k < a
  · rw [if_pos ⟨Nat.zero_le _, h⟩, if_pos h, Nat.zero_add]; simp
  · rw [if_neg (fun q => h q.2), if_neg h]; simp
theorem rev_isP {p : Array Nat} {a : Nat} (hp : IsP n p) (ha : a ≤ n) : IsP n (kas_rev p 0 a) := by
  have e := fun k => rev_get (p := p) (a := a) (by rw [hp.size]; exact ha) k
  refine ⟨by unfold kas_rev; rw [mirror_size]; exact hp.size, fun i hi => ?_, fun i j hi hj h => ?_⟩
  · rw [e]; split
    · exact hp.lt _ (by omega)
    · exact hp.lt _ hi
  · rw [e, e] at h
    by_cases h1 : i < a <;> by_cases h2 : j < a
    · rw [if_pos h1, if_pos h2] at h
      have := hp.inj _ _ (by omega) (by omega) h; omega
    · rw [if_pos h1, if_neg h2] at h
      have := hp.inj _ _ (by omega) (by omega) h; omega
    · rw [if_neg h1, if_pos h2] at h
      have := hp.inj _ _ (by omega) (by omega) h; omega
    · rw [if_neg h1, if_neg h2] at h
      exact hp.inj _ _ hi hj h
theorem rev_up {p : Array Nat} {a : Nat} (hp : IsP n p) (ha : a ≤ n) (h : Down g p a) : Up g (kas_rev p 0 a) a := by
  intro i j hij hj
  unfold Kp
  rw [rev_get (by rw [hp.size]; exact ha), rev_get (by rw [hp.size]; exact ha), if_pos (by omega), if_pos hj]
  exact h (a - 1 - j) (a - 1 - i) (by omega) (by omega)

theorem run_count {p : Array Nat} (hp : IsP n p) (hg : GInj n g) (hn : 1 ≤ n) : Runs n (lessBy g) (kas_count n p) (fun r => 1 ≤ r.1 ∧ r.1 ≤ n ∧ IsP n r.2 ∧ Up g r.2 r.1) := by
  unfold kas_count
  refine Runs.bind (Runs.mono ?_ (run_asc hp hg (n - 1) 1 (Nat.le_refl _) (by omega) (fun i j _ _ => by omega)))
  rintro m ⟨h1, h2, h3, h4⟩
  by_cases hm : m = n
  · rw [if_pos (by simpa using hm)]
    exact ⟨h1, by omega, hp, h3⟩
  · rw [if_neg (by simpa using hm)]
    by_cases hm1 : m > 1
    · rw [if_pos hm1]
      refine ⟨hp.lt _ (by omega), hp.lt _ (by omega), ?_⟩
      rw [lessBy_K, decide_eq_true (h3 0 (m - 1) (by omega) (by omega))]; dsimp only; rw [if_pos rfl]
      exact ⟨h1, by omega, hp, h3⟩
    · rw [if_neg hm1]
      have e : m = 1 := by omega
      subst e
      have hd := h4 (by omega)
      unfold kas_descPart
      refine Runs.bind (Runs.mono ?_ (run_desc hp hg (n - (1 + 1)) (1 + 1) (by omega) (by omega) (fun i j hij hj => ?_)))
      · rintro ⟨p', a, q⟩ ⟨rfl, rfl, q1, q2, q3⟩
        dsimp only at q1 q2 q3 ⊢
        rw [if_neg (by omega)]
        unfold kas_tail3
        have hr := rev_isP hp (a := a) (by omega)
        refine Runs.bind (Runs.mono ?_ (run_asc hr hg (n - a) a (by omega) (by omega) (rev_up hp (by omega) q3)))
        rintro m ⟨h1, h2, h3, h4⟩
        exact ⟨by omega, by omega, hr, h3⟩
      · have : i = 0 := by omega
        have : j = 1 := by omega
        subst_vars
        exact hd

theorem run_place {p : Array Nat} (hp : IsP n p) (hg : GInj n g) {k : Nat} (hk : k < n) (hup : Up g p k) : ∀ (f l r : Nat), l ≤ r → r ≤ k → r - l ≤ f → (∀ i, i < l → Kp g p i < Kp g p k) → (∀ i, r ≤ i → i < k → Kp g p k < Kp g p i) →
    Runs n (lessBy g) (kas_place p k f l r) (fun m => m ≤ k ∧ (∀ i, i < m → Kp g p i < Kp g p k) ∧ ∀ i, m ≤ i → i < k → Kp g p k < Kp g p i)
  | 0, l, r, h1, h2, h3, h4, h5 => ⟨by omega, h4, fun i hi hik => h5 i (by omega) hik⟩
  | f + 1, l, r, h1, h2, h3, h4, h5 => by
    unfold kas_place
    by_cases hlr : l ≥ r
    · rw [if_pos hlr]
      exact ⟨by omega, h4, fun i hi hik => h5 i (by omega) hik⟩
    · rw [if_neg hlr]
      refine ⟨hp.lt _ hk, hp.lt _ (by omega), ?_⟩
      rw [lessBy_K]
      by_cases hc : Kp g p k < Kp g p ((l + r) / 2)
      · rw [decide_eq_true hc]; dsimp only; rw [if_pos rfl]
        refine run_place hp hg hk hup f l ((l + r) / 2) (by omega) (by omega) (by omega) h4 fun i hi hik => ?_
        by_cases e : i = (l + r) / 2
        · rw [e]; exact hc
        · exact Nat.lt_trans hc (hup _ _ (by omega) hik)
      · rw [decide_eq_false hc]; dsimp only; rw [if_neg (by decide)]
        have hne := hp.ne hg (i := (l + r) / 2) (j := k) (by omega) hk (by omega)
        refine run_place hp hg hk hup f ((l + r) / 2 + 1) r (by omega) h2 (by omega) (fun i hi => ?_) h5
        by_cases e : i = (l + r) / 2
        · rw [e]; omega
        · have := hup i ((l + r) / 2) (by omega) (by omega)
          omega

theorem bub_get {p : Array Nat} {k l : Nat} (hk : k < p.size) (hl : l ≤ k) (i : Nat) : (bubble p k (k - l)).getD i 0 = if i = l then p.getD k 0 else if l < i ∧ i ≤ k then p.getD (i - 1) 0 else p.getD i 0 := by
  rw [getD_of (getElem?_bubble hk (k - l) (by omega) i), show k - (k - l) = l by omega]
  have e : ∀ j : Nat, p[j]?.getD 0 = p.getD j 0 := fun j => by simp
  by_cases c1 : i = l
  · rw [if_pos c1, if_pos c1]; exact e _
  · rw [if_neg c1, if_neg c1]
    by_cases c2 : l < i ∧ i ≤ k
    · rw [if_pos c2, if_pos c2]; exact e _
    · rw [if_neg c2, if_neg c2]; exact e _
theorem bub_isP {p : Array Nat} {k l : Nat} (hp : IsP n p) (hk : k < n) (hl : l ≤ k) : IsP n (bubble p k (k - l)) := by
  have e := fun i => bub_get (p := p) (k := k) (l := l) (by rw [hp.size]; exact hk) hl i
  have key : ∀ i, i < n → ∃ j, j < n ∧ (bubble p k (k - l)).getD i 0 = p.getD j 0 ∧ (j = if i = l then k else if l < i ∧ i ≤ k then i - 1 else i) := by
    intro i hi
    refine ⟨_, ?_, ?_, rfl⟩
    · repeat' split
      all_goals omega
    · rw [e]
      repeat' split
      all_goals rfl
  refine ⟨by rw [bubble_size]; exact hp.size, fun i hi => ?_, fun i j hi hj h => ?_⟩
  · obtain ⟨a, ha, q, _⟩ := key i hi
    rw [q]; exact hp.lt _ ha
  · obtain ⟨a, ha, q, qa⟩ := key i hi
    obtain ⟨b, hb, r, rb⟩ := key j hj
    rw [q, r] at h
    have := hp.inj _ _ ha hb h
    clear q r h e
    split at qa <;> split at rb <;> (try split at qa) <;> (try split at rb) <;> omega
theorem bub_up {p : Array Nat} {k l : Nat} (hp : IsP n p) (hk : k < n) (hl : l ≤ k) (hup : Up g p k) (h1 : ∀ i, i < l → Kp g p i < Kp g p k) (h2 : ∀ i, l ≤ i → i < k → Kp g p k < Kp g p i) : Up g (bubble p k (k - l)) (k + 1) := by
  have e := fun i => bub_get (p := p) (k := k) (l := l) (by rw [hp.size]; exact hk) hl i
  intro i j hij hj
  unfold Kp
  rw [e, e]
  by_cases c1 : i = l
  · rw [if_pos c1, if_neg (by omega), if_pos ⟨by omega, by omega⟩]
    exact h2 (j - 1) (by omega) (by omega)
  · rw [if_neg c1]
    by_cases c2 : j = l
    · rw [if_pos c2, if_neg (by omega)]
      exact h1 i (by omega)
    · rw [if_neg c2]
      by_cases c3 : l < i ∧ i ≤ k
      · rw [if_pos c3, if_pos ⟨by omega, by omega⟩]
        exact hup _ _ (by omega) (by omega)
      · rw [if_neg c3]
        by_cases c4 : l < j ∧ j ≤ k
        · rw [if_pos c4]
          by_cases c5 : i = j - 1
          · omega
          · exact hup _ _ (by omega) (by omega)
        · rw [if_neg c4]
          exact hup _ _ (by omega) (by omega)

theorem run_bin (hg : GInj n g) : ∀ (f k : Nat) (p : Array Nat), IsP n p → k + f = n → Up g p k → Runs n (lessBy g) (kas_bin f p k) (fun q => IsP n q ∧ Up g q n)
  | 0, k, p, hp, hk, h => ⟨hp, by have : k = n := by omega
                                  rw [← this]; exact h⟩
  | f + 1, k, p, hp, hk, h => by
    refine Runs.bind (Runs.mono ?_ (run_place hp hg (k := k) (by omega) h k 0 k (by omega) (Nat.le_refl _) (by omega) (fun i hi => by omega) (fun i h1 h2 => by omega)))
    rintro l ⟨h1, h2, h3⟩
    exact run_bin hg f (k + 1) _ (bub_isP hp (by omega) h1) (by omega) (bub_up hp (by omega) h1 h h2 h3)

theorem run_sort (hn : 1 ≤ n) (hg : GInj n g) : Runs n (lessBy g) (kas_sort n) (fun q => IsP n q ∧ Up g q n) := by
  have h0 : IsP n (List.toArray (List.range n)) := by
    have e : ∀ i, i < n → (List.toArray (List.range n)).getD i 0 = i := fun i hi => by simp [hi]
    refine ⟨by simp, fun i hi => by rw [e i hi]; exact hi, fun i j hi hj h => by rw [e i hi, e j hj] at h; exact h⟩
  unfold kas_sort
  refine Runs.bind (Runs.mono ?_ (run_count h0 hg hn))
  rintro ⟨m, q⟩ ⟨h1, h2, h3, h4⟩
  dsimp only at h1 h2 h3 h4 ⊢
  by_cases hm : m < n
  · rw [if_pos hm]
    have e : max m 1 = m := by omega
    rw [e]
    exact run_bin hg (n - m) m q h3 (by omega) h4
  · rw [if_neg hm]
    have e : m = n := by omega
    subst e
    exact ⟨h3, h4⟩
end
end Mine

namespace Mine
open PySem PySem.W PySem.Calls PySem.Spec PyProof.Rows

/-- the law's ledger: its seven cells, the table, and what else has been made -/
def led (L : Addr) (o : Nat → Obj) (ps : Array Value) (tl : List (Addr × Obj)) : List (Addr × Obj) :=
  (L + 7, o 7) :: (L + 6, o 6) :: (L + 5, o 5) :: (L + 4, o 4) :: (L + 3, o 3) :: (L + 2, o 2) :: (L + 1, o 1) :: (128, tabObj ps) :: tl
/-- of its own, all else -/
def Off (L : Addr) (tl : List (Addr × Obj)) : Prop := ∀ p ∈ tl, p.1 ≠ 128 ∧ ∀ k : Nat, 1 ≤ k → k ≤ 7 → p.1 ≠ L + k
theorem led_cell {L : Addr} {o : Nat → Obj} {ps : Array Value} {tl : List (Addr × Obj)} {k : Nat} (h1 : 1 ≤ k) (h7 : k ≤ 7) : (L + k, o k) ∈ led L o ps tl := by
  unfold led
  match k, h1, h7 with
  | 1, _, _ => simp
  | 2, _, _ => simp
  | 3, _, _ => simp
  | 4, _, _ => simp
  | 5, _, _ => simp
  | 6, _, _ => simp
  | 7, _, _ => simp
theorem led_tab {L : Addr} {o : Nat → Obj} {ps : Array Value} {tl : List (Addr × Obj)} : (128, tabObj ps) ∈ led L o ps tl := by unfold led; simp
theorem led_tl {L : Addr} {o : Nat → Obj} {ps : Array Value} {tl : List (Addr × Obj)} {p : Addr × Obj} (h : p ∈ tl) : p ∈ led L o ps tl := by unfold led; simp [h]
theorem led_cases {L : Addr} {o : Nat → Obj} {ps : Array Value} {tl : List (Addr × Obj)} {p : Addr × Obj} (h : p ∈ led L o ps tl) : (∃ k : Nat, 1 ≤ k ∧ k ≤ 7 ∧ p = (L + k, o k)) ∨ p = (128, tabObj ps) ∨ p ∈ tl := by
  unfold led at h
  simp only [List.mem_cons] at h
  rcases h with h | h | h | h | h | h | h | h | h
  · exact .inl ⟨7, by omega, by omega, h⟩
  · exact .inl ⟨6, by omega, by omega, h⟩
  · exact .inl ⟨5, by omega, by omega, h⟩
  · exact .inl ⟨4, by omega, by omega, h⟩
  · exact .inl ⟨3, by omega, by omega, h⟩
  · exact .inl ⟨2, by omega, by omega, h⟩
  · exact .inl ⟨1, by omega, by omega, h⟩
  · exact .inr (.inl h)
  · exact .inr (.inr h)

section
variable {h₀ h h' : Heap} {L : Addr} {m : Str → Option Value} {o : Nat → Obj} {ps : Array Value} {tl : List (Addr × Obj)}
/-- new objects onto the ledger -/
theorem bagAdd {nl : List (Addr × Obj)} (F : Fr h₀ L h m) (N : News h₀ L h (led L o ps tl)) (hO : Off L tl) (hk : ∀ b o, h.get? b = some o → h'.get? b = some o) (hn : ∀ p ∈ nl, h'.get? p.1 = some p.2 ∧ h.get? p.1 = none) :
    News h₀ L h' (led L o ps (nl ++ tl)) ∧ Off L (nl ++ tl) := by
  constructor
  · intro p hp
    rcases led_cases hp with ⟨k, h1, h7, rfl⟩ | rfl | hp
    · exact news_keeps N hk _ (led_cell h1 h7)
    · exact news_keeps N hk _ led_tab
    · rcases List.mem_append.mp hp with hp | hp
      · refine ⟨(hn p hp).1, ?_, ?_⟩
        · intro e
          obtain ⟨oL, _, _, hL, _⟩ := F.ns
          have := (hn p hp).2
          rw [e, hL] at this; cases this
        · cases e : h₀.get? p.1 with
          | none => rfl
          | some o => have := (hn p hp).2; rw [F.keep _ _ e] at this; cases this
      · exact news_keeps N hk _ (led_tl hp)
  · intro p hp
    rcases List.mem_append.mp hp with hp | hp
    · refine ⟨fun e => ?_, fun k h1 h7 e => ?_⟩
      · have := (hn p hp).2
        rw [e, (N _ led_tab).1] at this; cases this
      · have := (hn p hp).2
        rw [e, (N _ (led_cell h1 h7)).1] at this; cases this
    · exact hO p hp
theorem bagCons {D : Addr} {ob : Obj} (N : News h₀ L h ((D, ob) :: led L o ps tl)) (hO : Off L tl) (hne : ∀ p ∈ led L o ps tl, p.1 ≠ D) : News h₀ L h (led L o ps ((D, ob) :: tl)) ∧ Off L ((D, ob) :: tl) := by
  constructor
  · intro p hp
    rcases led_cases hp with ⟨k, h1, h7, rfl⟩ | rfl | hp
    · exact N _ (.tail _ (led_cell h1 h7))
    · exact N _ (.tail _ led_tab)
    · rcases List.mem_cons.mp hp with rfl | hp
      · exact N _ (.head _)
      · exact N _ (.tail _ (led_tl hp))
  · intro p hp
    rcases List.mem_cons.mp hp with rfl | hp
    · exact ⟨fun e => hne _ led_tab e.symm, fun k h1 h7 e => hne _ (led_cell h1 h7) e.symm⟩
    · exact hO p hp
end

/-- a ledger that says the same, and shows nothing -/
structure Led (nl : List (Addr × Obj)) (L : Addr) (o : Nat → Obj) (ps : Array Value) (tl : List (Addr × Obj)) : Prop where
  sub : ∀ p ∈ nl, p ∈ led L o ps tl
  sup : ∀ p ∈ led L o ps tl, p ∈ nl
  off : Off L tl
theorem Led.to {h₀ h : Heap} {nl : List (Addr × Obj)} {L : Addr} {o : Nat → Obj} {ps : Array Value} {tl : List (Addr × Obj)} (D : Led nl L o ps tl) (N : News h₀ L h nl) : News h₀ L h (led L o ps tl) := cb_drop N D.sup
theorem Led.hide {h₀ h : Heap} {L : Addr} {o : Nat → Obj} {ps : Array Value} {tl : List (Addr × Obj)} (N : News h₀ L h (led L o ps tl)) (O : Off L tl) : ∃ nl, News h₀ L h nl ∧ Led nl L o ps tl := ⟨_, N, fun _ h => h, fun _ h => h, O⟩
/-- what the ledger says of a list of rows, of a comparer, of a list of ints, of a list of texts: at whatever heap that bears it -/
def Bears (tl : List (Addr × Obj)) (P : Heap → Prop) : Prop := ∀ h : Heap, (∀ p ∈ tl, h.get? p.1 = some p.2) → P h
theorem Bears.more {tl tl' : List (Addr × Obj)} {P : Heap → Prop} (B : Bears tl P) (hs : ∀ p ∈ tl, p ∈ tl') : Bears tl' P := fun h hh => B h fun p hp => hh p (hs p hp)
theorem Bears.at {h₀ h : Heap} {L : Addr} {o : Nat → Obj} {ps : Array Value} {tl : List (Addr × Obj)} {P : Heap → Prop} (B : Bears tl P) (N : News h₀ L h (led L o ps tl)) : P h := B h fun p hp => (N p (led_tl hp)).1

section
variable {prog : Program} {w : World} {A : Around} {E : Value → Shared → Prop} {s : Shared} {h₀ : Heap} {L : Addr} {m : Str → Option Value} {o : Nat → Obj} {ps : Array Value} {tl : List (Addr × Obj)} {name : Str} {scope : Scope} {a : Addr} {cd : Value} {x : Str}
/-- a cell of the law's is stored -/
theorem stLaw {k : Nat} {v : Value} {v₀ : Option Value} {Q : Unit → Shared → Prop} (h1 : 1 ≤ k) (h7 : k ≤ 7) (F : Fr h₀ L s.heap m) (N : News h₀ L s.heap (led L o ps tl)) (hO : Off L tl) (hL : 128 < L)
    (hc : (cellsFrom (L + 1) scope.names []).lookup x = some (L + k)) (hd : (o k).data = .cell v₀)
    (h : ∀ h' o', Fr h₀ L h' m → News h₀ L h' (led L o' ps tl) → (∀ j, j ≠ k → o' j = o j) → (o' k).data = .cell (some v) → Q () { s with heap := h' })
    (hk : scope.kind = .function := by rfl) (hl : (envOfC name scope L a cd).kindOf x = some .cell := by rfl) :
    wpAny (model prog w) A (storeName (envOfC name scope L a cd) x v) Q E s := by
  have hmem := N _ (led_cell (o := o) (ps := ps) (tl := tl) h1 h7)
  refine wpAny_storeName_cell hk hl hc ⟨o k, hmem.1, hd⟩ fun h' hv hs => ?_
  obtain ⟨ob, ho', hd'⟩ := hv
  refine h h' (fun j => if j = k then ob else o j) ⟨F.ns.sameBut hs (Ne.symm hmem.2.1), fun b ob e => (hs.2 b (fun q => ?_)).trans (F.keep b ob e), F.above⟩ ?_ (fun j hj => if_neg hj) (by rw [if_pos rfl]; exact hd')
  · rw [q, hmem.2.2] at e; cases e
  · intro p hp
    have other : ∀ {p : Addr × Obj}, p.1 ≠ L + k → p ∈ led L o ps tl → h'.get? p.1 = some p.2 ∧ p.1 ≠ L ∧ h₀.get? p.1 = none := fun {p} hne hp => ⟨(hs.2 _ hne).trans (N p hp).1, (N p hp).2⟩
    rcases led_cases hp with ⟨j, j1, j7, rfl⟩ | rfl | hp
    · by_cases hj : j = k
      · subst hj
        dsimp only
        rw [if_pos rfl]
        exact ⟨ho', hmem.2⟩
      · dsimp only
        rw [if_neg hj]
        exact other (p := (L + j, o j)) (fun e => hj (Nat.add_left_cancel e)) (led_cell j1 j7)
    · refine other (fun e => ?_) led_tab
      have e2 : (128 : Nat) = L + k := e
      have hL2 : (128 : Nat) < L := hL
      omega
    · exact other ((hO p hp).2 k h1 h7) (led_tl hp)
theorem ldLed {nl : List (Addr × Obj)} {k : Nat} {v : Value} {pos : Pos} {Q : Value → Shared → Prop} (N : News h₀ L s.heap nl) (D : Led nl L o ps tl) (h1 : 1 ≤ k) (h7 : k ≤ 7) (hc : (cellsFrom (L + 1) scope.names []).lookup x = some (L + k)) (hd : (o k).data = .cell (some v)) (h : Q v s)
    (hk : scope.kind = .function := by rfl) (hl : (envOfC name scope L a cd).kindOf x = some .cell := by rfl) (hdb : (x == ("__debug__" : Str)) = false := by decide) :
    wpAny (model prog w) A (eval (.Name x pos) (envOfC name scope L a cd)) Q E s :=
  wpAny_Name (wpAny_loadName_cell hk hl hc ⟨o k, (D.to N _ (led_cell h1 h7)).1, hd⟩ h) hdb
theorem ldLaw {k : Nat} {v : Value} {pos : Pos} {Q : Value → Shared → Prop} (h1 : 1 ≤ k) (h7 : k ≤ 7) (N : News h₀ L s.heap (led L o ps tl)) (hc : (cellsFrom (L + 1) scope.names []).lookup x = some (L + k)) (hd : (o k).data = .cell (some v)) (h : Q v s)
    (hk : scope.kind = .function := by rfl) (hl : (envOfC name scope L a cd).kindOf x = some .cell := by rfl) (hdb : (x == ("__debug__" : Str)) = false := by decide) :
    wpAny (model prog w) A (eval (.Name x pos) (envOfC name scope L a cd)) Q E s :=
  wpAny_Name (wpAny_loadName_cell hk hl hc ⟨o k, (N _ (led_cell h1 h7)).1, hd⟩ h) hdb
end

section
variable {w : World} {A : Around} {E : Value → Shared → Prop} {s : Shared} {p : Program} {loose : List Str} {mean : ExcName → Option Value} {mg mb : Str → Option Value} {h₀ : Heap} {L : Addr} {m : Str → Option Value} {o : Nat → Obj} {ps : Array Value} {tl : List (Addr × Obj)} {Q : Value → Shared → Prop}
theorem tuples_of {h h' : Heap} {x : Nat → Nat → Int} : ∀ (rs : List Addr) (k : Nat), (∀ (i : Nat) r, rs[i]? = some r → RowAt h' r (x (k + i)) ∧ h.get? r = none) → ∃ nl : List (Addr × Obj), (∀ p ∈ nl, h'.get? p.1 = some p.2 ∧ h.get? p.1 = none) ∧ ∀ (i : Nat) r, rs[i]? = some r → Bears nl fun h => RowAt h r (x (k + i))
  | [], _, _ => ⟨[], (fun p hp => nomatch hp), fun i r e => by simp at e⟩
  | r :: rs, k, H => by
    obtain ⟨nl, h1, h2⟩ := tuples_of rs (k + 1) fun i r e => by
      have := H (i + 1) r (by simpa using e)
      rw [show k + (i + 1) = k + 1 + i by omega] at this
      exact this
    obtain ⟨⟨u, v, t, ob, hg, hc, e, hd⟩, hn⟩ := H 0 r rfl
    refine ⟨(r, ob) :: nl, fun p hp => ?_, fun i r' hr' => ?_⟩
    · rcases List.mem_cons.mp hp with rfl | hp
      · exact ⟨hg, hn⟩
      · exact h1 p hp
    · cases i with
      | zero =>
        simp at hr'
        subst hr'
        intro h3 hh
        exact ⟨u, v, t, ob, hh _ (.head _), hc, e, hd⟩
      | succ i =>
        have := h2 i r' (by simpa using hr')
        rw [show k + 1 + i = k + (i + 1) by omega] at this
        exact this.more fun p hp => .tail _ hp

theorem recs_use {l : Addr} {vs : List Value} {ns : List Int} (F : Fr h₀ L s.heap m) (N : News h₀ L s.heap (led L o ps tl)) (hO : Off L tl) (X : (hd.heap_39 w.params).In h₀) (T : Top p loose mean mg mb h₀) (hdp : A.depth + 6 < recursionLimit) (hu : A.units + 30 < cLine) (hh : A.handled = none)
    (hl : h₀.IsList l vs.toArray) (hi : IntsAre vs ns) (hn : ns.length < 64)
    (h : ∀ (D : Addr) (x : Nat → Nat → Int) (rs : List Addr) tl' h' tk', Fr h₀ L h' m → News h₀ L h' (led L o ps tl') → Off L tl' → (∀ p ∈ tl, p ∈ tl') → rs.length = 5 + min ns.length 2 → (Bears tl' fun h => h.IsList D (rs.map Value.ref).toArray) → (∀ (i : Nat) r, rs[i]? = some r → Bears tl' fun h => RowAt h r (x i)) → (∀ i, i < 5 + min ns.length 2 → x i 2 = i) →
      Q (.ref D) { s with heap := h', toks := tk' }) :
    wpAny (model Challenge.rw_pg0099_01.row.prog w) A (call (.ref 95) [.ref l]) Q E s := by
  refine wpAny_mono (recs_spec (E := Never) (X.keeps F.keep) (T.keeps F.keep) hdp hu hh (hl.at fun _ e => F.keep _ _ e) hi hn) ?_ fun _ _ e => e.elim
  rintro v s' ⟨⟨D, x, rs, rfl, hD, hrs, hDl, hrow, hx⟩, ⟨h', tk', rfl, hk⟩⟩
  obtain ⟨nl, n1, n2⟩ := tuples_of (x := x) rs 0 fun i r e => by rw [Nat.zero_add]; exact hrow i r e
  obtain ⟨oD, hoD, hcD, e, hdD⟩ := hDl
  obtain ⟨N2, O2⟩ := bagAdd (nl := (D, oD) :: nl) F N hO hk (by
    intro p hp
    rcases List.mem_cons.mp hp with rfl | hp
    · exact ⟨hoD, hD⟩
    · exact n1 p hp)
  refine h D x rs _ h' tk' (fr_keeps F hk) N2 O2 (fun p hp => List.mem_append_right _ hp) hrs ?_ ?_ hx
  · intro h3 hh3
    exact ⟨oD, hh3 _ (List.mem_append_left _ (.head _)), hcD, e, hdD⟩
  · intro i r hr
    have := n2 i r hr
    rw [Nat.zero_add] at this
    exact this.more fun p hp => List.mem_append_left _ (.tail _ hp)
end
section
variable {prog : Program} {w : World} {A : Around} {E : Value → Shared → Prop} {s : Shared} {h₀ : Heap} {L : Addr} {m : Str → Option Value} {o : Nat → Obj} {ps : Array Value} {tl nl : List (Addr × Obj)} {Q : Value → Shared → Prop}
theorem len_bag {D : Addr} {vs : List Value} {n : Nat} (N : News h₀ L s.heap nl) (LD : Led nl L o ps tl) (B : Bears tl fun h => h.IsList D vs.toArray) (hn : vs.length = n) (hs : n < 2 ^ 62) (h : Q (.int n (s.toks + 1)) { s with toks := s.toks + 1 + 1 }) :
    wpAny (model prog w) A (call (.builtin "len") [.ref D]) Q E s := by
  have e : (vs.toArray.size : Int) = n := by simp [hn]
  refine len_list (B.at (LD.to N)) (by rw [e]; omega) ?_
  rw [e]; exact h
end
end Mine

namespace Mine
open PySem PySem.W PySem.Calls PySem.Spec PyProof.Rows

/-- a tuple of ints -/
def IntTup (h : Heap) (t : Addr) (ks : List Int) : Prop := ∃ (ob : Obj) (vs : List Value) (n : Nat), h.get? t = some ob ∧ ob.cls = .type "tuple" ∧ ob.data = .seq vs.toArray n ∧ IntsAre vs ks
def lexLt : List Int → List Int → Bool
  | a :: r, b :: q => if a = b then lexLt r q else decide (a < b)
  | _, _ => false

section
variable {prog : Program} {w : World} {A : Around} {E : Value → Shared → Prop} {s : Shared} {b : Bool} {Q : Bool → Shared → Prop}
theorem lex_run : ∀ {vs : List Value} {ks : List Int} {ws : List Value} {ls : List Int} {i : Nat}, IntsAre vs ks → IntsAre ws ls → ks.length = ls.length → Q (lexLt ks ls) s → KatLex prog w A b false Q (vs.zip ws) i s
  | _, _, _, _, _, .nil, .nil, _, h => kat_nil h
  | _, _, _, _, i, .cons a t hv, .cons c u hw, hl, h => by
    refine kat_cons (wpAny_eqBool_int ?_)
    by_cases e : a = c
    · rw [show (a == c) = true by simpa using e]
      refine kat_yes (lex_run hv hw (by simpa using hl) ?_)
      unfold lexLt at h
      rw [if_pos e] at h
      exact h
    · rw [show (a == c) = false by simpa using e]
      refine kat_no ?_
      unfold lexLt at h
      rw [if_neg e] at h
      cases (b && i == 0) with
      | true => exact oneLt_int h
      | false => exact kat_one _ _ (lt_int h)
theorem lex_lt {x y : Addr} {ks ls : List Int} (hx : IntTup s.heap x ks) (hy : IntTup s.heap y ls) (hl : ks.length = ls.length) (h : Q (lexLt ks ls) s) : wpAny (model prog w) A (keyLt' (tuples' b) (.ref x) (.ref y)) Q E s := by
  obtain ⟨ox, vs, n, gx, _, dx, ix⟩ := hx
  obtain ⟨oy, ws, k, gy, _, dy, iy⟩ := hy
  refine kat_lt gx dx gy dy ?_
  have e : decide (vs.toArray.size < ws.toArray.size) = false := by
    have := ix.length
    have := iy.length
    simp; omega
  rw [e]
  exact lex_run ix iy hl h
end

theorem tups_of {h : Heap} : ∀ {kt : List Addr} {key : Nat → List Int} (k : Nat), (∀ i, key i ≠ []) → (∀ (j : Nat) t, kt[j]? = some t → IntTup h t (key (k + j))) → ∃ fs, KatTups h (kt.map Value.ref) fs ∧ fs.length = kt.length ∧ ∀ v ∈ fs, ∃ i t, v = Value.int i t
  | [], _, _, _, _ => ⟨[], KatTups.nil, rfl, fun v hv => nomatch hv⟩
  | t :: kt, key, k, hne, H => by
    obtain ⟨fs, h1, h2, h3⟩ := tups_of (kt := kt) (key := key) (k + 1) hne fun j t hj => by
      have := H (j + 1) t (by simpa using hj)
      rw [show k + (j + 1) = k + 1 + j by omega] at this
      exact this
    obtain ⟨ob, vs, n, g1, g2, g3, g4⟩ := H 0 t rfl
    cases vs with
    | nil => cases hk : key (k + 0) with
      | nil => exact absurd hk (hne _)
      | cons a r => rw [hk] at g4; cases g4
    | cons v vs =>
      obtain ⟨i, tk, rfl⟩ := ints_mem g4 v (.head _)
      exact ⟨_, KatTups.cons g1 g2 g3 rfl h1, by simp [h2], fun v hv => by
        rcases List.mem_cons.mp hv with rfl | hv
        · exact ⟨i, tk, rfl⟩
        · exact h3 v hv⟩

section
variable {prog : Program} {w : World} {A : Around} {E : Value → Shared → Prop} {s : Shared} {h₀ : Heap} {L : Addr} {m : Str → Option Value} {news : List (Addr × Obj)}

/-- the keys asked one by one -/
theorem keys_run {f : Value} {rs : List Addr} {key : Nat → List Int} {kS D : Addr} {e1 : Nat} {Fin : List Value → Nat → Shared → Prop} (hDk : D < kS) (hnew : ∀ q ∈ news, q.1 < D)
    (hkey : ∀ (s' : Shared) (i : Nat) r, rs[i]? = some r → Fr h₀ L s'.heap m → News h₀ L s'.heap news → wpAny (model prog w) A (call f [.ref r]) (fun v s'' => ∃ t, v = .ref t ∧ s'.heap.get? t = none ∧ IntTup s''.heap t (key i) ∧ Keeps s' s'') Never s')
    (fin : ∀ (kt : List Addr) (kl : List (Addr × Obj)) e h' tk, kt.length = rs.length → Fr h₀ L h' m → News h₀ L h' ((kS, seqObj "list" (List.toArray (kt.map Value.ref)) e) :: (D, seqObj "list" #[] e1) :: (kl ++ news)) → (∀ p ∈ kl, p.1 ≠ kS ∧ p.1 ≠ D) → (∀ (j : Nat) t, kt[j]? = some t → IntTup h' t (key j)) → Fin (kt.map Value.ref) e { s with heap := h', toks := tk }) :
    ∀ (r kr : List Addr) (kl : List (Addr × Obj)) (e : Nat) (h' : Heap) (tk : Nat), rs = kr ++ r → ∀ kt : List Addr, kt.length = kr.length → Fr h₀ L h' m → News h₀ L h' ((kS, seqObj "list" (List.toArray (kt.map Value.ref)) e) :: (D, seqObj "list" #[] e1) :: (kl ++ news)) → (∀ p ∈ kl, p.1 ≠ kS ∧ p.1 ≠ D) →
      (∀ (j : Nat) t, kt[j]? = some t → Bears kl fun h => IntTup h t (key j)) → KatKeys prog w A h₀ L m kS f Fin (r.map Value.ref) (kt.map Value.ref) e { s with heap := h', toks := tk }
  | [], kr, kl, e, h', tk, hrs, kt, hkt, F, N, hkl, hB => by
    refine KatKeys.nil (fin kt kl e h' tk (by rw [hkt, hrs, List.append_nil]) F N hkl fun j t hj => (hB j t hj) h' fun p hp => (N p (.tail _ (.tail _ (List.mem_append_left _ hp)))).1)
  | x :: r, kr, kl, e, h', tk, hrs, kt, hkt, F, N, hkl, hB => by
    refine KatKeys.cons ?_
    have hx : rs[kr.length]? = some x := by rw [hrs]; simp
    have N0 : News h₀ L h' news := cb_drop N fun p hp => .tail _ (.tail _ (List.mem_append_right _ hp))
    refine wpAny_mono (hkey { s with heap := h', toks := tk } kr.length x hx F N0) ?_ fun _ _ q => q.elim
    intro v s'' hG1
    refine hideGoal fun XX kX => ?_
    obtain ⟨t, rfl, ht, hit, ⟨h2, tk2, rfl, hk⟩⟩ := hG1
    refine kX ?_
    clear kX XX
    dsimp only at ht hk hit
    obtain ⟨ob, ws, n, g1, g2, g3, g4⟩ := hit
    have F2 := fr_keeps F hk
    have N2 : News h₀ L h2 ((kS, seqObj "list" (List.toArray (kt.map Value.ref)) e) :: (D, seqObj "list" #[] e1) :: (((t, ob) :: kl) ++ news)) := by
      have old := news_keeps N hk
      intro p hp
      rcases List.mem_cons.mp hp with rfl | hp
      · exact old _ (.head _)
      rcases List.mem_cons.mp hp with rfl | hp
      · exact old _ (.tail _ (.head _))
      rcases List.mem_cons.mp hp with rfl | hp
      · refine ⟨g1, fun q => ?_, ?_⟩
        · obtain ⟨oL, _, _, hL, _⟩ := F.ns
          have q : t = L := q
          rw [q, hL] at ht; cases ht
        · cases q : h₀.get? t with
          | none => rfl
          | some o => rw [F.keep _ _ q] at ht; cases ht
      · exact old _ (.tail _ (.tail _ hp))
    have htS : t ≠ kS := fun q => by rw [q, (N _ (.head _)).1] at ht; cases ht
    have htD : t ≠ D := fun q => by rw [q, (N _ (.tail _ (.head _))).1] at ht; cases ht
    refine KatBack.intro F2 N2 (UpdF.head ?_) fun h3 c F3 N3 => ?_
    · intro p hp
      rcases List.mem_cons.mp hp with rfl | hp
      · exact Nat.ne_of_lt hDk
      rcases List.mem_cons.mp hp with rfl | hp
      · exact htS
      rcases List.mem_append.mp hp with hp | hp
      · exact (hkl p hp).1
      · exact Nat.ne_of_lt (Nat.lt_trans (hnew p hp) hDk)
    · have e4 : kt.map Value.ref ++ [Value.ref t] = (kt ++ [t]).map Value.ref := by simp
      rw [e4] at N3 ⊢
      refine keys_run hDk hnew hkey fin r (kr ++ [x]) ((t, ob) :: kl) c h3 tk2 (by rw [hrs]; simp) (kt ++ [t]) (by simp [hkt]) F3 N3 ?_ ?_
      · intro p hp
        rcases List.mem_cons.mp hp with rfl | hp
        · exact ⟨htS, htD⟩
        · exact hkl p hp
      · intro j t' hj
        by_cases hjl : j < kt.length
        · rw [List.getElem?_append_left hjl] at hj
          exact (hB j t' hj).more fun p hp => .tail _ hp
        · rw [List.getElem?_append_right (by omega)] at hj
          have hj0 : j - kt.length = 0 := by
            rcases Nat.eq_zero_or_pos (j - kt.length) with h | h
            · exact h
            · rw [List.getElem?_eq_none (by simp; omega)] at hj; cases hj
          rw [hj0] at hj
          cases hj
          have : j = kr.length := by omega
          rw [this]
          intro h5 hh
          exact ⟨ob, ws, n, hh _ (.head _), g2, g3, g4⟩

theorem sorted_rows {l f : Addr} {rs : List Addr} {n : Nat} {key : Nat → List Int} {g : Nat → Nat} {Q : Value → Shared → Prop} (F : Fr h₀ L s.heap m) (N : News h₀ L s.heap news) (hl : s.heap.IsList l (rs.map Value.ref).toArray) (hrs : rs.length = n) (h2 : 2 ≤ n) (h64 : n < 64)
    (hkey : ∀ (s' : Shared) (i : Nat) r, rs[i]? = some r → Fr h₀ L s'.heap m → News h₀ L s'.heap news → wpAny (model prog w) A.in1.in1 (call (.ref f) [.ref r]) (fun v s'' => ∃ t, v = .ref t ∧ s'.heap.get? t = none ∧ IntTup s''.heap t (key i) ∧ Keeps s' s'') Never s')
    (hne : ∀ i, key i ≠ []) (hlen : ∀ i j, (key i).length = (key j).length) (hg : GInj n g) (hlt : ∀ i j, i < n → j < n → lexLt (key i) (key j) = lessBy g i j)
    (h : ∀ D c p h' tk, Fr h₀ L h' m → News h₀ L h' ((D, listOf (List.toArray (p.toList.map fun i => (rs.map Value.ref).getD i Value.none)) c) :: news) → (∀ q ∈ news, q.1 < D) → IsP n p → Up g p n → Q (.ref D) { s with heap := h', toks := tk }) :
    wpAny (model prog w) A (call (.builtin "sorted") [.ref l] [(Str.ofString "key", .ref f)]) Q E s := by
  have hvl : (rs.map Value.ref).length = n := by rw [List.length_map, hrs]
  refine kat_sortedK (b := false) F N hl (by omega) (by omega) (ksk_s1 _ _) (fun x => ksk_l1 (.ref x) (.ref f)) (fun x => ksk_t1 f x) ?_
  intro D kS e1 h' F' N' hDk hnew
  refine keys_run (s := { s with heap := h' }) (kS := kS) (D := D) (e1 := e1) hDk hnew hkey ?_ rs [] [] 0 h' s.toks rfl [] rfl F' N' (fun p hp => nomatch hp) (fun j t hj => by simp at hj)
  intro kt kl e h3 tk3 hkt F3 N3 hkl hB
  dsimp only
  obtain ⟨fs, t1, t2, t3⟩ := tups_of (h := h3) (kt := kt) (key := key) 0 hne fun j t hj => by rw [Nat.zero_add]; exact hB j t hj
  refine kat_kind (s := { s with heap := h3, toks := tk3 }) (T := .type "int") t1 (by omega) (fun v hv => ?_) rfl ?_
  · obtain ⟨i, t, rfl⟩ := t3 v hv
    exact Looks.of_pure rfl
  · rw [hvl]
    refine Runs.wp (n := n) (lt := lessBy g) (Inv := fun s' => s' = { s with heap := h3, toks := tk3 }) (P := fun p => IsP n p ∧ Up g p n) ?_ ?_ (run_sort (by omega) hg) rfl
    · rintro i j C s' hi hj rfl hC
      unfold kas_ask
      have gi : ∀ k, k < n → ∃ t, (katRev false (kt.map Value.ref)).getD k Value.none = .ref t ∧ IntTup h3 t (key k) := by
        intro k hk
        have hk' : k < kt.length := by omega
        refine ⟨kt[k], by simp [katRev, hk'], hB k _ (by simp [hk'])⟩
      obtain ⟨ti, ei, qi⟩ := gi i hi
      obtain ⟨tj, ej, qj⟩ := gi j hj
      rw [ei, ej]
      refine lex_lt qi qj (hlen i j) ?_
      rw [hlt i j hi hj]
      exact hC _ rfl
    · rintro p s' ⟨hp1, hp2⟩ rfl
      have hrest : ∀ q ∈ kl ++ news, q.1 ≠ kS ∧ q.1 ≠ D := by
        intro q hq
        rcases List.mem_append.mp hq with hq | hq
        · exact hkl q hq
        · exact ⟨Nat.ne_of_lt (Nat.lt_trans (hnew q hq) hDk), Nat.ne_of_lt (hnew q hq)⟩
      refine KatFin.intro F3 N3 (UpdF.head ?_) fun h4 c F4 N4 => ?_
      · intro q hq
        rcases List.mem_cons.mp hq with rfl | hq
        · exact Nat.ne_of_lt hDk
        · exact (hrest q hq).1
      · refine KasFin.intro F4 N4 (UpdF.tail (Nat.ne_of_gt hDk) (UpdF.head fun q hq => (hrest q hq).2)) fun h5 c2 F5 N5 => ?_
        refine h D c2 p h5 tk3 F5 (cb_drop N5 ?_) hnew hp1 hp2
        intro q hq
        rcases List.mem_cons.mp hq with rfl | hq
        · exact .tail _ (.head _)
        · exact .tail _ (.tail _ (List.mem_append_right _ hq))
end
end Mine

namespace Mine
open PySem PySem.W PySem.Calls PySem.Spec PyProof.Rows
example : True ∧ True := by
  w_top off
  (try walk1)
  all_goals trivial
example : (∀ P, hd.heap_39 P = hd.heap_39 P) → Challenge.rw_pg0099_01 = Challenge.rw_pg0099_01 := by k_fill; intro _; rfl

theorem lam_call {prog : Program} {w : World} {A : Around} {E : Value → Shared → Prop} {s : Shared} {f c' : Addr} {name qual : Str} {params : Arguments} {body : Expr} {scope : Scope} {clos : List (Str × Addr)} {pm ctv : Value} {args : List Value} {binds : List (Str × Value)} {Q : Value → Shared → Prop}
    (ho : s.heap.get? f = some (kla_obj name qual params body scope clos pm c' ctv)) (hcd : s.heap.CodeRec (.ref c') qual) (hlim : s.heap.NoLimit) (hroom : A.depth < recursionLimit)
    (hbind : bindArgs (kla_fn name qual params body scope clos pm (.ref c') ctv) ⟨args, []⟩ = pure binds) (hloc : ∀ y ∈ binds, scope.names.lookup y.1 = some .local)
    (hcell : ∀ x ∈ scope.names, x.2 ≠ .cell) (hco : scope.isCoroutine = false) (hgen : scope.isGenerator = false) (hk : scope.kind = .function)
    (h : ∀ h₁, Fr s.heap s.heap.objs.size h₁ (fun y => binds.reverse.lookup y) → wpAny (model prog w) (A.deeper (envX qual scope s.heap.objs.size f (.ref c') clos)) (eval body (envX qual scope s.heap.objs.size f (.ref c') clos)) Q Never { s with heap := h₁, toks := s.toks + binds.length }) :
    wpAny (model prog w) A (call (.ref f) args) Q E s := by
  refine wpAny_call ?_
  refine kla_callFunE hroom ho rfl hco hgen rfl hcd ?_
  rw [hbind]
  refine wpAny_pure (wpAny_newFunctionEnv hcell hloc (fun h₁ hns hsb => ⟨hlim.fresh _ hsb, ?_⟩) hk)
  show codeAny _ _ (.expr body (envX qual scope s.heap.objs.size f (.ref c') clos)) _ _
  have hk₁ : ∀ b o, s.heap.get? b = some o → h₁.get? b = some o := fun b o e => hsb.extBut b o (Nat.ne_of_lt (Heap.lt_size e)) (Heap.get?_push_of_some _ e)
  exact kla_codeExpr (wpAny_mono (h h₁ ⟨hns, hk₁, Nat.le_refl _⟩) (fun v s' q => q) fun _ _ q => q.elim)

local macro_rules | `(tactic| walk_at "subscriptTail") => `(tactic| (k_here; (with_reducible show wpAny _ _ (subscriptTail _ _ (Value.ref _) (Value.int _ _)) _ _ _); (with_unfolding_all refine row_item (RowAt.keeps (by assumption) (Fr.keep (by assumption))) (by assumption) ?_); intro tt))
local macro_rules | `(tactic| walk_at "eval Name") => `(tactic| (k_here; k_dflt (refine' nameFr ?k1 ?k2 ?_; (case k1 => k_asm); (case k2 => first | exact rfl | assumption))))
abbrev rowScope : Scope := { kind := .function, names := [("row", .local)], isGenerator := false, isCoroutine := false }

theorem key1 {w : World} {A : Around} {s : Shared} {p : Program} {loose : List Str} {mean : ExcName → Option Value} {mg mb : Str → Option Value} {f c' r : Addr} {name qual : Str} {q0 q1 q2 q3 q4 q5 q6 q7 : Pos} {pm ctv : Value} {x : Nat → Int}
    (X : (hd.heap_39 w.params).In s.heap) (T : Top p loose mean mg mb s.heap) (hroom : A.depth + 2 < recursionLimit)
    (ho : s.heap.get? f = some (kla_obj name qual ⟨[], [⟨"row", none, q0⟩], none, [], [], none, []⟩ (.Tuple [.Subscript (.Name "row" q1) (.Constant (.int 0) 0 q2) q3, .Subscript (.Name "row" q4) (.Constant (.int 2) 0 q5) q6] 0 q7) rowScope [] pm c' ctv))
    (hcd : s.heap.CodeRec (.ref c') qual) (R : RowAt s.heap r x) :
    wpAny (model Challenge.rw_pg0099_01.row.prog w) A (call (.ref f) [.ref r]) (fun v s'' => End (∃ t, v = .ref t ∧ s.heap.get? t = none ∧ IntTup s''.heap t [x 0, x 2] ∧ Keeps s s'')) Never s := by
  refine lam_call (binds := [("row", .ref r)]) ho hcd T.nolimit (by omega) rfl (locs rfl) (by decide) rfl rfl rfl fun h₁ F => ?_
  have N : News s.heap s.heap.objs.size h₁ [] := News.nil
  have a0 : 0 < 3 := by decide
  have a1 : 1 < 3 := by decide
  have a2 : 2 < 3 := by decide
  repeat walk1
  rename Fr _ _ _ _ => F9
  rename News _ _ _ _ => N9
  exact End.mk ⟨_, rfl, (N9 _ (.head _)).2.2, ⟨_, [_, _], 0, (N9 _ (.head _)).1, rfl, rfl, .cons _ _ (.cons _ _ .nil)⟩, ⟨_, _, rfl, F9.keep⟩⟩

theorem key2 {w : World} {A : Around} {s : Shared} {p : Program} {loose : List Str} {mean : ExcName → Option Value} {mg mb : Str → Option Value} {f c' r : Addr} {name qual : Str} {q0 q1 q2 q3 q4 q5 q6 q7 q8 q9 q10 q11 q12 : Pos} {pm ctv : Value} {x : Nat → Int}
    (X : (hd.heap_39 w.params).In s.heap) (T : Top p loose mean mg mb s.heap) (hroom : A.depth + 2 < recursionLimit)
    (ho : s.heap.get? f = some (kla_obj name qual ⟨[], [⟨"row", none, q0⟩], none, [], [], none, []⟩ (.Tuple [.UnaryOp .USub (.Subscript (.Name "row" q1) (.Constant (.int 1) 0 q2) q3) q10, .Subscript (.Name "row" q4) (.Constant (.int 0) 0 q5) q6, .UnaryOp .USub (.Subscript (.Name "row" q7) (.Constant (.int 2) 0 q8) q9) q11] 0 q12) rowScope [] pm c' ctv))
    (hcd : s.heap.CodeRec (.ref c') qual) (R : RowAt s.heap r x) :
    wpAny (model Challenge.rw_pg0099_01.row.prog w) A (call (.ref f) [.ref r]) (fun v s'' => End (∃ t, v = .ref t ∧ s.heap.get? t = none ∧ IntTup s''.heap t [-x 1, x 0, -x 2] ∧ Keeps s s'')) Never s := by
  refine lam_call (binds := [("row", .ref r)]) ho hcd T.nolimit (by omega) rfl (locs rfl) (by decide) rfl rfl rfl fun h₁ F => ?_
  have N : News s.heap s.heap.objs.size h₁ [] := News.nil
  have a0 : 0 < 3 := by decide
  have a1 : 1 < 3 := by decide
  have a2 : 2 < 3 := by decide
  repeat walk1
  rename Fr _ _ _ _ => F9
  rename News _ _ _ _ => N9
  exact End.mk ⟨_, rfl, (N9 _ (.head _)).2.2, ⟨_, [_, _, _], 0, (N9 _ (.head _)).1, rfl, rfl, .cons _ _ (.cons _ _ (.cons _ _ .nil))⟩, ⟨_, _, rfl, F9.keep⟩⟩
end Mine

namespace Mine
open PySem PySem.W PySem.Calls PySem.Spec PyProof.Rows

theorem allLt_mem {d : Addr} : ∀ {l : List (Addr × Obj)}, AllLt d l → ∀ p ∈ l, p.1 < d
  | [], _, _, h => nomatch h
  | _ :: _, h, p, hp => by
    rcases List.mem_cons.mp hp with rfl | hp
    · exact h.1
    · exact allLt_mem h.2 p hp
theorem allLt_ne {d : Addr} {l : List (Addr × Obj)} (h : AllLt d l) : ∀ p ∈ l, p.1 ≠ d := fun p hp => Nat.ne_of_lt (allLt_mem h p hp)
theorem allLt_up {d e : Addr} {l : List (Addr × Obj)} (h : AllLt d l) (he : d < e) : AllLt e l := allLt_of fun p hp => Nat.lt_trans (allLt_mem h p hp) he
section
variable {prog : Program} {w : World} {A : Around} {E : Value → Shared → Prop} {s : Shared} {h₀ : Heap} {L : Addr} {m : Str → Option Value} {o : Nat → Obj} {ps : Array Value} {tl nl : List (Addr × Obj)}
/-- the ledger's other order: the table first -/
theorem Led.tab {h : Heap} (LD : Led nl L o ps tl) (N : News h₀ L h nl) (hL : 128 < L) : ∃ rst, News h₀ L h ((128, tabObj ps) :: rst) ∧ (∀ p ∈ rst, p.1 ≠ 128) ∧ (∀ p ∈ led L o ps tl, p = (128, tabObj ps) ∨ p ∈ rst) ∧ (∀ p ∈ rst, p ∈ led L o ps tl) := by
  have hL2 : (128 : Nat) < L := hL
  have only : ∀ p ∈ led L o ps tl, p.1 = 128 → p = (128, tabObj ps) := by
    intro p hp e
    rcases led_cases hp with ⟨k, h1, h7, rfl⟩ | rfl | hp
    · have e2 : (128 : Nat) = L + k := e.symm
      omega
    · rfl
    · exact absurd e (LD.off p hp).1
  refine ⟨(led L o ps tl).filter (fun p => decide ((p.1 : Nat) ≠ 128)), cb_drop (LD.to N) ?_, ?_, ?_, ?_⟩
  · intro p hp
    rcases List.mem_cons.mp hp with rfl | hp
    · exact led_tab
    · exact (List.mem_filter.mp hp).1
  · intro p hp
    exact of_decide_eq_true (List.mem_filter.mp hp).2
  · intro p hp
    by_cases e : (p.1 : Nat) = 128
    · exact .inl (only p hp e)
    · exact .inr (List.mem_filter.mpr ⟨hp, decide_eq_true e⟩)
  · intro p hp
    exact (List.mem_filter.mp hp).1
theorem Led.hide' {h : Heap} {o' : Nat → Obj} {ps' : Array Value} {tl' : List (Addr × Obj)} (N : News h₀ L h nl) (hs : ∀ p ∈ led L o' ps' tl', p ∈ nl) (O : Off L tl') : ∃ nl', News h₀ L h nl' ∧ Led nl' L o' ps' tl' := Led.hide (cb_drop N hs) O

/-- objects that the walk has made go into what else there is -/
theorem Led.more {h : Heap} {nw : List (Addr × Obj)} (N : News h₀ L h (nw ++ nl)) (LD : Led nl L o ps tl) (hn : ∀ q ∈ nw, ∀ p ∈ nl, p.1 ≠ q.1) : ∃ nl', News h₀ L h nl' ∧ Led nl' L o ps (nw ++ tl) := by
  refine Led.hide' N ?_ ?_
  · intro p hp
    rcases led_cases hp with ⟨k, h1, h7, rfl⟩ | rfl | hp
    · exact List.mem_append_right _ (LD.sup _ (led_cell h1 h7))
    · exact List.mem_append_right _ (LD.sup _ led_tab)
    · rcases List.mem_append.mp hp with hp | hp
      · exact List.mem_append_left _ hp
      · exact List.mem_append_right _ (LD.sup _ (led_tl hp))
  · intro p hp
    rcases List.mem_append.mp hp with hp | hp
    · exact ⟨fun e => hn p hp _ (LD.sup _ led_tab) e.symm, fun k h1 h7 e => hn p hp _ (LD.sup _ (led_cell h1 h7)) e.symm⟩
    · exact LD.off p hp

theorem lam_make {Q : Value → Shared → Prop} {a : Addr} {mg mb : Str → Option Value} {cn : Str} {cs : Scope} {cl : List (Str × Addr)} {p : Program} {loose : List Str} {mean : ExcName → Option Value} {name qual : Str} {params : Arguments} {body : Expr} {scope : Scope} {pos : Pos} {firstLine : Nat}
    (F : Fr h₀ L s.heap m) (N : News h₀ L s.heap nl) (LD : Led nl L o ps tl) (hL : 128 < L) (T : Top p loose mean mg mb h₀) (C : CodeHd h₀ 130 128) (ht : TriplesOk ps.toList) (hnf : codeAmong pos ps.toList = none)
    (hcl : closureFor scope (envX cn cs L a (.ref 130) cl) = pure [])
    (h : ∀ f c' ctv h' tk nl' tl', Fr h₀ L h' m → News h₀ L h' nl' → Led nl' L o (ps ++ #[rawInt pos.line, rawInt pos.col, .ref c']) tl' → (∀ p ∈ tl, p ∈ tl') →
      (Bears tl' fun h => h.get? f = some (kla_obj name qual params body scope [] ((mg "__name__").getD .none) c' ctv)) → (Bears tl' fun h => h.CodeRec (.ref c') qual) → Q (.ref f) { s with heap := h', toks := tk }) :
    wpAny (model prog w) A (makeFunction name qual params (.expr body) scope (envX cn cs L a (.ref 130) cl) [] [] [] pos firstLine) Q E s := by
  obtain ⟨rst, N1, hne, hin, hout⟩ := LD.tab N hL
  refine kla_nest F N1 T C rfl (UpdF.head hne) ht hnf hcl ?_
  intro f c' oc vs t ctv h' tk F2 N2 hd hv hlt hcf
  have hO : Off L ((f, kla_obj name qual params body scope [] ((mg "__name__").getD .none) c' ctv) :: (c', oc) :: tl) := by
    have gt : ∀ q ∈ led L o ps tl, q.1 < c' := fun q hq => by
      rcases hin q hq with rfl | hq
      · exact hlt _ (.head _)
      · exact hlt _ (.tail _ hq)
    intro q hq
    rcases List.mem_cons.mp hq with rfl | hq
    · exact ⟨Nat.ne_of_gt (Nat.lt_trans (gt _ led_tab) hcf), fun k h1 h7 => Nat.ne_of_gt (Nat.lt_trans (gt _ (led_cell h1 h7)) hcf)⟩
    rcases List.mem_cons.mp hq with rfl | hq
    · exact ⟨Nat.ne_of_gt (gt _ led_tab), fun k h1 h7 => Nat.ne_of_gt (gt _ (led_cell h1 h7))⟩
    · exact LD.off q hq
  obtain ⟨nl', N3, LD3⟩ := Led.hide' (o' := o) (ps' := ps ++ #[rawInt pos.line, rawInt pos.col, .ref c']) N2 (by
    intro q hq
    rcases led_cases hq with ⟨k, h1, h7, rfl⟩ | rfl | hq
    · rcases hin _ (led_cell (o := o) (ps := ps) (tl := tl) h1 h7) with e | hq
      · have hL2 : (128 : Nat) < L := hL
        have e2 : (128 : Nat) = L + k := (congrArg (·.1) e).symm
        omega
      · exact .tail _ (.tail _ (.tail _ hq))
    · exact .tail _ (.tail _ (.head _))
    · rcases List.mem_cons.mp hq with rfl | hq
      · exact .head _
      rcases List.mem_cons.mp hq with rfl | hq
      · exact .tail _ (.head _)
      · rcases hin _ (led_tl (o := o) (ps := ps) (L := L) hq) with e | hq2
        · exact absurd (congrArg (·.1) e) (LD.off q hq).1
        · exact .tail _ (.tail _ (.tail _ hq2))) hO
  refine h f c' ctv h' tk nl' _ F2 N3 LD3 (fun q hq => .tail _ (.tail _ hq)) ?_ ?_
  · intro h3 hh
    exact hh _ (.head _)
  · intro h3 hh
    exact ⟨c', oc, vs, t, rfl, hh _ (.tail _ (.head _)), hd, hv⟩
end
end Mine

namespace Mine
open PySem PySem.W PySem.Calls PySem.Spec PyProof.Rows

theorem enter_led {h₀ h : Heap} {L : Addr} {a1 a2 a3 a4 a5 a6 a7 : Obj} {v1 v2 v3 v4 v5 v6 v7 : Option Value} {ps : Array Value}
    (N : News h₀ L h [(L + 1 + 1 + 1 + 1 + 1 + 1 + 1, a7), (L + 1 + 1 + 1 + 1 + 1 + 1, a6), (L + 1 + 1 + 1 + 1 + 1, a5), (L + 1 + 1 + 1 + 1, a4), (L + 1 + 1 + 1, a3), (L + 1 + 1, a2), (L + 1, a1), (128, tabObj ps)])
    (d1 : a1.data = .cell v1) (d2 : a2.data = .cell v2) (d3 : a3.data = .cell v3) (d4 : a4.data = .cell v4) (d5 : a5.data = .cell v5) (d6 : a6.data = .cell v6) (d7 : a7.data = .cell v7) :
    ∃ o : Nat → Obj, News h₀ L h (led L o ps []) ∧ ∀ k, 1 ≤ k → k ≤ 7 → ∃ v, (o k).data = .cell v := by
  refine ⟨fun k => match k with | 1 => a1 | 2 => a2 | 3 => a3 | 4 => a4 | 5 => a5 | 6 => a6 | _ => a7, N, fun k h1 h7 => ?_⟩
  match k, h1, h7 with
  | 1, _, _ => exact ⟨_, d1⟩
  | 2, _, _ => exact ⟨_, d2⟩
  | 3, _, _ => exact ⟨_, d3⟩
  | 4, _, _ => exact ⟨_, d4⟩
  | 5, _, _ => exact ⟨_, d5⟩
  | 6, _, _ => exact ⟨_, d6⟩
  | 7, _, _ => exact ⟨_, d7⟩
theorem room {k : Nat} (e : Env) (h : k ≤ 8) : (callerA.deeper e).depth + k < recursionLimit := by
  show 1 + 300 + 1 + k < 1000
  omega
theorem roomU {k : Nat} (e : Env) (h : k ≤ 90) : (callerA.deeper e).units + k < cLine := by
  show 4 + 3 + k < 9900
  omega

def sel1 : List (Nat × Int) := [(0, 1), (2, 1)]
def sel2 : List (Nat × Int) := [(1, -1), (0, 1), (2, -1)]
/-- the law's frame -/
structure LM (m : Str → Option Value) (D U V : Addr) (n times : Nat) : Prop where
  records : m "records" = some (.ref D)
  size : ∃ t, m "size" = some (.int n t)
  times : ∃ t, m "times" = some (.int times t)
  up : m "upwards" = some (.ref U)
  down : m "downwards" = some (.ref V)
/-- what the law has made first -/
structure LT (tl : List (Addr × Obj)) (D U V : Addr) (rs : List Addr) (x : Nat → Nat → Int) : Prop where
  list : Bears tl fun h => h.IsList D (rs.map Value.ref).toArray
  rows : ∀ (i : Nat) r, rs[i]? = some r → Bears tl fun h => RowAt h r (x i)
  up : Bears tl fun h => CompAt h U sel1
  down : Bears tl fun h => CompAt h V sel2
theorem LT.more {tl tl' : List (Addr × Obj)} {D U V : Addr} {rs : List Addr} {x : Nat → Nat → Int} (T : LT tl D U V rs x) (hs : ∀ p ∈ tl, p ∈ tl') : LT tl' D U V rs x :=
  ⟨T.list.more hs, fun i r e => (T.rows i r e).more hs, T.up.more hs, T.down.more hs⟩
/-- the law between two statements -/
inductive LA (base : Shared) (h₀ : Heap) (L D U V : Addr) (rs : List Addr) (n times : Nat) (x : Nat → Nat → Int) (P : (Str → Option Value) → (Nat → Obj) → Array Value → List (Addr × Obj) → Prop) (s' : Shared) : Prop
  | mk (h : Heap) (tk : Nat) (m : Str → Option Value) (o : Nat → Obj) (ps : Array Value) (nl tl : List (Addr × Obj)) (e : s' = { base with heap := h, toks := tk }) (F : Fr h₀ L h m) (N : News h₀ L h nl) (LD : Led nl L o ps tl) (lm : LM m D U V n times) (lt : LT tl D U V rs x) (p : P m o ps tl)
end Mine

namespace Mine
open PySem PySem.W PySem.Calls PySem.Spec PyProof.Rows
example : True ∧ True := by
  w_top off
  (try walk1)
  all_goals trivial
example : (∀ P, hd.heap_39 P = hd.heap_39 P) → Challenge.rw_pg0099_01 = Challenge.rw_pg0099_01 := by k_fill; intro _; rfl
theorem comp_new {w : World} {E : Value → Shared → Prop} {s : Shared} {p : Program} {loose : List Str} {mean : ExcName → Option Value} {mg mb : Str → Option Value} {h₀ : Heap} {L : Addr} {m : Str → Option Value} {nl : List (Addr × Obj)} {Q : Value → Shared → Prop} {name : Str} {nms : List (Str × NameKind)} {mr : List (Str × Const)} {a : Addr} {cd : Value} {t : Addr}
    (X : (hd.heap_39 w.params).In h₀) (T : Top p loose mean mg mb h₀) (B : Below callerA h₀ [] h₀) (F : Fr h₀ L s.heap m) (N : News h₀ L s.heap nl)
    (h : ∀ x dx hsh tk n h' tk', Fr h₀ L h' m → News h₀ L h' ((x, instObj 55 dx) :: (dx, dictOf [⟨hsh, .str "comp_select_list" tk, .ref t⟩] n) :: nl) → AllLt dx nl → dx < x → Q (.ref x) { s with heap := h', toks := tk' }) :
    wpAny (model Challenge.rw_pg0099_01.row.prog w) (callerA.deeper (envOfC name ⟨.function, nms, false, false, mr⟩ L a cd)) (call (.ref 55) [.ref t]) Q E s := by
  obtain ⟨h1, g1, d1, t1, o1⟩ := s
  dsimp only at F N
  repeat walk1
  rename Fr _ _ _ _ => F9
  rename News _ _ _ _ => N9
  exact h _ _ _ _ _ _ _ F9 N9 (allLt_of (by assumption)) (by assumption)
end Mine

namespace Mine
/-- one to one on the first n -/
structure Pn (n : Nat) (f : Nat → Nat) : Prop where
  lt : ∀ i, i < n → f i < n
  inj : ∀ i j, i < n → j < n → f i = f j → i = j
theorem Pn.one {n : Nat} {f : Nat → Nat} (h : Pn n f) (v : Nat) (hv : v < n) : sumN (fun i => if f i = v then 1 else 0) n = 1 := by
  have b : ∀ i, i < n → (0 : Int) ≤ (f i : Int) ∧ (f i : Int) < n := fun i hi => by have := h.lt i hi; omega
  have j : ∀ i k, i < n → k < n → (f i : Int) = (f k : Int) → i = k := fun i k hi hk e => h.inj i k hi hk (by omega)
  have c1 := cnt_is (fun i => (f i : Int)) n b j v (by omega)
  have c2 := cnt_is (fun i => (f i : Int)) n b j (v + 1) (by omega)
  have c3 := cnt_succ (fun i => (f i : Int)) n v
  have e : sumN (fun i => if (f i : Int) = (v : Int) then 1 else 0) n = sumN (fun i => if f i = v then 1 else 0) n := sum_congr fun i _ => by
    by_cases q : f i = v
    · rw [if_pos q, if_pos (by omega)]
    · rw [if_neg q, if_neg (by omega)]
  push_cast at c2
  omega
theorem sum_pick (g : Nat → Nat) (k : Nat) : ∀ n : Nat, k < n → sumN (fun i => if k = i then g i else 0) n = g k
  | 0, h => by omega
  | n + 1, h => by
    rw [sumN]
    by_cases e : k = n
    · subst e
      rw [if_pos rfl, sum_zero fun i hi => if_neg (by omega)]; omega
    · rw [if_neg e, sum_pick g k n (by omega)]; rfl
theorem sum_mul (c : Nat) (g : Nat → Nat) : ∀ n : Nat, sumN (fun i => g i * c) n = sumN g n * c
  | 0 => by simp [sumN]
  | n + 1 => by rw [sumN, sumN, sum_mul c g n, Nat.add_mul]
/-- a sum in another order -/
theorem Pn.sum {n : Nat} {f : Nat → Nat} (h : Pn n f) (g : Nat → Nat) : sumN (fun i => g (f i)) n = sumN g n := by
  have e1 : sumN (fun i => g (f i)) n = sumN (fun i => sumN (fun v => if f i = v then g v else 0) n) n := sum_congr fun i hi => (sum_pick g (f i) n (h.lt i hi)).symm
  rw [e1, sum_swap (fun i v => if f i = v then g v else 0)]
  refine sum_congr fun v hv => ?_
  have e2 : sumN (fun i => if f i = v then g v else 0) n = sumN (fun i => (if f i = v then 1 else 0) * g v) n := sum_congr fun i _ => by
    by_cases q : f i = v
    · rw [if_pos q, if_pos q, Nat.one_mul]
    · rw [if_neg q, if_neg q, Nat.zero_mul]
  rw [e2, sum_mul, h.one v hv, Nat.one_mul]
theorem sum_some : ∀ {n : Nat} {g : Nat → Nat}, 0 < sumN g n → ∃ i, i < n ∧ 0 < g i
  | 0, _, h => by simp [sumN] at h
  | n + 1, g, h => by
    rw [sumN] at h
    by_cases q : 0 < g n
    · exact ⟨n, by omega, q⟩
    · obtain ⟨i, hi, e⟩ := sum_some (n := n) (g := g) (by omega)
      exact ⟨i, by omega, e⟩
theorem Pn.onto {n : Nat} {f : Nat → Nat} (h : Pn n f) (v : Nat) (hv : v < n) : ∃ i, i < n ∧ f i = v := by
  obtain ⟨i, hi, e⟩ := sum_some (n := n) (g := fun i => if f i = v then 1 else 0) (by rw [h.one v hv]; omega)
  refine ⟨i, hi, ?_⟩
  by_cases q : f i = v
  · exact q
  · simp [q] at e
theorem sum_both (g : Nat → Nat → Nat) : ∀ n : Nat, (∀ a, g a a = 0) → sumN (fun j => sumN (fun i => g i j + g j i) j) n = sumN (fun a => sumN (g a) n) n
  | 0, _ => rfl
  | n + 1, h => by
    rw [sumN, sumN, sum_both g n h]
    have e : sumN (fun a => sumN (g a) (n + 1)) n = sumN (fun a => sumN (g a) n) n + sumN (fun a => g a n) n := by
      rw [← sum_add]; rfl
    rw [e, sumN, h n, sum_add]; omega

section
variable {n : Nat} {one two : Nat → Nat} {ns : List Int}
/-- the order of one's places by two's -/
structure Ord (n : Nat) (one two : Nat → Nat) (ns : List Int) : Prop where
  p1 : Pn n one
  p2 : Pn n two
  len : ns.length = n
  at' : ∀ k, k < n → ns.getD (one k) 0 = (two k : Int)
theorem Ord.pm (O : Ord n one two ns) : Pm ns := by
  have sur : ∀ r, r < n → ∃ k, k < n ∧ one k = r ∧ ns.getD r 0 = (two k : Int) := fun r hr => by
    obtain ⟨k, hk, e⟩ := O.p1.onto r hr
    exact ⟨k, hk, e, by rw [← e]; exact O.at' k hk⟩
  refine ⟨fun i hi => ?_, fun i j hi hj e => ?_⟩
  · rw [O.len] at hi ⊢
    obtain ⟨k, hk, _, q⟩ := sur i hi
    have := O.p2.lt k hk
    rw [q]; omega
  · rw [O.len] at hi hj
    obtain ⟨k, hk, q1, q2⟩ := sur i hi
    obtain ⟨l, hl, q3, q4⟩ := sur j hj
    rw [q2, q4] at e
    have := O.p2.inj k l hk hl (by omega)
    rw [← q1, ← q3, this]
theorem Ord.disp (O : Ord n one two ns) : disp ns = sumN (fun k => ((two k : Int) - one k).natAbs) n := by
  unfold Mine.disp
  rw [O.len, ← O.p1.sum fun r => (ns.getD r 0 - r).natAbs]
  exact sum_congr fun k hk => by rw [O.at' k hk]
theorem Ord.inv (O : Ord n one two ns) : inv ns = sumN (fun j => sumN (fun i => (if one i < one j ∧ two j < two i then 1 else 0) + (if one j < one i ∧ two i < two j then 1 else 0)) j) n := by
  rw [inv_pairs, O.len, sum_both (fun i j => if one i < one j ∧ two j < two i then 1 else 0) n (fun a => if_neg fun q => by omega), ← O.p1.sum fun a => sumN (pr (fun i => ns.getD i 0) a) n]
  refine sum_congr fun a ha => ?_
  rw [← O.p1.sum]
  refine sum_congr fun b hb => ?_
  show (if one a < one b ∧ ns.getD (one b) 0 < ns.getD (one a) 0 then 1 else 0) = _
  rw [O.at' a ha, O.at' b hb]
  by_cases q : one a < one b ∧ two b < two a
  · rw [if_pos q, if_pos ⟨q.1, by omega⟩]
  · rw [if_neg q, if_neg fun r => q ⟨r.1, by omega⟩]
end

/-- dots that k sendings add: the law's own words -/
theorem sum_apart {n t : Nat} {one two : Nat → Nat} (p1 : Pn n one) (p2 : Pn n two) {z1 z2 : Nat} (h1 : z1 < n) (h2 : z2 < n) (e1 : one z1 = 0) (e2 : two z2 = 0) :
    sumN (fun k => (((one k : Int) + if 0 < one k then (t : Int) else 0) - two k - if 0 < two k then (t : Int) else 0).natAbs) n = sumN (fun k => ((two k : Int) - one k).natAbs) n + if z1 ≠ z2 then 2 * t else 0 := by
  have zo : ∀ k, k < n → (one k = 0 ↔ k = z1) := fun k hk => ⟨fun q => p1.inj k z1 hk h1 (q.trans e1.symm), fun q => by rw [q]; exact e1⟩
  have zt : ∀ k, k < n → (two k = 0 ↔ k = z2) := fun k hk => ⟨fun q => p2.inj k z2 hk h2 (q.trans e2.symm), fun q => by rw [q]; exact e2⟩
  have s : sumN (fun k => if z1 ≠ z2 then ((if z1 = k then t else 0) + if z2 = k then t else 0) else 0) n = if z1 ≠ z2 then 2 * t else 0 := by
    by_cases q : z1 = z2
    · rw [if_neg (fun h => h q)]
      exact sum_zero fun i _ => if_neg fun h => h q
    · rw [if_pos q, sum_congr (h := fun k => (if z1 = k then t else 0) + if z2 = k then t else 0) fun i _ => if_pos q, sum_add, sum_pick (fun _ => t) z1 n h1, sum_pick (fun _ => t) z2 n h2]; omega
  rw [← s, ← sum_add]
  refine sum_congr fun k hk => ?_
  have a := zo k hk
  have b := zt k hk
  by_cases c1 : one k = 0
  · have d1 := a.mp c1
    rw [if_neg (show ¬ 0 < one k by omega)]
    by_cases c2 : two k = 0
    · have d2 := b.mp c2
      rw [if_neg (show ¬ 0 < two k by omega), if_neg (fun h => h (d1.symm.trans d2))]; omega
    · have d2 : ¬ z2 = k := fun h => c2 (b.mpr h.symm)
      rw [if_pos (show 0 < two k by omega), if_pos (by omega), if_pos d1.symm, if_neg d2]; omega
  · have d1 : ¬ z1 = k := fun h => c1 (a.mpr h.symm)
    rw [if_pos (show 0 < one k by omega)]
    by_cases c2 : two k = 0
    · have d2 := b.mp c2
      rw [if_neg (show ¬ 0 < two k by omega), if_pos (by omega), if_neg d1, if_pos d2.symm]; omega
    · have d2 : ¬ z2 = k := fun h => c2 (b.mpr h.symm)
      rw [if_pos (show 0 < two k by omega), if_neg d1, if_neg d2]; split <;> omega
end Mine

namespace Mine
open PySem PySem.W PySem.Calls PySem.Spec PyProof.Rows
theorem getD_mem {ns : List Int} {j : Nat} (h : j < ns.length) : ns[j]? = some (ns.getD j 0) := by simp [h]
theorem fall_iff (ns : List Int) : (∃ k, k < ns.length ∧ FallAt ns k) ↔ ¬ ∀ i, i < ns.length → Lc (fun i => ns.getD i 0) i = 0 ∨ Rc (fun i => ns.getD i 0) ns.length i = 0 := by
  constructor
  · rintro ⟨k, hk, ⟨a, ha, h1⟩, b, hb, h2⟩ h
    rcases h k hk with h | h
    · obtain ⟨j, hj⟩ := List.getElem?_of_mem ha
      rw [List.getElem?_take] at hj
      split at hj
      · rename_i hjk
        have hjl := (List.getElem?_eq_some_iff.mp hj).1
        rw [getD_mem hjl] at hj
        cases hj
        have hne : j ≠ k := by rintro rfl; omega
        have := sum_split (fun j => if ns.getD k 0 < ns.getD j 0 then 1 else 0) (n := k) (k := j) (by omega)
        have h' : sumN (fun j => if ns.getD k 0 < ns.getD j 0 then 1 else 0) k = 0 := h
        rw [if_pos h1] at this
        omega
      · cases hj
    · obtain ⟨j, hj⟩ := List.getElem?_of_mem hb
      rw [List.getElem?_drop] at hj
      have hjl := (List.getElem?_eq_some_iff.mp hj).1
      rw [getD_mem hjl] at hj
      cases hj
      have hne : k + j ≠ k := by intro q; rw [q] at h2; omega
      have := sum_split (fun j => if k < j ∧ ns.getD j 0 < ns.getD k 0 then 1 else 0) (n := ns.length) (k := k + j) hjl
      have h' : sumN (fun j => if k < j ∧ ns.getD j 0 < ns.getD k 0 then 1 else 0) ns.length = 0 := h
      rw [if_pos ⟨by omega, h2⟩] at this
      omega
  · intro h
    apply Classical.byContradiction
    intro hn
    apply h
    intro i hi
    apply Classical.byContradiction
    intro hlr
    apply hn
    have h1 : 0 < Lc (fun i => ns.getD i 0) i := by omega
    have h2 : 0 < Rc (fun i => ns.getD i 0) ns.length i := by omega
    obtain ⟨a, ha, ha2⟩ := sum_some h1
    obtain ⟨b, hb, hb2⟩ := sum_some h2
    refine ⟨i, hi, ⟨ns.getD a 0, ?_, ?_⟩, ns.getD b 0, ?_, ?_⟩
    · refine List.mem_of_getElem? (i := a) ?_
      rw [List.getElem?_take, if_pos (by omega)]
      exact getD_mem (by omega)
    · apply Classical.byContradiction
      intro q
      have : (if ns.getD i 0 < ns.getD a 0 then 1 else 0) = 0 := if_neg q
      have ha3 : 0 < (if ns.getD i 0 < ns.getD a 0 then 1 else 0) := ha2
      omega
    · have hib : i < b := by
        apply Classical.byContradiction
        intro q
        have : (if i < b ∧ ns.getD b 0 < ns.getD i 0 then 1 else 0) = 0 := if_neg fun r => q r.1
        have hb3 : 0 < (if i < b ∧ ns.getD b 0 < ns.getD i 0 then 1 else 0) := hb2
        omega
      refine List.mem_of_getElem? (i := b - i) ?_
      rw [List.getElem?_drop, show i + (b - i) = b by omega]
      exact getD_mem hb
    · apply Classical.byContradiction
      intro q
      have : (if i < b ∧ ns.getD b 0 < ns.getD i 0 then 1 else 0) = 0 := if_neg fun r => q r.2
      have hb3 : 0 < (if i < b ∧ ns.getD b 0 < ns.getD i 0 then 1 else 0) := hb2
      omega

/-- a way to compare places that is a strict order of them all -/
structure Tot (n : Nat) (c : Nat → Nat → Int) : Prop where
  rfl' : ∀ i, i < n → c i i = 0
  ne : ∀ i j, i < n → j < n → i ≠ j → c i j = 1 ∨ c i j = -1
  anti : ∀ i j, i < n → j < n → c i j = - c j i
  trans : ∀ i j k, i < n → j < n → k < n → c i j = 1 → c j k = 1 → c i k = 1
def rk (c : Nat → Nat → Int) (n i : Nat) : Nat := sumN (fun j => if c i j = 1 then 1 else 0) n
theorem Tot.lt {n : Nat} {c : Nat → Nat → Int} (T : Tot n c) {i j : Nat} (hi : i < n) (hj : j < n) (h : c i j = 1) : rk c n j < rk c n i := by
  have e := sum_pick (fun _ => 1) j n hj
  have a := sum_add (fun k => if c j k = 1 then 1 else 0) (fun k => if j = k then 1 else 0) n
  have l : sumN (fun k => (if c j k = 1 then 1 else 0) + (if j = k then 1 else 0)) n ≤ rk c n i := by
    refine sum_le fun k hk => ?_
    by_cases q : j = k
    · subst q
      rw [if_neg (by rw [T.rfl' j hj]; decide), if_pos rfl, if_pos h]; decide
    · rw [if_neg q]
      by_cases r : c j k = 1
      · rw [if_pos r, if_pos (T.trans i j k hi hj hk h r)]; decide
      · rw [if_neg r]; omega
  show sumN _ n < _
  omega
theorem Tot.pn {n : Nat} {c : Nat → Nat → Int} (T : Tot n c) : Pn n (rk c n) := by
  refine ⟨fun i hi => ?_, fun i j hi hj e => ?_⟩
  · have e := sum_pick (fun _ => 1) i n hi
    have a := sum_add (fun k => if c i k = 1 then 1 else 0) (fun k => if i = k then 1 else 0) n
    have l : sumN (fun k => (if c i k = 1 then 1 else 0) + (if i = k then 1 else 0)) n ≤ sumN (fun _ => 1) n := by
      refine sum_le fun k hk => ?_
      by_cases q : i = k
      · subst q
        rw [if_neg (by rw [T.rfl' i hi]; decide), if_pos rfl]; decide
      · rw [if_neg q]; split <;> decide
    rw [sum_const] at l
    show sumN _ n < _
    omega
  · apply Classical.byContradiction
    intro q
    rcases T.ne i j hi hj q with h | h
    · have := T.lt hi hj h; omega
    · have h2 : c j i = 1 := by rw [T.anti j i hj hi, h]; decide
      have := T.lt hj hi h2; omega
theorem Tot.iff {n : Nat} {c : Nat → Nat → Int} (T : Tot n c) {i j : Nat} (hi : i < n) (hj : j < n) : rk c n j < rk c n i ↔ c i j = 1 := by
  refine ⟨fun h => ?_, T.lt hi hj⟩
  by_cases q : i = j
  · subst q; omega
  · rcases T.ne i j hi hj q with r | r
    · exact r
    · have h2 : c j i = 1 := by rw [T.anti j i hj hi, r]; decide
      have := T.lt hj hi h2; omega
/-- the sign of the first that is not 0 -/
def sg (a b c : Int) : Int := if a < 0 then -1 else if 0 < a then 1 else if b < 0 then -1 else if 0 < b then 1 else if c < 0 then -1 else if 0 < c then 1 else 0
theorem sg_one (a b c : Int) : sg a b c = 1 ↔ 0 < a ∨ a = 0 ∧ (0 < b ∨ b = 0 ∧ 0 < c) := by
  unfold sg
  repeat' split
  all_goals omega
theorem sg_neg (a b c : Int) : sg (-a) (-b) (-c) = - sg a b c := by
  unfold sg
  rcases Int.lt_trichotomy a 0 with h | rfl | h
  · rw [if_neg (by omega), if_pos (by omega), if_pos h]; rfl
  · rcases Int.lt_trichotomy b 0 with h | rfl | h
    · simp [h, Int.not_lt.mpr (Int.le_of_lt h)]
    · rcases Int.lt_trichotomy c 0 with h | rfl | h
      · simp [h, Int.not_lt.mpr (Int.le_of_lt h)]
      · rfl
      · simp [h, Int.not_lt.mpr (Int.le_of_lt h)]
    · simp [h, Int.not_lt.mpr (Int.le_of_lt h)]
  · rw [if_pos (by omega), if_neg (by omega), if_pos h]
theorem sg_two (a b c : Int) (h : a ≠ 0 ∨ b ≠ 0 ∨ c ≠ 0) : sg a b c = 1 ∨ sg a b c = -1 := by
  unfold sg
  repeat' split
  all_goals omega
theorem tot_sg {n : Nat} {c : Nat → Nat → Int} (f g k : Nat → Int) (e : ∀ i j, c i j = sg (f i - f j) (g i - g j) (k i - k j)) (h : ∀ i j, i < n → j < n → k i = k j → i = j) : Tot n c := by
  refine ⟨fun i _ => ?_, fun i j hi hj q => ?_, fun i j _ _ => ?_, fun i j l _ _ _ a b => ?_⟩
  · rw [e, Int.sub_self, Int.sub_self, Int.sub_self]; rfl
  · rw [e]
    refine sg_two _ _ _ (.inr (.inr fun z => q (h i j hi hj (by omega))))
  · rw [e, e, ← sg_neg, Int.neg_sub, Int.neg_sub, Int.neg_sub]
  · rw [e, sg_one] at a b ⊢
    omega
theorem swp {a b r : Int} : (if a < b then (1 : Int) else if a > b then -1 else r) = if b < a then -1 else if a < b then 1 else r := by
  rcases Int.lt_trichotomy a b with h | rfl | h
  · rw [if_pos h, if_neg (Int.not_lt.mpr (Int.le_of_lt h)), if_pos h]
  · simp only [Int.lt_irrefl, gt_iff_lt, if_false]
  · rw [if_neg (Int.not_lt.mpr (Int.le_of_lt h)), if_pos h, if_pos h]
theorem sub_lt0 (a b : Int) : (a - b < 0) = (a < b) := propext ⟨fun _ => by omega, fun _ => by omega⟩
theorem lt0_sub (a b : Int) : (0 < a - b) = (b < a) := propext ⟨fun _ => by omega, fun _ => by omega⟩
theorem nsub_lt0 (a b : Int) : (-a - -b < 0) = (b < a) := propext ⟨fun _ => by omega, fun _ => by omega⟩
theorem lt0_nsub (a b : Int) : (0 < -a - -b) = (a < b) := propext ⟨fun _ => by omega, fun _ => by omega⟩
theorem cmp_sg1 (x : Nat → Nat → Int) (i j : Nat) : cmpSel sel1 (x i) (x j) = sg (x i 0 - x j 0) (x i 2 - x j 2) (x i 2 - x j 2) := by
  show (if x i 0 < x j 0 then -1 else if x i 0 > x j 0 then 1 else if x i 2 < x j 2 then -1 else if x i 2 > x j 2 then 1 else 0) = _
  unfold sg
  simp only [sub_lt0, lt0_sub]
  by_cases q : x i 2 < x j 2
  · simp only [q, if_true]
  · by_cases r : x j 2 < x i 2
    · simp only [q, r, if_true, if_false]
    · simp only [q, r, if_false]
theorem cmp_sg2 (x : Nat → Nat → Int) (i j : Nat) : cmpSel sel2 (x i) (x j) = sg (-x i 1 - -x j 1) (x i 0 - x j 0) (-x i 2 - -x j 2) := by
  show (if x i 1 < x j 1 then 1 else if x i 1 > x j 1 then -1 else if x i 0 < x j 0 then -1 else if x i 0 > x j 0 then 1 else if x i 2 < x j 2 then 1 else if x i 2 > x j 2 then -1 else 0) = _
  unfold sg
  simp only [nsub_lt0, lt0_nsub]
  simp only [sub_lt0, lt0_sub]
  rw [swp, swp]
theorem tot1 {n : Nat} {x : Nat → Nat → Int} (h : ∀ i, i < n → x i 2 = i) : Tot n fun i j => cmpSel sel1 (x i) (x j) :=
  tot_sg (fun i => x i 0) (fun i => x i 2) (fun i => x i 2) (cmp_sg1 x) fun i j hi hj e => by
    have e' : x i 2 = x j 2 := e
    rw [h i hi, h j hj] at e'; omega
theorem tot2 {n : Nat} {x : Nat → Nat → Int} (h : ∀ i, i < n → x i 2 = i) : Tot n fun i j => cmpSel sel2 (x i) (x j) :=
  tot_sg (fun i => -x i 1) (fun i => x i 0) (fun i => -x i 2) (cmp_sg2 x) fun i j hi hj e => by
    have e' : -x i 2 = -x j 2 := e
    rw [h i hi, h j hj] at e'; omega
/-- the pairs told unlike -/
theorem crossed_is {n : Nat} {x : Nat → Nat → Int} (h : ∀ i, i < n → x i 2 = i) : crossedN sel1 sel2 x n =
    sumN (fun j => sumN (fun i => (if rankN sel1 x n i < rankN sel1 x n j ∧ rankN sel2 x n j < rankN sel2 x n i then 1 else 0) + (if rankN sel1 x n j < rankN sel1 x n i ∧ rankN sel2 x n i < rankN sel2 x n j then 1 else 0)) j) n := by
  have T1 := tot1 h
  have T2 := tot2 h
  refine sum_congr fun j hj => sum_congr fun i hij => ?_
  have hi : i < n := by omega
  have a1 := T1.iff hi hj
  have a2 := T1.iff hj hi
  have b1 := T2.iff hi hj
  have b2 := T2.iff hj hi
  have c1 := T1.ne i j hi hj (by omega)
  have c2 := T2.ne i j hi hj (by omega)
  have d1 := T1.anti j i hj hi
  have d2 := T2.anti j i hj hi
  show (if cmpSel sel1 (x i) (x j) + cmpSel sel2 (x i) (x j) = 0 then 1 else 0) = (if rk (fun i j => cmpSel sel1 (x i) (x j)) n i < rk (fun i j => cmpSel sel1 (x i) (x j)) n j ∧ rk (fun i j => cmpSel sel2 (x i) (x j)) n j < rk (fun i j => cmpSel sel2 (x i) (x j)) n i then 1 else 0) + (if rk (fun i j => cmpSel sel1 (x i) (x j)) n j < rk (fun i j => cmpSel sel1 (x i) (x j)) n i ∧ rk (fun i j => cmpSel sel2 (x i) (x j)) n i < rk (fun i j => cmpSel sel2 (x i) (x j)) n j then 1 else 0)
  simp only [a1, a2, b1, b2]
  rw [d1, d2]
  rcases c1 with c1 | c1 <;> rcases c2 with c2 | c2 <;> rw [c1, c2] <;> rfl
theorem pn1 {n : Nat} {x : Nat → Nat → Int} (h : ∀ i, i < n → x i 2 = i) : Pn n (rankN sel1 x n) := (tot1 h).pn
theorem pn2 {n : Nat} {x : Nat → Nat → Int} (h : ∀ i, i < n → x i 2 = i) : Pn n (rankN sel2 x n) := (tot2 h).pn
/-- what stands in a sorted order stands at its rank -/
theorem up_at {n : Nat} {g : Nat → Nat} {p : Array Nat} (P : Pn n g) (hp : IsP n p) (hu : Up g p n) : ∀ k, k < n → g (p.getD k 0) = k := by
  have lo : ∀ k, k < n → k ≤ Kp g p k := by
    intro k
    induction k with
    | zero => intro _; omega
    | succ k ih => intro hk; have := ih (by omega); have := hu k (k + 1) (by omega) hk; omega
  have hi : ∀ d k, k + d + 1 = n → Kp g p k ≤ k := by
    intro d
    induction d with
    | zero => intro k hk; have := P.lt _ (hp.lt k (by omega)); show g _ ≤ _; omega
    | succ d ih => intro k hk; have := ih (k + 1) (by omega); have := hu k (k + 1) (by omega) (by omega); omega
  intro k hk
  have a := lo k hk
  have b := hi (n - k - 1) k (by omega)
  show Kp g p k = k
  omega
end Mine

namespace Mine
open PySem PySem.W PySem.Calls PySem.Spec PyProof.Rows
theorem lex_two (a b c d : Int) : lexLt [a, c] [b, d] = true ↔ a < b ∨ a = b ∧ c < d := by
  show (if a = b then (if c = d then false else decide (c < d)) else decide (a < b)) = true ↔ _
  by_cases p : a = b <;> by_cases q : c = d <;> simp only [p, q, if_true, if_false, decide_eq_true_eq, Int.lt_irrefl, true_and, false_and, or_false, false_or, and_false, Bool.false_eq_true]
theorem lex_three (a b c d e f : Int) : lexLt [a, c, e] [b, d, f] = true ↔ a < b ∨ a = b ∧ (c < d ∨ c = d ∧ e < f) := by
  rw [← lex_two]
  show (if a = b then lexLt [c, e] [d, f] else decide (a < b)) = true ↔ _
  by_cases p : a = b <;> simp only [p, if_true, if_false, decide_eq_true_eq, Int.lt_irrefl, true_and, false_and, or_false, false_or]
theorem lex1 {n : Nat} {x : Nat → Nat → Int} (h : ∀ i, i < n → x i 2 = i) {i j : Nat} (hi : i < n) (hj : j < n) : lexLt [x i 0, x i 2] [x j 0, x j 2] = lessBy (rankN sel1 x n) i j := by
  have e : lessBy (rankN sel1 x n) i j = decide (cmpSel sel1 (x j) (x i) = 1) := decide_eq_decide.mpr ((tot1 h).iff hj hi)
  rw [e, Bool.eq_iff_iff, decide_eq_true_eq, cmp_sg1, sg_one, lex_two]
  clear e h
  omega
theorem lex2 {n : Nat} {x : Nat → Nat → Int} (h : ∀ i, i < n → x i 2 = i) {i j : Nat} (hi : i < n) (hj : j < n) : lexLt [-x i 1, x i 0, -x i 2] [-x j 1, x j 0, -x j 2] = lessBy (rankN sel2 x n) i j := by
  have e : lessBy (rankN sel2 x n) i j = decide (cmpSel sel2 (x j) (x i) = 1) := decide_eq_decide.mpr ((tot2 h).iff hj hi)
  rw [e, Bool.eq_iff_iff, decide_eq_true_eq, cmp_sg2, sg_one, lex_three]
  clear e h
  omega
end Mine

namespace Mine
open PySem PySem.W PySem.Calls PySem.Spec PyProof.Rows
theorem room1 {k : Nat} {e : Env} (h : k ≤ 8) : (callerA.deeper e).in1.in1.depth + k < recursionLimit := by
  show 1 + 300 + 1 + k < 1000
  omega
/-- a list that a call has made goes onto the ledger -/
theorem Led.fresh {h₀ h h' : Heap} {L D : Addr} {m : Str → Option Value} {nl : List (Addr × Obj)} {o : Nat → Obj} {ps : Array Value} {tl : List (Addr × Obj)} {vs : Array Value} (F : Fr h₀ L h m) (N : News h₀ L h nl) (LD : Led nl L o ps tl) (hk : ∀ b o, h.get? b = some o → h'.get? b = some o) (hD : h.get? D = none) (hl : h'.PlainList D vs) :
    ∃ nl' tl', Fr h₀ L h' m ∧ News h₀ L h' nl' ∧ Led nl' L o ps tl' ∧ (∀ p ∈ tl, p ∈ tl') ∧ Bears tl' fun h => h.PlainList D vs := by
  obtain ⟨c, hoD⟩ := hl
  obtain ⟨N2, O2⟩ := bagAdd (nl := [(D, listOf vs c)]) F (LD.to N) LD.off hk (fun p hp => by rw [List.mem_singleton.mp hp]; exact ⟨hoD, hD⟩)
  obtain ⟨nl', N3, LD3⟩ := Led.hide N2 O2
  exact ⟨nl', _, fr_keeps F hk, N3, LD3, fun p hp => List.mem_append_right _ hp, fun h3 hh3 => ⟨c, hh3 _ (List.mem_append_left _ (.head _))⟩⟩
theorem LT.rowsAt {tl nl : List (Addr × Obj)} {D U V L : Addr} {rs : List Addr} {x : Nat → Nat → Int} {h₀ h : Heap} {o : Nat → Obj} {ps : Array Value} {n : Nat} (T : LT tl D U V rs x) (LD : Led nl L o ps tl) (N : News h₀ L h nl) (hrs : rs.length = n) : RowsAt h D n x :=
  ⟨rs, hrs, T.list.at (LD.to N), fun i r e => (T.rows i r e).at (LD.to N)⟩
theorem sel1_ok : ∀ p ∈ sel1, p.1 < 3 := by decide
theorem sel2_ok : ∀ p ∈ sel2, p.1 < 3 := by decide
/-- the cells' objects are cells -/
def CellsOk (o : Nat → Obj) : Prop := ∀ k, 1 ≤ k → k ≤ 7 → ∃ v, (o k).data = .cell v
theorem CellsOk.set {o o' : Nat → Obj} {k : Nat} {v : Value} (C : CellsOk o) (h : ∀ j, j ≠ k → o' j = o j) (hk : (o' k).data = .cell (some v)) : CellsOk o' := fun j h1 h7 => by
  by_cases e : j = k
  · subst e; exact ⟨_, hk⟩
  · rw [h j e]; exact C j h1 h7
theorem bears_list {B : Addr} {vs : List Value} {c : Nat} {tl : List (Addr × Obj)} (h : (B, listOf vs.toArray c) ∈ tl) : Bears tl fun h => h.PlainList B vs.toArray := fun _ hh => ⟨c, hh _ h⟩
theorem plain_list {h : Heap} {B : Addr} {vs : Array Value} (H : h.PlainList B vs) : h.IsList B vs := by
  obtain ⟨c, hc⟩ := H
  exact PySem.IsL.isList (n := c) hc
/-- a cell of the law's that holds a list -/
structure SC (o : Nat → Obj) (tl : List (Addr × Obj)) (k : Nat) (B : Addr) (vs : List Value) : Prop where
  cell : (o k).data = .cell (some (.ref B))
  list : Bears tl fun h => h.PlainList B (List.toArray vs)
structure SS (o : Nat → Obj) (tl : List (Addr × Obj)) (k : Nat) (B : Addr) (us : List (Str × Tok)) : Prop where
  cell : (o k).data = .cell (some (.ref B))
  list : Bears tl fun h => h.IsList B (strValues us).toArray
abbrev pick (rs : List Addr) (p : Array Nat) : List Value := p.toList.map fun i => (rs.map Value.ref).getD i Value.none
end Mine

namespace Mine
open PySem PySem.W PySem.Calls PySem.Spec PyProof.Rows
theorem row_same {h : Heap} {r : Addr} {x y : Nat → Int} (R : RowAt h r x) (S : RowAt h r y) : x 2 = y 2 := by
  obtain ⟨u, v, t, o, ho, hc, n, hd⟩ := R
  obtain ⟨u', v', t', o', ho', hc', n', hd'⟩ := S
  rw [ho] at ho'
  cases ho'
  rw [hd] at hd'
  injection hd' with e1 e2
  have e3 : (#[Value.int (x 0) u, .int (x 1) v, .int (x 2) t] : Array Value)[2]? = (#[Value.int (y 0) u', .int (y 1) v', .int (y 2) t'] : Array Value)[2]? := by rw [e1]
  simp at e3
  exact e3.1
section
variable {prog : Program} {w : World} {A : Around} {E : Value → Shared → Prop} {s : Shared}
theorem row_ne {r q : Addr} {x y : Nat → Int} (R : RowAt s.heap r x) (S : RowAt s.heap q y) (hne : x 2 ≠ y 2) (hu : A.units < cLine) : SeqAt.EqAt A s (.ref r) (.ref q) false := by
  have hrq : r ≠ q := by rintro rfl; exact hne (row_same R S)
  obtain ⟨u, v, t, hr⟩ := R
  obtain ⟨u', v', t', hq⟩ := S
  have k := SeqAt.EqAt.of_refs hrq (SeqAt.RcAt.tuples (e := fun j => match j with | 0 => x 0 == y 0 | 1 => x 1 == y 1 | _ => x 2 == y 2) hr hq hu fun j h1 h2 => by
    match j, h1, h2 with
    | 0, _, _ => exact SeqAt.EqAt.int_int _ _ _ _
    | 1, _, _ => exact SeqAt.EqAt.int_int _ _ _ _
    | 2, _, _ => exact SeqAt.EqAt.int_int _ _ _ _
    | j + 3, h1, _ => exact absurd h1 (by simp))
  have e : ((List.range (min (#[Value.int (x 0) u, .int (x 1) v, .int (x 2) t] : Array Value).size (#[Value.int (y 0) u', .int (y 1) v', .int (y 2) t'] : Array Value).size)).all (fun j => match j with | 0 => x 0 == y 0 | 1 => x 1 == y 1 | _ => x 2 == y 2) && (#[Value.int (x 0) u, .int (x 1) v, .int (x 2) t] : Array Value).size == (#[Value.int (y 0) u', .int (y 1) v', .int (y 2) t'] : Array Value).size) = false := by
    have e2 : (x 2 == y 2) = false := by simpa using hne
    show ((List.range 3).all _ && _) = false
    simp [List.range, List.range.loop, e2]
  rw [e] at k
  exact k
/-- the place of a row in a sorted list -/
theorem index_row {D r : Addr} {rs : List Addr} {p : Array Nat} {x : Nat → Nat → Int} {n i k : Nat} {Q : Value → Shared → Prop} (hl : s.heap.PlainList D (List.toArray (p.toList.map fun i => (rs.map Value.ref).getD i Value.none))) (rows : ∀ (i : Nat) r, rs[i]? = some r → RowAt s.heap r (x i)) (hx : ∀ i, i < n → x i 2 = i) (hrs : rs.length = n)
    (hp : IsP n p) (hr : rs[i]? = some r) (hk : k < n) (hn : n < 64) (hpk : p.getD k 0 = i) (hu : A.in1.units < cLine) (h : Q (.int k s.toks) { s with toks := s.toks + 1 }) :
    wpAny (model prog w) A (call (.builtin "list.index") [.ref D, .ref r]) Q E s := by
  obtain ⟨c, ho⟩ := hl
  have hsz : (List.toArray (p.toList.map fun i => (rs.map Value.ref).getD i Value.none)).size = n := by simp [hp.size]
  have hit : ∀ j, (hj : j < (List.toArray (p.toList.map fun i => (rs.map Value.ref).getD i Value.none)).size) → ∃ q, (List.toArray (p.toList.map fun i => (rs.map Value.ref).getD i Value.none))[j] = .ref q ∧ rs[p.getD j 0]? = some q := fun j hj => by
    have hjn : j < n := by rw [hsz] at hj; exact hj
    have hjp : j < p.size := by rw [hp.size]; exact hjn
    have h1 := hp.lt j hjn
    have e0 : p.getD j 0 = p[j] := by simp [hjp]
    have h2 : p[j] < rs.length := by rw [hrs, ← e0]; exact h1
    refine ⟨rs[p[j]], ?_, by rw [e0]; simp [h2]⟩
    simp [h2]
  have same : ∀ a q, a < n → rs[a]? = some q → q = r → a = i := fun a q ha hq e => by
    have hi : i < n := by rw [← hrs]; exact (List.getElem?_eq_some_iff.mp hr).1
    subst e
    have := row_same (rows a q hq) (rows i q hr)
    rw [hx a ha, hx i hi] at this
    omega
  refine call_meets PySem.F.slot_list_index ⟨_, ho, rfl⟩ PySem.F.entry_list_index (PySem.F.args_list_index_2 _ _)
    (SeqAt.list_indexAt D _ c none #[] (.ref r) (fun y => y == .ref r) k (by rw [hsz]; exact hk) (by omega) ?_ ?_) ⟨ho, ?_, h⟩
  · obtain ⟨q, e1, e2⟩ := hit k (by rw [hsz]; exact hk)
    rw [hpk, hr] at e2
    cases e2
    rw [e1]; simp
  · intro j hj hjk
    obtain ⟨q, e1, e2⟩ := hit j hj
    have hjn : j < n := by rw [hsz] at hj; exact hj
    rw [e1]
    apply Bool.eq_false_iff.mpr
    intro hq
    have hq' : q = r := by simpa using hq
    have := same _ q (hp.lt j hjn) e2 hq'
    have := hp.inj j k hjn hk (by rw [this, hpk])
    omega
  · intro y hy
    obtain ⟨j, hj, rfl⟩ := Array.getElem_of_mem hy
    obtain ⟨q, e1, e2⟩ := hit j hj
    have hjn : j < n := by rw [hsz] at hj; exact hj
    rw [e1]
    by_cases e : q = r
    · subst e
      have e3 : (Value.ref q == Value.ref q) = true := by simp
      rw [e3]
      exact SeqAt.EqAt.same _
    · have e3 : (Value.ref q == Value.ref r) = false := by simpa using e
      rw [e3]
      have hi : i < n := by rw [← hrs]; exact (List.getElem?_eq_some_iff.mp hr).1
      refine row_ne (rows _ q e2) (rows i r hr) ?_ hu
      rw [hx _ (hp.lt j hjn), hx i hi]
      intro e4
      have e5 : p.getD j 0 = i := by omega
      rw [e5, hr] at e2
      cases e2
      exact e rfl
theorem method_index {D : Addr} {its : Array Value} {pl : Sem Bool} {Q : Value × List Value → Shared → Prop} (hl : s.heap.PlainList D its)
    (h : Q (.builtin "list.index", [.ref D]) s) : wpAny (model prog w) A (getMethod (.ref D) "index" pl) Q E s := by
  obtain ⟨c, ho⟩ := hl
  exact getMethod_builtin (T := "list") ⟨_, ho, rfl⟩ PySem.F.plainAttrs_list PySem.F.slot_list_index PySem.F.type_list_index (fun a e => by cases e; exact ⟨_, ho, rfl⟩) h
end
theorem ints_of_get : ∀ (vs : List Value) (g : Nat → Int), (∀ (i : Nat) v, vs[i]? = some v → ∃ b, v = .int (g i) b) → IntsAre vs ((List.range vs.length).map g)
  | [], _, _ => .nil
  | v :: vs, g, h => by
    obtain ⟨b, rfl⟩ := h 0 v rfl
    rw [List.length_cons, List.range_succ_eq_map, List.map_cons, List.map_map]
    exact .cons _ _ (ints_of_get vs (fun i => g (i + 1)) fun i v hv => h (i + 1) v (by simpa using hv))
theorem ldLedM {prog : Program} {w : World} {A : Around} {E : Value → Shared → Prop} {s : Shared} {h₀ : Heap} {L : Addr} {o : Nat → Obj} {ps : Array Value} {tl nl news : List (Addr × Obj)} {name : Str} {scope : Scope} {a : Addr} {cd : Value} {x : Str} {k : Nat} {v : Value} {pos : Pos} {Q : Value → Shared → Prop}
    (N : News h₀ L s.heap news) (D : Led nl L o ps tl) (hs : ∀ p ∈ nl, p ∈ news) (h1 : 1 ≤ k) (h7 : k ≤ 7) (hc : (cellsFrom (L + 1) scope.names []).lookup x = some (L + k)) (hd : (o k).data = .cell (some v)) (h : Q v s)
    (hk : scope.kind = .function := by rfl) (hl : (envOfC name scope L a cd).kindOf x = some .cell := by rfl) (hdb : (x == ("__debug__" : Str)) = false := by decide) :
    wpAny (model prog w) A (eval (.Name x pos) (envOfC name scope L a cd)) Q E s := ldLed (cb_drop N hs) D h1 h7 hc hd h hk hl hdb
theorem ne_list {prog : Program} {w : World} {A : Around} {E : Value → Shared → Prop} {s : Shared} {a b : Addr} {xs : List Value} {ys : Array Value} {ns : List Int} {Q : Value → Shared → Prop} (ha : s.heap.IsList a xs.toArray) (hb : s.heap.IsList b ys) (hi : IntsAre xs ns) (hj : IntsAre ys.toList ns) (hu : A.units + 64 < cLine) (h : Q (.bool false) s) :
    wpAny (model prog w) A (compareOp .NotEq (.ref a) (.ref b)) Q E s := by
  have e : ys.toList.toArray = ys := by simp
  refine ke_ne_ints ha (by rw [← e] at hb; exact hb) hi hj hu ?_
  have e2 : (!decide (ns = ns)) = false := by simp
  rw [e2]; exact h
theorem roomI {e : Env} : (callerA.deeper e).in1.units < cLine := by
  show 4 + 3 + 1 < 9900
  decide
theorem index_at {n : Nat} {g : Nat → Nat} {p : Array Nat} (P : Pn n g) (hp : IsP n p) (hu : Up g p n) {i : Nat} (hi : i < n) : p.getD (g i) 0 = i :=
  P.inj _ _ (hp.lt _ (P.lt i hi)) hi (up_at P hp hu _ (P.lt i hi))
end Mine

namespace Mine
open PySem PySem.W PySem.Calls PySem.Spec PyProof.Rows
theorem Led.freshL {h₀ h h' : Heap} {L D : Addr} {m : Str → Option Value} {nl : List (Addr × Obj)} {o : Nat → Obj} {ps : Array Value} {tl : List (Addr × Obj)} {vs : Array Value} (F : Fr h₀ L h m) (N : News h₀ L h nl) (LD : Led nl L o ps tl) (hk : ∀ b o, h.get? b = some o → h'.get? b = some o) (hD : h.get? D = none) (hl : h'.IsList D vs) :
    ∃ nl' tl', Fr h₀ L h' m ∧ News h₀ L h' nl' ∧ Led nl' L o ps tl' ∧ (∀ p ∈ tl, p ∈ tl') ∧ Bears tl' fun h => h.IsList D vs := by
  obtain ⟨oD, hoD, hcD, e, hdD⟩ := hl
  obtain ⟨N2, O2⟩ := bagAdd (nl := [(D, oD)]) F (LD.to N) LD.off hk (fun p hp => by rw [List.mem_singleton.mp hp]; exact ⟨hoD, hD⟩)
  obtain ⟨nl', N3, LD3⟩ := Led.hide N2 O2
  exact ⟨nl', _, fr_keeps F hk, N3, LD3, fun p hp => List.mem_append_right _ hp, fun h3 hh3 => ⟨oD, hh3 _ (List.mem_append_left _ (.head _)), hcD, e, hdD⟩⟩
def low : Str := Str.ofString "abcdefg"
def upp : Str := Str.ofString "ABCDEFG"
theorem low_at : ∀ k, k < 7 → low.cps.getD k 0 = 97 + k := by decide +kernel
theorem upp_at : ∀ k, k < 7 → upp.cps.getD k 0 = 65 + k := by decide +kernel
theorem low_len : low.length = 7 := by decide +kernel
theorem upp_len : upp.length = 7 := by decide +kernel
theorem low_ok {n : Nat} (hn : n ≤ 7) : ∀ k, k < n → low.cps.getD k 0 ≠ 46 ∧ low.cps.getD k 0 ≠ 10 ∧ low.cps.getD k 0 ≠ 13 := fun k hk => by
  rw [low_at k (by omega)]; omega
theorem upp_ok {n : Nat} (hn : n ≤ 7) : ∀ k, k < n → upp.cps.getD k 0 ≠ 46 ∧ upp.cps.getD k 0 ≠ 10 ∧ upp.cps.getD k 0 ≠ 13 := fun k hk => by
  have := upp_at k (by omega)
  refine ⟨fun e => ?_, fun e => ?_, fun e => ?_⟩ <;> omega
theorem cost1 : ∀ k, k < 7 → subCost (sgn (97 + k)) (sgn (65 + k)) = 1 ∧ subCost (sgn (65 + k)) (sgn (97 + k)) = 1 ∧ subCost (sgn 46) (sgn (97 + k)) = 2 ∧ subCost (sgn 46) (sgn (65 + k)) = 2 := by decide +kernel
end Mine

namespace Mine
open PySem PySem.W PySem.Calls PySem.Spec PyProof.Rows
theorem item_bag {prog : Program} {w : World} {A : Around} {E : Value → Shared → Prop} {s : Shared} {h₀ : Heap} {L R : Addr} {o : Nat → Obj} {ps : Array Value} {tl nl news : List (Addr × Obj)} {vs : List Value} {f : Nat → Nat} {n k : Nat} {u : Tok} {value slice : Expr} {Q : Value → Shared → Prop}
    (N : News h₀ L s.heap news) (LD : Led nl L o ps tl) (hs : ∀ p ∈ nl, p ∈ news) (B : Bears tl fun h => h.PlainList R vs.toArray) (hi : IntsAre vs ((List.range n).map fun i => (f i : Int))) (hk : k < n) (hn : n < 64) (h : ∀ t, Q (.int (f k : Nat) t) s)
    (hsb : subscripted slice false (.ref R) (.int k u) = operate [.ref R, .int k u] (getItem (.ref R) (.int k u)) := by with_unfolding_all rfl) :
    wpAny (model prog w) A (subscriptTail value slice (.ref R) (.int k u)) Q E s := by
  have hl := plain_list (B.at (LD.to (cb_drop N hs)))
  have hvl := hi.length
  rw [List.length_map, List.length_range] at hvl
  obtain ⟨t, ht⟩ : ∃ t, vs[k]? = some (.int (f k : Nat) t) := by
    have get : ∀ {vs : List Value} {ns : List Int}, IntsAre vs ns → ∀ k, k < ns.length → ∃ t, vs[k]? = some (.int (ns.getD k 0) t) := by
      intro vs ns H
      induction H with
      | nil => intro k hk; simp at hk
      | cons a t _ ih =>
        intro k hk
        cases k with
        | zero => exact ⟨t, rfl⟩
        | succ k => simpa using ih k (by simpa using hk)
    obtain ⟨t, ht⟩ := get hi k (by simpa using hk)
    refine ⟨t, ?_⟩
    rw [ht]
    simp [hk]
  exact tail_any hl.typeIs slot_list_getitem.lookup (wpAny_getItem_list (k := (k : Int)) (x := .int (f k : Nat) t) hl (by omega) (by simp; omega) (by simpa using ht) (h t)) hsb
/-- how far two bumped places lie apart -/
def apartN (t a b : Nat) : Nat := (((a : Int) + if 0 < a then (t : Int) else 0) - b - if 0 < b then (t : Int) else 0).natAbs
def dueI (t a b : Nat) : Int := 1 + 2 * (apartN t a b : Int)
/-- an object that stands alone -/
theorem off_all {L D : Addr} {o : Nat → Obj} {ps : Array Value} {tl : List (Addr × Obj)} {ob : Obj} (O : Off L ((D, ob) :: tl)) (h : ∀ p ∈ tl, p.1 ≠ D) : ∀ p ∈ led L o ps tl, p.1 ≠ D := by
  intro p hp
  rcases led_cases hp with ⟨k, h1, h7, rfl⟩ | rfl | hp
  · exact fun e => (O _ (.head _)).2 k h1 h7 e.symm
  · exact fun e => (O _ (.head _)).1 e.symm
  · exact h p hp
theorem Led.apart {h₀ h : Heap} {L D : Addr} {o : Nat → Obj} {ps : Array Value} {tl : List (Addr × Obj)} {ob : Obj} (N : News h₀ L h (led L o ps ((D, ob) :: tl))) (O : Off L ((D, ob) :: tl)) (ht : ∀ p ∈ tl, p.1 ≠ D) :
    ∃ nl', News h₀ L h ((D, ob) :: nl') ∧ Led nl' L o ps tl ∧ ∀ p ∈ nl', p.1 ≠ D := by
  refine ⟨led L o ps tl, cb_drop N ?_, ⟨fun _ h => h, fun _ h => h, fun p hp => O p (.tail _ hp)⟩, off_all O ht⟩
  intro p hp
  rcases List.mem_cons.mp hp with rfl | hp
  · exact led_tl (.head _)
  · rcases led_cases hp with ⟨k, h1, h7, rfl⟩ | rfl | hp
    · exact led_cell h1 h7
    · exact led_tab
    · exact led_tl (.tail _ hp)
theorem due_append {prog : Program} {w : World} {A : Around} {E : Value → Shared → Prop} {s : Shared} {h₀ : Heap} {L I D7 : Addr} {oI : Obj} {nl : List (Addr × Obj)} {m : Str → Option Value} {us : List Value} {cc : Nat} {v z : Int} {t : Tok} {Q : Value → Shared → Prop}
    (F : Fr h₀ L s.heap m) (N : News h₀ L s.heap ((I, oI) :: (D7, listOf us.toArray cc) :: nl)) (hI : D7 ≠ I) (hne : ∀ p ∈ nl, p.1 ≠ D7) (hsz : us.length < 64) (e : v = z)
    (h : ∀ h', Fr h₀ L h' m → News h₀ L h' ((I, oI) :: (D7, listOf (us ++ [Value.int z t]).toArray (cc + 1)) :: nl) → Q .none { s with heap := h' }) :
    wpAny (model prog w) A (call (.builtin "list.append") [.ref D7, .int v t]) Q E s := by
  subst e
  refine append_K F N (.tail hI.symm (.head hne)) ?_ (by rw [List.size_toArray, sizeLine_eq]; omega)
  intro h' F' N'
  have e4 : us.toArray.push (Value.int v t) = (us ++ [Value.int v t]).toArray := by simp
  rw [e4] at N'
  exact h h' F' N'
theorem due_snoc {us : List Value} {g : Nat → Int} {i : Nat} (h : IntsAre us ((List.range i).map g)) (t : Tok) : IntsAre (us ++ [Value.int (g i) t]) ((List.range (i + 1)).map g) := by
  rw [List.range_succ, List.map_append]
  exact ints_snoc h _ _
theorem due_val {t a b : Nat} {p q : Int} (hp : (0 < (a : Int) ∧ p = t) ∨ (¬ 0 < (a : Int) ∧ p = 0)) (hq : (0 < (b : Int) ∧ q = t) ∨ (¬ 0 < (b : Int) ∧ q = 0)) : (1 : Int) + 2 * (if (a : Int) + p - b - q < 0 then -((a : Int) + p - b - q) else (a : Int) + p - b - q) = dueI t a b := by
  unfold dueI apartN
  have e1 : (if 0 < a then (t : Int) else 0) = p := by
    rcases hp with ⟨h, rfl⟩ | ⟨h, rfl⟩
    · rw [if_pos (by omega)]
    · rw [if_neg (by omega)]
  have e2 : (if 0 < b then (t : Int) else 0) = q := by
    rcases hq with ⟨h, rfl⟩ | ⟨h, rfl⟩
    · rw [if_pos (by omega)]
    · rw [if_neg (by omega)]
  rw [e1, e2]
  split <;> omega
end Mine

namespace Mine
open PySem PySem.W PySem.Calls PySem.Spec PyProof.Rows
/-- what a list comprehension without a test, told to a name, asks behind its source -/
def CompWA (prog : Program) (w : World) (A : Around) (env : Env) (scope : Scope) (cl : List (Str × Addr)) (x y : Str) (elt : Expr) (F : Value → Value → Prop) (Q : Flow → Shared → Prop) (it : Value) (s₂ : Shared) : Prop :=
  ∃ I fp wr n P St m, it = .ref I ∧ Walks prog w A I fp wr n P St ∧ n ≤ sizeLine ∧ St 0 s₂.heap ∧ (∀ b ∈ fp, b < s₂.heap.objs.size) ∧
      env.locals ∉ wr ∧ s₂.heap.Ns env.locals m ∧ QuietOnC prog w A env scope cl x [] elt wr P (fun _ => true) F s₂ ∧
      (∀ D h' tk ys (vs : List Value), s₂.heap.get? D = none → h'.IsList D ys → h'.PlainList D ys → vs.length = n → (∀ j v, vs[j]? = some v → P j v) → Paired F (vs.filter fun _ => true) ys.toList →
        h'.Ns env.locals (fun z => if z = y then some (.ref D) else m z) → (∀ b o, b ≠ env.locals → b ∉ wr → s₂.heap.get? b = some o → h'.get? b = some o) → Q .next { s₂ with heap := h', toks := tk })
section
variable {prog : Program} {w : World} {A : Around} {E : Value → Shared → Prop} {env : Env} {s : Shared} {h₀ : Heap} {L : Addr} {m : Str → Option Value} {news : List (Addr × Obj)} {scope : Scope} {cl : List (Str × Addr)} {x y : Str} {elt : Expr} {Q : Flow → Shared → Prop}
theorem listAssign {iter : Expr} {px py pos spos : Pos} (F : Value → Value → Prop)
    (hsw : swapsWith (.ListComp elt [⟨.Name x px, iter, [], 0⟩] scope pos) (some (.Name y py)) spos.line env = pure true)
    (hclos : closureFor scope env = pure cl) (hcell : ∀ z ∈ scope.names, z.2 ≠ .cell) (hkind : scope.kind = .function)
    (hnames : ∀ z ∈ scope.names, z.2 = .local → scope.names.lookup z.1 = some .local) (hx : scope.names.lookup x = some .local)
    (hy : env.kindOf y = some .local) (hp : (env.scope.kind == .class || (env.scope.kind == .module && env.locals != env.globals)) = false)
    (h : wpAny (model prog w) A (eval iter env) (fun xv s₁ => wpAny (model prog w) A (pyIter xv) (fun it s₂ => CompWA prog w A env scope cl x y elt F Q it s₂) E s₁) E s)
    (hs : ∀ x, foldedSetIterable iter env x = pure x := by intro _; rfl) :
    wpAny (model prog w) A (exec (.Assign [.Name y py] (.ListComp elt [⟨.Name x px, iter, [], 0⟩] scope pos) spos) env) Q E s :=
  wpAny_Assign_ListComp_free (fun _ => true) F hsw hclos hcell hkind hnames hx hy hp h hs

theorem asgRange {r : Addr} {n : Nat} {t u v : Tok} (hloc : env.locals = L) (hr : IsRange s.heap r 0 n 1 t u v) (hn : n < 2 ^ 20) (hh : A.handled = none) (F : Fr h₀ L s.heap m) (N : News h₀ L s.heap news) (G : Nat → Value → Prop)
    (turn : ∀ (i : Nat) tt C s₃ m₃ E', i < n → Fr h₀ L s₃.heap m → News h₀ L s₃.heap news → s₃.heap.Ns C m₃ → m₃ x = some (.int i tt) →
      wpAny (model prog w) A (eval elt (compEnvC scope cl C env)) (fun y s₄ => G i y ∧ Keeps s₃ s₄) E' s₃)
    (done : ∀ D h' tk ys nn, Fr h₀ L h' (fun z => if z = y then some (.ref D) else m z) → News h₀ L h' ((D, listOf ys nn) :: news) → (∀ p ∈ news, p.1 ≠ D) → ys.size = n → (∀ i z, ys[i]? = some z → G i z) → Q .next { s with heap := h', toks := tk }) :
    wpAny (model prog w) A (pyIter (.ref r)) (fun it s₂ => CompWA prog w A env scope cl x y elt (fun v y => ∃ (i : Nat) (a : Tok), v = .int i a ∧ G i y) Q it s₂) E s := by
  subst hloc
  refine wpAny_pyIter_range hr (small_range n (by omega)) ?_
  have hsz : Builtin.Range.rangeSize 0 n 1 = n := by simp [Builtin.Range.rangeSize]; omega
  have hlt := F.ns.lt
  refine ⟨s.heap.objs.size, _, [s.heap.objs.size], n, _, _, m, rfl, (Walks.range hh s.heap.objs.size 0 1 n).bound, by rw [sizeLine_eq]; omega, ?_, ?_, ?_, (F.push _).ns, ⟨?_, ?_⟩, ?_⟩
  · show IsRangeIter _ _ _ _ _
    rw [hsz]
    simpa using Heap.get?_push_size _ rfl
  · intro b hb
    rw [List.mem_singleton.mp hb]
    show _ < (s.heap.push _).objs.size
    rw [Heap.size_push]; exact Nat.lt_succ_self _
  · rw [List.mem_singleton]; exact Nat.ne_of_lt hlt
  · intro C i v s₃ m₃ E' hC hP hns hm hk htk
    exact test_none ⟨rfl, keeps_refl _⟩
  · intro C i v s₃ m₃ E' hC hP _ hns hm hk htk
    obtain ⟨hi, tt, rfl⟩ := hP
    have e : (0 : Int) + (i : Nat) * 1 = (i : Nat) := by omega
    rw [e] at hm
    have k3 : ∀ b o, s.heap.get? b = some o → s₃.heap.get? b = some o := fun b o e => hk b o (fun hb => by
      rw [List.mem_singleton.mp hb] at e
      exact absurd (Heap.lt_size e) (Nat.lt_irrefl _)) (Heap.get?_push_of_some _ e)
    refine wpAny_mono (turn i tt C s₃ m₃ E' hi (fr_keeps F k3) (news_keeps N k3) hns hm) (fun y s₄ h => ⟨⟨i, tt, by rw [e], h.1⟩, h.2⟩) fun _ _ e => e
  · intro D h' tk ys vs hD hl hpl hlen hP hpair hns hk
    obtain ⟨nn, hDe⟩ := hpl
    have k3 : ∀ b o, b ≠ env.locals → s.heap.get? b = some o → h'.get? b = some o := fun b o hb e => hk b o hb (fun hb => by
      rw [List.mem_singleton.mp hb] at e
      exact absurd (Heap.lt_size e) (Nat.lt_irrefl _)) (Heap.get?_push_of_some _ e)
    have hD0 : s.heap.get? D = none := by
      cases e : s.heap.get? D with
      | none => rfl
      | some o =>
        have hD' : (s.heap.push _).get? D = none := hD
        rw [Heap.get?_push_of_some _ e] at hD'; cases hD'
    have hDL : D ≠ env.locals := by
      rintro rfl
      obtain ⟨oL, _, _, hL, _⟩ := F.ns
      rw [hL] at hD0; cases hD0
    have pg := paired_get hpair
    have hft : (vs.filter fun _ => true) = vs := by simp
    rw [hft] at pg
    refine done D h' tk ys nn ⟨hns, fun b o e => ?_, F.above⟩ ?_ ?_ ?_ ?_
    · exact k3 b o (Nat.ne_of_lt (Nat.lt_of_lt_of_le (Heap.lt_size e) F.above)) (F.keep b o e)
    · intro p hp
      rcases List.mem_cons.mp hp with rfl | hp
      · refine ⟨hDe, hDL, ?_⟩
        cases e : h₀.get? D with
        | none => rfl
        | some o => rw [F.keep _ _ e] at hD0; cases hD0
      · exact ⟨k3 _ _ (N p hp).2.1 (N p hp).1, (N p hp).2⟩
    · intro p hp e
      rw [← e, (N p hp).1] at hD0; cases hD0
    · have := pg.1
      rw [← Array.length_toList, ← this, hlen]
    · intro i z hz
      obtain ⟨a, ha, j, b, e1, g⟩ := pg.2 i z (by simpa using hz)
      obtain ⟨hi, tt, e2⟩ := hP i a ha
      rw [e1] at e2
      injection e2 with e3 _
      have : j = i := by omega
      rw [← this]; exact g
end
theorem item_str {prog : Program} {w : World} {A : Around} {E : Value → Shared → Prop} {s : Shared} {S : Addr} {us : List (Str × Tok)} {g : Nat → Str} {n k : Nat} {u : Tok} {value slice : Expr} {Q : Value → Shared → Prop}
    (hl : s.heap.IsList S (strValues us).toArray) (he : us.map (·.1) = (List.range n).map g) (hk : k < n) (hn : n < 64) (h : ∀ t, Q (.str (g k) t) s)
    (hsb : subscripted slice false (.ref S) (.int k u) = operate [.ref S, .int k u] (getItem (.ref S) (.int k u)) := by with_unfolding_all rfl) :
    wpAny (model prog w) A (subscriptTail value slice (.ref S) (.int k u)) Q E s := by
  have hul : us.length = n := by
    have := congrArg List.length he
    simpa using this
  have hku : k < us.length := by omega
  have hv : us[k].1 = g k := by
    have := congrArg (fun l => l[k]?) he
    simpa [hku, hk] using this
  exact tail_any hl.typeIs slot_list_getitem.lookup (wpAny_getItem_list (k := (k : Int)) (x := .str (g k) us[k].2) hl (by omega) (by simp [strValues]; omega) (by simp [strValues, hku, hv]) (h _)) hsb
theorem ints_at {vs : List Value} {ns : List Int} (H : IntsAre vs ns) : ∀ k, k < ns.length → ∃ t, vs[k]? = some (.int (ns.getD k 0) t) := by
  induction H with
  | nil => intro k hk; simp at hk
  | cons a t _ ih =>
    intro k hk
    cases k with
    | zero => exact ⟨t, rfl⟩
    | succ k => simpa using ih k (by simpa using hk)
theorem item_int {prog : Program} {w : World} {A : Around} {E : Value → Shared → Prop} {s : Shared} {R : Addr} {vs : List Value} {g : Nat → Int} {n k : Nat} {u : Tok} {value slice : Expr} {Q : Value → Shared → Prop}
    (hl : s.heap.PlainList R vs.toArray) (hi : IntsAre vs ((List.range n).map g)) (hk : k < n) (hn : n < 64) (h : ∀ t, Q (.int (g k) t) s)
    (hsb : subscripted slice false (.ref R) (.int k u) = operate [.ref R, .int k u] (getItem (.ref R) (.int k u)) := by with_unfolding_all rfl) :
    wpAny (model prog w) A (subscriptTail value slice (.ref R) (.int k u)) Q E s := by
  have hvl := hi.length
  rw [List.length_map, List.length_range] at hvl
  obtain ⟨t, ht⟩ := ints_at hi k (by simpa using hk)
  have e : ((List.range n).map g).getD k 0 = g k := by simp [hk]
  rw [e] at ht
  have hl := plain_list hl
  exact tail_any hl.typeIs slot_list_getitem.lookup (wpAny_getItem_list (k := (k : Int)) (x := .int (g k) t) hl (by omega) (by simp; omega) (by simpa using ht) (h t)) hsb
theorem lev_n (t a b : Nat) : (bump t a = bump t b + apartN t a b ∧ 0 < apartN t a b) ∨ bump t b = bump t a + apartN t a b := by
  unfold bump apartN
  by_cases h1 : a = 0 <;> by_cases h2 : b = 0
  · subst h1 h2; right; simp
  · rw [if_pos h1, if_neg h2, if_neg (show ¬ 0 < a by omega), if_pos (show 0 < b by omega)]; omega
  · rw [if_neg h1, if_pos h2, if_pos (show 0 < a by omega), if_neg (show ¬ 0 < b by omega)]; omega
  · rw [if_neg h1, if_neg h2, if_pos (show 0 < a by omega), if_pos (show 0 < b by omega)]; omega
theorem lev_use {w : World} {A : Around} {E : Value → Shared → Prop} {s : Shared} {P : Program} {loose : List Str} {mean : ExcName → Option Value} {mg mb : Str → Option Value} {t a b k : Nat} {u v tm : Tok} {Q : Value → Shared → Prop}
    (X : (hd.heap_39 w.params).In s.heap) (T : Top P loose mean mg mb s.heap) (hdp : A.depth + 4 < recursionLimit) (hu : A.units + 30 < cLine) (hh : A.handled = none) (hk : k < 7) (ha : a < 7) (hb : b < 7) (ht : t ≤ 2)
    (h : ∀ tt s', Keeps s s' → Q (.int (dueI t a b) tt) s') :
    wpAny (model Challenge.rw_pg0099_01.row.prog w) A (call (.ref 90) [.str (Dt (bump t a) (low.cps.getD k 0)) u, .str (Dt (bump t b) (upp.cps.getD k 0)) v, .int (dueI t a b) tm]) Q E s := by
  have c := cost1 k hk
  have ba : bump t a ≤ 20 := by unfold bump; split <;> omega
  have bb : bump t b ≤ 20 := by unfold bump; split <;> omega
  rw [low_at k hk, upp_at k hk]
  refine wpAny_mono (lev_spec (E := Never) (n := apartN t a b) X T hdp hu hh ba bb (by omega) (by omega) (by omega) c.1 c.2.1 c.2.2.1 c.2.2.2 (lev_n t a b) (by unfold dueI; omega)) ?_ fun _ _ e => e.elim
  rintro _ s' ⟨⟨tt, rfl⟩, hk⟩
  exact h tt s' hk
end Mine

namespace Mine
open PySem PySem.W PySem.Calls PySem.Spec PyProof.Rows
theorem index_int {prog : Program} {w : World} {A : Around} {E : Value → Shared → Prop} {s : Shared} {R : Addr} {vs : List Value} {f : Nat → Nat} {n z v : Nat} {t : Tok} {Q : Value → Shared → Prop}
    (hl : s.heap.PlainList R vs.toArray) (hi : IntsAre vs ((List.range n).map fun i => (f i : Int))) (P : Pn n f) (hz : z < n) (e : f z = v) (hn : n < 64) (h : Q (.int z s.toks) { s with toks := s.toks + 1 }) :
    wpAny (model prog w) A (call (.builtin "list.index") [.ref R, .int v t]) Q E s := by
  obtain ⟨c, ho⟩ := hl
  have hvl := hi.length
  rw [List.length_map, List.length_range] at hvl
  have at' : ∀ k, k < n → ∃ t, vs[k]? = some (.int (f k : Nat) t) := fun k hk => by
    obtain ⟨t, ht⟩ := ints_at hi k (by simpa using hk)
    refine ⟨t, ?_⟩
    rw [ht]
    simp [hk]
  have hs : vs.toArray.size = n := by simp [hvl]
  have it : ∀ k (hk : k < vs.toArray.size), ∃ t, vs.toArray[k] = .int (f k : Nat) t := fun k hk => by
    obtain ⟨t, ht⟩ := at' k (by omega)
    refine ⟨t, ?_⟩
    obtain ⟨_, h2⟩ := List.getElem?_eq_some_iff.mp ht
    simpa using h2
  refine call_meets PySem.F.slot_list_index ⟨_, ho, rfl⟩ PySem.F.entry_list_index (PySem.F.args_list_index_2 _ _)
    (MeetsSeq.list_index R vs.toArray c (.int v t) (isInt v) ?_ z (by omega) (by omega) ?_ ?_) ⟨ho, h⟩
  · intro y hy
    obtain ⟨k, hk, rfl⟩ := Array.getElem_of_mem hy
    obtain ⟨u, hu⟩ := it k hk
    rw [hu]
    exact MeetsSeq.EqGives.int _ _ _ _
  · obtain ⟨u, hu⟩ := it z (by omega)
    rw [hu, e]
    simp [isInt]
  · intro k hk hkz
    obtain ⟨u, hu⟩ := it k hk
    rw [hu]
    have hne : f k ≠ v := fun q => by have := P.inj k z (by omega) hz (q.trans e.symm); omega
    simp [isInt]
    omega
theorem sum_due (g : Nat → Nat) : ∀ n : Nat, ((List.range n).map fun k => (1 : Int) + 2 * (g k : Int)).sum = n + 2 * (sumN g n : Int)
  | 0 => rfl
  | n + 1 => by
    rw [List.range_succ, List.map_append, List.sum_append, sum_due g n, sumN]
    simp only [List.map_cons, List.map_nil, List.sum_cons, List.sum_nil]
    push_cast
    omega
theorem sum_bag {prog : Program} {w : World} {A : Around} {E : Value → Shared → Prop} {s : Shared} {h₀ : Heap} {L l : Addr} {m : Str → Option Value} {news : List (Addr × Obj)} {vs : List Value} {ns : List Int} {z : Int} {Q : Value → Shared → Prop} (hh : A.handled = none) (F : Fr h₀ L s.heap m) (N : News h₀ L s.heap news) (hl : s.heap.IsList l vs.toArray) (hi : IntsAre vs ns) (hz : ns.sum = z)
    (h : ∀ h' tk t', Fr h₀ L h' m → News h₀ L h' news → Q (.int z t') { s with heap := h', toks := tk }) :
    wpAny (model prog w) A (call (.builtin "sum") [.ref l]) Q E s := by
  subst hz
  obtain ⟨xs, hx⟩ := hi.allInts.items
  have hn : numsOf vs.toArray.toList = ns := by rw [show vs.toArray.toList = vs from rfl, hi.numsOf]
  rw [hx] at hl hn
  rw [nums_intItems] at hn
  refine sum_intListG hh hl fun h' tk t' hk => ?_
  have := h h' tk t' (fr_keeps F hk) (news_keeps N hk)
  rw [preSum_eq, List.take_of_length_le (by simp), hn]
  exact this
theorem apart_val {n t : Nat} {one two : Nat → Nat} (p1 : Pn n one) (p2 : Pn n two) {z1 z2 : Nat} (h1 : z1 < n) (h2 : z2 < n) (e1 : one z1 = 0) (e2 : two z2 = 0) {c : Int} (hc : ((z1 : Int) ≠ z2 ∧ c = 2 * (t : Int)) ∨ ((z1 : Int) = z2 ∧ c = 0)) :
    ((n : Int) + 2 * (sumN (fun k => apartN t (one k) (two k)) n : Nat) - n).fdiv 2 - c = (sumN (fun k => ((two k : Int) - one k).natAbs) n : Nat) := by
  have e := sum_apart (t := t) p1 p2 h1 h2 e1 e2
  have e' : sumN (fun k => apartN t (one k) (two k)) n = sumN (fun k => ((two k : Int) - one k).natAbs) n + if z1 ≠ z2 then 2 * t else 0 := e
  rw [Int.fdiv_eq_ediv_of_nonneg _ (by decide), e']
  rcases hc with ⟨h, rfl⟩ | ⟨h, rfl⟩
  · rw [if_pos (by omega)]
    push_cast
    omega
  · rw [if_neg (by omega)]
    omega
theorem Pn.inverse {n : Nat} {f : Nat → Nat} (P : Pn n f) : ∃ q : Nat → Nat, ∀ r, r < n → q r < n ∧ f (q r) = r := by
  refine ⟨fun r => if h : r < n then Classical.choose (P.onto r h) else 0, fun r hr => ?_⟩
  dsimp only
  rw [dif_pos hr]
  exact Classical.choose_spec (P.onto r hr)
theorem ord_of {n : Nat} {one two q : Nat → Nat} (p1 : Pn n one) (p2 : Pn n two) (hq : ∀ r, r < n → q r < n ∧ one (q r) = r) : Ord n one two ((List.range n).map fun r => ((two (q r) : Nat) : Int)) := by
  refine ⟨p1, p2, by simp, fun k hk => ?_⟩
  have h1 := p1.lt k hk
  have h2 := hq _ h1
  have e : q (one k) = k := p1.inj _ _ h2.1 hk h2.2
  simp [h1, e]
theorem post_true (args : List WData) : PySem.Challenge.rw_pg0099_01.row.claim.post args (WData.bool true) args = true :=
  postW_of rfl (w_eq_bool (w_res rfl) w_lit) rfl
/-- the last test -/
theorem last_test {od : List Int} {b : Bool} (hp : Pm od) (hb : b = true ↔ ∃ k, k < od.length ∧ FallAt od k) : (((disp od : Nat) : Int) == 2 * ((inv od : Nat) : Int)) != b := by
  have u := (upper od hp).2
  have f := fall_iff od
  by_cases e : disp od = 2 * inv od
  · have hn : ¬ ∃ k, k < od.length ∧ FallAt od k := fun h => (f.mp h) (u.mp e)
    have hbf : b = false := by
      cases b with
      | false => rfl
      | true => exact absurd (hb.mp rfl) hn
    have e2 : (((disp od : Nat) : Int) == 2 * ((inv od : Nat) : Int)) = true := by simp; omega
    rw [e2, hbf]; rfl
  · have hy : ∃ k, k < od.length ∧ FallAt od k := f.mpr fun h => e (u.mpr h)
    have hbt : b = true := hb.mpr hy
    have e2 : (((disp od : Nat) : Int) == 2 * ((inv od : Nat) : Int)) = false := by
      apply Bool.eq_false_iff.mpr
      intro h
      have h := eq_of_beq h
      omega
    rw [e2, hbt]; rfl
end Mine

namespace Mine
open PySem PySem.W PySem.Calls PySem.Spec PyProof.Rows
example : True ∧ True := by
  w_top off
  (try walk1)
  all_goals trivial
local macro_rules | `(tactic| walk_at "eval Name") => `(tactic| (k_here; (with_reducible show wpAny _ _ (eval (Expr.Name _ _) (envOfC _ _ _ _ _)) _ _ _); k_dflt (first
  | (refine' nameFr ?k1 ?k2 ?_; (case k1 => k_asm); (case k2 => first | exact rfl | assumption))
  | ((first | refine' ldLedM (k := 3) ?k1 ?k2 ?k3 (by decide) (by decide) (by exact rfl) ?k5 ?_ | refine' ldLedM (k := 4) ?k1 ?k2 ?k3 (by decide) (by decide) (by exact rfl) ?k5 ?_ | refine' ldLedM (k := 5) ?k1 ?k2 ?k3 (by decide) (by decide) (by exact rfl) ?k5 ?_ | refine' ldLedM (k := 6) ?k1 ?k2 ?k3 (by decide) (by decide) (by exact rfl) ?k5 ?_ | refine' ldLedM (k := 7) ?k1 ?k2 ?k3 (by decide) (by decide) (by exact rfl) ?k5 ?_); (case k1 => k_asm); (case k2 => assumption); (case k5 => assumption); (case k3 => (first | exact fun p hp => hp | exact fun p hp => .tail _ hp | exact fun p hp => .tail _ (.tail _ hp)))))))
local macro_rules | `(tactic| walk_at "eval Name") => `(tactic| (k_here; (with_reducible show wpAny _ _ (eval (Expr.Name _ _) (compEnvC _ _ _ _)) _ _ _); k_dflt (first
  | (refine' ldCellK ?k1 ?k2 ?_; (case k1 => exact rfl); (case k2 => assumption))
  | (refine' ldVarK ?k1 ?k2 ?_; (case k1 => assumption); (case k2 => assumption)))))
local macro_rules | `(tactic| walk_at "subscriptTail") => `(tactic| (k_here; (with_reducible show wpAny _ _ (subscriptTail _ _ (Value.ref _) (Value.int _ _)) _ _ _); k_dflt (refine' item_bag ?k1 ?k2 ?k3 ?k4 ?k5 ?k6 ?k7 ?_; (case k1 => k_asm); (case k2 => assumption); (case k4 => assumption); (case k5 => assumption); (case k3 => (first | exact fun p hp => hp | exact fun p hp => .tail _ hp | exact fun p hp => .tail _ (.tail _ hp) | exact fun p hp => .tail _ (.tail _ (.tail _ hp)))); (case k6 => assumption); (case k7 => assumption)); intro tt))
local macro_rules | `(tactic| walk_at "subscriptTail") => `(tactic| (k_here; (with_reducible show wpAny _ _ (subscriptTail _ _ (Value.ref _) (Value.int _ _)) _ _ _); k_dflt (first
  | (refine' item_str ?k1 ?k2 ?k3 ?k4 ?_; (case k1 => assumption); (case k2 => assumption); (case k3 => assumption); (case k4 => assumption))
  | (refine' item_int ?k1 ?k2 ?k3 ?k4 ?_; (case k1 => assumption); (case k2 => assumption); (case k3 => assumption); (case k4 => assumption))); intro tt))
local macro_rules | `(tactic| walk_at "exec For Name Call cons nil") => `(tactic| (refine Stop.at ?_))
local macro_rules | `(tactic| walk_at "getMethod ref") => `(tactic| (k_here; (with_reducible show wpAny _ _ (getMethod (Value.ref _) (PySem.Str.ofString "index") _) _ _ _); k_dflt (refine' method_index ?k1 ?_; (case k1 => assumption))))
local macro_rules | `(tactic| walk_at "call builtin:list.index") => `(tactic| (refine Stop.at ?_))
local macro_rules | `(tactic| walk_at "compareOp NotEq ref ref") => `(tactic| (refine Stop.at ?_))
local macro_rules | `(tactic| walk_at "call ref") => `(tactic| (first | (with_reducible show wpAny _ _ (call (Value.ref 55) _) _ _ _) | (with_reducible show wpAny _ _ (call (Value.ref 95) _) _ _ _) | (with_reducible show wpAny _ _ (call (Value.ref 100) _) _ _ _) | (with_reducible show wpAny _ _ (call (Value.ref 112) _) _ _ _) | (with_reducible show wpAny _ _ (call (Value.ref 90) _) _ _ _) | (with_reducible show wpAny _ _ (call (Value.ref 107) _) _ _ _) | (with_reducible show wpAny _ _ (call (Value.ref 119) _) _ _ _) | (with_reducible show wpAny _ _ (call (Value.ref 126) _) _ _ _)); (refine Stop.at ?_))
local macro_rules | `(tactic| walk_at "callWith ref") => `(tactic| (k_here; (with_reducible refine' callWith_K ?k1 ?k2 ?_ ?he ?hp); (case k1 => k_asm); (case k2 => k_dflt k_is); (case he => k_dflt (exact rfl)); (case hp => k_dflt (exact rfl)); k_dflt k_whole))
local macro_rules | `(tactic| walk_at "call builtin:sum") => `(tactic| (refine Stop.at ?_))
local macro_rules | `(tactic| walk_at "call builtin:sorted") => `(tactic| (refine Stop.at ?_))
local macro_rules | `(tactic| walk_at "eval Lambda") => `(tactic| (refine Stop.at ?_))
local macro_rules | `(tactic| walk_at "eval ListComp") => `(tactic| (refine Stop.at ?_))
local macro_rules | `(tactic| walk_at "exec Assign") => `(tactic| ((with_reducible show wpAny _ _ (exec _ (envOfC _ _ _ _ _)) _ _ _); (fail_if_success (with_reducible show wpAny _ _ _ (fun _ _ => End _) _ _)); (refine Stop.at ?_)))
local macro_rules | `(tactic| walk_at "exec Assign cons ListComp") => `(tactic| ((with_reducible show wpAny _ _ (exec _ (envOfC _ _ _ _ _)) _ _ _); (fail_if_success (with_reducible show wpAny _ _ _ (fun _ _ => End _) _ _)); (refine Stop.at ?_)))
local macro_rules | `(tactic| walk_at "exec If") => `(tactic| ((with_reducible show wpAny _ _ (exec _ (envOfC _ _ _ _ _)) _ _ _); (fail_if_success (with_reducible show wpAny _ _ _ (fun _ _ => End _) _ _)); (refine Stop.at ?_)))
local macro_rules | `(tactic| walk_at "exec Return some") => `(tactic| ((with_reducible show wpAny _ _ (exec _ (envOfC _ _ _ _ _)) _ _ _); (fail_if_success (with_reducible show wpAny _ _ _ (fun _ _ => End _) _ _)); (refine Stop.at ?_)))
local macro_rules | `(tactic| walk_at "call builtin:len") => `(tactic| (k_here; (with_reducible show wpAny _ _ (call _ [Value.ref _]) _ _ _); k_dflt (first
  | (refine' len_bag ?k1 ?k2 ?k3 ?k4 ?k5 ?_; (case k1 => k_asm); (case k2 => assumption); (case k3 => assumption); (case k4 => assumption); (case k5 => assumption))
  | (refine' len_of ?k1 ?k2 ?k3 ?k4 ?_; (case k1 => k_asm); (case k2 => assumption); (case k3 => assumption); (case k4 => assumption)))))

theorem fmod2 (k : Nat) : (1 : Int) + ((k : Int).fmod 2) = ((1 + k % 2 : Nat) : Int) := by
  rw [Int.fmod_eq_emod_of_nonneg _ (by decide)]
  omega
theorem law_holds : PySem.Challenge.rw_pg0099_01.Holds := hd (by
  k_go0
  dsimp only
  rename (Fr _ _ _ _) => F
  rename (News _ _ _ _) => N
  rename (Frag.In _ _) => X
  rename (Top _ _ _ _ _ _) => T
  rename (IntsAre _ _) => hI
  rename (¬ (_ : Int) < _) => hcond
  rename (128 < _) => l0
  rename World => w
  rename List Int => ns
  obtain ⟨o, N, hcell⟩ := enter_led N (by assumption) (by assumption) (by assumption) (by assumption) (by assumption) (by assumption) (by assumption)
  have hn64 := Nat.lt_succ_of_le (Int.ofNat_le.mp (Int.not_lt.mp hcond))
  have hvl := hI.length
  repeat (rename (_ = Data.cell _) => z; clear z)
  try (rename (Tables _ _ _ _) => z; clear z)
  try (rename (TopE _ _ _ _) => z; clear z)
  try (rename (TopW _ _ _) => z; clear z)
  try (rename (Heap.CodeRec _ _ _) => z; clear z)
  try (rename (Dflts _ _ _ _ _ _) => z; clear z)
  try (rename (CellsAre _ _ _) => z; clear z)
  try (rename (LooseAre _ _ _) => z; clear z)
  try (rename (ReadsAllW _ _ _ _ _ _) => z; clear z)
  try (rename (ReadsAll _ _ _ _) => z; clear z)
  try (rename (Reads _ _ _ _) => z; clear z)
  try (rename (Well _ _ _ _) => z; clear z)
  rename Shared => s₁
  repeat walk1
  refine Stop.go ?_
  -- records
  refine execCut (fun s' => ∃ (D : Addr) (x : Nat → Nat → Int) (rs : List Addr) (h : Heap) (tk : Nat) (m : Str → Option Value) (nl tl : List (Addr × Obj)), s' = { s₁ with heap := h, toks := tk } ∧ Fr (ghostOf s₁.heap [(130, 128)]) s₁.heap.objs.size h m ∧ News (ghostOf s₁.heap [(130, 128)]) s₁.heap.objs.size h nl ∧ Led nl s₁.heap.objs.size o #[] tl ∧ m "records" = some (.ref D) ∧ (∃ (l : Addr) (vs : List Value), m "script" = some (.ref l) ∧ (ghostOf s₁.heap [(130, 128)]).IsList l vs.toArray ∧ vs.length = ns.length) ∧ rs.length = 5 + min ns.length 2 ∧
    (Bears tl fun h => h.IsList D (rs.map Value.ref).toArray) ∧ (∀ (i : Nat) r, rs[i]? = some r → Bears tl fun h => RowAt h r (x i)) ∧ (∀ i, i < 5 + min ns.length 2 → x i 2 = i)) ?_ ?_
  · repeat walk1
    refine Stop.go ?_
    refine recs_use F N (fun p hp => nomatch hp) X T (room _ (by decide)) (roomU _ (by decide)) rfl (by assumption) hI hn64 ?_
    intro D x rs tl h1 tk1 F1 N1 O1 _ hrs hDl hrow hx
    obtain ⟨nl, N2, LD⟩ := Led.hide N1 O1
    clear N1 F N
    repeat walk1
    rename Fr _ _ _ _ => F9
    rename News _ _ _ _ => N9
    exact End.mk ⟨trivial, D, x, rs, _, _, _, nl, tl, rfl, F9, N9, LD, rfl, ⟨_, _, rfl, lifted, hvl⟩, hrs, hDl, hrow, hx⟩
  clear F N
  intro s' hG1
  refine hideGoal fun XX kX => ?_
  obtain ⟨D, x, rs, h, tk, m, nl, tl, rfl, F, N, LD, m1, ⟨scr, svs, m2, hsl, hsv⟩, hrs, hDl, hrow, hx⟩ := hG1
  refine kX ?_
  clear kX XX
  obtain ⟨n, hn⟩ : ∃ n, n = 5 + min ns.length 2 := ⟨_, rfl⟩
  rw [← hn] at hrs hx
  have hn5 : 5 ≤ n := by rw [hn]; exact Nat.le_add_right _ _
  have hn7 : n ≤ 7 := by rw [hn]; exact Nat.add_le_add_left (Nat.min_le_right _ _) 5
  have hrl : (rs.map Value.ref).length = n := by rw [List.length_map, hrs]
  have le64 : n < 64 := Nat.lt_of_le_of_lt hn7 (by decide)
  have le62 : n < 2 ^ 62 := Nat.lt_of_le_of_lt hn7 (by decide)
  have le20 : n < 2 ^ 20 := Nat.lt_of_le_of_lt hn7 (by decide)
  have le2 : 2 ≤ n := Nat.le_trans (by decide) hn5
  have le1 : 1 ≤ n := Nat.le_trans (by decide) hn5
  have le0 : 0 < n := Nat.lt_of_lt_of_le (by decide) hn5
  have lel : (rs.map Value.ref).length < 2 ^ 20 := by rw [hrl]; exact le20
  clear hn
  repeat walk1
  refine Stop.go ?_
  -- size
  refine execCut (fun s' => ∃ (h : Heap) (tk : Nat) (m : Str → Option Value) (t : Tok), s' = { s₁ with heap := h, toks := tk } ∧ Fr (ghostOf s₁.heap [(130, 128)]) s₁.heap.objs.size h m ∧ News (ghostOf s₁.heap [(130, 128)]) s₁.heap.objs.size h nl ∧ m "records" = some (.ref D) ∧ m "script" = some (.ref scr) ∧ m "size" = some (.int n t)) ?_ ?_
  · repeat walk1
    rename Fr _ _ _ _ => F9
    rename News _ _ _ _ => N9
    exact End.mk ⟨trivial, _, _, _, _, rfl, F9, N9, m1, m2, rfl⟩
  clear F N m1 m2
  intro s' hG1
  refine hideGoal fun XX kX => ?_
  obtain ⟨h, tk, m, t1, rfl, F, N, m1, m2, m3⟩ := hG1
  refine kX ?_
  clear kX XX
  repeat walk1
  refine Stop.go ?_
  -- times
  have hvs : ns.length < 2 ^ 62 := Nat.lt_trans hn64 (by decide)
  obtain ⟨times, htm⟩ : ∃ k, k = 1 + ns.length % 2 := ⟨_, rfl⟩
  have tm1 : 1 ≤ times := by rw [htm]; exact Nat.le_add_right _ _
  have tm2 : times ≤ 2 := by rw [htm]; exact Nat.add_le_add_left (Nat.le_of_lt_succ (Nat.mod_lt _ (by decide))) 1
  refine execCut (fun s' => ∃ (h : Heap) (tk : Nat) (m : Str → Option Value) (t t2 : Tok), s' = { s₁ with heap := h, toks := tk } ∧ Fr (ghostOf s₁.heap [(130, 128)]) s₁.heap.objs.size h m ∧ News (ghostOf s₁.heap [(130, 128)]) s₁.heap.objs.size h nl ∧ m "records" = some (.ref D) ∧ m "size" = some (.int n t) ∧ m "times" = some (.int times t2)) ?_ ?_
  · repeat walk1
    rename Fr _ _ _ _ => F9
    rename News _ _ _ _ => N9
    rw [fmod2, ← htm] at F9
    exact End.mk ⟨trivial, _, _, _, _, _, rfl, F9, N9, m1, m3, rfl⟩
  clear F N m1 m2 m3
  intro s' hG1
  refine hideGoal fun XX kX => ?_
  obtain ⟨h, tk, m, t1, t2, rfl, F, N, m1, m3, m4⟩ := hG1
  refine kX ?_
  clear kX XX
  repeat walk1
  refine Stop.go ?_
  -- upwards
  refine execCut (fun s' => ∃ (U : Addr) (h : Heap) (tk : Nat) (m : Str → Option Value) (t t2 : Tok) (nl tl' : List (Addr × Obj)), s' = { s₁ with heap := h, toks := tk } ∧ Fr (ghostOf s₁.heap [(130, 128)]) s₁.heap.objs.size h m ∧ News (ghostOf s₁.heap [(130, 128)]) s₁.heap.objs.size h nl ∧ Led nl s₁.heap.objs.size o #[] tl' ∧ (∀ p ∈ tl, p ∈ tl') ∧
      m "records" = some (.ref D) ∧ m "size" = some (.int n t) ∧ m "times" = some (.int times t2) ∧ m "upwards" = some (.ref U) ∧ Bears tl' fun h => CompAt h U sel1) ?_ ?_
  · repeat walk1
    refine Stop.go ?_
    rename Fr _ _ _ _ => F9
    rename News _ _ _ _ => N9
    refine comp_new X T (by assumption) F9 N9 ?_
    intro x' dx hsh tk' nn h' tk'' F10 N10 lt1 lt2
    clear F9 N9
    repeat walk1
    rename Fr _ _ _ _ => F9
    rename News _ _ _ _ => N11
    obtain ⟨nl3, N4, LD4⟩ := Led.more (nw := [_, _, _, _, _]) N11 LD (by
      intro q hq
      simp only [List.mem_cons, List.not_mem_nil, or_false] at hq
      rcases hq with rfl | rfl | rfl | rfl | rfl
      · exact allLt_ne (allLt_up lt1.2.2.2 lt2)
      · exact allLt_ne lt1.2.2.2
      all_goals (refine allLt_ne ?_; (first | assumption | exact allLt_of (by assumption) | (apply And.right; assumption) | (apply And.right; apply And.right; assumption) | (apply And.right; apply And.right; apply And.right; assumption))))
    clear N11
    refine End.mk ⟨trivial, _, _, _, _, _, _, nl3, _, rfl, F9, N4, LD4, fun p hp => List.mem_append_right _ hp, m1, m3, m4, rfl, ?_⟩
    intro h3 hh
    exact ⟨_, _, _, _, _, [_, _], hh _ (List.mem_append_left _ (.head _)), hh _ (List.mem_append_left _ (.tail _ (.head _))), ⟨_, hh _ (List.mem_append_left _ (.tail _ (.tail _ (.head _)))), rfl, _, rfl⟩,
      ⟨_, _, _, hh _ (List.mem_append_left _ (.tail _ (.tail _ (.tail _ (.tail _ (.head _)))))), rfl, _, rfl⟩, ⟨_, _, _, hh _ (List.mem_append_left _ (.tail _ (.tail _ (.tail _ (.head _))))), rfl, _, rfl⟩, trivial⟩
  clear F N m1 m3 m4 LD
  intro s' hG1
  refine hideGoal fun XX kX => ?_
  obtain ⟨U, h, tk, m, t1, t2, nl, tl', rfl, F, N, LD, hmore, m1, m3, m4, m5, hU⟩ := hG1
  refine kX ?_
  clear kX XX
  have hDl := hDl.more hmore
  have hrow := fun i r e => (hrow i r e).more hmore
  clear hmore
  repeat walk1
  refine Stop.go ?_
  -- downwards
  refine execCut (fun s' => ∃ V, LA s₁ (ghostOf s₁.heap [(130, 128)]) s₁.heap.objs.size D U V rs n times x (fun _ o' ps _ => ps = #[] ∧ o' = o) s') ?_ ?_
  · repeat walk1
    refine Stop.go ?_
    rename Fr _ _ _ _ => F9
    rename News _ _ _ _ => N9
    refine comp_new X T (by assumption) F9 N9 ?_
    intro x' dx hsh tk' nn h' tk'' F10 N10 lt1 lt2
    clear F9 N9
    repeat walk1
    rename Fr _ _ _ _ => F9
    rename News _ _ _ _ => N11
    obtain ⟨nl3, N4, LD4⟩ := Led.more (nw := [_, _, _, _, _, _]) N11 LD (by
      intro q hq
      simp only [List.mem_cons, List.not_mem_nil, or_false] at hq
      rcases hq with rfl | rfl | rfl | rfl | rfl | rfl
      · exact allLt_ne (allLt_up lt1.2.2.2.2 lt2)
      · exact allLt_ne lt1.2.2.2.2
      all_goals (refine allLt_ne ?_; (first | assumption | exact allLt_of (by assumption) | (apply And.right; assumption) | (apply And.right; apply And.right; assumption) | (apply And.right; apply And.right; apply And.right; assumption) | (apply And.right; apply And.right; apply And.right; apply And.right; assumption))))
    clear N11
    refine End.mk ⟨trivial, x', _, _, _, _, _, nl3, _, rfl, F9, N4, LD4, ⟨m1, ⟨_, m3⟩, ⟨_, m4⟩, m5, rfl⟩, ⟨hDl.more fun p hp => List.mem_append_right _ hp, fun i r e => (hrow i r e).more fun p hp => List.mem_append_right _ hp, hU.more fun p hp => List.mem_append_right _ hp, ?_⟩, rfl, rfl⟩
    intro h3 hh
    exact ⟨_, _, _, _, _, [_, _, _], hh _ (List.mem_append_left _ (.head _)), hh _ (List.mem_append_left _ (.tail _ (.head _))), ⟨_, hh _ (List.mem_append_left _ (.tail _ (.tail _ (.head _)))), rfl, _, rfl⟩,
      ⟨_, _, _, hh _ (List.mem_append_left _ (.tail _ (.tail _ (.tail _ (.tail _ (.tail _ (.head _))))))), rfl, _, rfl⟩, ⟨_, _, _, hh _ (List.mem_append_left _ (.tail _ (.tail _ (.tail _ (.tail _ (.head _)))))), rfl, _, rfl⟩, ⟨_, _, _, hh _ (List.mem_append_left _ (.tail _ (.tail _ (.tail _ (.head _))))), rfl, _, rfl⟩, trivial⟩
  clear F N LD m1 m3 m4 m5 hDl hrow hU
  intro s' hG1
  refine hideGoal fun XX kX => ?_
  obtain ⟨V, h, tk, m, o', ps, nl, tl, rfl, F, N, LD, ⟨m1, ⟨t1, m3⟩, ⟨t2, m4⟩, m5, m6⟩, lt, rfl, rfl⟩ := hG1
  refine kX ?_
  clear kX XX
  repeat walk1
  refine Stop.go ?_
  -- by_first
  refine execCut (LA s₁ (ghostOf s₁.heap [(130, 128)]) s₁.heap.objs.size D U V rs n times x (fun _ o' ps tl => (∃ c', ps = #[rawInt 118, rawInt 35, .ref c']) ∧ CellsOk o' ∧ ∃ B p, SC o' tl 1 B (pick rs p) ∧ IsP n p ∧ Up (rankN sel1 x n) p n)) ?_ ?_
  · repeat walk1
    refine Stop.go ?_
    refine kla_eval (by exact rfl) ?_
    refine lam_make F N LD l0 T codeHd trivial rfl rfl ?_
    intro f c' ctv h' tk' nl' tl' F2 N2 LD2 hmore hf hc
    clear F N LD
    repeat walk1
    refine Stop.go ?_
    show wpAny _ _ (call (Value.builtin "sorted") [Value.ref D] [(Str.ofString "key", Value.ref f)]) _ _ _
    have lt2 := lt.more hmore
    refine sorted_rows (n := n) (key := fun i => [x i 0, x i 2]) (g := rankN sel1 x n) F2 N2 (lt2.list.at (LD2.to N2)) hrs (by assumption) (by assumption) ?_ (fun i => List.cons_ne_nil _ _) (fun i j => rfl) (pn1 hx).inj (fun i j hi hj => lex1 hx hi hj) ?_
    · intro s' i r hr F3 N3
      refine wpAny_mono (key1 (X.keeps F3.keep) (T.keeps F3.keep) ?_ (hf.at (LD2.to N3)) (hc.at (LD2.to N3)) ((lt2.rows i r hr).at (LD2.to N3))) (fun v s'' q => q.out) fun _ _ q => q
      exact room1 (by decide)
    intro B cB p h3 tk3 F3 N3 hnew hp hup
    obtain ⟨nl3, N4, LD3⟩ := Led.more (nw := [(B, _)]) N3 LD2 (by
      intro q hq
      rw [List.mem_singleton.mp hq]
      exact fun p hp => Nat.ne_of_lt (hnew p hp))
    clear F2 N2 LD2 N3 hnew
    repeat walk1
    obtain ⟨v1, hv1⟩ := hcell 1 (by decide) (by decide)
    refine stLaw (k := 1) (by decide) (by decide) F3 (LD3.to N4) LD3.off l0 rfl hv1 ?_
    intro h4 o2 F4 N5 hoth hset
    obtain ⟨nl4, N6, LD4⟩ := Led.hide N5 LD3.off
    clear F3 N4 LD3 N5
    repeat walk1
    exact End.mk ⟨trivial, _, _, _, _, _, _, _, rfl, F4, N6, LD4, ⟨m1, ⟨_, m3⟩, ⟨_, m4⟩, m5, m6⟩, lt2.more fun p hp => List.mem_append_right _ hp, ⟨c', rfl⟩, CellsOk.set hcell hoth hset, B, p, ⟨hset, bears_list (List.mem_append_left _ (.head _))⟩, hp, hup⟩
  clear F N LD m1 m3 m4 m5 m6 lt hcell
  intro s' hG1
  refine hideGoal fun XX kX => ?_
  obtain ⟨h, tk, m, o', ps, nl, tl, rfl, F, N, LD, ⟨m1, ⟨t1, m3⟩, ⟨t2, m4⟩, m5, m6⟩, lt, ⟨c', rfl⟩, hcell, B, p1, ⟨c1, hB⟩, hp1, hup1⟩ := hG1
  refine kX ?_
  clear kX XX
  repeat walk1
  refine Stop.go ?_
  -- by_second
  refine execCut (LA s₁ (ghostOf s₁.heap [(130, 128)]) s₁.heap.objs.size D U V rs n times x (fun _ o' ps tl => CellsOk o' ∧ SC o' tl 1 B (pick rs p1) ∧
    ∃ B2 p, SC o' tl 2 B2 (pick rs p) ∧ IsP n p ∧ Up (rankN sel2 x n) p n)) ?_ ?_
  · repeat walk1
    refine Stop.go ?_
    refine kla_eval (by exact rfl) ?_
    refine lam_make F N LD l0 T codeHd ?_ rfl rfl ?_
    · kn_triples
    intro f c'' ctv h' tk' nl' tl' F2 N2 LD2 hmore hf hc
    clear F N LD
    repeat walk1
    refine Stop.go ?_
    show wpAny _ _ (call (Value.builtin "sorted") [Value.ref D] [(Str.ofString "key", Value.ref f)]) _ _ _
    have lt2 := lt.more hmore
    refine sorted_rows (n := n) (key := fun i => [-x i 1, x i 0, -x i 2]) (g := rankN sel2 x n) F2 N2 (lt2.list.at (LD2.to N2)) hrs (by assumption) (by assumption) ?_ (fun i => List.cons_ne_nil _ _) (fun i j => rfl) (pn2 hx).inj (fun i j hi hj => lex2 hx hi hj) ?_
    · intro s' i r hr F3 N3
      refine wpAny_mono (key2 (X.keeps F3.keep) (T.keeps F3.keep) ?_ (hf.at (LD2.to N3)) (hc.at (LD2.to N3)) ((lt2.rows i r hr).at (LD2.to N3))) (fun v s'' q => q.out) fun _ _ q => q
      exact room1 (by decide)
    intro B2 cB p h3 tk3 F3 N3 hnew hp hup
    obtain ⟨nl3, N4, LD3⟩ := Led.more (nw := [(B2, _)]) N3 LD2 (by
      intro q hq
      rw [List.mem_singleton.mp hq]
      exact fun p hp => Nat.ne_of_lt (hnew p hp))
    clear F2 N2 LD2 N3 hnew
    repeat walk1
    obtain ⟨v1, hv1⟩ := hcell 2 (by decide) (by decide)
    refine stLaw (k := 2) (by decide) (by decide) F3 (LD3.to N4) LD3.off l0 rfl hv1 ?_
    intro h4 o2 F4 N5 hoth hset
    obtain ⟨nl4, N6, LD4⟩ := Led.hide N5 LD3.off
    clear F3 N4 LD3 N5
    repeat walk1
    exact End.mk ⟨trivial, _, _, _, _, _, _, _, rfl, F4, N6, LD4, ⟨m1, ⟨_, m3⟩, ⟨_, m4⟩, m5, m6⟩, lt2.more fun p hp => List.mem_append_right _ hp, CellsOk.set hcell hoth hset, ⟨(hoth 1 (by decide)).symm ▸ c1, (hB.more hmore).more fun p hp => List.mem_append_right _ hp⟩, B2, p, ⟨hset, bears_list (List.mem_append_left _ (.head _))⟩, hp, hup⟩
  clear F N LD m1 m3 m4 m5 m6 lt hcell hB c1
  intro s' hG1
  refine hideGoal fun XX kX => ?_
  obtain ⟨h, tk, m, o', ps, nl, tl, rfl, F, N, LD, ⟨m1, ⟨t1, m3⟩, ⟨t2, m4⟩, m5, m6⟩, lt, hcell, ⟨c1, hB⟩, B2, p2, ⟨c2, hB2⟩, hp2, hup2⟩ := hG1
  refine kX ?_
  clear kX XX
  repeat walk1
  refine Stop.go ?_
  -- one
  refine execCut (LA s₁ (ghostOf s₁.heap [(130, 128)]) s₁.heap.objs.size D U V rs n times x (fun _ o' ps tl => CellsOk o' ∧ SC o' tl 1 B (pick rs p1) ∧
    SC o' tl 2 B2 (pick rs p2) ∧
    ∃ R1 vs1, SC o' tl 3 R1 vs1 ∧ IntsAre vs1 ((List.range n).map fun i => (rankN sel1 x n i : Int)))) ?_ ?_
  · repeat walk1
    refine Stop.go ?_
    refine wpAny_mono (ranks_spec (E := Never) (X.keeps F.keep) (T.keeps F.keep) (room _ (by decide)) (roomU _ (by decide)) rfl (lt.rowsAt LD N hrs) (by assumption) (lt.up.at (LD.to N)) sel1_ok) ?_ fun _ _ e => e.elim
    intro v s' hG1
    refine hideGoal fun XX kX => ?_
    obtain ⟨⟨R1, vs1, rfl, hR1, hl1, hi1⟩, ⟨h', tk', rfl, hk⟩⟩ := hG1
    refine kX ?_
    clear kX XX
    obtain ⟨nl3, tl3, F3, N3, LD3, hmore, hbl⟩ := Led.fresh F N LD hk hR1 hl1
    clear F N LD
    repeat walk1
    obtain ⟨v1, hv1⟩ := hcell 3 (by decide) (by decide)
    refine stLaw (k := 3) (by decide) (by decide) F3 (LD3.to N3) LD3.off l0 rfl hv1 ?_
    intro h4 o2 F4 N5 hoth hset
    obtain ⟨nl4, N6, LD4⟩ := Led.hide N5 LD3.off
    clear F3 LD3 N5
    repeat walk1
    exact End.mk ⟨trivial, _, _, _, _, _, _, _, rfl, F4, N6, LD4, ⟨m1, ⟨_, m3⟩, ⟨_, m4⟩, m5, m6⟩, lt.more hmore, CellsOk.set hcell hoth hset, ⟨(hoth 1 (by decide)).symm ▸ c1, hB.more hmore⟩, ⟨(hoth 2 (by decide)).symm ▸ c2, hB2.more hmore⟩, R1, vs1, ⟨hset, hbl⟩, hi1⟩
  clear F N LD m1 m3 m4 m5 m6 lt hcell hB c1 c2 hB2
  intro s' hG1
  refine hideGoal fun XX kX => ?_
  obtain ⟨h, tk, m, o', ps, nl, tl, rfl, F, N, LD, ⟨m1, ⟨t1, m3⟩, ⟨t2, m4⟩, m5, m6⟩, lt, hcell, ⟨c1, hB⟩, ⟨c2, hB2⟩, R1, vs1, ⟨c3, hR1⟩, hi1⟩ := hG1
  refine kX ?_
  clear kX XX
  repeat walk1
  refine Stop.go ?_
  -- two
  refine execCut (LA s₁ (ghostOf s₁.heap [(130, 128)]) s₁.heap.objs.size D U V rs n times x (fun _ o' ps tl => CellsOk o' ∧ SC o' tl 1 B (pick rs p1) ∧
    SC o' tl 2 B2 (pick rs p2) ∧
    SC o' tl 3 R1 vs1 ∧
    ∃ R2 vs2, SC o' tl 4 R2 vs2 ∧ IntsAre vs2 ((List.range n).map fun i => (rankN sel2 x n i : Int)))) ?_ ?_
  · repeat walk1
    refine Stop.go ?_
    refine wpAny_mono (ranks_spec (E := Never) (X.keeps F.keep) (T.keeps F.keep) (room _ (by decide)) (roomU _ (by decide)) rfl (lt.rowsAt LD N hrs) (by assumption) (lt.down.at (LD.to N)) sel2_ok) ?_ fun _ _ e => e.elim
    intro v s' hG1
    refine hideGoal fun XX kX => ?_
    obtain ⟨⟨R2, vs2, rfl, hR2, hl2, hi2⟩, ⟨h', tk', rfl, hk⟩⟩ := hG1
    refine kX ?_
    clear kX XX
    obtain ⟨nl3, tl3, F3, N3, LD3, hmore, hbl⟩ := Led.fresh F N LD hk hR2 hl2
    clear F N LD
    repeat walk1
    obtain ⟨v1, hv1⟩ := hcell 4 (by decide) (by decide)
    refine stLaw (k := 4) (by decide) (by decide) F3 (LD3.to N3) LD3.off l0 rfl hv1 ?_
    intro h4 o2 F4 N5 hoth hset
    obtain ⟨nl4, N6, LD4⟩ := Led.hide N5 LD3.off
    clear F3 LD3 N5
    repeat walk1
    exact End.mk ⟨trivial, _, _, _, _, _, _, _, rfl, F4, N6, LD4, ⟨m1, ⟨_, m3⟩, ⟨_, m4⟩, m5, m6⟩, lt.more hmore, CellsOk.set hcell hoth hset, ⟨(hoth 1 (by decide)).symm ▸ c1, hB.more hmore⟩, ⟨(hoth 2 (by decide)).symm ▸ c2, hB2.more hmore⟩, ⟨(hoth 3 (by decide)).symm ▸ c3, hR1.more hmore⟩, R2, vs2, ⟨hset, hbl⟩, hi2⟩
  clear F N LD m1 m3 m4 m5 m6 lt hcell hB c1 c2 hB2 c3 hR1
  intro s' hG1
  refine hideGoal fun XX kX => ?_
  obtain ⟨h, tk, m, o', ps, nl, tl, rfl, F, N, LD, ⟨m1, ⟨t1, m3⟩, ⟨t2, m4⟩, m5, m6⟩, lt, hcell, ⟨c1, hB⟩, ⟨c2, hB2⟩, ⟨c3, hR1⟩, R2, vs2, ⟨c4, hR2⟩, hi2⟩ := hG1
  refine kX ?_
  clear kX XX
  repeat walk1
  refine Stop.go ?_
  -- the two orders
  have rinj : ∀ (i j : Nat) r, rs[i]? = some r → rs[j]? = some r → i = j := fun i j r hi hj => by
    have a := row_same ((lt.rows i r hi).at (LD.to N)) ((lt.rows j r hj).at (LD.to N))
    have b1 := (List.getElem?_eq_some_iff.mp hi).1
    have b2 := (List.getElem?_eq_some_iff.mp hj).1
    rw [hx i (hrs ▸ b1), hx j (hrs ▸ b2)] at a
    omega
  refine execCut (LA s₁ (ghostOf s₁.heap [(130, 128)]) s₁.heap.objs.size D U V rs n times x (fun _ o' ps tl => CellsOk o' ∧ SC o' tl 3 R1 vs1 ∧
    SC o' tl 4 R2 vs2)) ?_ ?_
  · repeat walk1
    refine Stop.go ?_
    refine listComp (fun v y => ∃ i, (rs.map Value.ref)[i]? = some v ∧ ∃ t, y = .int (rankN sel1 x n i) t) rfl (by decide) rfl (by decide) rfl ?_
    repeat walk1
    refine compList (vs := rs.map Value.ref) (lt.list.at (LD.to N)) (by assumption) rfl F N (fun i y => ∃ t, y = .int (rankN sel1 x n i) t) _ ?_ (fun i v y hv g => ⟨i, hv, g⟩) ?_ ?_
    · rintro i v y hv ⟨j, hj, g⟩
      rw [List.getElem?_map] at hv hj
      obtain ⟨r, hr, rfl⟩ := Option.map_eq_some_iff.mp hv
      obtain ⟨q, hq, e⟩ := Option.map_eq_some_iff.mp hj
      cases e
      rw [rinj i j r hr hq]
      exact g
    · intro i v C s₃ m₃ E' hv F3 N3 hns hm₃
      rw [List.getElem?_map] at hv
      obtain ⟨r, hr, rfl⟩ := Option.map_eq_some_iff.mp hv
      have cc1 : s₃.heap.IsCell (s₁.heap.objs.size + 1) (some (.ref B)) := ⟨o' 1, (LD.to N3 _ (led_cell (by decide) (by decide))).1, c1⟩
      have hB3 := hB.at (LD.to N3)
      have hin : i < n := hrs ▸ (List.getElem?_eq_some_iff.mp hr).1
      repeat walk1
      refine Stop.go ?_
      refine index_row (k := rankN sel1 x n i) hB3 (fun i r e => (lt.rows i r e).at (LD.to N3)) hx hrs hp1 hr ((pn1 hx).lt i hin) (by assumption) (index_at (pn1 hx) hp1 hup1 hin) roomI ⟨⟨_, rfl⟩, ⟨_, _, rfl, fun b o e => e⟩⟩
    · intro D3 h3 tk3 ys nn F3 N3 hne3 hD3 hys hG hkeep
      have hi3 : IntsAre ys.toList ((List.range n).map fun i => (rankN sel1 x n i : Int)) := by
        have := ints_of_get ys.toList (fun i => (rankN sel1 x n i : Int)) fun i v hv => hG i v (by simpa using hv)
        rw [Array.length_toList, hys, List.length_map, hrs] at this
        exact this
      repeat walk1
      refine Stop.go ?_
      refine ne_list (plain_list (hR1.at (LD.to (cb_drop N3 fun p hp => .tail _ hp)))) (PySem.IsL.isList (n := nn) (N3 _ (.head _)).1) hi1 hi3 (roomU _ (by decide)) ?_
      clear F N
      repeat walk1
      refine Stop.go ?_
      refine listComp (fun v y => ∃ i, (rs.map Value.ref)[i]? = some v ∧ ∃ t, y = .int (rankN sel2 x n i) t) rfl (by decide) rfl (by decide) rfl ?_
      repeat walk1
      refine compList (vs := rs.map Value.ref) (lt.list.at (LD.to (cb_drop N3 fun p hp => .tail _ hp))) (by assumption) rfl F3 N3 (fun i y => ∃ t, y = .int (rankN sel2 x n i) t) _ ?_ (fun i v y hv g => ⟨i, hv, g⟩) ?_ ?_
      · rintro i v y hv ⟨j, hj, g⟩
        rw [List.getElem?_map] at hv hj
        obtain ⟨r, hr, rfl⟩ := Option.map_eq_some_iff.mp hv
        obtain ⟨q, hq, e⟩ := Option.map_eq_some_iff.mp hj
        cases e
        rw [rinj i j r hr hq]
        exact g
      · intro i v C s₃ m₃ E' hv F4 N4' hns hm₃
        have N4 := cb_drop (news := nl) N4' fun p hp => .tail _ hp
        clear F3 N3 N4'
        rw [List.getElem?_map] at hv
        obtain ⟨r, hr, rfl⟩ := Option.map_eq_some_iff.mp hv
        have cc1 : s₃.heap.IsCell (s₁.heap.objs.size + 1 + 1) (some (.ref B2)) := ⟨o' 2, (LD.to N4 _ (led_cell (by decide) (by decide))).1, c2⟩
        have hB3 := hB2.at (LD.to N4)
        have hin : i < n := hrs ▸ (List.getElem?_eq_some_iff.mp hr).1
        repeat walk1
        refine Stop.go ?_
        refine index_row (k := rankN sel2 x n i) hB3 (fun i r e => (lt.rows i r e).at (LD.to N4)) hx hrs hp2 hr ((pn2 hx).lt i hin) (by assumption) (index_at (pn2 hx) hp2 hup2 hin) roomI ⟨⟨_, rfl⟩, ⟨_, _, rfl, fun b o e => e⟩⟩
      · intro D4 h4 tk4 ys2 nn2 F4 N4 hne4 hD4 hys4 hG4 hkeep4
        clear F3 N3
        have hi4 : IntsAre ys2.toList ((List.range n).map fun i => (rankN sel2 x n i : Int)) := by
          have := ints_of_get ys2.toList (fun i => (rankN sel2 x n i : Int)) fun i v hv => hG4 i v (by simpa using hv)
          rw [Array.length_toList, hys4, List.length_map, hrs] at this
          exact this
        repeat walk1
        refine Stop.go ?_
        refine ne_list (plain_list (hR2.at (LD.to (cb_drop N4 fun p hp => .tail _ (.tail _ hp))))) (PySem.IsL.isList (n := nn2) (N4 _ (.head _)).1) hi2 hi4 (roomU _ (by decide)) ?_
        have N5 := cb_drop (news := nl) N4 fun p hp => .tail _ (.tail _ hp)
        clear N4
        repeat walk1
        exact End.mk ⟨rfl, _, _, _, _, _, _, _, rfl, F4, N5, LD, ⟨m1, ⟨_, m3⟩, ⟨_, m4⟩, m5, m6⟩, lt, hcell, ⟨c3, hR1⟩, ⟨c4, hR2⟩⟩
  clear F N LD m1 m3 m4 m5 m6 lt hcell hB c1 c2 hB2 c3 hR1 c4 hR2
  intro s' hG1
  refine hideGoal fun XX kX => ?_
  obtain ⟨h, tk, m, o', ps, nl, tl, rfl, F, N, LD, ⟨m1, ⟨t1, m3⟩, ⟨t2, m4⟩, m5, m6⟩, lt, hcell, ⟨c3, hR1⟩, ⟨c4, hR2⟩⟩ := hG1
  refine kX ?_
  clear kX XX
  repeat walk1
  refine Stop.go ?_
  -- small
  refine execCut (LA s₁ (ghostOf s₁.heap [(130, 128)]) s₁.heap.objs.size D U V rs n times x (fun _ o' ps tl => CellsOk o' ∧ SC o' tl 3 R1 vs1 ∧ SC o' tl 4 R2 vs2 ∧ ∃ S1 us1, SS o' tl 5 S1 us1 ∧ us1.map (·.1) = (List.range n).map fun k => Dt (bump times (rankN sel1 x n k)) (low.cps.getD k 0))) ?_ ?_
  · repeat walk1
    refine Stop.go ?_
    refine wpAny_mono (sent_spec (E := Never) (sg := low) (X.keeps F.keep) (T.keeps F.keep) (room _ (by decide)) (roomU _ (by decide)) rfl (plain_list (hR1.at (LD.to N))) hi1 (by assumption) hn7 (fun i hi => Nat.le_trans (Nat.le_of_lt ((pn1 hx).lt i hi)) hn7) (by rw [low_len]; exact hn7) (by rw [low_len]; decide) (low_ok hn7) (by decide +kernel) (by assumption) (by assumption)) ?_ fun _ _ e => e.elim
    intro v s' hG1
    refine hideGoal fun XX kX => ?_
    obtain ⟨⟨S1, us1, rfl, hS, hl, he⟩, ⟨h', tk', rfl, hk⟩⟩ := hG1
    refine kX ?_
    clear kX XX
    obtain ⟨nl3, tl3, F3, N3, LD3, hmore, hbl⟩ := Led.freshL F N LD hk hS hl
    clear F N LD
    repeat walk1
    obtain ⟨v1, hv1⟩ := hcell 5 (by decide) (by decide)
    refine stLaw (k := 5) (by decide) (by decide) F3 (LD3.to N3) LD3.off l0 rfl hv1 ?_
    intro h4 o2 F4 N5 hoth hset
    obtain ⟨nl4, N6, LD4⟩ := Led.hide N5 LD3.off
    clear F3 LD3 N5
    repeat walk1
    exact End.mk ⟨trivial, _, _, _, _, _, _, _, rfl, F4, N6, LD4, ⟨m1, ⟨_, m3⟩, ⟨_, m4⟩, m5, m6⟩, lt.more hmore, CellsOk.set hcell hoth hset, ⟨(hoth 3 (by decide)).symm ▸ c3, hR1.more hmore⟩, ⟨(hoth 4 (by decide)).symm ▸ c4, hR2.more hmore⟩, S1, us1, ⟨hset, hbl⟩, he⟩
  clear F N LD m1 m3 m4 m5 m6 lt hcell c3 hR1 c4 hR2
  intro s' hG1
  refine hideGoal fun XX kX => ?_
  obtain ⟨h, tk, m, o', ps, nl, tl, rfl, F, N, LD, ⟨m1, ⟨t1, m3⟩, ⟨t2, m4⟩, m5, m6⟩, lt, hcell, ⟨c3, hR1⟩, ⟨c4, hR2⟩, S1, us1, ⟨c5, hS1⟩, he1⟩ := hG1
  refine kX ?_
  clear kX XX
  repeat walk1
  refine Stop.go ?_
  -- great
  refine execCut (LA s₁ (ghostOf s₁.heap [(130, 128)]) s₁.heap.objs.size D U V rs n times x (fun _ o' ps tl => CellsOk o' ∧ SC o' tl 3 R1 vs1 ∧ SC o' tl 4 R2 vs2 ∧ SS o' tl 5 S1 us1 ∧ ∃ S2 us2, SS o' tl 6 S2 us2 ∧ us2.map (·.1) = (List.range n).map fun k => Dt (bump times (rankN sel2 x n k)) (upp.cps.getD k 0))) ?_ ?_
  · repeat walk1
    refine Stop.go ?_
    refine wpAny_mono (sent_spec (E := Never) (sg := upp) (X.keeps F.keep) (T.keeps F.keep) (room _ (by decide)) (roomU _ (by decide)) rfl (plain_list (hR2.at (LD.to N))) hi2 (by assumption) hn7 (fun i hi => Nat.le_trans (Nat.le_of_lt ((pn2 hx).lt i hi)) hn7) (by rw [upp_len]; exact hn7) (by rw [upp_len]; decide) (upp_ok hn7) (by decide +kernel) (by assumption) (by assumption)) ?_ fun _ _ e => e.elim
    intro v s' hG1
    refine hideGoal fun XX kX => ?_
    obtain ⟨⟨S2, us2, rfl, hS, hl, he⟩, ⟨h', tk', rfl, hk⟩⟩ := hG1
    refine kX ?_
    clear kX XX
    obtain ⟨nl3, tl3, F3, N3, LD3, hmore, hbl⟩ := Led.freshL F N LD hk hS hl
    clear F N LD
    repeat walk1
    obtain ⟨v1, hv1⟩ := hcell 6 (by decide) (by decide)
    refine stLaw (k := 6) (by decide) (by decide) F3 (LD3.to N3) LD3.off l0 rfl hv1 ?_
    intro h4 o2 F4 N5 hoth hset
    obtain ⟨nl4, N6, LD4⟩ := Led.hide N5 LD3.off
    clear F3 LD3 N5
    repeat walk1
    exact End.mk ⟨trivial, _, _, _, _, _, _, _, rfl, F4, N6, LD4, ⟨m1, ⟨_, m3⟩, ⟨_, m4⟩, m5, m6⟩, lt.more hmore, CellsOk.set hcell hoth hset, ⟨(hoth 3 (by decide)).symm ▸ c3, hR1.more hmore⟩, ⟨(hoth 4 (by decide)).symm ▸ c4, hR2.more hmore⟩, ⟨(hoth 5 (by decide)).symm ▸ c5, hS1.more hmore⟩, S2, us2, ⟨hset, hbl⟩, he⟩
  clear F N LD m1 m3 m4 m5 m6 lt hcell c3 hR1 c4 hR2 c5 hS1
  intro s' hG1
  refine hideGoal fun XX kX => ?_
  obtain ⟨h, tk, m, o', ps, nl, tl, rfl, F, N, LD, ⟨m1, ⟨t1, m3⟩, ⟨t2, m4⟩, m5, m6⟩, lt, hcell, ⟨c3, hR1⟩, ⟨c4, hR2⟩, ⟨c5, hS1⟩, S2, us2, ⟨c6, hS2⟩, he2⟩ := hG1
  refine kX ?_
  clear kX XX
  have hul1 : (strValues us1).length = n := by
    have := congrArg List.length he1
    simpa [strValues] using this
  have hul2 : (strValues us2).length = n := by
    have := congrArg List.length he2
    simpa [strValues] using this
  repeat walk1
  refine Stop.go ?_
  -- the lengths
  refine execCut (LA s₁ (ghostOf s₁.heap [(130, 128)]) s₁.heap.objs.size D U V rs n times x (fun _ o' ps tl => CellsOk o' ∧ SC o' tl 3 R1 vs1 ∧ SC o' tl 4 R2 vs2 ∧ SS o' tl 5 S1 us1 ∧ SS o' tl 6 S2 us2)) ?_ ?_
  · repeat' walk1
    · exact absurd rfl (by assumption)
    · exact absurd rfl (by assumption)
    · exact End.mk ⟨rfl, _, _, _, _, _, _, _, rfl, F, N, LD, ⟨m1, ⟨_, m3⟩, ⟨_, m4⟩, m5, m6⟩, lt, hcell, ⟨c3, hR1⟩, ⟨c4, hR2⟩, ⟨c5, hS1⟩, ⟨c6, hS2⟩⟩
  clear F N LD m1 m3 m4 m5 m6 lt hcell c3 hR1 c4 hR2 c5 hS1 c6 hS2
  intro s' hG1
  refine hideGoal fun XX kX => ?_
  obtain ⟨h, tk, m, o', ps, nl, tl, rfl, F, N, LD, ⟨m1, ⟨t1, m3⟩, ⟨t2, m4⟩, m5, m6⟩, lt, hcell, ⟨c3, hR1⟩, ⟨c4, hR2⟩, ⟨c5, hS1⟩, ⟨c6, hS2⟩⟩ := hG1
  refine kX ?_
  clear kX XX
  repeat walk1
  refine Stop.go ?_
  -- due, empty
  refine execCut (fun s' => ∃ (D7 : Addr) (c : Nat) (h : Heap) (tk : Nat) (m : Str → Option Value) (o' : Nat → Obj) (ps : Array Value) (nl tl : List (Addr × Obj)), s' = { s₁ with heap := h, toks := tk } ∧ Fr (ghostOf s₁.heap [(130, 128)]) s₁.heap.objs.size h m ∧ News (ghostOf s₁.heap [(130, 128)]) s₁.heap.objs.size h ((D7, listOf #[] c) :: nl) ∧ Led nl s₁.heap.objs.size o' ps tl ∧ (∀ p ∈ nl, p.1 ≠ D7) ∧ LM m D U V n times ∧ LT tl D U V rs x ∧ CellsOk o' ∧ SC o' tl 3 R1 vs1 ∧ SC o' tl 4 R2 vs2 ∧ SS o' tl 5 S1 us1 ∧ SS o' tl 6 S2 us2 ∧ (o' 7).data = .cell (some (.ref D7))) ?_ ?_
  · repeat walk1
    rename Fr _ _ _ _ => F9
    rename News _ _ _ _ => N9
    rename Addr => D7
    rename (∀ p ∈ nl, p.1 < D7) => hlt
    obtain ⟨nl3, N4, LD3⟩ := Led.more (nw := [(D7, listOf #[] 0)]) N9 LD (fun q hq => by rw [List.mem_singleton.mp hq]; exact fun p hp => Nat.ne_of_lt (hlt p hp))
    obtain ⟨v1, hv1⟩ := hcell 7 (by decide) (by decide)
    refine stLaw (k := 7) (by decide) (by decide) F9 (LD3.to N4) LD3.off l0 rfl hv1 ?_
    intro h4 o2 F4 N5 hoth hset
    obtain ⟨nl5, N6, LD5, hap⟩ := Led.apart N5 LD3.off fun p hp => Nat.ne_of_lt (hlt p (LD.sup p (led_tl hp)))
    clear LD N9 N4 LD3 N5 F9
    repeat walk1
    exact End.mk ⟨trivial, D7, 0, _, _, _, _, _, nl5, tl, rfl, F4, N6, LD5, hap, ⟨m1, ⟨_, m3⟩, ⟨_, m4⟩, m5, m6⟩, lt, CellsOk.set hcell hoth hset, ⟨(hoth 3 (by decide)).symm ▸ c3, hR1⟩, ⟨(hoth 4 (by decide)).symm ▸ c4, hR2⟩, ⟨(hoth 5 (by decide)).symm ▸ c5, hS1⟩, ⟨(hoth 6 (by decide)).symm ▸ c6, hS2⟩, hset⟩
  clear F N LD m1 m3 m4 m5 m6 lt hcell c3 hR1 c4 hR2 c5 hS1 c6 hS2
  intro s' hG1
  refine hideGoal fun XX kX => ?_
  obtain ⟨D7, c7, h, tk, m, o', ps, nl, tl, rfl, F, N, LD, hap, ⟨m1, ⟨t1, m3⟩, ⟨t2, m4⟩, m5, m6⟩, lt, hcell, ⟨c3, hR1⟩, ⟨c4, hR2⟩, ⟨c5, hS1⟩, ⟨c6, hS2⟩, c7c⟩ := hG1
  refine kX ?_
  clear kX XX
  repeat walk1
  refine Stop.go ?_
  -- due
  refine execCut (LA s₁ (ghostOf s₁.heap [(130, 128)]) s₁.heap.objs.size D U V rs n times x (fun _ o' ps tl => CellsOk o' ∧ SC o' tl 3 R1 vs1 ∧ SC o' tl 4 R2 vs2 ∧ SS o' tl 5 S1 us1 ∧ SS o' tl 6 S2 us2 ∧ ∃ vs7, SC o' tl 7 D7 vs7 ∧ IntsAre vs7 ((List.range n).map fun k => dueI times (rankN sel1 x n k) (rankN sel2 x n k)))) ?_ ?_
  · refine forW ?_
    repeat walk1
    rename IsRange _ _ _ _ _ _ _ _ => hrg
    rename Fr _ _ _ _ => F2
    rename News _ _ _ _ => N2
    refine iterRange hrg (by assumption) rfl F2 N2 (fun i m' news' => LM m' D U V n times ∧ ∃ us cc, news' = (D7, listOf (List.toArray us) cc) :: nl ∧ IntsAre us ((List.range i).map fun k => dueI times (rankN sel1 x n k) (rankN sel2 x n k))) ⟨⟨m1, ⟨_, m3⟩, ⟨_, m4⟩, m5, m6⟩, [], c7, rfl, .nil⟩ ?_ ?_
    · clear m1 m3 m4 m5 m6
      intro i tt m₁ news₁ h1 tk1 I oI hin hG1 ho hIs F1 N1
      refine hideGoal fun XX kX => ?_
      obtain ⟨⟨m1, ⟨t1, m3⟩, ⟨t2, m4⟩, m5, m6⟩, us, cc, rfl, hus⟩ := hG1
      refine kX ?_
      clear kX XX
      clear hrg F2 N2
      have hr1 : rankN sel1 x n i < n := (pn1 hx).lt i hin
      have hr2 : rankN sel2 x n i < n := (pn2 hx).lt i hin
      repeat' walk1
      all_goals (
        rename Fr _ _ _ _ => F9
        rename News _ _ _ _ => N9
        refine due_append F9 N9 (ho _ (.head _)) hap (by rw [hus.length, List.length_map, List.length_range]; exact Nat.lt_trans hin le64) (z := dueI times (rankN sel1 x n i) (rankN sel2 x n i)) (due_val (by first | exact .inl ⟨by assumption, rfl⟩ | exact .inr ⟨by assumption, rfl⟩) (by first | exact .inl ⟨by assumption, rfl⟩ | exact .inr ⟨by assumption, rfl⟩)) ?_
        clear F9 N9
        intro h9 F9 N9
        repeat walk1
        refine End.mk (TurnEnd.mk F9 N9 ?_ ⟨⟨m1, ⟨_, m3⟩, ⟨_, m4⟩, m5, m6⟩, _, _, rfl, due_snoc (g := fun k => dueI times (rankN sel1 x n k) (rankN sel2 x n k)) hus _⟩)
        intro p hp
        rcases List.mem_cons.mp hp with rfl | hp
        · exact (show D7 ≠ I from ho (D7, listOf us.toArray cc) (.head _))
        · exact ho _ (.tail _ hp))
    · clear m1 m3 m4 m5 m6
      intro m' news' h2 tk2 hG1 F' N'
      refine hideGoal fun XX kX => ?_
      obtain ⟨⟨m1, ⟨t1, m3⟩, ⟨t2, m4⟩, m5, m6⟩, us, cc, rfl, hus⟩ := hG1
      refine kX ?_
      clear kX XX
      clear F2 N2 hrg
      obtain ⟨nl3, N4, LD3⟩ := Led.more (nw := [(D7, listOf us.toArray cc)]) N' LD (fun q hq => by rw [List.mem_singleton.mp hq]; exact hap)
      clear N'
      repeat walk1
      exact End.mk ⟨rfl, _, _, _, _, _, nl3, _, rfl, F', N4, LD3, ⟨m1, ⟨_, m3⟩, ⟨_, m4⟩, m5, m6⟩, lt.more fun p hp => .tail _ hp, hcell, ⟨c3, hR1.more fun p hp => .tail _ hp⟩, ⟨c4, hR2.more fun p hp => .tail _ hp⟩, ⟨c5, hS1.more fun p hp => .tail _ hp⟩, ⟨c6, hS2.more fun p hp => .tail _ hp⟩, us, ⟨c7c, bears_list (.head _)⟩, hus⟩
  clear F N LD m1 m3 m4 m5 m6 lt hcell c3 hR1 c4 hR2 c5 hS1 c6 hS2 c7c hap
  intro s' hG1
  refine hideGoal fun XX kX => ?_
  obtain ⟨h, tk, m, o', ps, nl, tl, rfl, F, N, LD, ⟨m1, ⟨t1, m3⟩, ⟨t2, m4⟩, m5, m6⟩, lt, hcell, ⟨c3, hR1⟩, ⟨c4, hR2⟩, ⟨c5, hS1⟩, ⟨c6, hS2⟩, vs7, ⟨c7c, hD7⟩, hi7⟩ := hG1
  refine kX ?_
  clear kX XX
  repeat walk1
  refine Stop.go ?_
  -- told
  refine execCut (LA s₁ (ghostOf s₁.heap [(130, 128)]) s₁.heap.objs.size D U V rs n times x (fun m o' ps tl => CellsOk o' ∧ SC o' tl 3 R1 vs1 ∧ SC o' tl 4 R2 vs2 ∧ SC o' tl 7 D7 vs7 ∧ ∃ D8 vs8, m "told" = some (.ref D8) ∧ (Bears tl fun h => h.PlainList D8 (List.toArray vs8)) ∧ IntsAre vs8 ((List.range n).map fun k => dueI times (rankN sel1 x n k) (rankN sel2 x n k)))) ?_ ?_
  · refine listAssign (fun v y => ∃ (i : Nat) (a : Tok), v = .int i a ∧ ∃ t, y = .int (dueI times (rankN sel1 x n i) (rankN sel2 x n i)) t) rfl rfl (by decide) rfl (by decide) rfl rfl rfl ?_
    repeat walk1
    rename IsRange _ _ _ _ _ _ _ _ => hrg
    rename Fr _ _ _ _ => F2
    rename News _ _ _ _ => N2
    refine asgRange rfl hrg (by assumption) rfl F2 N2 (fun i y => ∃ t, y = .int (dueI times (rankN sel1 x n i) (rankN sel2 x n i)) t) ?_ ?_
    · intro i tt C s₃ m₃ E' hi F3 N3 hns hm₃
      clear F2 N2 hrg
      have cc5 : s₃.heap.IsCell (s₁.heap.objs.size + 1 + 1 + 1 + 1 + 1) (some (.ref S1)) := ⟨o' 5, (LD.to N3 _ (led_cell (by decide) (by decide))).1, c5⟩
      have cc6 : s₃.heap.IsCell (s₁.heap.objs.size + 1 + 1 + 1 + 1 + 1 + 1) (some (.ref S2)) := ⟨o' 6, (LD.to N3 _ (led_cell (by decide) (by decide))).1, c6⟩
      have cc7 : s₃.heap.IsCell (s₁.heap.objs.size + 1 + 1 + 1 + 1 + 1 + 1 + 1) (some (.ref D7)) := ⟨o' 7, (LD.to N3 _ (led_cell (by decide) (by decide))).1, c7c⟩
      have l1 := hS1.at (LD.to N3)
      have l2 := hS2.at (LD.to N3)
      have l7 := hD7.at (LD.to N3)
      repeat walk1
      refine Stop.go ?_
      have r1 := (pn1 hx).lt i hi
      have r2 := (pn2 hx).lt i hi
      exact lev_use (X.keeps F3.keep) (T.keeps F3.keep) (room _ (by decide)) (roomU _ (by decide)) rfl (Nat.lt_of_lt_of_le hi hn7) (Nat.lt_of_lt_of_le r1 hn7) (Nat.lt_of_lt_of_le r2 hn7) tm2 fun tt s' hk => ⟨⟨tt, rfl⟩, hk⟩
    · intro D8 h3 tk3 ys nn F3 N3 hne3 hys hG
      clear F2 N2 hrg
      have hi8 := ints_of_get ys.toList (fun i => dueI times (rankN sel1 x n i) (rankN sel2 x n i)) fun i v hv => hG i v (by simpa using hv)
      rw [Array.length_toList, hys] at hi8
      have hys2 : ys = ys.toList.toArray := by simp
      rw [hys2] at N3
      obtain ⟨nl3, N4, LD3⟩ := Led.more (nw := [(D8, listOf ys.toList.toArray nn)]) N3 LD (fun q hq => by rw [List.mem_singleton.mp hq]; exact hne3)
      clear N3
      repeat walk1
      exact End.mk ⟨rfl, _, _, _, _, _, nl3, _, rfl, F3, N4, LD3, ⟨m1, ⟨_, m3⟩, ⟨_, m4⟩, m5, m6⟩, lt.more fun p hp => .tail _ hp, hcell, ⟨c3, hR1.more fun p hp => .tail _ hp⟩, ⟨c4, hR2.more fun p hp => .tail _ hp⟩, ⟨c7c, hD7.more fun p hp => .tail _ hp⟩, D8, _, rfl, bears_list (.head _), hi8⟩
  clear F N LD m1 m3 m4 m5 m6 lt hcell c3 hR1 c4 hR2 c5 hS1 c6 hS2 c7c hD7
  intro s' hG1
  refine hideGoal fun XX kX => ?_
  obtain ⟨h, tk, m, o', ps, nl, tl, rfl, F, N, LD, ⟨m1, ⟨t1, m3⟩, ⟨t2, m4⟩, m5, m6⟩, lt, hcell, ⟨c3, hR1⟩, ⟨c4, hR2⟩, ⟨c7c, hD7⟩, D8, vs8, m7, hD8, hi8⟩ := hG1
  refine kX ?_
  clear kX XX
  repeat walk1
  refine Stop.go ?_
  -- told as due
  refine execCut (LA s₁ (ghostOf s₁.heap [(130, 128)]) s₁.heap.objs.size D U V rs n times x (fun m o' ps tl => CellsOk o' ∧ SC o' tl 3 R1 vs1 ∧ SC o' tl 4 R2 vs2 ∧ m "told" = some (.ref D8) ∧ (Bears tl fun h => h.PlainList D8 (List.toArray vs8)))) ?_ ?_
  · repeat walk1
    refine Stop.go ?_
    refine ne_list (plain_list (hD8.at (LD.to N))) (plain_list (hD7.at (LD.to N))) hi8 hi7 (roomU _ (by decide)) ?_
    repeat walk1
    exact End.mk ⟨rfl, _, _, _, _, _, _, _, rfl, F, N, LD, ⟨m1, ⟨_, m3⟩, ⟨_, m4⟩, m5, m6⟩, lt, hcell, ⟨c3, hR1⟩, ⟨c4, hR2⟩, m7, hD8⟩
  clear F N LD m1 m3 m4 m5 m6 lt hcell c3 hR1 c4 hR2 c7c hD7 m7 hD8
  intro s' hG1
  refine hideGoal fun XX kX => ?_
  obtain ⟨h, tk, m, o', ps, nl, tl, rfl, F, N, LD, ⟨m1, ⟨t1, m3⟩, ⟨t2, m4⟩, m5, m6⟩, lt, hcell, ⟨c3, hR1⟩, ⟨c4, hR2⟩, m7, hD8⟩ := hG1
  refine kX ?_
  clear kX XX
  repeat walk1
  refine Stop.go ?_
  -- apart
  obtain ⟨z1, hz1, ez1⟩ := (pn1 hx).onto 0 (by assumption)
  obtain ⟨z2, hz2, ez2⟩ := (pn2 hx).onto 0 (by assumption)
  refine execCut (LA s₁ (ghostOf s₁.heap [(130, 128)]) s₁.heap.objs.size D U V rs n times x (fun m o' ps tl => CellsOk o' ∧ SC o' tl 3 R1 vs1 ∧ SC o' tl 4 R2 vs2 ∧ ∃ ta, m "apart" = some (.int (sumN (fun k => ((rankN sel2 x n k : Int) - rankN sel1 x n k).natAbs) n : Nat) ta))) ?_ ?_
  · repeat walk1
    refine Stop.go ?_
    refine sum_bag rfl F N (plain_list (hD8.at (LD.to N))) hi8 (sum_due _ _) ?_
    clear F N
    intro h3 tk3 t3 F N
    have l1 := hR1.at (LD.to N)
    have l2 := hR2.at (LD.to N)
    repeat walk1
    refine Stop.go ?_
    refine index_int (v := 0) l1 hi1 (pn1 hx) hz1 ez1 (by assumption) ?_
    repeat walk1
    refine Stop.go ?_
    refine index_int (v := 0) l2 hi2 (pn2 hx) hz2 ez2 (by assumption) ?_
    repeat' walk1
    all_goals (
      rename Fr _ _ _ _ => F9
      rename News _ _ _ _ => N9
      exact End.mk ⟨trivial, _, _, _, _, _, _, _, rfl, F9, N9, LD, ⟨m1, ⟨_, m3⟩, ⟨_, m4⟩, m5, m6⟩, lt, hcell, ⟨c3, hR1⟩, ⟨c4, hR2⟩, int_opt (apart_val (pn1 hx) (pn2 hx) hz1 hz2 ez1 ez2 (by first | exact .inl ⟨by assumption, rfl⟩ | exact .inr ⟨by assumption, rfl⟩))⟩)
  clear F N LD m1 m3 m4 m5 m6 lt hcell c3 hR1 c4 hR2 m7 hD8
  intro s' hG1
  refine hideGoal fun XX kX => ?_
  obtain ⟨h, tk, m, o', ps, nl, tl, rfl, F, N, LD, ⟨m1, ⟨t1, m3⟩, ⟨t2, m4⟩, m5, m6⟩, lt, hcell, ⟨c3, hR1⟩, ⟨c4, hR2⟩, ⟨ta, m7⟩⟩ := hG1
  refine kX ?_
  clear kX XX
  repeat walk1
  refine Stop.go ?_
  -- crossed
  refine execCut (LA s₁ (ghostOf s₁.heap [(130, 128)]) s₁.heap.objs.size D U V rs n times x (fun m o' ps tl => CellsOk o' ∧ SC o' tl 3 R1 vs1 ∧ SC o' tl 4 R2 vs2 ∧ (∃ ta, m "apart" = some (.int (sumN (fun k => ((rankN sel2 x n k : Int) - rankN sel1 x n k).natAbs) n : Nat) ta)) ∧ (∃ tc, m "crossed" = some (.int (crossedN sel1 sel2 x n : Nat) tc)))) ?_ ?_
  · repeat walk1
    refine Stop.go ?_
    refine wpAny_mono (crossed_spec (E := Never) (X.keeps F.keep) (T.keeps F.keep) (room _ (by decide)) (roomU _ (by decide)) rfl (lt.rowsAt LD N hrs) (by assumption) (lt.up.at (LD.to N)) sel1_ok (lt.down.at (LD.to N)) sel2_ok) ?_ fun _ _ e => e.elim
    intro v s' hG1
    refine hideGoal fun XX kX => ?_
    obtain ⟨⟨tc, rfl⟩, ⟨h', tk', rfl, hk⟩⟩ := hG1
    refine kX ?_
    clear kX XX
    have F3 := fr_keeps F hk
    have N3 := news_keeps N hk
    clear F N
    repeat walk1
    rename Fr _ _ _ _ => F9
    rename News _ _ _ _ => N9
    exact End.mk ⟨trivial, _, _, _, _, _, _, _, rfl, F9, N9, LD, ⟨m1, ⟨_, m3⟩, ⟨_, m4⟩, m5, m6⟩, lt, hcell, ⟨c3, hR1⟩, ⟨c4, hR2⟩, ⟨_, m7⟩, ⟨_, rfl⟩⟩
  clear F N LD m1 m3 m4 m5 m6 lt hcell c3 hR1 c4 hR2 m7
  intro s' hG1
  refine hideGoal fun XX kX => ?_
  obtain ⟨h, tk, m, o', ps, nl, tl, rfl, F, N, LD, ⟨m1, ⟨t1, m3⟩, ⟨t2, m4⟩, m5, m6⟩, lt, hcell, ⟨c3, hR1⟩, ⟨c4, hR2⟩, ⟨ta, m7⟩, ⟨tc, m8⟩⟩ := hG1
  refine kX ?_
  clear kX XX
  repeat walk1
  refine Stop.go ?_
  -- order
  obtain ⟨q, hq⟩ := (pn1 hx).inverse
  refine execCut (LA s₁ (ghostOf s₁.heap [(130, 128)]) s₁.heap.objs.size D U V rs n times x (fun m o' ps tl => (∃ ta, m "apart" = some (.int (sumN (fun k => ((rankN sel2 x n k : Int) - rankN sel1 x n k).natAbs) n : Nat) ta)) ∧ (∃ tc, m "crossed" = some (.int (crossedN sel1 sel2 x n : Nat) tc)) ∧ ∃ D9 vs9, m "order" = some (.ref D9) ∧ (Bears tl fun h => h.PlainList D9 (List.toArray vs9)) ∧ IntsAre vs9 ((List.range n).map fun r => ((rankN sel2 x n (q r) : Nat) : Int)))) ?_ ?_
  · refine listAssign (fun v y => ∃ (i : Nat) (a : Tok), v = .int i a ∧ ∃ t, y = .int (rankN sel2 x n (q i) : Nat) t) rfl rfl (by decide) rfl (by decide) rfl rfl rfl ?_
    repeat walk1
    rename IsRange _ _ _ _ _ _ _ _ => hrg
    rename Fr _ _ _ _ => F2
    rename News _ _ _ _ => N2
    refine asgRange rfl hrg (by assumption) rfl F2 N2 (fun i y => ∃ t, y = .int (rankN sel2 x n (q i) : Nat) t) ?_ ?_
    · intro i tt C s₃ m₃ E' hi F3 N3 hns hm₃
      clear F2 N2 hrg
      have cc3 : s₃.heap.IsCell (s₁.heap.objs.size + 1 + 1 + 1) (some (.ref R1)) := ⟨o' 3, (LD.to N3 _ (led_cell (by decide) (by decide))).1, c3⟩
      have cc4 : s₃.heap.IsCell (s₁.heap.objs.size + 1 + 1 + 1 + 1) (some (.ref R2)) := ⟨o' 4, (LD.to N3 _ (led_cell (by decide) (by decide))).1, c4⟩
      have l1 := hR1.at (LD.to N3)
      have l2 := hR2.at (LD.to N3)
      have hqi := hq i hi
      have hqn := hqi.1
      repeat walk1
      refine Stop.go ?_
      refine index_int (v := i) l1 hi1 (pn1 hx) hqi.1 hqi.2 (by assumption) ?_
      repeat walk1
      exact ⟨_, _, rfl, fun b o e => e⟩
    · intro D9 h3 tk3 ys nn F3 N3 hne3 hys hG
      clear F2 N2 hrg
      have hi9 := ints_of_get ys.toList (fun i => ((rankN sel2 x n (q i) : Nat) : Int)) fun i v hv => hG i v (by simpa using hv)
      rw [Array.length_toList, hys] at hi9
      have hys2 : ys = ys.toList.toArray := by simp
      rw [hys2] at N3
      obtain ⟨nl3, N4, LD3⟩ := Led.more (nw := [(D9, listOf ys.toList.toArray nn)]) N3 LD (fun q hq => by rw [List.mem_singleton.mp hq]; exact hne3)
      clear N3
      repeat walk1
      exact End.mk ⟨rfl, _, _, _, _, _, nl3, _, rfl, F3, N4, LD3, ⟨m1, ⟨_, m3⟩, ⟨_, m4⟩, m5, m6⟩, lt.more fun p hp => .tail _ hp, ⟨_, m7⟩, ⟨_, m8⟩, D9, _, rfl, bears_list (.head _), hi9⟩
  clear F N LD m1 m3 m4 m5 m6 lt hcell c3 hR1 c4 hR2 m7 m8
  intro s' hG1
  refine hideGoal fun XX kX => ?_
  obtain ⟨h, tk, m, o', ps, nl, tl, rfl, F, N, LD, ⟨m1, ⟨t1, m3⟩, ⟨t2, m4⟩, m5, m6⟩, lt, ⟨ta, m7⟩, ⟨tc, m8⟩, D9, vs9, m9, hD9, hi9⟩ := hG1
  refine kX ?_
  clear kX XX
  repeat walk1
  refine Stop.go ?_
  -- the bounds
  have hord := ord_of (pn1 hx) (pn2 hx) hq
  generalize hoe : (List.range n).map (fun r => ((rankN sel2 x n (q r) : Nat) : Int)) = od at hord hi9
  have hcr : crossedN sel1 sel2 x n = inv od := (crossed_is hx).trans hord.inv.symm
  have hdi : sumN (fun k => ((rankN sel2 x n k : Int) - rankN sel1 x n k).natAbs) n = disp od := hord.disp.symm
  rw [hcr] at m8
  rw [hdi] at m7
  have hodl : od.length < 64 := by rw [hord.len]; exact Nat.lt_of_le_of_lt hn7 (by decide)
  have hpm := hord.pm
  clear hcr hdi hoe
  refine execCut (LA s₁ (ghostOf s₁.heap [(130, 128)]) s₁.heap.objs.size D U V rs n times x (fun m o' ps tl => (∃ ta, m "apart" = some (.int (disp od : Nat) ta)) ∧ (∃ tc, m "crossed" = some (.int (inv od : Nat) tc)) ∧ m "order" = some (.ref D9) ∧ (Bears tl fun h => h.PlainList D9 (List.toArray vs9)))) ?_ ?_
  · repeat walk1
    refine Stop.go ?_
    refine wpAny_mono (exch_spec (E := Never) (X.keeps F.keep) (T.keeps F.keep) (room _ (by decide)) (roomU _ (by decide)) rfl (plain_list (hD9.at (LD.to N))) hi9 hodl hpm) ?_ fun _ _ e => e.elim
    intro v s' hG1
    refine hideGoal fun XX kX => ?_
    obtain ⟨⟨c, tcc, rfl, hc⟩, ⟨h', tk', rfl, hk⟩⟩ := hG1
    refine kX ?_
    clear kX XX
    have F3 := fr_keeps F hk
    have N3 := news_keeps N hk
    clear F N
    repeat' walk1
    · exact End.mk ⟨rfl, _, _, _, _, _, _, _, rfl, F3, N3, LD, ⟨m1, ⟨_, m3⟩, ⟨_, m4⟩, m5, m6⟩, lt, ⟨_, m7⟩, ⟨_, m8⟩, m9, hD9⟩
    · have := (upper od hpm).1
      exact absurd (Int.ofNat_le.mpr this) (by assumption)
  clear F N LD m1 m3 m4 m5 m6 lt m7 m8 m9 hD9
  intro s' hG1
  refine hideGoal fun XX kX => ?_
  obtain ⟨h, tk, m, o', ps, nl, tl, rfl, F, N, LD, ⟨m1, ⟨t1, m3⟩, ⟨t2, m4⟩, m5, m6⟩, lt, ⟨ta, m7⟩, ⟨tc, m8⟩, m9, hD9⟩ := hG1
  refine kX ?_
  clear kX XX
  repeat walk1
  refine Stop.go ?_
  -- the end
  refine wpAny_mono (Q := fun f s' => End (f = .ret (.bool true) ∧ LA s₁ (ghostOf s₁.heap [(130, 128)]) s₁.heap.objs.size D U V rs n times x (fun _ _ _ _ => True) s')) (E := Never) ?_ ?_ (fun _ _ e => e.elim)
  · repeat walk1
    refine Stop.go ?_
    refine wpAny_mono (three_spec (E := Never) (X.keeps F.keep) (T.keeps F.keep) (room _ (by decide)) (roomU _ (by decide)) rfl (plain_list (hD9.at (LD.to N))) hi9 hodl) ?_ fun _ _ e => e.elim
    intro v s' hG1
    refine hideGoal fun XX kX => ?_
    obtain ⟨⟨b, rfl, hb⟩, ⟨h', tk', rfl, hk⟩⟩ := hG1
    refine kX ?_
    clear kX XX
    have F3 := fr_keeps F hk
    have N3 := news_keeps N hk
    clear F N
    repeat' walk1
    exact End.mk ⟨by rw [last_test hpm hb], _, _, _, _, _, _, _, rfl, F3, N3, LD, ⟨m1, ⟨_, m3⟩, ⟨_, m4⟩, m5, m6⟩, lt, trivial⟩
  rename (Shared.gens _ = #[]) => hge
  intro f s' hG1
  refine hideGoal fun XX kX => ?_
  obtain ⟨rfl, h, tk, m, o', ps, nl, tl, rfl, F, N, LD, _, _, _⟩ := hG1
  refine kX ?_
  clear kX XX
  exact ⟨goodW_bool F hge (fun _ => rfl) (post_true _) rfl, ⟨⟨ps, (LD.to N _ led_tab).1⟩, trivial⟩⟩)
end Mine

theorem PySem.Challenge.cw_pg0099_01_holds : PySem.Challenge.rw_pg0099_01.Holds := by
  exact Mine.law_holds
