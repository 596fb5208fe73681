import PyProof.Rows.All
import Wide.All
import OpenK.AllK
import Wide.FinOn
import PySem.Challenge.RW_ph0065_01
set_option Elab.async false
namespace Mine
open PySem PySem.W PyProof.Rows
set_option maxRecDepth 100000
set_option maxHeartbeats 8000000
open_top hd for PySem.Challenge.rw_ph0065_01
end Mine
namespace Mine
/-- the walk below runs as in a text of its own -/
theorem walk_plain : True := by
  w_top off
  trivial
end Mine
namespace Mine
open PySem PySem.W PyProof.Rows
set_option maxRecDepth 100000

noncomputable abbrev loo : List Str := looseW hd.view_39 [Str.ofString "bisect_right", Str.ofString "insort_left", Str.ofString "bisect_left"]

/-- a def of the text's that hands back a plain value and leaves everything as it was -/
def Tells (w : World) (mean : ExcName → Option Value) (mg mb : Str → Option Value) (f : Addr) (pre : Heap → List (Addr × Obj) → Prop) (vs : List Value) (R : Value → Prop) : Prop :=
  ∀ (dp un : Nat) (gd : Option (List Code)) (cn : Str) (cs : Scope) (a : Addr) (ccd : Value) (cl : List (Str × Addr)) (outer : List Env) (A₀ : Around) (base h₀ : Heap) (L : Addr) (m : Str → Option Value) (news : List (Addr × Obj)) (s : Shared)
    (Q E : Value → Shared → Prop),
    Below A₀ base outer h₀ → Fr h₀ L s.heap m → (hd.heap_39 w.params).In h₀ → News h₀ L s.heap news → Top hd.view_39 loo mean mg mb h₀ → cs.kind = .function → pre h₀ news → dp + 8 < recursionLimit → un + 64 < cLine →
    (∀ r h' tk', R r → Fr h₀ L h' m → News h₀ L h' news → Q r { s with heap := h', toks := tk' }) →
    wpAny (model Challenge.rw_ph0065_01.row.prog w) (ktrTop dp un gd cn cs L a ccd cl outer) (call (.ref f) vs) Q E s

/-- .. that hands back a new object -/
def TellsNew (w : World) (mean : ExcName → Option Value) (mg mb : Str → Option Value) (f : Addr) (pre : Heap → List (Addr × Obj) → Prop) (vs : List Value) (R : Obj → Prop) : Prop :=
  ∀ (dp un : Nat) (gd : Option (List Code)) (cn : Str) (cs : Scope) (a : Addr) (ccd : Value) (cl : List (Str × Addr)) (outer : List Env) (A₀ : Around) (base h₀ : Heap) (L : Addr) (m : Str → Option Value) (news : List (Addr × Obj)) (s : Shared)
    (Q E : Value → Shared → Prop),
    Below A₀ base outer h₀ → Fr h₀ L s.heap m → (hd.heap_39 w.params).In h₀ → News h₀ L s.heap news → Top hd.view_39 loo mean mg mb h₀ → cs.kind = .function → pre h₀ news → dp + 8 < recursionLimit → un + 64 < cLine →
    (∀ D o h' tk', R o → Fr h₀ L h' m → News h₀ L h' ((D, o) :: news) → (∀ p ∈ news, p.1 ≠ D) → Q (.ref D) { s with heap := h', toks := tk' }) →
    wpAny (model Challenge.rw_ph0065_01.row.prog w) (ktrTop dp un gd cn cs L a ccd cl outer) (call (.ref f) vs) Q E s

section
variable {w : World} {mean : ExcName → Option Value} {mg mb : Str → Option Value} {f : Addr} {pre : Heap → List (Addr × Obj) → Prop} {vs : List Value}
  {dp un : Nat} {gd : Option (List Code)} {cn : Str} {cs : Scope} {a : Addr} {ccd : Value} {cl : List (Str × Addr)} {outer : List Env} {A₀ : Around} {base h₀ : Heap} {L : Addr} {m : Str → Option Value} {news : List (Addr × Obj)} {s : Shared}
  {Q E : Value → Shared → Prop}
theorem tells_use {R : Value → Prop} (C : Tells w mean mg mb f pre vs R) (B : Below A₀ base outer h₀) (F : Fr h₀ L s.heap m) (X : (hd.heap_39 w.params).In h₀) (N : News h₀ L s.heap news) (T : Top hd.view_39 loo mean mg mb h₀) (hk : cs.kind = .function) (hp : pre h₀ news)
    (hd : dp + 8 < recursionLimit) (hu : un + 64 < cLine) (ret : ∀ r h' tk', R r → Fr h₀ L h' m → News h₀ L h' news → Q r { s with heap := h', toks := tk' }) :
    wpAny (model Challenge.rw_ph0065_01.row.prog w) (ktrTop dp un gd cn cs L a ccd cl outer) (call (.ref f) vs) Q E s := C _ _ _ _ _ _ _ _ _ _ _ _ _ _ _ _ _ _ B F X N T hk hp hd hu ret
theorem tellsNew_use {R : Obj → Prop} (C : TellsNew w mean mg mb f pre vs R) (B : Below A₀ base outer h₀) (F : Fr h₀ L s.heap m) (X : (hd.heap_39 w.params).In h₀) (N : News h₀ L s.heap news) (T : Top hd.view_39 loo mean mg mb h₀) (hk : cs.kind = .function) (hp : pre h₀ news)
    (hd : dp + 8 < recursionLimit) (hu : un + 64 < cLine) (ret : ∀ D o h' tk', R o → Fr h₀ L h' m → News h₀ L h' ((D, o) :: news) → (∀ p ∈ news, p.1 ≠ D) → Q (.ref D) { s with heap := h', toks := tk' }) :
    wpAny (model Challenge.rw_ph0065_01.row.prog w) (ktrTop dp un gd cn cs L a ccd cl outer) (call (.ref f) vs) Q E s := C _ _ _ _ _ _ _ _ _ _ _ _ _ _ _ _ _ _ B F X N T hk hp hd hu ret
end

section
open LCg
variable {prog : Program} {w : World} {A : Around} {s : Shared} {h₀ : Heap} {L : Addr} {m : Str → Option Value} {env : Env}
theorem compRest_inv {elt : Expr} {x : Str} {scope : Scope} {cl : List (Str × Addr)} {S : List (Addr × Obj) → Prop} {P : Nat → Value → Prop} {Fin : List Value → List (Addr × Obj) → Prop} {N : Nat}
    (Inv : Nat → List Value → List (Addr × Obj) → Prop) (fin : ∀ ys news, Inv N ys news → Fin ys news)
    (step : ∀ i ys news, i < N → Inv i ys news → ∀ v I oI C oC D m₂ h tk (E' : Value → Shared → Prop), P i v → NsObj oC m₂ → m₂ x = some v → Fr h₀ L h m → News h₀ L h ((I, oI) :: (C, oC) :: (D, lst ys) :: news) → Off3 I C D news → ((@Ne Nat I C) ∧ (@Ne Nat I D) ∧ (@Ne Nat C D)) →
      wpAny (model prog w) A (eval elt (compEnvC scope cl C env)) (CompEnd h₀ L m { s with heap := h, toks := tk } I oI C oC D (lst ys) S (fun y news' => Inv (i + 1) (ys ++ [y]) news')) E' { s with heap := h, toks := tk }) :
    ∀ k i ys news, i + k = N → Inv i ys news → CompRest prog w A h₀ L m env elt x scope cl s S P Fin k i ys news
  | 0, i, ys, news, e, h => fin ys news (by rw [← e]; exact h)
  | k + 1, i, ys, news, e, h => fun v I oI C oC D m₂ hp tk E' h1 h2 h3 h4 h5 h6 h7 => by
    refine wpAny_mono (step i ys news (by omega) h v I oI C oC D m₂ hp tk E' h1 h2 h3 h4 h5 h6 h7) (fun y s' z => ?_) fun _ _ e => e
    obtain ⟨h', tk', news', e', F', N', o', S', r⟩ := z
    exact ⟨h', tk', news', e', F', N', o', S', compRest_inv Inv fin step k (i + 1) (ys ++ [y]) news' (by omega) r⟩

theorem strs_snoc {vs : List Value} {xs : List Str} (h : StrsAre vs xs) (x : Str) (t : Tok) : StrsAre (vs ++ [.str x t]) (xs ++ [x]) := by
  induction h with
  | nil => exact .cons x t .nil
  | cons y u _ ih => exact .cons y u ih
theorem StrsAre.length {vs : List Value} {xs : List Str} (h : StrsAre vs xs) : vs.length = xs.length := by
  induction h with
  | nil => rfl
  | cons y u _ ih => simp [ih]
end
end Mine
namespace Mine
open PySem PySem.W PyProof.Rows
set_option maxRecDepth 100000
/-- the text of a list of code points -/
def st (l : List Nat) : Str := ⟨l.toArray⟩
theorem st_cps (l : List Nat) : (st l).cps.toList = l := rfl
theorem st_length (l : List Nat) : (st l).length = l.length := by simp [st, Str.length]
theorem st_of (x : Str) : x = st x.cps.toList := by cases x; rfl
theorem st_append (l r : List Nat) : st l ++ st r = st (l ++ r) := Str.ext' (by rw [Str.cps_append]; simp [st])
theorem st_inj {l r : List Nat} (h : st l = st r) : l = r := by rw [← st_cps l, h, st_cps]
theorem join_cons (q x y : Str) (r : List Str) : Str.join q (x :: y :: r) = x ++ q ++ Str.join q (y :: r) := rfl
theorem cps_app (a b : Str) : (a ++ b).cps.toList = a.cps.toList ++ b.cps.toList := by rw [Str.cps_append]; simp
theorem join_empty : ∀ xs : List Str, (Str.join (Str.ofString "") xs).cps.toList = xs.flatMap (·.cps.toList)
  | [] => rfl
  | [x] => by show x.cps.toList = _; simp
  | x :: y :: r => by
    rw [join_cons, cps_app, cps_app, join_empty (y :: r)]
    show x.cps.toList ++ [] ++ _ = _
    simp
theorem txt_join (q : Str) (xs : List Str) : Txt.join q xs = Str.join q xs := StrLaws.glued_eq_join q xs
/-- a text of the law's: none to three of the signs a, b, c, d -/
def Signs (l : List Nat) : Prop := l.length ≤ 3 ∧ ∀ c ∈ l, 97 ≤ c ∧ c ≤ 100
def Sign (x : Str) : Prop := ∃ c : Nat, 97 ≤ c ∧ c ≤ 100 ∧ x = st [c]
theorem four_of {k : Int} (h0 : 0 ≤ k) (h1 : k < 4) : k = 0 ∨ k = 1 ∨ k = 2 ∨ k = 3 := by omega
theorem fmod4 (n : Int) : 0 ≤ n.fmod 4 ∧ n.fmod 4 < 4 := ⟨Int.fmod_nonneg_of_pos _ (by decide), Int.fmod_lt_of_pos _ (by decide)⟩
theorem sign_item {k : Int} (h0 : 0 ≤ k) (h1 : k < 4) : Sign (Txt.item (Str.ofString "abcd") k) := by
  rcases four_of h0 h1 with rfl | rfl | rfl | rfl
  · exact ⟨97, by decide, by decide, by decide⟩
  · exact ⟨98, by decide, by decide, by decide⟩
  · exact ⟨99, by decide, by decide, by decide⟩
  · exact ⟨100, by decide, by decide, by decide⟩
theorem sign_sum {xs : List Str} (h : ∀ x ∈ xs, Sign x) : (xs.map (·.length)).sum = xs.length := by
  induction xs with
  | nil => rfl
  | cons x r ih =>
    obtain ⟨c, _, _, e⟩ := h x (.head _)
    rw [List.map_cons, List.sum_cons, ih fun y hy => h y (.tail _ hy), e, List.length_cons]
    show 1 + r.length = r.length + 1
    omega
theorem sign_flat {xs : List Str} (h : ∀ x ∈ xs, Sign x) : (xs.flatMap (·.cps.toList)).length = xs.length ∧ ∀ c ∈ xs.flatMap (·.cps.toList), 97 ≤ c ∧ c ≤ 100 := by
  induction xs with
  | nil => exact ⟨rfl, fun _ h => nomatch h⟩
  | cons x r ih =>
    obtain ⟨c, h1, h2, e⟩ := h x (.head _)
    obtain ⟨i1, i2⟩ := ih fun y hy => h y (.tail _ hy)
    rw [List.flatMap_cons, e, st_cps]
    refine ⟨by rw [List.length_append, i1]; show 1 + _ = _ + 1; omega, fun d hd => ?_⟩
    rcases List.mem_append.mp hd with hd | hd
    · rw [List.mem_singleton.mp hd]; exact ⟨h1, h2⟩
    · exact i2 d hd
theorem sign_join {xs : List Str} (h : ∀ x ∈ xs, Sign x) (hl : xs.length ≤ 3) : ∃ l, Signs l ∧ Txt.join (Str.ofString "") xs = st l :=
  ⟨_, ⟨by rw [(sign_flat h).1]; exact hl, (sign_flat h).2⟩, by rw [txt_join]; exact (st_of _).trans (congrArg st (join_empty xs))⟩
def pairsUp : List Str := [Str.ofString "a", Str.ofString "ac", Str.ofString "!", Str.ofString "ab"]
def exch : List Str := [Str.ofString "a", Str.ofString "!", Str.ofString "d", Str.ofString "a", Str.ofString "!", Str.ofString "d", Str.ofString "b", Str.ofString "!", Str.ofString "c", Str.ofString "b", Str.ofString "!", Str.ofString "c"]
def back : List Str := [Str.ofString "ab", Str.ofString "!", Str.ofString "ac", Str.ofString "a"]
def pairsOf (f : Bool) : List Str := if f then pairsUp ++ exch else pairsUp
def undoOf (f : Bool) : List Str := if f then exch ++ back else back
/-- a list of texts -/
def ListOf (xs : List Str) (o : Obj) : Prop := ∃ its n, o = { cls := .type "list", data := .seq its n } ∧ StrsAre its.toList xs
end Mine
namespace Mine
open PySem PySem.W PyProof.Rows
set_option maxRecDepth 100000
section
open LCg
variable {prog : Program} {w : World} {A : Around} {E : Value → Shared → Prop} {s : Shared} {h₀ : Heap} {L : Addr} {m : Str → Option Value} {env : Env}
/-- a comprehension over the signs of a text -/
def SrcS (prog : Program) (w : World) (A : Around) (h₀ : Heap) (L : Addr) (m : Str → Option Value) (env : Env) (elt : Expr) (x : Str) (scope : Scope) (cl : List (Str × Addr)) (Q : Value → Shared → Prop) (xv : Value) (s₁ : Shared) : Prop :=
  ∃ y t news, xv = .str y t ∧ A.handled = none ∧ Fr h₀ L s₁.heap m ∧ News h₀ L s₁.heap news ∧ y.cps.all (· < 128) = true ∧ y.cps.size ≤ sizeLine ∧
    ∀ g, CompRest prog w A h₀ L m env elt x scope cl { s₁ with heap := g } (fun _ => True) (SignAt y) (FinE h₀ L m { s₁ with heap := g } Q) y.cps.size 0 [] news
theorem listComp_S {elt iter : Expr} {x : Str} {px : Pos} {scope : Scope} {cl : List (Str × Addr)} {pos : Pos} {Q : Value → Shared → Prop} (F₀ : Fr h₀ L s.heap m)
    (hclos : closureFor scope env = pure cl) (hcell : ∀ y ∈ scope.names, y.2 ≠ .cell) (hkind : scope.kind = .function)
    (hnames : ∀ y ∈ scope.names, y.2 = .local → scope.names.lookup y.1 = some .local) (hx : scope.names.lookup x = some .local)
    (h : wpAny (model prog w) A (eval iter env) (SrcS prog w A h₀ L m env elt x scope cl Q) E s)
    (hs : ∀ x, foldedSetIterable iter env x = pure x := by intro _; rfl) :
    wpAny (model prog w) A (eval (.ListComp elt [⟨.Name x px, iter, [], 0⟩] scope pos) env) Q E s := by
  rw [eval_ListComp]
  refine wpAny_comprehension_free (use := none) rfl hs hclos hkind hnames (wpAny_mono h (fun xv s₁ h₁ => ?_) fun _ _ e => e)
  obtain ⟨y, t, news, rfl, hh, F, N, ha, hsz, R⟩ := h₁
  refine wpAny_pyIter_ascii ha ?_
  refine block_U (Walks.strAscii hh _ y t) hsz (fun i h st => by obtain ⟨o, e, _⟩ := st; exact ⟨o, e⟩)
    (fun i h h' o nw st e e' _ _ _ => by obtain ⟨o', q, r⟩ := st; rw [e] at q; cases q; exact ⟨o, e', r⟩) hcell hkind hx ⟨_, Heap.get?_push_size _ rfl, rfl, rfl⟩ (fun b hb => ?_)
    (F.keeps fun _ _ e => Heap.get?_push_of_some _ e) (N.grown fun _ _ e => Heap.get?_push_of_some _ e) (Nat.ne_of_lt F.ns.lt) (next_is_new F) (fun p hp => Nat.ne_of_lt (Heap.lt_size (N p hp).1)) trivial (R _) ?_
  · rw [List.mem_singleton.mp hb]
    show s₁.heap.objs.size < (s₁.heap.push _).objs.size
    rw [Heap.size_push]; exact Nat.lt_succ_self _
  · intro D C h tk m' ys news' F' N' o1 hn hC₀ hD₀ hCL hDL hCD offC fin
    refine ⟨m', hn, fun h'' hs'' => fin D h'' tk (F'.change hs'' hCL hC₀) (fun p hp => ?_) o1⟩
    refine ⟨hs''.extBut _ _ ?_ (N' p hp).1, (N' p hp).2⟩
    rcases List.mem_cons.mp hp with rfl | hp
    · exact Ne.symm hCD
    · exact offC p hp
end
end Mine
namespace Mine
open PySem PySem.W PyProof.Rows
set_option maxRecDepth 100000
section
open LCg LCt
variable {prog : Program} {w : World} {A : Around} {s : Shared} {h₀ : Heap} {L : Addr} {m : Str → Option Value} {env : Env}
theorem compRestT_inv {ct elt : Expr} {x : Str} {scope : Scope} {cl : List (Str × Addr)} {S : List (Addr × Obj) → Prop} {P : Nat → Value → Prop} {Fin : List Value → List (Addr × Obj) → Prop} {N : Nat}
    (Inv : Nat → List Value → List (Addr × Obj) → Prop) (fin : ∀ ys news, Inv N ys news → Fin ys news)
    (step : ∀ i ys news, i < N → Inv i ys news → ∀ v I oI C oC D m₂ h tk (E' : Value → Shared → Prop), P i v → NsObj oC m₂ → m₂ x = some v → Fr h₀ L h m → News h₀ L h ((I, oI) :: (C, oC) :: (D, lst ys) :: news) → Off3 I C D news → ((@Ne Nat I C) ∧ (@Ne Nat I D) ∧ (@Ne Nat C D)) →
      wpAny (model prog w) A (isTrue ct (compEnvC scope cl C env) (eval ct (compEnvC scope cl C env))) (fun ok s' => if ok = true then
        wpAny (model prog w) A (eval elt (compEnvC scope cl C env)) (CompEnd h₀ L m { s with heap := h, toks := tk } I oI C oC D (lst ys) S (fun y news' => Inv (i + 1) (ys ++ [y]) news')) E' s'
        else CompEnd h₀ L m { s with heap := h, toks := tk } I oI C oC D (lst ys) S (fun _ news' => Inv (i + 1) ys news') Value.none s') E' { s with heap := h, toks := tk }) :
    ∀ k i ys news, i + k = N → Inv i ys news → CompRestT prog w A h₀ L m env ct elt x scope cl s S P Fin k i ys news
  | 0, i, ys, news, e, h => fin ys news (by rw [← e]; exact h)
  | k + 1, i, ys, news, e, h => fun v I oI C oC D m₂ hp tk E' h1 h2 h3 h4 h5 h6 h7 => by
    refine wpAny_mono (step i ys news (by omega) h v I oI C oC D m₂ hp tk E' h1 h2 h3 h4 h5 h6 h7) (fun ok s' z => ?_) fun _ _ e => e
    cases ok with
    | true =>
      simp only [if_true] at z ⊢
      refine wpAny_mono z (fun y s' z => ?_) fun _ _ e => e
      obtain ⟨h', tk', news', e', F', N', o', S', r⟩ := z
      exact ⟨h', tk', news', e', F', N', o', S', compRestT_inv Inv fin step k (i + 1) (ys ++ [y]) news' (by omega) r⟩
    | false =>
      simp only [Bool.false_eq_true, if_false] at z ⊢
      obtain ⟨h', tk', news', e', F', N', o', S', r⟩ := z
      exact ⟨h', tk', news', e', F', N', o', S', compRestT_inv Inv fin step k (i + 1) ys news' (by omega) r⟩
end
end Mine
namespace Mine
open PySem PySem.W PyProof.Rows
set_option maxRecDepth 100000
section
variable {prog : Program} {w : World} {A : Around} {E : Value → Shared → Prop} {s : Shared} {env : Env} {h₀ : Heap} {x : Str} {px : Pos} {body : List Stmt} {Q : Flow → Shared → Prop} {m : Str → Option Value} {news : List (Addr × Obj)}
theorem range_unr {r : Addr} {a b : Int} {t u v : Tok} {n : Nat} (hh : A.handled = none) (F : Fr h₀ env.locals s.heap m) (N : News h₀ env.locals s.heap news) (hr : IsRange s.heap r a b 1 t u v) (hsm : Builtin.Range.small a b 1 = true) (hn : Builtin.Range.rangeSize a b 1 = ((n : Nat) : Int))
    (h : ∀ g, Unr prog w A E h₀ env (.Name x px) body Q (fun i v => ∃ t, v = .int (a + (i : Int)) t) [s.heap.objs.size] { s with heap := g } n 0 m news) :
    wpAny (model prog w) A (pyIter (.ref r)) (fun it s₂ => UnrAt prog w A h₀ env (.Name x px) body Q E it s₂) E s := by
  refine wpAny_pyIter_range hr hsm ?_
  refine ⟨_, _, _, n, _, _, m, news, rfl, LCg.range_walks hh a n, ?_, ?_, ?_, ?_, F.push _, N.grown fun _ _ e => Heap.get?_push_of_some _ e, fun i s' v Q' _ hq => wpAny_pure hq, h _⟩
  · intro hm; exact absurd F.ns.lt ((List.mem_singleton.mp hm) ▸ Nat.lt_irrefl _)
  · intro b hb; rw [List.mem_singleton.mp hb]; exact next_is_new F
  · intro p hp hI; exact absurd (Heap.lt_size (N p hp).1) ((List.mem_singleton.mp hI) ▸ Nat.lt_irrefl _)
  · show IsRangeIter _ _ _ _ _
    rw [hn]
    simpa using Heap.get?_push_size _ rfl
end
end Mine
namespace Mine
open PySem PySem.W PyProof.Rows
set_option maxRecDepth 100000
section
variable {prog : Program} {w : World} {A : Around} {E : Value → Shared → Prop} {s : Shared} {env : Env} {h₀ : Heap} {x : Str} {px : Pos} {body : List Stmt} {Q : Flow → Shared → Prop} {X : Value → Shared → Prop} {m : Str → Option Value} {news : List (Addr × Obj)}
/-- a loop over a list that the ledger knows: no turn leaves it, each keeps the iterator -/
theorem for_list {l : Addr} {its : List Value} (hh : A.handled = none) (F : Fr h₀ env.locals s.heap m) (N : News h₀ env.locals s.heap news) (J : Nat → (Str → Option Value) → List (Addr × Obj) → Prop) (h0 : J 0 m news)
    (hJ : ∀ i m' nw, J i m' nw → LCg.SrcAt h₀ l its.toArray nw)
    (turn : ∀ i v m₁ nw I oI h tk (E' : Value → Shared → Prop), its[i]? = some v → J i m₁ nw → Fr h₀ env.locals h m₁ → News h₀ env.locals h ((I, oI) :: nw) → (∀ p ∈ nw, p.1 ≠ I) →
      wpAny (model prog w) A (assign (.Name x px) env v) (fun _ s₂ => wpAny (model prog w) A (execs body env) (fun f s₃ => f = .next ∧ ∃ h' tk' m' nw', s₃ = { s with heap := h', toks := tk' } ∧ Fr h₀ env.locals h' m' ∧ News h₀ env.locals h' ((I, oI) :: nw') ∧ (∀ p ∈ nw', p.1 ≠ I) ∧ J (i + 1) m' nw') E' s₂) E' { s with heap := h, toks := tk })
    (done : ∀ h' tk' m' nw', Fr h₀ env.locals h' m' → News h₀ env.locals h' nw' → J its.length m' nw' → Q .next { s with heap := h', toks := tk' }) :
    wpAny (model prog w) A (pyIter (.ref l)) (fun it s₂ => codeAny (model prog w) A (.forLoop (.Name x px) it body [] env) (fun r s' => match r with | .ok f => Q f s' | .error e => X e s') s₂) E s := by
  have hls : s.heap.IsList l its.toArray := (hJ 0 m news h0).list F.keep N
  have hlt : l < s.heap.objs.size := by obtain ⟨_, e, _⟩ := hls; exact Heap.lt_size e
  refine wpAny_pyIter_list hls ?_
  have W := Walks.list (prog := prog) (w := w) hh s.heap.objs.size l (Nat.ne_of_lt hlt) its.toArray
  have hsz : its.toArray.size = its.length := List.size_toArray
  rw [hsz] at W
  have hLI : env.locals ≠ s.heap.objs.size := Nat.ne_of_lt F.ns.lt
  have hI₀ : h₀.get? s.heap.objs.size = none := next_is_new F
  refine codeAny_forLoop (fun k s' => ∃ h' tk m' nw i, s' = { s with heap := h', toks := tk } ∧ h'.IsListIter s.heap.objs.size l i ∧ Fr h₀ env.locals h' m' ∧ News h₀ env.locals h' nw ∧ (∀ p ∈ nw, p.1 ≠ s.heap.objs.size) ∧ J i m' nw ∧ i ≤ its.length ∧ k = its.length + 1 - i) ?_ (its.length + 1)
    ⟨_, s.toks, m, news, 0, rfl, ⟨_, Heap.get?_push_size _ rfl, rfl, rfl⟩, F.push _, N.grown fun _ _ e => Heap.get?_push_of_some _ e, fun p hp => Nat.ne_of_lt (Heap.lt_size (N p hp).1), h0, Nat.zero_le _, rfl⟩
  rintro k s' ⟨h', tk, m', nw, i, rfl, hit, F', N', hne, hJi, hi, rfl⟩
  have hl' : h'.IsList l its.toArray := (hJ i m' nw hJi).list F'.keep N'
  have next : ∀ h₁ : Heap, (∀ b o, b ∉ [s.heap.objs.size] → h'.get? b = some o → h₁.get? b = some o) → Fr h₀ env.locals h₁ m' ∧ News h₀ env.locals h₁ nw := fun h₁ hk₁ =>
    ⟨⟨F'.ns.at' fun o e => hk₁ _ o (by simpa using hLI) e, fun b o e => hk₁ b o (fun hm => by rw [List.mem_singleton.mp hm, hI₀] at e; cases e) (F'.keep b o e), F'.above⟩,
      fun p hp => ⟨hk₁ _ _ (by simpa using hne p hp) (N' p hp).1, (N' p hp).2⟩⟩
  by_cases hlt' : i < its.length
  · refine W.item i _ _ _ hlt' ⟨hit, hl'⟩ fun v h₁ tk₁ hP hst₁ hk₁ => ?_
    obtain ⟨F₁, N₁⟩ := next h₁ hk₁
    obtain ⟨oI, hoI, hIr⟩ := hst₁.1
    have N₂ : News h₀ env.locals h₁ ((s.heap.objs.size, oI) :: nw) := fun p hp => by
      rcases List.mem_cons.mp hp with rfl | hp
      · exact ⟨hoI, Ne.symm hLI, hI₀⟩
      · exact N₁ p hp
    refine wpAny_mono (turn i v m' nw _ oI h₁ tk₁ _ (by simpa using hP) hJi F₁ N₂ hne) (fun _ s₂ h₂ => wpAny_mono h₂ (fun f s₃ h₃ => ?_) fun _ _ e => e) fun _ _ e => e
    obtain ⟨rfl, h₃', tk₃, m₃, nw₃, rfl, F₃, N₃, hne₃, hJ₃⟩ := h₃
    exact ⟨its.length + 1 - (i + 1), by omega, h₃', tk₃, m₃, nw₃, i + 1, rfl, ⟨oI, (N₃ _ (.head _)).1, hIr⟩, F₃, fun p hp => N₃ p (.tail _ hp), hne₃, hJ₃, hlt', rfl⟩
  · have hin : i = its.length := by omega
    subst hin
    refine W.done _ _ _ ⟨hit, hl'⟩ fun h₁ tk₁ hk₁ => wpAny_execs_nil ?_
    obtain ⟨F₁, N₁⟩ := next h₁ hk₁
    exact done h₁ tk₁ m' nw F₁ N₁ hJi
end
end Mine
namespace Mine
open PySem PySem.W PyProof.Rows
set_option maxRecDepth 100000
/-- what replace reckons -/
def repl : Str → List Str → Str
  | x, p :: q :: r => repl (Txt.join q (Txt.split x p)) r
  | x, _ => x
/-- the pairs as they are put in: what is sought is not empty, what is put in has two signs at most -/
inductive PairsOk : List Str → Prop
  | nil : PairsOk []
  | cons {p q : Str} {r : List Str} : 1 ≤ p.length → q.length ≤ 2 → PairsOk r → PairsOk (p :: q :: r)
theorem turn_fits {x p q : Str} (hp : 1 ≤ p.length) (hq : q.length ≤ 2) : ((Txt.split x p).map (·.length)).sum + (Txt.split x p).length * q.length ≤ 3 * x.length + 3 ∧ (Txt.join q (Txt.split x p)).length ≤ 3 * x.length + 3 := by
  have h := split_weight x p hp
  have h2 : (Txt.split x p).length * q.length ≤ (Txt.split x p).length * 2 := Nat.mul_le_mul_left _ hq
  have h3 := StrLaws.join_length_le q (Txt.split x p)
  rw [txt_join]
  omega
end Mine
namespace Mine
open PySem PySem.W PyProof.Rows
set_option maxRecDepth 100000
def escS (c : Nat) : Str := if c = 97 then Str.ofString "ac" else st [c]
def esc (l : List Nat) : List Nat := l.flatMap fun c => if c = 97 then [97, 99] else [c]
def up (l : List Nat) : List Nat := esc l ++ [97, 98]
def swap (c : Nat) : Nat := 197 - c
def code (f : Bool) (l : List Nat) : List Nat := if f then (up l).map swap else up l
theorem ac_st : Str.ofString "ac" = st [97, 99] := by decide
theorem ab_st : Str.ofString "ab" = st [97, 98] := by decide
theorem escS_cps (c : Nat) : (escS c).cps.toList = if c = 97 then [97, 99] else [c] := by
  unfold escS
  split
  · rw [ac_st]; rfl
  · rfl
theorem esc_join (l : List Nat) : Txt.join (Str.ofString "") (l.map escS) ++ Str.ofString "ab" = st (up l) := by
  rw [txt_join, ab_st, st_of (Str.join _ _), join_empty, st_append]
  congr 1
  show _ = esc l ++ _
  congr 1
  rw [List.flatMap_map]
  unfold esc
  congr 1
  funext c
  exact escS_cps c
theorem escS_len (c : Nat) : (escS c).length ≤ 2 := by
  unfold escS
  split
  · decide
  · exact Nat.le_succ 1
theorem sum_le (g : Nat → Str) (b : Nat) (hg : ∀ c, (g c).length ≤ b) : ∀ l : List Nat, ((l.map g).map (·.length)).sum ≤ l.length * b
  | [] => by simp
  | c :: l => by
    have := sum_le g b hg l
    have := hg c
    simp only [List.map_cons, List.sum_cons, List.length_cons, Nat.succ_mul]
    omega
theorem esc_mem {l : List Nat} (h : ∀ c ∈ l, 97 ≤ c ∧ c ≤ 100) : ∀ c ∈ up l, 97 ≤ c ∧ c ≤ 100 := by
  intro c hc
  unfold up esc at hc
  rcases List.mem_append.mp hc with hc | hc
  · obtain ⟨d, hd, hc⟩ := List.mem_flatMap.mp hc
    split at hc
    · simp only [List.mem_cons, List.not_mem_nil, or_false] at hc; omega
    · rw [List.mem_singleton.mp hc]; exact h d hd
  · simp only [List.mem_cons, List.not_mem_nil, or_false] at hc; omega
theorem esc_length : ∀ l : List Nat, (esc l).length ≤ 2 * l.length
  | [] => by simp [esc]
  | c :: l => by
    have := esc_length l
    show (esc (c :: l)).length ≤ _
    unfold esc at this ⊢
    rw [List.flatMap_cons, List.length_append, List.length_cons]
    split <;> simp only [List.length_cons, List.length_nil] <;> omega
theorem up_length (l : List Nat) : (up l).length ≤ 2 * l.length + 2 := by
  have := esc_length l
  unfold up
  rw [List.length_append]
  simp only [List.length_cons, List.length_nil]
  omega
theorem take_snoc {α β : Type} (g : α → β) {l : List α} {i : Nat} {c : α} (h : l[i]? = some c) : (l.take (i + 1)).map g = (l.take i).map g ++ [g c] := by
  rw [List.take_add_one, h, List.map_append]
  rfl
theorem st_get {l : List Nat} {i c : Nat} (h : (st l).cps[i]? = some c) : l[i]? = some c := by simpa [st] using h
theorem escS_a {c : Nat} (h : ((st [c]) == Str.ofString "a") = true) : escS c = Str.ofString "ac" := by
  have e : st [c] = st [97] := (eq_of_beq h).trans (by decide)
  have e2 := st_inj e
  unfold escS
  rw [if_pos (List.cons.inj e2).1]
theorem escS_other {c : Nat} (h : ((st [c]) == Str.ofString "a") = false) : escS c = st [c] := by
  unfold escS
  rw [if_neg]
  rintro rfl
  exact absurd h (by decide)
theorem st_ascii {l : List Nat} (h : ∀ c ∈ l, 97 ≤ c ∧ c ≤ 100) : (st l).cps.all (· < 128) = true := by
  unfold st
  rw [List.all_toArray]
  exact List.all_eq_true.mpr fun c hc => decide_eq_true (by have := h c hc; omega)
theorem st_size (l : List Nat) : (st l).cps.size = l.length := by simp [st]
theorem swap_join (l : List Nat) : Txt.join (Str.ofString "") (l.map fun c => st [swap c]) = st (l.map swap) := by
  rw [txt_join, st_of (Str.join _ _), join_empty]
  congr 1
  induction l with
  | nil => rfl
  | cons c l ih => rw [List.map_cons, List.flatMap_cons, ih]; rfl
theorem find_abcd {c : Nat} (h : 97 ≤ c ∧ c ≤ 100) : Txt.find (Str.ofString "abcd") ⟨#[c]⟩ = (c : Int) - 97 := by
  rcases (by omega : c = 97 ∨ c = 98 ∨ c = 99 ∨ c = 100) with rfl | rfl | rfl | rfl <;> decide +kernel
theorem item_dcba {c : Nat} (h : 97 ≤ c ∧ c ≤ 100) : Txt.item (Str.ofString "dcba") ((c : Int) - 97) = st [swap c] := by
  rcases (by omega : c = 97 ∨ c = 98 ∨ c = 99 ∨ c = 100) with rfl | rfl | rfl | rfl <;> decide
end Mine
namespace Mine
open PySem PySem.W PyProof.Rows
set_option maxRecDepth 100000
/-- the places where p holds come first -/
def Anti (xs : List Str) (p : Str → Bool) : Prop := ∀ (i j : Nat) (a b : Str), i ≤ j → xs[i]? = some a → xs[j]? = some b → p b = true → p a = true
/-- p holds below lo, and nowhere from hi on -/
def Parts (xs : List Str) (p : Str → Bool) (lo hi : Nat) : Prop := lo ≤ hi ∧ hi ≤ xs.length ∧ (∀ (i : Nat) (a : Str), i < lo → xs[i]? = some a → p a = true) ∧ (∀ (i : Nat) (a : Str), hi ≤ i → xs[i]? = some a → p a = false)
theorem Parts.start (xs : List Str) (p : Str → Bool) : Parts xs p 0 xs.length :=
  ⟨Nat.zero_le _, Nat.le_refl _, fun i a h => absurd h (Nat.not_lt_zero _), fun i a h e => by
    have := (List.getElem?_eq_some_iff.mp e).1; omega⟩
theorem Parts.upper {xs : List Str} {p : Str → Bool} {lo hi mid : Nat} {a : Str} (P : Parts xs p lo hi) (A : Anti xs p) (h1 : lo ≤ mid) (h2 : mid < hi) (e : xs[mid]? = some a) (hp : p a = true) : Parts xs p (mid + 1) hi :=
  ⟨h2, P.2.1, fun i b hi e' => A i mid b a (by omega) e' e hp, P.2.2.2⟩
theorem Parts.lower {xs : List Str} {p : Str → Bool} {lo hi mid : Nat} {a : Str} (P : Parts xs p lo hi) (A : Anti xs p) (h1 : lo ≤ mid) (h2 : mid < hi) (e : xs[mid]? = some a) (hp : p a = false) : Parts xs p lo mid :=
  ⟨h1, by have := P.2.1; omega, P.2.2.1, fun i b hi e' => by
    cases hb : p b with
    | false => rfl
    | true => rw [A mid i a b hi e e' hb] at hp; cases hp⟩
theorem Parts.count {xs : List Str} {p : Str → Bool} {k : Nat} (P : Parts xs p k k) : xs.countP p = k := by
  have e : xs = xs.take k ++ xs.drop k := (List.take_append_drop k xs).symm
  have h1 : (xs.take k).countP p = (xs.take k).length := by
    rw [List.countP_eq_length]
    intro a ha
    obtain ⟨i, hi⟩ := List.mem_iff_getElem?.mp ha
    rw [List.getElem?_take] at hi
    split at hi
    · rename_i hik; exact P.2.2.1 i a hik hi
    · cases hi
  have h2 : (xs.drop k).countP p = 0 := by
    rw [List.countP_eq_zero]
    intro a ha
    obtain ⟨i, hi⟩ := List.mem_iff_getElem?.mp ha
    rw [List.getElem?_drop] at hi
    rw [P.2.2.2 (k + i) a (by omega) hi]
    decide
  have h3 := P.2.1
  calc xs.countP p = (xs.take k ++ xs.drop k).countP p := by rw [← e]
    _ = k := by rw [List.countP_append, h1, h2, List.length_take]; omega
theorem strs_get {vs : List Value} {xs : List Str} (h : StrsAre vs xs) : ∀ {i : Nat}, i < xs.length → ∃ x t, xs[i]? = some x ∧ vs[i]? = some (.str x t) := by
  induction h with
  | nil => intro i hi; exact absurd hi (Nat.not_lt_zero _)
  | cons y t _ ih =>
    intro i hi
    cases i with
    | zero => exact ⟨y, t, rfl, rfl⟩
    | succ i => exact ih (by simpa using hi)
/-- the model's order of texts -/
def ltS (a b : Str) : Bool := decide (a.cps.toList < b.cps.toList)
end Mine
namespace Mine
open PySem PySem.W PyProof.Rows
set_option maxRecDepth 100000
set_option maxHeartbeats 8000000
theorem text_tells (w mean mg mb) (n : Int) (tk : Tok) : Tells w mean mg mb 53 (fun _ _ => True) [.int n tk] (fun v => ∃ l t, Signs l ∧ v = .str (st l) t) := by
  unfold Tells
  k_fill
  intro dp un gd cn cs a ccd cl outer A₀ base h₀ L m news s Q E B F X N T hk _ hd hu hret
  (refine wpAny_call ?_); k_dflt (refine' code_defC ?k1 ?k2 ?k3 ?k4 ?k5 ?kA ?kF ?kK ?k6 ?k7 ?k8 ?k9 ?kB ?kD ?_ ?c2 ?c3 ?c4; (case kA => exact rfl); (case kF => exact rfl); (case kK => assumption); (case k1 => k_asm); (case k2 => k_asm); (case k3 => k_asm); (case k4 => k_asm); (case k5 => k_asm); (case k6 => k_is); (case k7 => k_is); (case k8 => ktr_room); (case k9 => first | exact BindsTo.of_eq rfl | exact binds_K (by k_in) rfl (by k_is) rfl rfl rfl); (case kB => exact rfl); (case kD => decide +kernel); (case c2 => exact rfl); (case c3 => exact rfl); (case c4 => exact rfl); k_whole); intro g' L' h' tk' cells' FG' F' N' Y' B' X' T' l1; k_cells Y'; (try simp only [List.cons_append, List.nil_append] at N'); (try dsimp only); (try k_fold)
  repeat ((fail_if_success (with_reducible show LCg.CompSrc _ _ _ _ _ _ _ _ _ _ _ _ _ _)); (first | walk1 | (dsimp only; walk1)))
  rename Fr g' L' _ _ => F1
  rename News g' L' _ _ => N1
  rename IsRange _ _ _ _ _ _ _ _ => R1
  rename Obj => oN
  have hb := fmod4 n
  refine LCg.CompSrc.range (n := (n.fmod 4).toNat) rfl F1 N1 R1 (by rcases four_of hb.1 hb.2 with e | e | e | e <;> rw [e] <;> decide) (by rcases four_of hb.1 hb.2 with e | e | e | e <;> rw [e] <;> decide) (by rcases four_of hb.1 hb.2 with e | e | e | e <;> rw [e] <;> decide) (fun g => ?_)
  refine compRest_inv (fun i ys nw => nw = (L' + 1, oN) :: news ∧ ∃ xs, StrsAre ys xs ∧ xs.length = i ∧ ∀ x ∈ xs, Sign x) ?fin ?step _ _ _ _ (Nat.zero_add _) ⟨rfl, [], .nil, rfl, fun _ h => nomatch h⟩
  case step =>
    rintro i ys nw hi ⟨rfl, xs, hxs, hxl, hsg⟩ v I oI C oC D m₂ h tk E' ⟨t, rfl⟩ hC hx F2 N2 off ne
    k_fold
    have hi3 : (1 + (i : Int)) ≤ 3 := by omega
    have hi1 : 1 ≤ (1 + (i : Int)) := by omega
    repeat ((fail_if_success (with_reducible show wpAny _ _ (binaryOp Operator.FloorDiv _ _) _ _ _)); (first | walk1 | (dsimp only; walk1)))
    have hp : 0 < (4 : Int) ^ (1 + (i : Int)).toNat ∧ (4 : Int) ^ (1 + (i : Int)).toNat ≤ 64 := by
      rcases (by omega : i = 0 ∨ i = 1 ∨ i = 2) with rfl | rfl | rfl <;> decide
    refine floordiv_int (by omega) ?_ (Or.inl (PyProof.noPylong_small (by omega)))
    k_steps
    have hm := fmod4 (n.fdiv (4 ^ (1 + (i : Int)).toNat))
    exact LCg.CompEnd.intro F2 N2 _ (fun p hp => hp) off trivial ⟨rfl, _, strs_snoc hxs _ _, by rw [List.length_append, hxl]; rfl, fun x hx => by
      rcases List.mem_append.mp hx with hx | hx
      · exact hsg x hx
      · rw [List.mem_singleton.mp hx]; exact sign_item hm.1 hm.2⟩
  case fin =>
    rintro ys nw ⟨rfl, xs, hxs, hxl, hsg⟩
    intro D h9 tk9 F9 N9 off9
    repeat ((fail_if_success (with_reducible show wpAny _ _ (call (Value.builtin "str.join") _) _ _ _)); (first | walk1 | (dsimp only; walk1)))
    refine join_list (ys := xs) (News.isList N9 (.head _)) (by simpa using hxs) (by rw [sign_sum hsg, hxl]; show _ + _ * 0 ≤ _; omega) (fun t' k => ?_)
    k_steps
    obtain ⟨l, hl, e⟩ := sign_join hsg (by omega)
    rw [e]
    exact hret _ _ _ ⟨l, t', hl, rfl⟩ (by k_asm) (cb_drop (by k_asm) fun p hp => .tail _ (.tail _ hp))
end Mine
namespace Mine
open PySem PySem.W PyProof.Rows
set_option maxRecDepth 100000
set_option maxHeartbeats 8000000
section
local macro_rules | `(tactic| walk_at "callWith") => `(tactic| (with_reducible refine' callWith_method1 ?_ ?he ?hp; (case he => simp only [starEach]); (case hp => simp only [starEach]; k_dflt (exact rfl))))
theorem pairs_tells (w mean mg mb) (f : Bool) : TellsNew w mean mg mb 60 (fun _ _ => True) [.bool f] (ListOf (pairsOf f)) := by
  unfold TellsNew
  k_fill
  intro dp un gd cn cs a ccd cl outer A₀ base h₀ L m news s Q E B F X N T hk _ hd hu hret
  cases f
  · (refine wpAny_call ?_); k_dflt (refine' code_def ?k1 ?k2 ?k3 ?k4 ?k5 ?kA ?kF ?kK ?k6 ?k7 ?k8 ?k9 ?kB ?_ ?c2 ?c3 ?c4 ?c5; (case kA => exact rfl); (case kF => exact rfl); (case kK => assumption); (case k1 => k_asm); (case k2 => k_asm); (case k3 => k_asm); (case k4 => k_asm); (case k5 => k_asm); (case k6 => k_is); (case k7 => k_is); (case k8 => ktr_room); (case k9 => first | exact BindsTo.of_eq rfl | exact binds_K (by k_in) rfl (by k_is) rfl rfl rfl); (case c5 => decide); (case kB => exact locs rfl); (case c2 => exact rfl); (case c3 => exact rfl); (case c4 => exact rfl); k_whole); intro g' L' h' FG' F' N' B' X' T'; (try dsimp only); (try k_fold)
    repeat' (first | (k_unfold; (try dsimp only)) | (walk1; (try dsimp only)) | (dsimp only; walk1))
    rename ∀ p ∈ news, _ => l1
    refine hret _ _ _ _ ⟨_, _, rfl, ?_⟩ (by k_asm) (by k_asm) fun p hp => Nat.ne_of_lt (l1 p hp)
    simp only [pairsOf, undoOf, pairsUp, exch, back, if_true, if_false, Bool.false_eq_true, List.append_toArray, List.toList_toArray, List.cons_append, List.nil_append]
    repeat (first | with_reducible exact StrsAre.nil | with_reducible refine StrsAre.cons _ _ ?_)
  · (refine wpAny_call ?_); k_dflt (refine' code_def ?k1 ?k2 ?k3 ?k4 ?k5 ?kA ?kF ?kK ?k6 ?k7 ?k8 ?k9 ?kB ?_ ?c2 ?c3 ?c4 ?c5; (case kA => exact rfl); (case kF => exact rfl); (case kK => assumption); (case k1 => k_asm); (case k2 => k_asm); (case k3 => k_asm); (case k4 => k_asm); (case k5 => k_asm); (case k6 => k_is); (case k7 => k_is); (case k8 => ktr_room); (case k9 => first | exact BindsTo.of_eq rfl | exact binds_K (by k_in) rfl (by k_is) rfl rfl rfl); (case c5 => decide); (case kB => exact locs rfl); (case c2 => exact rfl); (case c3 => exact rfl); (case c4 => exact rfl); k_whole); intro g' L' h' FG' F' N' B' X' T'; (try dsimp only); (try k_fold)
    repeat' (first | (k_unfold; (try dsimp only)) | (walk1; (try dsimp only)) | (dsimp only; walk1))
    rename ∀ p ∈ news, _ => l1
    refine hret _ _ _ _ ⟨_, _, rfl, ?_⟩ (by k_asm) (cb_drop (by k_asm) fun p hp => .tail _ hp) fun p hp => Nat.ne_of_lt (l1 p hp)
    simp only [pairsOf, undoOf, pairsUp, exch, back, if_true, if_false, Bool.false_eq_true, List.append_toArray, List.toList_toArray, List.cons_append, List.nil_append]
    repeat (first | with_reducible exact StrsAre.nil | with_reducible refine StrsAre.cons _ _ ?_)
theorem undoing_tells (w mean mg mb) (f : Bool) : TellsNew w mean mg mb 67 (fun _ _ => True) [.bool f] (ListOf (undoOf f)) := by
  unfold TellsNew
  k_fill
  intro dp un gd cn cs a ccd cl outer A₀ base h₀ L m news s Q E B F X N T hk _ hd hu hret
  cases f
  · (refine wpAny_call ?_); k_dflt (refine' code_def ?k1 ?k2 ?k3 ?k4 ?k5 ?kA ?kF ?kK ?k6 ?k7 ?k8 ?k9 ?kB ?_ ?c2 ?c3 ?c4 ?c5; (case kA => exact rfl); (case kF => exact rfl); (case kK => assumption); (case k1 => k_asm); (case k2 => k_asm); (case k3 => k_asm); (case k4 => k_asm); (case k5 => k_asm); (case k6 => k_is); (case k7 => k_is); (case k8 => ktr_room); (case k9 => first | exact BindsTo.of_eq rfl | exact binds_K (by k_in) rfl (by k_is) rfl rfl rfl); (case c5 => decide); (case kB => exact locs rfl); (case c2 => exact rfl); (case c3 => exact rfl); (case c4 => exact rfl); k_whole); intro g' L' h' FG' F' N' B' X' T'; (try dsimp only); (try k_fold)
    repeat' (first | (k_unfold; (try dsimp only)) | (walk1; (try dsimp only)) | (dsimp only; walk1))
    rename ∀ p ∈ news, _ => l1
    refine hret _ _ _ _ ⟨_, _, rfl, ?_⟩ (by k_asm) (cb_drop (by k_asm) fun p hp => .tail _ hp) fun p hp => Nat.ne_of_lt (l1 p hp)
    simp only [pairsOf, undoOf, pairsUp, exch, back, if_true, if_false, Bool.false_eq_true, List.append_toArray, List.toList_toArray, List.cons_append, List.nil_append]
    repeat (first | with_reducible exact StrsAre.nil | with_reducible refine StrsAre.cons _ _ ?_)
  · (refine wpAny_call ?_); k_dflt (refine' code_def ?k1 ?k2 ?k3 ?k4 ?k5 ?kA ?kF ?kK ?k6 ?k7 ?k8 ?k9 ?kB ?_ ?c2 ?c3 ?c4 ?c5; (case kA => exact rfl); (case kF => exact rfl); (case kK => assumption); (case k1 => k_asm); (case k2 => k_asm); (case k3 => k_asm); (case k4 => k_asm); (case k5 => k_asm); (case k6 => k_is); (case k7 => k_is); (case k8 => ktr_room); (case k9 => first | exact BindsTo.of_eq rfl | exact binds_K (by k_in) rfl (by k_is) rfl rfl rfl); (case c5 => decide); (case kB => exact locs rfl); (case c2 => exact rfl); (case c3 => exact rfl); (case c4 => exact rfl); k_whole); intro g' L' h' FG' F' N' B' X' T'; (try dsimp only); (try k_fold)
    repeat' (first | (k_unfold; (try dsimp only)) | (walk1; (try dsimp only)) | (dsimp only; walk1))
    rename ∀ p ∈ news, _ => l1
    refine hret _ _ _ _ ⟨_, _, rfl, ?_⟩ (by k_asm) (cb_drop (by k_asm) fun p hp => .tail _ (.tail _ hp)) fun p hp => Nat.ne_of_lt (l1 p hp)
    simp only [pairsOf, undoOf, pairsUp, exch, back, if_true, if_false, Bool.false_eq_true, List.append_toArray, List.toList_toArray, List.cons_append, List.nil_append]
    repeat (first | with_reducible exact StrsAre.nil | with_reducible refine StrsAre.cons _ _ ?_)
end
end Mine
namespace Mine
open PySem PySem.W PyProof.Rows
set_option maxRecDepth 100000
set_option maxHeartbeats 8000000
def frm (x : Str) (t : Tok) (D : Addr) : Str → Option Value := fun y => if y = Str.ofString "text" then some (.str x t) else if y = Str.ofString "pairs" then some (.ref D) else none
theorem frm_next {x x' : Str} {t t' : Tok} {D D' : Addr} : (fun y => if y = Str.ofString "pairs" then some (Value.ref D') else if y = Str.ofString "text" then some (Value.str x' t') else frm x t D y) = frm x' t' D' := by
  funext y
  unfold frm
  by_cases h1 : y = Str.ofString "text"
  · subst h1; rfl
  · by_cases h2 : y = Str.ofString "pairs"
    · subst h2; rfl
    · simp [h1, h2]
theorem repl4 (w mean mg mb) (x : Str) (tk : Tok) (v1 v2 v3 v4 : Value) (ps : List Str) (hps : StrsAre [v1, v2, v3, v4] ps) (hok : PairsOk ps) (hx : x.length ≤ 16) : Tells w mean mg mb 21 (fun _ _ => True) [.str x tk, v1, v2, v3, v4] (fun v => ∃ t, v = .str (repl x ps) t) := by
  unfold Tells
  k_fill
  intro dp un gd cn cs a ccd cl outer A₀ base h₀ L m news s Q E B F X N T hk _ hd hu hret
  refine wpAny_call ?_
  k_dflt (refine' kp_rest ?k1 ?k2 ?k3 ?k4 ?k5 ?kA ?kF ?kK ?k6 ?k7 ?k8 ?kV ?kP ?kG ?kB ?_ ?c2 ?c3 ?c4 ?c5; (case kA => exact rfl); (case kF => exact rfl); (case kK => assumption); (case k1 => k_asm); (case k2 => k_asm); (case k3 => k_asm); (case k4 => k_asm); (case k5 => k_asm); (case k6 => k_is); (case k7 => k_is); (case k8 => ktr_room); (case kV => exact rfl); (case kP => exact rfl); (case kG => exact fun _ => rfl); (case kB => exact fun _ => locs rfl); (case c5 => decide); (case c2 => exact rfl); (case c3 => exact rfl); (case c4 => exact rfl); k_whole)
  intro D' g' L' h' l1 FG' F' N' B' X' T'; (try dsimp only); (try k_fold)
  have e0 : ∀ y : Str, List.lookup y [(Str.ofString "pairs", Value.ref D'), (Str.ofString "text", Value.str x tk)] = frm x tk D' y := by
    intro y
    unfold frm
    by_cases h1 : y = Str.ofString "text"
    · subst h1; rfl
    · by_cases h2 : y = Str.ofString "pairs"
      · subst h2; rfl
      · simp [List.lookup, h1, h2, beq_eq_false_iff_ne.mpr h1, beq_eq_false_iff_ne.mpr h2]
  replace F' : Fr g' L' h' (frm x tk D') := by rw [← funext e0]; exact F'
  replace N' : News g' L' h' ((D', ({ cls := .type "tuple", data := .seq [v1, v2, v3, v4].toArray } : Obj)) :: news) := N'
  (repeat ((fail_if_success (with_reducible show wpAny _ _ (exec (Stmt.While _ _ _ _) _) _ _ _)); (first | walk1 | (dsimp only; walk1))))
  refine wpAny_While (codeAny_whileLoop (fun n s' => ∃ x' t D vs ps' h' tk', s' = { s with heap := h', toks := tk' } ∧ Fr g' L' h' (frm x' t D) ∧ News g' L' h' ((D, ({ cls := .type "tuple", data := .seq (List.toArray vs) } : Obj)) :: news) ∧ StrsAre vs ps' ∧ PairsOk ps' ∧
    ps'.length = 2 * n ∧ n ≤ 8 ∧ x'.length + 2 ≤ 18 * 3 ^ (8 - n) ∧ repl x' ps' = repl x ps) ?turn 2 ⟨x, tk, D', _, ps, h', _, rfl, F', N', hps, hok, by rw [← StrsAre.length hps]; rfl, by decide, by show _ ≤ 18 * 3 ^ 6; omega, rfl⟩)
  rintro n s' ⟨x', t, D, vs, ps', h', tk', rfl, F1, N1, hv, ho, hl, hn, hb, he⟩
  have hvl : vs.length ≤ 1000 := by rw [StrsAre.length hv, hl]; omega
  (repeat ((fail_if_success (with_reducible show wpAny _ _ (truthy _) _ _ _)); (first | walk1 | (dsimp only; walk1))))
  refine ktl_truthyK N1 (.head _) hvl ?_
  cases ho with
  | nil =>
    cases hv
    simp only [List.isEmpty_nil, Bool.not_true, Bool.false_eq_true, if_false]
    repeat' (first | (k_unfold; (try dsimp only)) | (walk1; (try dsimp only)) | (dsimp only; walk1))
    have he' : x' = repl x ps := he
    rw [he']
    exact hret _ _ _ ⟨_, rfl⟩ (by k_asm) (cb_drop (by k_asm) fun p hp => .tail _ hp)
  | @cons p q r hp hq ho' =>
    cases hv with
    | cons _ t1 hv' =>
    cases hv' with
    | cons _ t2 hv'' =>
    rename_i vs'
    simp only [List.isEmpty_cons, Bool.not_false, if_true]
    have ht : ∀ {h : Heap}, News g' L' h ((D, ({ cls := .type "tuple", data := .seq (List.toArray (Value.str p t1 :: Value.str q t2 :: vs')) } : Obj)) :: news) → IsTup h D (List.toArray (Value.str p t1 :: Value.str q t2 :: vs')) := fun N => ⟨_, (N _ (.head _)).1, rfl, _, rfl⟩
    have hxl : x'.length ≤ 118098 := by
      have h3 : 3 ^ (8 - n) ≤ 3 ^ 8 := Nat.pow_le_pow_right (by decide) (by omega)
      have h4 : 3 ^ 8 = 6561 := by decide
      omega
    (repeat ((fail_if_success (with_reducible show wpAny _ _ (subscriptTail _ _ _ _) _ _ _)); (first | (k_unfold; (try dsimp only)) | (walk1; (try dsimp only)) | (dsimp only; walk1))))
    refine item_tupleT (ht N1) (by decide) (by decide) (StrLaws.seqIndex_nonneg (by decide) (by simp only [List.length_cons]; omega)) rfl ?_
    (repeat ((fail_if_success (with_reducible show wpAny _ _ (subscriptTail _ _ _ _) _ _ _)); (first | (k_unfold; (try dsimp only)) | (walk1; (try dsimp only)) | (dsimp only; walk1))))
    refine item_tupleT (ht N1) (by decide) (by decide) (StrLaws.seqIndex_nonneg (by decide) (by simp only [List.length_cons]; omega)) rfl ?_
    (repeat ((fail_if_success (with_reducible show wpAny _ _ (call (Value.builtin "str.split") _) _ _ _)); (first | (k_unfold; (try dsimp only)) | (walk1; (try dsimp only)) | (dsimp only; walk1))))
    refine splitN1A F1 N1 (beq_eq_false_iff_ne.mpr (by omega)) ?_ (hsz := by unfold sizeLine; omega)
    intro l h2 k2 hl2 hs2 _ hI2 F2 N2
    obtain ⟨hf1, hf2⟩ := turn_fits (x := x') hp hq
    (repeat ((fail_if_success (with_reducible show wpAny _ _ (call (Value.builtin "str.join") _) _ _ _)); (first | (k_unfold; (try dsimp only)) | (walk1; (try dsimp only)) | (dsimp only; walk1))))
    refine join_list (ys := l.map (·.1)) hI2 (by simpa using hs2) (by rw [hl2]; omega) (fun t3 k3 => ?_)
    rw [hl2]
    (repeat ((fail_if_success (with_reducible show wpAny _ _ (subscriptTail _ _ _ _) _ _ _)); (first | (k_unfold; (try dsimp only)) | (walk1; (try dsimp only)) | (dsimp only; walk1))))
    rename Fr g' L' _ _ => F3
    rename News g' L' _ _ => N3
    refine slice_tuple_from (s := { heap := _, gens := s.gens, drawn := s.drawn, toks := _, os := s.os }) (a := 2) F3 N3 ⟨_, (N3 _ (.tail _ (.head _))).1, rfl, _, rfl⟩ (by decide) (by rw [List.size_toArray, List.length_cons, List.length_cons]; omega) ?_ (hsz := by rw [List.size_toArray]; unfold sizeLine; omega)
    intro h4 F4 N4
    (repeat ((fail_if_success (with_reducible show Exists _)); (first | (k_unfold; (try dsimp only)) | (walk1; (try dsimp only)) | (dsimp only; walk1))))
    rename Fr g' L' _ _ => F5
    rename News g' L' _ _ => N5
    obtain ⟨n', rfl⟩ : ∃ n', n = n' + 1 := ⟨n - 1, by simp only [List.length_cons] at hl; omega⟩
    rw [frm_next] at F5
    have N6 : News g' L' _ ((_, ({ cls := .type "tuple", data := .seq (List.toArray vs') } : Obj)) :: _ :: _ :: news) := N5
    refine ⟨n', Nat.lt_succ_self _, Txt.join q (Txt.split x' p), _, _, vs', r, _, _, rfl, F5, cb_drop N6 (fun p hp => ?_), hv'', ho', by simp only [List.length_cons] at hl; omega, by omega, ?_, he⟩
    · rcases List.mem_cons.mp hp with rfl | hp
      · exact .head _
      · exact .tail _ (.tail _ (.tail _ hp))
    · have e3 : 8 - n' = (8 - (n' + 1)) + 1 := by omega
      rw [e3, Nat.pow_succ]
      omega
theorem repl16 (w mean mg mb) (x : Str) (tk : Tok) (v1 v2 v3 v4 v5 v6 v7 v8 v9 v10 v11 v12 v13 v14 v15 v16 : Value) (ps : List Str) (hps : StrsAre [v1, v2, v3, v4, v5, v6, v7, v8, v9, v10, v11, v12, v13, v14, v15, v16] ps) (hok : PairsOk ps) (hx : x.length ≤ 16) : Tells w mean mg mb 21 (fun _ _ => True) [.str x tk, v1, v2, v3, v4, v5, v6, v7, v8, v9, v10, v11, v12, v13, v14, v15, v16] (fun v => ∃ t, v = .str (repl x ps) t) := by
  unfold Tells
  k_fill
  intro dp un gd cn cs a ccd cl outer A₀ base h₀ L m news s Q E B F X N T hk _ hd hu hret
  refine wpAny_call ?_
  k_dflt (refine' kp_rest ?k1 ?k2 ?k3 ?k4 ?k5 ?kA ?kF ?kK ?k6 ?k7 ?k8 ?kV ?kP ?kG ?kB ?_ ?c2 ?c3 ?c4 ?c5; (case kA => exact rfl); (case kF => exact rfl); (case kK => assumption); (case k1 => k_asm); (case k2 => k_asm); (case k3 => k_asm); (case k4 => k_asm); (case k5 => k_asm); (case k6 => k_is); (case k7 => k_is); (case k8 => ktr_room); (case kV => exact rfl); (case kP => exact rfl); (case kG => exact fun _ => rfl); (case kB => exact fun _ => locs rfl); (case c5 => decide); (case c2 => exact rfl); (case c3 => exact rfl); (case c4 => exact rfl); k_whole)
  intro D' g' L' h' l1 FG' F' N' B' X' T'; (try dsimp only); (try k_fold)
  have e0 : ∀ y : Str, List.lookup y [(Str.ofString "pairs", Value.ref D'), (Str.ofString "text", Value.str x tk)] = frm x tk D' y := by
    intro y
    unfold frm
    by_cases h1 : y = Str.ofString "text"
    · subst h1; rfl
    · by_cases h2 : y = Str.ofString "pairs"
      · subst h2; rfl
      · simp [List.lookup, h1, h2, beq_eq_false_iff_ne.mpr h1, beq_eq_false_iff_ne.mpr h2]
  replace F' : Fr g' L' h' (frm x tk D') := by rw [← funext e0]; exact F'
  replace N' : News g' L' h' ((D', ({ cls := .type "tuple", data := .seq [v1, v2, v3, v4, v5, v6, v7, v8, v9, v10, v11, v12, v13, v14, v15, v16].toArray } : Obj)) :: news) := N'
  (repeat ((fail_if_success (with_reducible show wpAny _ _ (exec (Stmt.While _ _ _ _) _) _ _ _)); (first | walk1 | (dsimp only; walk1))))
  refine wpAny_While (codeAny_whileLoop (fun n s' => ∃ x' t D vs ps' h' tk', s' = { s with heap := h', toks := tk' } ∧ Fr g' L' h' (frm x' t D) ∧ News g' L' h' ((D, ({ cls := .type "tuple", data := .seq (List.toArray vs) } : Obj)) :: news) ∧ StrsAre vs ps' ∧ PairsOk ps' ∧
    ps'.length = 2 * n ∧ n ≤ 8 ∧ x'.length + 2 ≤ 18 * 3 ^ (8 - n) ∧ repl x' ps' = repl x ps) ?turn 8 ⟨x, tk, D', _, ps, h', _, rfl, F', N', hps, hok, by rw [← StrsAre.length hps]; rfl, by decide, by show _ ≤ 18 * 3 ^ 0; omega, rfl⟩)
  rintro n s' ⟨x', t, D, vs, ps', h', tk', rfl, F1, N1, hv, ho, hl, hn, hb, he⟩
  have hvl : vs.length ≤ 1000 := by rw [StrsAre.length hv, hl]; omega
  (repeat ((fail_if_success (with_reducible show wpAny _ _ (truthy _) _ _ _)); (first | walk1 | (dsimp only; walk1))))
  refine ktl_truthyK N1 (.head _) hvl ?_
  cases ho with
  | nil =>
    cases hv
    simp only [List.isEmpty_nil, Bool.not_true, Bool.false_eq_true, if_false]
    repeat' (first | (k_unfold; (try dsimp only)) | (walk1; (try dsimp only)) | (dsimp only; walk1))
    have he' : x' = repl x ps := he
    rw [he']
    exact hret _ _ _ ⟨_, rfl⟩ (by k_asm) (cb_drop (by k_asm) fun p hp => .tail _ hp)
  | @cons p q r hp hq ho' =>
    cases hv with
    | cons _ t1 hv' =>
    cases hv' with
    | cons _ t2 hv'' =>
    rename_i vs'
    simp only [List.isEmpty_cons, Bool.not_false, if_true]
    have ht : ∀ {h : Heap}, News g' L' h ((D, ({ cls := .type "tuple", data := .seq (List.toArray (Value.str p t1 :: Value.str q t2 :: vs')) } : Obj)) :: news) → IsTup h D (List.toArray (Value.str p t1 :: Value.str q t2 :: vs')) := fun N => ⟨_, (N _ (.head _)).1, rfl, _, rfl⟩
    have hxl : x'.length ≤ 118098 := by
      have h3 : 3 ^ (8 - n) ≤ 3 ^ 8 := Nat.pow_le_pow_right (by decide) (by omega)
      have h4 : 3 ^ 8 = 6561 := by decide
      omega
    (repeat ((fail_if_success (with_reducible show wpAny _ _ (subscriptTail _ _ _ _) _ _ _)); (first | (k_unfold; (try dsimp only)) | (walk1; (try dsimp only)) | (dsimp only; walk1))))
    refine item_tupleT (ht N1) (by decide) (by decide) (StrLaws.seqIndex_nonneg (by decide) (by simp only [List.length_cons]; omega)) rfl ?_
    (repeat ((fail_if_success (with_reducible show wpAny _ _ (subscriptTail _ _ _ _) _ _ _)); (first | (k_unfold; (try dsimp only)) | (walk1; (try dsimp only)) | (dsimp only; walk1))))
    refine item_tupleT (ht N1) (by decide) (by decide) (StrLaws.seqIndex_nonneg (by decide) (by simp only [List.length_cons]; omega)) rfl ?_
    (repeat ((fail_if_success (with_reducible show wpAny _ _ (call (Value.builtin "str.split") _) _ _ _)); (first | (k_unfold; (try dsimp only)) | (walk1; (try dsimp only)) | (dsimp only; walk1))))
    refine splitN1A F1 N1 (beq_eq_false_iff_ne.mpr (by omega)) ?_ (hsz := by unfold sizeLine; omega)
    intro l h2 k2 hl2 hs2 _ hI2 F2 N2
    obtain ⟨hf1, hf2⟩ := turn_fits (x := x') hp hq
    (repeat ((fail_if_success (with_reducible show wpAny _ _ (call (Value.builtin "str.join") _) _ _ _)); (first | (k_unfold; (try dsimp only)) | (walk1; (try dsimp only)) | (dsimp only; walk1))))
    refine join_list (ys := l.map (·.1)) hI2 (by simpa using hs2) (by rw [hl2]; omega) (fun t3 k3 => ?_)
    rw [hl2]
    (repeat ((fail_if_success (with_reducible show wpAny _ _ (subscriptTail _ _ _ _) _ _ _)); (first | (k_unfold; (try dsimp only)) | (walk1; (try dsimp only)) | (dsimp only; walk1))))
    rename Fr g' L' _ _ => F3
    rename News g' L' _ _ => N3
    refine slice_tuple_from (s := { heap := _, gens := s.gens, drawn := s.drawn, toks := _, os := s.os }) (a := 2) F3 N3 ⟨_, (N3 _ (.tail _ (.head _))).1, rfl, _, rfl⟩ (by decide) (by rw [List.size_toArray, List.length_cons, List.length_cons]; omega) ?_ (hsz := by rw [List.size_toArray]; unfold sizeLine; omega)
    intro h4 F4 N4
    (repeat ((fail_if_success (with_reducible show Exists _)); (first | (k_unfold; (try dsimp only)) | (walk1; (try dsimp only)) | (dsimp only; walk1))))
    rename Fr g' L' _ _ => F5
    rename News g' L' _ _ => N5
    obtain ⟨n', rfl⟩ : ∃ n', n = n' + 1 := ⟨n - 1, by simp only [List.length_cons] at hl; omega⟩
    rw [frm_next] at F5
    have N6 : News g' L' _ ((_, ({ cls := .type "tuple", data := .seq (List.toArray vs') } : Obj)) :: _ :: _ :: news) := N5
    refine ⟨n', Nat.lt_succ_self _, Txt.join q (Txt.split x' p), _, _, vs', r, _, _, rfl, F5, cb_drop N6 (fun p hp => ?_), hv'', ho', by simp only [List.length_cons] at hl; omega, by omega, ?_, he⟩
    · rcases List.mem_cons.mp hp with rfl | hp
      · exact .head _
      · exact .tail _ (.tail _ (.tail _ hp))
    · have e3 : 8 - n' = (8 - (n' + 1)) + 1 := by omega
      rw [e3, Nat.pow_succ]
      omega
end Mine
namespace Mine
open PySem PySem.W PyProof.Rows
set_option maxRecDepth 100000
set_option maxHeartbeats 8000000
theorem written_tells (w mean mg mb) (l : List Nat) (hl : Signs l) (tk : Tok) (f : Bool) : Tells w mean mg mb 72 (fun _ _ => True) [.str (st l) tk, .bool f] (fun v => ∃ t, v = .str (st (code f l)) t) := by
  unfold Tells
  k_fill
  intro dp un gd cn cs a ccd cl outer A₀ base h₀ L m news s Q E B F X N T hk _ hd hu hret
  (refine wpAny_call ?_); k_dflt (refine' code_def ?k1 ?k2 ?k3 ?k4 ?k5 ?kA ?kF ?kK ?k6 ?k7 ?k8 ?k9 ?kB ?_ ?c2 ?c3 ?c4 ?c5; (case kA => exact rfl); (case kF => exact rfl); (case kK => assumption); (case k1 => k_asm); (case k2 => k_asm); (case k3 => k_asm); (case k4 => k_asm); (case k5 => k_asm); (case k6 => k_is); (case k7 => k_is); (case k8 => ktr_room); (case k9 => first | exact BindsTo.of_eq rfl | exact binds_K (by k_in) rfl (by k_is) rfl rfl rfl); (case c5 => decide); (case kB => exact locs rfl); (case c2 => exact rfl); (case c3 => exact rfl); (case c4 => exact rfl); k_whole); intro g' L' h' FG' F' N' B' X' T'; (try dsimp only); (try k_fold)
  (repeat ((fail_if_success (with_reducible show wpAny _ _ (eval (Expr.ListComp _ _ _ _) _) _ _ _)); (first | (k_unfold; (try dsimp only)) | (walk1; (try dsimp only)) | (dsimp only; walk1))))
  refine listComp_S F' (by with_unfolding_all rfl) (by decide) (by rfl) (by decide) (by rfl) ?_
  walk1
  refine ⟨_, _, _, rfl, rfl, F', N', ?_, ?_, fun g => ?_⟩
  · exact st_ascii hl.2
  · rw [st_size]; have := hl.1; unfold sizeLine; omega
  refine compRest_inv (fun i ys nw => nw = news ∧ StrsAre ys ((l.take i).map escS)) ?fin ?step _ _ _ _ (Nat.zero_add _) ⟨rfl, .nil⟩
  case step =>
    rintro i ys nw hi ⟨rfl, hxs⟩ v I oI C oC D m₂ h tk E' ⟨c, u, hc, rfl⟩ hC hx F2 N2 off ne
    k_fold
    repeat' (first | (k_unfold; (try dsimp only)) | (walk1; (try dsimp only)) | (dsimp only; walk1))
    · rename (_ == _) = true => hcm
      refine LCg.CompEnd.intro F2 N2 _ (fun p hp => hp) off trivial ⟨rfl, ?_⟩
      rw [take_snoc escS (st_get hc), escS_a hcm]
      exact strs_snoc hxs _ _
    · rename (_ == _) = false => hcm
      refine LCg.CompEnd.intro F2 N2 _ (fun p hp => hp) off trivial ⟨rfl, ?_⟩
      rw [take_snoc escS (st_get hc), escS_other hcm]
      exact strs_snoc hxs _ _
  case fin =>
    rintro ys nw ⟨rfl, hxs⟩
    intro D h9 tk9 F9 N9 off9
    rw [st_size, List.take_length] at hxs
    have hl3 := hl.1
    have hsum := sum_le escS 2 escS_len l
    (repeat ((fail_if_success (with_reducible show wpAny _ _ (call (Value.builtin "str.join") _) _ _ _)); (first | (k_unfold; (try dsimp only)) | (walk1; (try dsimp only)) | (dsimp only; walk1))))
    refine join_list (ys := l.map escS) (News.isList N9 (.head _)) (by simpa using hxs) (by show _ + _ * 0 ≤ _; omega) (fun t' k => ?_)
    (repeat ((fail_if_success (with_reducible show wpAny _ _ (binaryOp _ _ _) _ _ _)); (first | (k_unfold; (try dsimp only)) | (walk1; (try dsimp only)) | (dsimp only; walk1))))
    have hup := up_length l
    refine add_str ?_ (by rw [← Str.length_append, esc_join, st_length]; unfold sizeLine; omega)
    rw [esc_join]
    (repeat ((fail_if_success (with_reducible show wpAny _ _ (isTrue _ _ _) _ _ _)); (first | (k_unfold; (try dsimp only)) | (walk1; (try dsimp only)) | (dsimp only; walk1))))
    have hmem := esc_mem hl.2
    cases f with
    | false =>
      repeat' (first | (k_unfold; (try dsimp only)) | (walk1; (try dsimp only)) | (dsimp only; walk1))
      exact hret _ _ _ ⟨_, rfl⟩ (by k_asm) (cb_drop (by k_asm) fun p hp => .tail _ hp)
    | true =>
      (repeat ((fail_if_success (with_reducible show wpAny _ _ (eval (Expr.ListComp _ _ _ _) _) _ _ _)); (first | (k_unfold; (try dsimp only)) | (walk1; (try dsimp only)) | (dsimp only; walk1))))
      rename Fr g' L' _ _ => F3
      rename News g' L' _ _ => N3
      refine listComp_S F3 (by with_unfolding_all rfl) (by decide) (by rfl) (by decide) (by rfl) ?_
      walk1
      refine ⟨_, _, _, rfl, rfl, F3, N3, st_ascii hmem, by rw [st_size]; unfold sizeLine; omega, fun g => ?_⟩
      refine compRest_inv (fun i ys nw' => nw' = (D, LCg.lst _) :: nw ∧ StrsAre ys (((up l).take i).map fun c => st [swap c])) ?fin2 ?step2 _ _ _ _ (Nat.zero_add _) ⟨rfl, .nil⟩
      case step2 =>
        rintro i ys nw' hi ⟨rfl, hxs⟩ v I oI C oC D2 m₂ h tk E' ⟨c, u, hc, rfl⟩ hC hx F4 N4 off ne
        k_fold
        have hc2 := hmem c (List.mem_of_getElem? (st_get hc))
        (repeat ((fail_if_success (with_reducible show wpAny _ _ (call (Value.builtin "str.index") _) _ _ _)); (first | (k_unfold; (try dsimp only)) | (walk1; (try dsimp only)) | (dsimp only; walk1))))
        refine index_or rfl (fun e _ => by rw [find_abcd hc2] at e; omega) (fun _ _ => ?_)
        rw [find_abcd hc2]
        have hlo : (0 : Int) ≤ (c : Int) - 97 := by omega
        have hhi : (c : Int) - 97 < 4 := by omega
        repeat' (first | (k_unfold; (try dsimp only)) | (walk1; (try dsimp only)) | (dsimp only; walk1))
        rw [item_dcba hc2]
        refine LCg.CompEnd.intro F4 N4 _ (fun p hp => hp) off trivial ⟨rfl, ?_⟩
        rw [take_snoc _ (st_get hc)]
        exact strs_snoc hxs _ _
      case fin2 =>
        rintro ys nw' ⟨rfl, hxs⟩
        intro D2 h8 tk8 F8 N8 off8
        rw [st_size, List.take_length] at hxs
        have hsum2 := sum_le (fun c => st [swap c]) 1 (fun _ => Nat.le_refl 1) (up l)
        (repeat ((fail_if_success (with_reducible show wpAny _ _ (call (Value.builtin "str.join") _) _ _ _)); (first | (k_unfold; (try dsimp only)) | (walk1; (try dsimp only)) | (dsimp only; walk1))))
        refine join_list (ys := (up l).map fun c => st [swap c]) (News.isList N8 (.head _)) (by simpa using hxs) (by show _ + _ * 0 ≤ _; omega) (fun t' k => ?_)
        rw [swap_join]
        repeat' (first | (k_unfold; (try dsimp only)) | (walk1; (try dsimp only)) | (dsimp only; walk1))
        exact hret _ _ _ ⟨_, rfl⟩ (by k_asm) (cb_drop (by k_asm) fun p hp => .tail _ (.tail _ hp))
end Mine
namespace Mine
open PySem PySem.W PyProof.Rows
set_option maxRecDepth 100000
set_option maxHeartbeats 8000000
theorem fr_of {h₀ h : Heap} {L : Addr} {m m' : Str → Option Value} (F : Fr h₀ L h m) (e : ∀ y, m y = m' y) : Fr h₀ L h m' := by
  rw [← funext e]; exact F
def frb (al : Addr) (x : Str) (tk : Tok) (lo : Nat) (t1 : Tok) (hi : Nat) (t2 : Tok) (mid : Option Value) : Str → Option Value := fun y =>
  if y = Str.ofString "a" then some (.ref al) else if y = Str.ofString "x" then some (.str x tk) else if y = Str.ofString "lo" then some (.int lo t1) else if y = Str.ofString "hi" then some (.int hi t2)
  else if y = Str.ofString "key" then some .none else if y = Str.ofString "mid" then mid else none
theorem frb_start {al : Addr} {x : Str} {tk t1 t2 : Tok} {hi : Int} {n : Nat} (e : hi = (n : Int)) (y : Str) :
    (if y = Str.ofString "hi" then some (Value.int hi t2) else List.lookup y [(Str.ofString "key", Value.none), (Str.ofString "hi", Value.none), (Str.ofString "lo", Value.int 0 t1), (Str.ofString "x", Value.str x tk), (Str.ofString "a", Value.ref al)]) = frb al x tk 0 t1 n t2 none y := by
  subst e
  unfold frb
  by_cases h1 : y = Str.ofString "a"
  · subst h1; rfl
  by_cases h2 : y = Str.ofString "x"
  · subst h2; rfl
  by_cases h3 : y = Str.ofString "lo"
  · subst h3; rfl
  by_cases h4 : y = Str.ofString "hi"
  · subst h4; rfl
  by_cases h5 : y = Str.ofString "key"
  · subst h5; rfl
  simp [List.lookup, h1, h2, h3, h4, h5, beq_eq_false_iff_ne.mpr h1, beq_eq_false_iff_ne.mpr h2, beq_eq_false_iff_ne.mpr h3, beq_eq_false_iff_ne.mpr h4, beq_eq_false_iff_ne.mpr h5]
theorem item_at {prog : Program} {w : World} {A : Around} {E : Value → Shared → Prop} {s : Shared} {value slice : Expr} {l : Addr} {vs : List Value} {k : Int} {u : Tok} {v : Value} {Q : Value → Shared → Prop}
    (hl : s.heap.IsList l vs.toArray) (h0 : 0 ≤ k) (hhi : k < 2 ^ 63) (hx : vs[k.toNat]? = some v) (h : Q v s)
    (hs : subscripted slice false (.ref l) (.int k u) = operate [.ref l, .int k u] (getItem (.ref l) (.int k u)) := by with_unfolding_all rfl) :
    wpAny (model prog w) A (subscriptTail value slice (.ref l) (.int k u)) Q E s :=
  tail_any hl.typeIs slot_list_getitem.lookup (wpAny_getItem_list hl h0 hhi (by simpa using hx) h) hs
theorem half (lo hi : Nat) : ((lo : Int) + (hi : Int)).fdiv 2 = (((lo + hi) / 2 : Nat) : Int) := by
  rw [Int.fdiv_eq_ediv_of_nonneg _ (by decide)]
  omega
theorem frb_lo {al : Addr} {x : Str} {tk t1 t2 t3 t4 : Tok} {lo hi k : Nat} {mid : Option Value} (y : Str) :
    (if y = Str.ofString "lo" then some (Value.int ((k : Int) + 1) t3) else if y = Str.ofString "mid" then some (Value.int (k : Int) t4) else frb al x tk lo t1 hi t2 mid y) = frb al x tk (k + 1) t3 hi t2 (some (.int (k : Int) t4)) y := by
  unfold frb
  by_cases h1 : y = Str.ofString "a"
  · subst h1; rfl
  by_cases h2 : y = Str.ofString "x"
  · subst h2; rfl
  by_cases h3 : y = Str.ofString "lo"
  · subst h3; rfl
  by_cases h4 : y = Str.ofString "hi"
  · subst h4; rfl
  by_cases h5 : y = Str.ofString "key"
  · subst h5; rfl
  simp only [h1, h2, h3, h4, h5, if_false]
  by_cases h6 : y = Str.ofString "mid"
  · simp only [h6, if_true]
  · simp only [h6, if_false]
theorem frb_hi {al : Addr} {x : Str} {tk t1 t2 t3 t4 : Tok} {lo hi k : Nat} {mid : Option Value} (y : Str) :
    (if y = Str.ofString "hi" then some (Value.int (k : Int) t3) else if y = Str.ofString "mid" then some (Value.int (k : Int) t4) else frb al x tk lo t1 hi t2 mid y) = frb al x tk lo t1 k t3 (some (.int (k : Int) t4)) y := by
  unfold frb
  by_cases h1 : y = Str.ofString "a"
  · subst h1; rfl
  by_cases h2 : y = Str.ofString "x"
  · subst h2; rfl
  by_cases h3 : y = Str.ofString "lo"
  · subst h3; rfl
  by_cases h4 : y = Str.ofString "hi"
  · subst h4; rfl
  by_cases h5 : y = Str.ofString "key"
  · subst h5; rfl
  simp only [h1, h2, h3, h4, h5, if_false]
  by_cases h6 : y = Str.ofString "mid"
  · simp only [h6, if_true]
  · simp only [h6, if_false]
theorem bisl_tells (w mean mg mb) (al : Addr) (its : List Value) (xs : List Str) (hv : StrsAre its xs) (x : Str) (tx : Tok) (hA : Anti xs fun y => ltS y x) (hn : xs.length ≤ 1000) :
    Tells w mean mg mb 48 (fun h₀ news => LCg.SrcAt h₀ al its.toArray news) [.ref al, .str x tx] (fun v => ∃ t, v = .int (xs.countP fun y => ltS y x) t) := by
  unfold Tells
  k_fill
  intro dp un gd cn cs a ccd cl outer A₀ base h₀ L m news s Q E B F X N T hk hS hd hu hret
  (refine wpAny_call ?_); k_dflt (refine' code_def ?k1 ?k2 ?k3 ?k4 ?k5 ?kA ?kF ?kK ?k6 ?k7 ?k8 ?k9 ?kB ?_ ?c2 ?c3 ?c4 ?c5; (case kA => exact rfl); (case kF => exact rfl); (case kK => assumption); (case k1 => k_asm); (case k2 => k_asm); (case k3 => k_asm); (case k4 => k_asm); (case k5 => k_asm); (case k6 => k_is); (case k7 => k_is); (case k8 => ktr_room); (case k9 => (refine' kp_binds ?kx ?ke; (case kx => k_in); (case ke => exact fun _ => rfl))); (case c5 => decide); (case kB => exact locs rfl); (case c2 => exact rfl); (case c3 => exact rfl); (case c4 => exact rfl); k_whole); intro g' L' h' FG' F' N' B' X' T'; (try dsimp only); (try k_fold)
  have hS' : LCg.SrcAt g' al its.toArray news := hS.imp (fun h => h.at fun o e => FG'.keep _ o e) id
  have hI : ∀ {h : Heap} {m' : Str → Option Value}, Fr g' L' h m' → News g' L' h news → h.IsList al its.toArray := fun F N => hS'.list F.keep N
  have hI1 := hI F' N'
  (repeat ((fail_if_success (with_reducible show wpAny _ _ (exec (Stmt.While _ _ _ _) _) _ _ _)); (first | (k_unfold; (try dsimp only)) | (walk1; (try dsimp only)) | (dsimp only; walk1))))
  rename Fr g' L' _ _ => F1
  rename News g' L' _ _ => N1
  have hlen : its.toArray.size = xs.length := by rw [List.size_toArray]; exact StrsAre.length (by assumption)
  have F2 := fr_of F1 (frb_start (n := xs.length) (by first | rfl | (rw [← hlen])))
  clear F1 hI1
  refine wpAny_While (codeAny_whileLoop (fun n s' => ∃ lo hi t1 t2 mid h' tk', s' = { s with heap := h', toks := tk' } ∧ Fr g' L' h' (frb al x tx lo t1 hi t2 mid) ∧ News g' L' h' news ∧ Parts xs (fun y => ltS y x) lo hi ∧ n = hi - lo) ?turn xs.length
    ⟨0, xs.length, _, _, _, _, _, rfl, F2, N1, Parts.start xs _, rfl⟩)
  rintro n s' ⟨lo, hi, t1, t2, mid, h', tk', rfl, F3, N3, P, rfl⟩
  have hP1 := P.1
  have hP2 := P.2.1
  (repeat ((fail_if_success (with_reducible show wpAny _ _ (binaryOp _ _ _) _ _ _)); (first | (k_unfold; (try dsimp only)) | (walk1; (try dsimp only)) | (dsimp only; walk1))))
  · have hlt' : lo < hi := by omega
    have hm1 : lo ≤ (lo + hi) / 2 := by omega
    have hm2 : (lo + hi) / 2 < hi := by omega
    (repeat ((fail_if_success (with_reducible show wpAny _ _ (storeName _ _ _) _ _ _)); (first | (k_unfold; (try dsimp only)) | (walk1; (try dsimp only)) | (dsimp only; walk1))))
    rw [half]
    (repeat ((fail_if_success (with_reducible show wpAny _ _ (subscriptTail _ _ _ _) _ _ _)); (first | (k_unfold; (try dsimp only)) | (walk1; (try dsimp only)) | (dsimp only; walk1))))
    rename Fr g' L' _ _ => F4
    rename News g' L' _ _ => N4
    have hv' : StrsAre its xs := by assumption
    obtain ⟨y, ty, ey, ev⟩ := strs_get hv' (i := (lo + hi) / 2) (by omega)
    refine item_at (hI F4 N4) (by omega) (by omega) (by rw [Int.toNat_natCast]; exact ev) ?_
    (repeat ((fail_if_success (with_reducible show Exists _)); (first | (k_unfold; (try dsimp only)) | (walk1; (try dsimp only)) | (dsimp only; walk1))))
    · rename Fr g' L' _ _ => F5
      rename News g' L' _ _ => N5
      rename y.cps.toList < x.cps.toList => hlt
      exact ⟨_, by omega, _, _, _, _, _, _, _, rfl, fr_of F5 frb_lo, N5, P.upper hA hm1 hm2 ey (decide_eq_true hlt), rfl⟩
    · (repeat ((fail_if_success (with_reducible show Exists _)); (first | (k_unfold; (try dsimp only)) | (walk1; (try dsimp only)) | (dsimp only; walk1))))
      rename Fr g' L' _ _ => F5
      rename News g' L' _ _ => N5
      rename ¬ (y.cps.toList < x.cps.toList) => hlt
      exact ⟨_, by omega, _, _, _, _, _, _, _, rfl, fr_of F5 frb_hi, N5, P.lower hA hm1 hm2 ey (decide_eq_false hlt), rfl⟩
  · have hlt' : lo = hi := by omega
    subst hlt'
    repeat' (first | (k_unfold; (try dsimp only)) | (walk1; (try dsimp only)) | (dsimp only; walk1))
    exact hret _ _ _ ⟨t1, by rw [P.count]⟩ (by k_asm) (by k_asm)
theorem bisl4_tells (w mean mg mb) (al : Addr) (its : List Value) (xs : List Str) (hv : StrsAre its xs) (x : Str) (tx t0 : Tok) (hA : Anti xs fun y => ltS y x) (hn : xs.length ≤ 1000) :
    Tells w mean mg mb 48 (fun h₀ news => LCg.SrcAt h₀ al its.toArray news) [.ref al, .str x tx, .int 0 t0, .none] (fun v => ∃ t, v = .int (xs.countP fun y => ltS y x) t) := by
  unfold Tells
  k_fill
  intro dp un gd cn cs a ccd cl outer A₀ base h₀ L m news s Q E B F X N T hk hS hd hu hret
  (refine wpAny_call ?_); k_dflt (refine' code_def ?k1 ?k2 ?k3 ?k4 ?k5 ?kA ?kF ?kK ?k6 ?k7 ?k8 ?k9 ?kB ?_ ?c2 ?c3 ?c4 ?c5; (case kA => exact rfl); (case kF => exact rfl); (case kK => assumption); (case k1 => k_asm); (case k2 => k_asm); (case k3 => k_asm); (case k4 => k_asm); (case k5 => k_asm); (case k6 => k_is); (case k7 => k_is); (case k8 => ktr_room); (case k9 => (refine' kp_binds ?kx ?ke; (case kx => k_in); (case ke => exact fun _ => rfl))); (case c5 => decide); (case kB => exact locs rfl); (case c2 => exact rfl); (case c3 => exact rfl); (case c4 => exact rfl); k_whole); intro g' L' h' FG' F' N' B' X' T'; (try dsimp only); (try k_fold)
  have hS' : LCg.SrcAt g' al its.toArray news := hS.imp (fun h => h.at fun o e => FG'.keep _ o e) id
  have hI : ∀ {h : Heap} {m' : Str → Option Value}, Fr g' L' h m' → News g' L' h news → h.IsList al its.toArray := fun F N => hS'.list F.keep N
  have hI1 := hI F' N'
  (repeat ((fail_if_success (with_reducible show wpAny _ _ (exec (Stmt.While _ _ _ _) _) _ _ _)); (first | (k_unfold; (try dsimp only)) | (walk1; (try dsimp only)) | (dsimp only; walk1))))
  rename Fr g' L' _ _ => F1
  rename News g' L' _ _ => N1
  have hlen : its.toArray.size = xs.length := by rw [List.size_toArray]; exact StrsAre.length (by assumption)
  have F2 := fr_of F1 (frb_start (n := xs.length) (by first | rfl | (rw [← hlen])))
  clear F1 hI1
  refine wpAny_While (codeAny_whileLoop (fun n s' => ∃ lo hi t1 t2 mid h' tk', s' = { s with heap := h', toks := tk' } ∧ Fr g' L' h' (frb al x tx lo t1 hi t2 mid) ∧ News g' L' h' news ∧ Parts xs (fun y => ltS y x) lo hi ∧ n = hi - lo) ?turn xs.length
    ⟨0, xs.length, _, _, _, _, _, rfl, F2, N1, Parts.start xs _, rfl⟩)
  rintro n s' ⟨lo, hi, t1, t2, mid, h', tk', rfl, F3, N3, P, rfl⟩
  have hP1 := P.1
  have hP2 := P.2.1
  (repeat ((fail_if_success (with_reducible show wpAny _ _ (binaryOp _ _ _) _ _ _)); (first | (k_unfold; (try dsimp only)) | (walk1; (try dsimp only)) | (dsimp only; walk1))))
  · have hlt' : lo < hi := by omega
    have hm1 : lo ≤ (lo + hi) / 2 := by omega
    have hm2 : (lo + hi) / 2 < hi := by omega
    (repeat ((fail_if_success (with_reducible show wpAny _ _ (storeName _ _ _) _ _ _)); (first | (k_unfold; (try dsimp only)) | (walk1; (try dsimp only)) | (dsimp only; walk1))))
    rw [half]
    (repeat ((fail_if_success (with_reducible show wpAny _ _ (subscriptTail _ _ _ _) _ _ _)); (first | (k_unfold; (try dsimp only)) | (walk1; (try dsimp only)) | (dsimp only; walk1))))
    rename Fr g' L' _ _ => F4
    rename News g' L' _ _ => N4
    have hv' : StrsAre its xs := by assumption
    obtain ⟨y, ty, ey, ev⟩ := strs_get hv' (i := (lo + hi) / 2) (by omega)
    refine item_at (hI F4 N4) (by omega) (by omega) (by rw [Int.toNat_natCast]; exact ev) ?_
    (repeat ((fail_if_success (with_reducible show Exists _)); (first | (k_unfold; (try dsimp only)) | (walk1; (try dsimp only)) | (dsimp only; walk1))))
    · rename Fr g' L' _ _ => F5
      rename News g' L' _ _ => N5
      rename y.cps.toList < x.cps.toList => hlt
      exact ⟨_, by omega, _, _, _, _, _, _, _, rfl, fr_of F5 frb_lo, N5, P.upper hA hm1 hm2 ey (decide_eq_true hlt), rfl⟩
    · (repeat ((fail_if_success (with_reducible show Exists _)); (first | (k_unfold; (try dsimp only)) | (walk1; (try dsimp only)) | (dsimp only; walk1))))
      rename Fr g' L' _ _ => F5
      rename News g' L' _ _ => N5
      rename ¬ (y.cps.toList < x.cps.toList) => hlt
      exact ⟨_, by omega, _, _, _, _, _, _, _, rfl, fr_of F5 frb_hi, N5, P.lower hA hm1 hm2 ey (decide_eq_false hlt), rfl⟩
  · have hlt' : lo = hi := by omega
    subst hlt'
    repeat' (first | (k_unfold; (try dsimp only)) | (walk1; (try dsimp only)) | (dsimp only; walk1))
    exact hret _ _ _ ⟨t1, by rw [P.count]⟩ (by k_asm) (by k_asm)
theorem bisr_tells (w mean mg mb) (al : Addr) (its : List Value) (xs : List Str) (hv : StrsAre its xs) (x : Str) (tx : Tok) (hA : Anti xs fun y => !ltS x y) (hn : xs.length ≤ 1000) :
    Tells w mean mg mb 30 (fun h₀ news => LCg.SrcAt h₀ al its.toArray news) [.ref al, .str x tx] (fun v => ∃ t, v = .int (xs.countP fun y => !ltS x y) t) := by
  unfold Tells
  k_fill
  intro dp un gd cn cs a ccd cl outer A₀ base h₀ L m news s Q E B F X N T hk hS hd hu hret
  (refine wpAny_call ?_); k_dflt (refine' code_def ?k1 ?k2 ?k3 ?k4 ?k5 ?kA ?kF ?kK ?k6 ?k7 ?k8 ?k9 ?kB ?_ ?c2 ?c3 ?c4 ?c5; (case kA => exact rfl); (case kF => exact rfl); (case kK => assumption); (case k1 => k_asm); (case k2 => k_asm); (case k3 => k_asm); (case k4 => k_asm); (case k5 => k_asm); (case k6 => k_is); (case k7 => k_is); (case k8 => ktr_room); (case k9 => (refine' kp_binds ?kx ?ke; (case kx => k_in); (case ke => exact fun _ => rfl))); (case c5 => decide); (case kB => exact locs rfl); (case c2 => exact rfl); (case c3 => exact rfl); (case c4 => exact rfl); k_whole); intro g' L' h' FG' F' N' B' X' T'; (try dsimp only); (try k_fold)
  have hS' : LCg.SrcAt g' al its.toArray news := hS.imp (fun h => h.at fun o e => FG'.keep _ o e) id
  have hI : ∀ {h : Heap} {m' : Str → Option Value}, Fr g' L' h m' → News g' L' h news → h.IsList al its.toArray := fun F N => hS'.list F.keep N
  have hI1 := hI F' N'
  (repeat ((fail_if_success (with_reducible show wpAny _ _ (exec (Stmt.While _ _ _ _) _) _ _ _)); (first | (k_unfold; (try dsimp only)) | (walk1; (try dsimp only)) | (dsimp only; walk1))))
  rename Fr g' L' _ _ => F1
  rename News g' L' _ _ => N1
  have hlen : its.toArray.size = xs.length := by rw [List.size_toArray]; exact StrsAre.length (by assumption)
  have F2 := fr_of F1 (frb_start (n := xs.length) (by first | rfl | (rw [← hlen])))
  clear F1 hI1
  refine wpAny_While (codeAny_whileLoop (fun n s' => ∃ lo hi t1 t2 mid h' tk', s' = { s with heap := h', toks := tk' } ∧ Fr g' L' h' (frb al x tx lo t1 hi t2 mid) ∧ News g' L' h' news ∧ Parts xs (fun y => !ltS x y) lo hi ∧ n = hi - lo) ?turn xs.length
    ⟨0, xs.length, _, _, _, _, _, rfl, F2, N1, Parts.start xs _, rfl⟩)
  rintro n s' ⟨lo, hi, t1, t2, mid, h', tk', rfl, F3, N3, P, rfl⟩
  have hP1 := P.1
  have hP2 := P.2.1
  (repeat ((fail_if_success (with_reducible show wpAny _ _ (binaryOp _ _ _) _ _ _)); (first | (k_unfold; (try dsimp only)) | (walk1; (try dsimp only)) | (dsimp only; walk1))))
  · have hlt' : lo < hi := by omega
    have hm1 : lo ≤ (lo + hi) / 2 := by omega
    have hm2 : (lo + hi) / 2 < hi := by omega
    (repeat ((fail_if_success (with_reducible show wpAny _ _ (storeName _ _ _) _ _ _)); (first | (k_unfold; (try dsimp only)) | (walk1; (try dsimp only)) | (dsimp only; walk1))))
    rw [half]
    (repeat ((fail_if_success (with_reducible show wpAny _ _ (subscriptTail _ _ _ _) _ _ _)); (first | (k_unfold; (try dsimp only)) | (walk1; (try dsimp only)) | (dsimp only; walk1))))
    rename Fr g' L' _ _ => F4
    rename News g' L' _ _ => N4
    have hv' : StrsAre its xs := by assumption
    obtain ⟨y, ty, ey, ev⟩ := strs_get hv' (i := (lo + hi) / 2) (by omega)
    refine item_at (hI F4 N4) (by omega) (by omega) (by rw [Int.toNat_natCast]; exact ev) ?_
    (repeat ((fail_if_success (with_reducible show Exists _)); (first | (k_unfold; (try dsimp only)) | (walk1; (try dsimp only)) | (dsimp only; walk1))))
    · rename Fr g' L' _ _ => F5
      rename News g' L' _ _ => N5
      rename x.cps.toList < y.cps.toList => hlt
      exact ⟨_, by omega, _, _, _, _, _, _, _, rfl, fr_of F5 frb_hi, N5, P.lower hA hm1 hm2 ey (by rw [ltS, decide_eq_true hlt]; rfl), rfl⟩
    · (repeat ((fail_if_success (with_reducible show Exists _)); (first | (k_unfold; (try dsimp only)) | (walk1; (try dsimp only)) | (dsimp only; walk1))))
      rename Fr g' L' _ _ => F5
      rename News g' L' _ _ => N5
      rename ¬ (x.cps.toList < y.cps.toList) => hlt
      exact ⟨_, by omega, _, _, _, _, _, _, _, rfl, fr_of F5 frb_lo, N5, P.upper hA hm1 hm2 ey (by rw [ltS, decide_eq_false hlt]; rfl), rfl⟩
  · have hlt' : lo = hi := by omega
    subst hlt'
    repeat' (first | (k_unfold; (try dsimp only)) | (walk1; (try dsimp only)) | (dsimp only; walk1))
    exact hret _ _ _ ⟨t1, by rw [P.count]⟩ (by k_asm) (by k_asm)
end Mine
namespace Mine
open PySem PySem.W PyProof.Rows
set_option maxRecDepth 100000
set_option maxHeartbeats 8000000
def lstOf (its : List Value) (n : Nat) : Obj := { cls := .type "list", data := .seq its.toArray n }
theorem fits_nat {k : Nat} (h : k ≤ 1000) : Builtin.List.listFitsIndex (k : Int) = true := by
  unfold Builtin.List.listFitsIndex
  simp only [Bool.and_eq_true, decide_eq_true_eq]
  omega
theorem strs_app {vs ws : List Value} {xs ys : List Str} (h : StrsAre vs xs) (h' : StrsAre ws ys) : StrsAre (vs ++ ws) (xs ++ ys) := by
  induction h with
  | nil => exact h'
  | cons y u _ ih => exact .cons y u ih
theorem strs_take {vs : List Value} {xs : List Str} (h : StrsAre vs xs) : ∀ k, StrsAre (vs.take k) (xs.take k) := by
  induction h with
  | nil => intro k; simp; exact .nil
  | cons y u _ ih => intro k; cases k with
    | zero => exact .nil
    | succ k => exact .cons y u (ih k)
theorem strs_drop {vs : List Value} {xs : List Str} (h : StrsAre vs xs) : ∀ k, StrsAre (vs.drop k) (xs.drop k) := by
  induction h with
  | nil => intro k; simp; exact .nil
  | cons y u h' ih => intro k; cases k with
    | zero => exact .cons y u h'
    | succ k => exact ih k
theorem strs_ins {vs : List Value} {xs : List Str} (h : StrsAre vs xs) (k : Nat) (hk : k ≤ xs.length) (x : Str) (t : Tok) : StrsAre (kl_ins vs (k : Int) (.str x t)) (xs.take k ++ x :: xs.drop k) := by
  have hl := StrsAre.length h
  unfold kl_ins
  rw [if_neg (by omega), Int.toNat_natCast, Nat.min_eq_left (by omega)]
  exact strs_app (strs_take h k) (.cons x t (strs_drop h k))
theorem insort_tells (w : World) (mean : ExcName → Option Value) (mg mb : Str → Option Value) (al : Addr) (its : List Value) (n : Nat) (xs : List Str) (hv : StrsAre its xs) (x : Str) (tx : Tok) (hA : Anti xs fun y => ltS y x) (hn : xs.length ≤ 100) :
  ∀ (dp un : Nat) (gd : Option (List Code)) (cn : Str) (cs : Scope) (a : Addr) (ccd : Value) (cl : List (Str × Addr)) (outer : List Env) (A₀ : Around) (base h₀ : Heap) (L : Addr) (m : Str → Option Value) (news : List (Addr × Obj)) (s : Shared)
    (Q E : Value → Shared → Prop),
    Below A₀ base outer h₀ → Fr h₀ L s.heap m → (hd.heap_39 w.params).In h₀ → News h₀ L s.heap ((al, lstOf its n) :: news) → (∀ p ∈ news, p.1 ≠ al) → Top hd.view_39 loo mean mg mb h₀ → cs.kind = .function → dp + 16 < recursionLimit → un + 96 < cLine →
    (∀ its' n' h' tk', StrsAre its' (xs.take (xs.countP fun y => ltS y x) ++ x :: xs.drop (xs.countP fun y => ltS y x)) → Fr h₀ L h' m → News h₀ L h' ((al, lstOf its' n') :: news) → Q .none { s with heap := h', toks := tk' }) →
    wpAny (model Challenge.rw_ph0065_01.row.prog w) (ktrTop dp un gd cn cs L a ccd cl outer) (call (.ref 39) [.ref al, .str x tx]) Q E s := by
  k_fill
  intro dp un gd cn cs a ccd cl outer A₀ base h₀ L m news s Q E B F X N hne T hk hd hu hret
  (refine wpAny_call ?_); k_dflt (refine' code_def ?k1 ?k2 ?k3 ?k4 ?k5 ?kA ?kF ?kK ?k6 ?k7 ?k8 ?k9 ?kB ?_ ?c2 ?c3 ?c4 ?c5; (case kA => exact rfl); (case kF => exact rfl); (case kK => assumption); (case k1 => k_asm); (case k2 => k_asm); (case k3 => k_asm); (case k4 => k_asm); (case k5 => k_asm); (case k6 => k_is); (case k7 => k_is); (case k8 => ktr_room); (case k9 => (refine' kp_binds ?kx ?ke; (case kx => k_in); (case ke => exact fun _ => rfl))); (case c5 => decide); (case kB => exact locs rfl); (case c2 => exact rfl); (case c3 => exact rfl); (case c4 => exact rfl); k_whole); intro g' L' h' FG' F' N' B' X' T'; (try dsimp only); (try k_fold)
  (repeat ((fail_if_success (with_reducible show wpAny _ _ (call (Value.ref _) _) _ _ _)); (first | (k_unfold; (try dsimp only)) | (walk1; (try dsimp only)) | (dsimp only; walk1))))
  refine tells_use (bisl4_tells w mean mg mb al its xs hv x tx _ hA (by omega)) B' F' X' N' T' rfl (Or.inr ⟨_, .head _, rfl, _, rfl⟩) (by ktr_room) (by ktr_units) ?_
  rintro r h2 tk2 ⟨t2, rfl⟩ F2 N2
  (repeat ((fail_if_success (with_reducible show wpAny _ _ (call (Value.builtin "list.insert") _) _ _ _)); (first | (k_unfold; (try dsimp only)) | (walk1; (try dsimp only)) | (dsimp only; walk1))))
  rename Fr g' L' _ _ => F3
  rename News g' L' _ _ => N3
  have hk2 : (xs.countP fun y => ltS y x) ≤ xs.length := List.countP_le_length
  have hlen := StrsAre.length hv
  refine kl_insert (its := its.toArray) (n := n) F3 N3 (fits_nat (by omega)) rfl (.head hne) (by show its.length ≤ _; unfold sizeLine; omega) ?_
  intro h4 F4 N4
  repeat' (first | (k_unfold; (try dsimp only)) | (walk1; (try dsimp only)) | (dsimp only; walk1))
  exact hret _ _ _ _ (strs_ins hv _ hk2 x tx) (by k_asm) (by k_asm)
end Mine
namespace Mine
open PySem PySem.W PyProof.Rows
set_option maxRecDepth 100000
set_option maxHeartbeats 8000000
/-- .. that leaves all that stood, whatever it was -/
def TellsK (w : World) (mean : ExcName → Option Value) (mg mb : Str → Option Value) (f : Addr) (pre : Heap → Prop) (vs : List Value) (R : Value → Prop) : Prop :=
  ∀ (dp un : Nat) (gd : Option (List Code)) (cn : Str) (cs : Scope) (a : Addr) (ccd : Value) (cl : List (Str × Addr)) (outer : List Env) (A₀ : Around) (base h₀ : Heap) (L : Addr) (m : Str → Option Value) (s : Shared)
    (Q E : Value → Shared → Prop),
    Below A₀ base outer h₀ → Fr h₀ L s.heap m → (hd.heap_39 w.params).In h₀ → Top hd.view_39 loo mean mg mb h₀ → cs.kind = .function → pre s.heap → dp + 8 < recursionLimit → un + 64 < cLine →
    (∀ r h' tk', R r → Fr h₀ L h' m → (∀ b o, s.heap.get? b = some o → h'.get? b = some o) → Q r { s with heap := h', toks := tk' }) →
    wpAny (model Challenge.rw_ph0065_01.row.prog w) (ktrTop dp un gd cn cs L a ccd cl outer) (call (.ref f) vs) Q E s
theorem ahead2 (w mean mg mb) (o1 o2 fl : Addr) (a0 a1 b0 b1 : Str) (t0 t1 u0 u1 : Tok) (f0 f1 : Bool) :
    TellsK w mean mg mb 79 (fun h => IsTup h o1 #[.str a0 t0, .str a1 t1] ∧ IsTup h o2 #[.str b0 u0, .str b1 u1] ∧ h.IsList fl #[.bool f0, .bool f1]) [.ref o1, .ref o2, .ref fl]
      (fun v => v = .bool (if a0 = b0 then (if a1 = b1 then false else ltS a1 b1 != f1) else ltS a0 b0 != f0)) := by
  unfold TellsK
  k_fill
  intro dp un gd cn cs a ccd cl outer A₀ base h₀ L m s Q E B F X T hk hp hd hu hret
  (refine wpAny_call ?_); k_dflt (refine' code_defG ?k1 ?k2 ?k3 ?k4 ?k5 ?kA ?kF ?kK ?k6 ?k7 ?k8 ?k9 ?kB ?_ ?c2 ?c3 ?c4 ?c5; (case kA => exact rfl); (case kF => exact rfl); (case kK => assumption); (case k1 => k_asm); (case k2 => k_asm); (case k3 => k_asm); (case k4 => exact News.nil); (case k5 => k_asm); (case k6 => k_is); (case k7 => k_is); (case k8 => ktr_room); (case k9 => first | exact BindsTo.of_eq rfl | exact binds_K (by k_in) rfl (by k_is) rfl rfl rfl); (case c5 => decide); (case kB => exact locs rfl); (case c2 => exact rfl); (case c3 => exact rfl); (case c4 => exact rfl); k_whole); intro g' L' h' FG' F' N' B' X' T' kG'; (try dsimp only); (try k_fold)
  obtain ⟨p1, p2, p3⟩ := hp
  have q1 : IsTup g' o1 #[.str a0 t0, .str a1 t1] := p1.keeps fun b o e => kG' b o e (by simp)
  have q2 : IsTup g' o2 #[.str b0 u0, .str b1 u1] := p2.keeps fun b o e => kG' b o e (by simp)
  have q3 : g'.IsList fl #[.bool f0, .bool f1] := p3.at fun o e => kG' _ o e (by simp)
  (repeat ((fail_if_success (with_reducible show wpAny _ _ (exec (Stmt.For _ _ _ _ _) _) _ _ _)); (first | (k_unfold; (try dsimp only)) | (walk1; (try dsimp only)) | (dsimp only; walk1))))
  refine For_unrF F' ?_ (by intro _; rfl)
  (repeat ((fail_if_success (with_reducible show wpAny _ _ (pyIter _) _ _ _)); (first | (k_unfold; (try dsimp only)) | (walk1; (try dsimp only)) | (dsimp only; walk1))))
  rename Fr g' L' _ _ => F1
  rename News g' L' _ _ => N1
  rename IsRange _ _ _ _ _ _ _ _ => R1
  have R2 : IsRange _ _ 0 2 1 _ _ _ := R1
  refine range_unr (n := 2) rfl F1 N1 R2 (by decide) (by decide) (fun g => ?_)
  refine Unr.succ ?_
  rintro v h1 tk1 own ⟨t, rfl⟩ hown F2 N2
  repeat' (first | (k_unfold; (try dsimp only)) | (walk1; (try dsimp only)) | (dsimp only; walk1))
  · rename Fr g' L' _ _ => F9
    rename (a0 != b0) = true => e0
    exact hret _ _ _ (by rw [if_neg (by simpa using e0)]; rfl) (by k_asm) fun b o e => F9.keep b o (kG' b o e (by simp))
  · refine Unr.succ ?_
    rintro v h3 tk3 own3 ⟨t3, rfl⟩ hown3 F4 N4
    rename (a0 != b0) = false => e0
    repeat' (first | (k_unfold; (try dsimp only)) | (walk1; (try dsimp only)) | (dsimp only; walk1))
    · rename Fr g' L' _ _ => F9
      rename (a1 != b1) = true => e1
      exact hret _ _ _ (by rw [if_pos (by simpa using e0), if_neg (by simpa using e1)]; rfl) (by k_asm) fun b o e => F9.keep b o (kG' b o e (by simp))
    · rename Fr g' L' _ _ => F9
      rename (a1 != b1) = false => e1
      exact hret _ _ _ (by rw [if_pos (by simpa using e0), if_pos (by simpa using e1)]) (by k_asm) fun b o e => F9.keep b o (kG' b o e (by simp))
theorem ahead1 (w mean mg mb) (o1 o2 fl : Addr) (a0 a1 b0 b1 : Str) (t0 t1 u0 u1 : Tok) (f0 : Bool) :
    TellsK w mean mg mb 79 (fun h => IsTup h o1 #[.str a0 t0, .str a1 t1] ∧ IsTup h o2 #[.str b0 u0, .str b1 u1] ∧ h.IsList fl #[.bool f0]) [.ref o1, .ref o2, .ref fl]
      (fun v => v = .bool (if a0 = b0 then false else ltS a0 b0 != f0)) := by
  unfold TellsK
  k_fill
  intro dp un gd cn cs a ccd cl outer A₀ base h₀ L m s Q E B F X T hk hp hd hu hret
  (refine wpAny_call ?_); k_dflt (refine' code_defG ?k1 ?k2 ?k3 ?k4 ?k5 ?kA ?kF ?kK ?k6 ?k7 ?k8 ?k9 ?kB ?_ ?c2 ?c3 ?c4 ?c5; (case kA => exact rfl); (case kF => exact rfl); (case kK => assumption); (case k1 => k_asm); (case k2 => k_asm); (case k3 => k_asm); (case k4 => exact News.nil); (case k5 => k_asm); (case k6 => k_is); (case k7 => k_is); (case k8 => ktr_room); (case k9 => first | exact BindsTo.of_eq rfl | exact binds_K (by k_in) rfl (by k_is) rfl rfl rfl); (case c5 => decide); (case kB => exact locs rfl); (case c2 => exact rfl); (case c3 => exact rfl); (case c4 => exact rfl); k_whole); intro g' L' h' FG' F' N' B' X' T' kG'; (try dsimp only); (try k_fold)
  obtain ⟨p1, p2, p3⟩ := hp
  have q1 : IsTup g' o1 #[.str a0 t0, .str a1 t1] := p1.keeps fun b o e => kG' b o e (by simp)
  have q2 : IsTup g' o2 #[.str b0 u0, .str b1 u1] := p2.keeps fun b o e => kG' b o e (by simp)
  have q3 : g'.IsList fl #[.bool f0] := p3.at fun o e => kG' _ o e (by simp)
  (repeat ((fail_if_success (with_reducible show wpAny _ _ (exec (Stmt.For _ _ _ _ _) _) _ _ _)); (first | (k_unfold; (try dsimp only)) | (walk1; (try dsimp only)) | (dsimp only; walk1))))
  refine For_unrF F' ?_ (by intro _; rfl)
  (repeat ((fail_if_success (with_reducible show wpAny _ _ (pyIter _) _ _ _)); (first | (k_unfold; (try dsimp only)) | (walk1; (try dsimp only)) | (dsimp only; walk1))))
  rename Fr g' L' _ _ => F1
  rename News g' L' _ _ => N1
  rename IsRange _ _ _ _ _ _ _ _ => R1
  have R2 : IsRange _ _ 0 1 1 _ _ _ := R1
  refine range_unr (n := 1) rfl F1 N1 R2 (by decide) (by decide) (fun g => ?_)
  refine Unr.succ ?_
  rintro v h1 tk1 own ⟨t, rfl⟩ hown F2 N2
  repeat' (first | (k_unfold; (try dsimp only)) | (walk1; (try dsimp only)) | (dsimp only; walk1))
  · rename Fr g' L' _ _ => F9
    rename (a0 != b0) = true => e0
    exact hret _ _ _ (by rw [if_neg (by simpa using e0)]; rfl) (by k_asm) fun b o e => F9.keep b o (kG' b o e (by simp))
  · rename Fr g' L' _ _ => F9
    rename (a0 != b0) = false => e0
    exact hret _ _ _ (by rw [if_pos (by simpa using e0)]) (by k_asm) fun b o e => F9.keep b o (kG' b o e (by simp))
end Mine
namespace Mine
open PySem PySem.W PyProof.Rows
set_option maxRecDepth 100000
set_option maxHeartbeats 8000000
/-- a pair of texts -/
def PairAt (h : Heap) (v : Value) (r : Str × Str) : Prop := ∃ a t u, v = .ref a ∧ IsTup h a #[.str r.1 t, .str r.2 u]
/-- what the base and the ledger say of every heap that holds both -/
def Ent (h₀ : Heap) (news : List (Addr × Obj)) (P : Heap → Prop) : Prop := ∀ h, (∀ b o, h₀.get? b = some o → h.get? b = some o) → (∀ p ∈ news, h.get? p.1 = some p.2) → P h
theorem tellsK_use {w : World} {mean : ExcName → Option Value} {mg mb : Str → Option Value} {f : Addr} {pre : Heap → Prop} {vs : List Value} {R : Value → Prop}
    {dp un : Nat} {gd : Option (List Code)} {cn : Str} {cs : Scope} {a : Addr} {ccd : Value} {cl : List (Str × Addr)} {outer : List Env} {A₀ : Around} {base h₀ : Heap} {L : Addr} {m : Str → Option Value} {s : Shared} {Q E : Value → Shared → Prop}
    (C : TellsK w mean mg mb f pre vs R) (B : Below A₀ base outer h₀) (F : Fr h₀ L s.heap m) (X : (hd.heap_39 w.params).In h₀) (T : Top hd.view_39 loo mean mg mb h₀) (hk : cs.kind = .function) (hp : pre s.heap)
    (hd : dp + 8 < recursionLimit) (hu : un + 64 < cLine) (ret : ∀ r h' tk', R r → Fr h₀ L h' m → (∀ b o, s.heap.get? b = some o → h'.get? b = some o) → Q r { s with heap := h', toks := tk' }) :
    wpAny (model Challenge.rw_ph0065_01.row.prog w) (ktrTop dp un gd cn cs L a ccd cl outer) (call (.ref f) vs) Q E s := C _ _ _ _ _ _ _ _ _ _ _ _ _ _ _ _ _ B F X T hk hp hd hu ret
theorem countP_snoc {α : Type} {p : α → Bool} {l : List α} {i : Nat} {r : α} (h : l[i]? = some r) : (l.take (i + 1)).countP p = (l.take i).countP p + (if p r = true then 1 else 0) := by
  rw [List.take_add_one, h, List.countP_append]
  cases hp : p r <;> simp [hp]
theorem news_drop2 {h₀ h : Heap} {L : Addr} {a b c : Addr × Obj} {news : List (Addr × Obj)} (N : News h₀ L h (a :: b :: c :: news)) : News h₀ L h (a :: news) := fun p hp => N p (by
  rcases List.mem_cons.mp hp with rfl | hp
  · exact .head _
  · exact .tail _ (.tail _ (.tail _ hp)))
theorem counts_tells (w : World) (mean : ExcName → Option Value) (mg mb : Str → Option Value) (rl fl rw : Addr) (its : List Value) (rs : List (Str × Str)) (r0 : Str × Str) (fv : Array Value) (P : Str × Str → Str × Str → Bool)
    (hC : ∀ (o1 o2 : Addr) (a b : Str × Str) (t0 t1 u0 u1 : Tok), TellsK w mean mg mb 79 (fun h => IsTup h o1 #[.str a.1 t0, .str a.2 t1] ∧ IsTup h o2 #[.str b.1 u0, .str b.2 u1] ∧ h.IsList fl fv) [.ref o1, .ref o2, .ref fl] (fun v => v = .bool (P a b)))
    (hl : its.length = rs.length) (hn : rs.length ≤ 100) :
  ∀ (dp un : Nat) (gd : Option (List Code)) (cn : Str) (cs : Scope) (a : Addr) (ccd : Value) (cl : List (Str × Addr)) (outer : List Env) (A₀ : Around) (base h₀ : Heap) (L : Addr) (m : Str → Option Value) (news : List (Addr × Obj)) (s : Shared)
    (Q E : Value → Shared → Prop),
    Below A₀ base outer h₀ → Fr h₀ L s.heap m → (hd.heap_39 w.params).In h₀ → News h₀ L s.heap news → Top hd.view_39 loo mean mg mb h₀ → cs.kind = .function →
    LCg.SrcAt h₀ rl its.toArray news → Ent h₀ news (fun h => (∀ (i : Nat) v r, its[i]? = some v → rs[i]? = some r → PairAt h v r) ∧ PairAt h (.ref rw) r0 ∧ h.IsList fl fv) →
    dp + 16 < recursionLimit → un + 96 < cLine →
    (∀ D h' tk' t u, Fr h₀ L h' m → News h₀ L h' ((D, ({ cls := .type "tuple", data := .seq #[.int (rs.countP fun r => P r r0) t, .int ((rs.length : Int) - (rs.countP fun r => P r0 r)) u] } : Obj)) :: news) → (∀ p ∈ news, p.1 < D) → Q (.ref D) { s with heap := h', toks := tk' }) →
    wpAny (model Challenge.rw_ph0065_01.row.prog w) (ktrTop dp un gd cn cs L a ccd cl outer) (call (.ref 84) [.ref rl, .ref rw, .ref fl]) Q E s := by
  k_fill
  intro dp un gd cn cs a ccd cl outer A₀ base h₀ L m news s Q E B F X N T hk hS hE hd hu hret
  (refine wpAny_call ?_); k_dflt (refine' code_defC ?k1 ?k2 ?k3 ?k4 ?k5 ?kA ?kF ?kK ?k6 ?k7 ?k8 ?k9 ?kB ?kD ?_ ?c2 ?c3 ?c4; (case kA => exact rfl); (case kF => exact rfl); (case kK => assumption); (case k1 => k_asm); (case k2 => k_asm); (case k3 => k_asm); (case k4 => k_asm); (case k5 => k_asm); (case k6 => k_is); (case k7 => k_is); (case k8 => ktr_room); (case k9 => first | exact BindsTo.of_eq rfl | exact binds_K (by k_in) rfl (by k_is) rfl rfl rfl); (case kB => exact rfl); (case kD => decide +kernel); (case c2 => exact rfl); (case c3 => exact rfl); (case c4 => exact rfl); k_whole); intro g' L' h' tk' cells' FG' F' N' Y' B' X' T' l1; k_cells Y'; (try simp only [List.cons_append, List.nil_append] at N'); (try dsimp only); (try k_fold)
  have hlow := l1
  have hS' : LCg.SrcAt g' rl its.toArray news := hS.imp (fun h => h.at fun o e => FG'.keep _ o e) id
  have hE' : Ent g' news (fun h => (∀ (i : Nat) v r, its[i]? = some v → rs[i]? = some r → PairAt h v r) ∧ PairAt h (.ref rw) r0 ∧ h.IsList fl fv) := fun h k q => hE h (fun b o e => k b o (FG'.keep b o e)) q
  rename News g' L' _ _ => N1
  rename_i oF oR dF dR
  have N1' : News g' L' h' ((L' + 1 + 1, oF) :: (L' + 1, oR) :: news) := N1
  have dF' : oF.data = Data.cell (some (.ref fl)) := dF
  have dR' : oR.data = Data.cell (some (.ref rw)) := dR
  (repeat ((fail_if_success (with_reducible show wpAny _ _ (eval (Expr.ListComp _ _ _ _) _) _ _ _)); (first | (k_unfold; (try dsimp only)) | (walk1; (try dsimp only)) | (dsimp only; walk1))))
  refine LCt.ListComp_T F' (by with_unfolding_all rfl) (by decide) (by rfl) (by decide) (by rfl) ?_
  walk1
  have mem2 : ∀ p ∈ news, p ∈ (L' + 1 + 1, oF) :: (L' + 1, oR) :: news := fun p hp => .tail _ (.tail _ hp)
  have hS2 : LCg.SrcAt g' rl its.toArray ((L' + 1 + 1, oF) :: (L' + 1, oR) :: news) := hS'.imp id fun ⟨o, ho, h⟩ => ⟨o, mem2 _ ho, h⟩
  refine Or.inl ⟨rl, its.toArray, _, rfl, rfl, F', N1', hS2, by rw [List.size_toArray]; unfold sizeLine; omega, ?_⟩
  rintro s₂ ⟨g2, rfl⟩
  refine compRestT_inv (fun i ys nw => nw = (L' + 1 + 1, oF) :: (L' + 1, oR) :: news ∧ ys.length = (rs.take i).countP fun r => P r r0) ?fin ?step _ _ _ _ (Nat.zero_add _) ⟨rfl, rfl⟩
  case step =>
    rintro i ys nw hi ⟨rfl, hy⟩ v I oI C oC D m₂ h tk E' hv hC' hx F2 N2 off ne
    k_fold
    have hv2 : its[i]? = some v := by simpa using hv
    obtain ⟨r, hr⟩ : ∃ r, rs[i]? = some r := ⟨_, List.getElem?_eq_getElem (by rw [List.size_toArray] at hi; omega)⟩
    obtain ⟨e1, e2, e3⟩ := hE' h F2.keep fun p hp => (N2 p (.tail _ (.tail _ (.tail _ (.tail _ (.tail _ hp)))))).1
    obtain ⟨a1, t1, u1, rfl, p1⟩ := e1 i v r hv2 hr
    obtain ⟨a2, t2, u2, q2, p2⟩ := e2
    cases q2
    (repeat ((fail_if_success (with_reducible show wpAny _ _ (call (Value.ref _) _) _ _ _)); (first | (k_unfold; (try dsimp only)) | (walk1; (try dsimp only)) | (dsimp only; walk1))))
    refine tellsK_use (hC a1 rw r r0 t1 u1 t2 u2) B' F2 X' T' rfl ⟨p1, p2, e3⟩ (by ktr_room) (by ktr_units) ?_
    rintro x h3 tk3 rfl F3 k3
    have N3 := News.grown N2 k3
    cases hP : P r r0 with
    | true =>
      repeat' (first | (k_unfold; (try dsimp only)) | (walk1; (try dsimp only)) | (dsimp only; walk1))
      exact LCg.CompEnd.intro F3 N3 _ (fun p hp => hp) off hS2 ⟨rfl, by rw [List.length_append, hy, countP_snoc hr, if_pos hP]; rfl⟩
    | false =>
      repeat' (first | (k_unfold; (try dsimp only)) | (walk1; (try dsimp only)) | (dsimp only; walk1))
      exact LCg.CompEnd.intro F3 N3 _ (fun p hp => hp) off hS2 ⟨rfl, by rw [hy, countP_snoc hr, if_neg (by rw [hP]; decide)]; rfl⟩
  case fin =>
    rintro ys nw ⟨rfl, hy⟩
    intro D h9 tk9 F9 N9 off9
    rw [List.size_toArray, hl, List.take_length] at hy
    have hle : (rs.countP fun r => P r r0) ≤ rs.length := List.countP_le_length
    (repeat ((fail_if_success (with_reducible show wpAny _ _ (call (Value.builtin _) _) _ _ _)); (first | (k_unfold; (try dsimp only)) | (walk1; (try dsimp only)) | (dsimp only; walk1))))
    refine len_list (News.isList N9 (.head _)) (by rw [List.size_toArray]; omega) ?_
    rw [List.size_toArray, hy]
    (repeat ((fail_if_success (with_reducible show wpAny _ _ (eval (Expr.ListComp _ _ _ _) _) _ _ _)); (first | (k_unfold; (try dsimp only)) | (walk1; (try dsimp only)) | (dsimp only; walk1))))
    rename Fr g' L' _ _ => F4
    rename News g' L' _ _ => N4
    replace N4 : News g' L' _ ((L' + 1 + 1, oF) :: (L' + 1, oR) :: news) := cb_drop N4 fun p hp => .tail _ hp
    refine LCt.ListComp_T F4 (by with_unfolding_all rfl) (by decide) (by rfl) (by decide) (by rfl) ?_
    walk1
    refine Or.inl ⟨rl, its.toArray, _, rfl, rfl, F4, N4, hS2, by rw [List.size_toArray]; unfold sizeLine; omega, ?_⟩
    rintro s₂ ⟨g2, rfl⟩
    refine compRestT_inv (fun i ys nw => nw = (L' + 1 + 1, oF) :: (L' + 1, oR) :: news ∧ ys.length = (rs.take i).countP fun r => P r0 r) ?fin2 ?step2 _ _ _ _ (Nat.zero_add _) ⟨rfl, rfl⟩
    case step2 =>
      rintro i ys nw hi ⟨rfl, hy⟩ v I oI C oC D m₂ h tk E' hv hC' hx F2 N2 off ne
      k_fold
      have hv2 : its[i]? = some v := by simpa using hv
      obtain ⟨r, hr⟩ : ∃ r, rs[i]? = some r := ⟨_, List.getElem?_eq_getElem (by rw [List.size_toArray] at hi; omega)⟩
      obtain ⟨e1, e2, e3⟩ := hE' h F2.keep fun p hp => (N2 p (.tail _ (.tail _ (.tail _ (.tail _ (.tail _ hp)))))).1
      obtain ⟨a1, t1, u1, rfl, p1⟩ := e1 i v r hv2 hr
      obtain ⟨a2, t2, u2, q2, p2⟩ := e2
      cases q2
      (repeat ((fail_if_success (with_reducible show wpAny _ _ (call (Value.ref _) _) _ _ _)); (first | (k_unfold; (try dsimp only)) | (walk1; (try dsimp only)) | (dsimp only; walk1))))
      refine tellsK_use (hC rw a1 r0 r t2 u2 t1 u1) B' F2 X' T' rfl ⟨p2, p1, e3⟩ (by ktr_room) (by ktr_units) ?_
      rintro x h3 tk3 rfl F3 k3
      have N3 := News.grown N2 k3
      cases hP : P r0 r with
      | true =>
        repeat' (first | (k_unfold; (try dsimp only)) | (walk1; (try dsimp only)) | (dsimp only; walk1))
        exact LCg.CompEnd.intro F3 N3 _ (fun p hp => hp) off hS2 ⟨rfl, by rw [List.length_append, hy, countP_snoc hr, if_pos hP]; rfl⟩
      | false =>
        repeat' (first | (k_unfold; (try dsimp only)) | (walk1; (try dsimp only)) | (dsimp only; walk1))
        exact LCg.CompEnd.intro F3 N3 _ (fun p hp => hp) off hS2 ⟨rfl, by rw [hy, countP_snoc hr, if_neg (by rw [hP]; decide)]; rfl⟩
    case fin2 =>
      rintro ys2 nw ⟨rfl, hy2⟩
      intro D2 h8 tk8 F8 N8 off8
      rw [List.size_toArray, hl, List.take_length] at hy2
      have hle2 : (rs.countP fun r => P r0 r) ≤ rs.length := List.countP_le_length
      (repeat ((fail_if_success (with_reducible show wpAny _ _ (call (Value.builtin _) _) _ _ _)); (first | (k_unfold; (try dsimp only)) | (walk1; (try dsimp only)) | (dsimp only; walk1))))
      refine len_list (News.isList N8 (.head _)) (by rw [List.size_toArray]; omega) ?_
      rw [List.size_toArray, hy2]
      (repeat ((fail_if_success (with_reducible show wpAny _ _ (call (Value.builtin _) _) _ _ _)); (first | (k_unfold; (try dsimp only)) | (walk1; (try dsimp only)) | (dsimp only; walk1))))
      rename Fr g' L' _ _ => F6
      rename News g' L' _ _ => N6
      replace N6 : News g' L' _ ((L' + 1 + 1, oF) :: (L' + 1, oR) :: news) := cb_drop N6 fun p hp => .tail _ hp
      refine len_list (hS2.list F6.keep N6) (by rw [List.size_toArray]; omega) ?_
      rw [List.size_toArray, hl]
      repeat' (first | (k_unfold; (try dsimp only)) | (walk1; (try dsimp only)) | (dsimp only; walk1))
      rename News h₀ L _ _ => kN
      rename _ ∧ _ ∧ AllLt _ _ => hD
      exact hret _ _ _ _ _ (by k_asm) (news_drop2 kN) fun p hp => Nat.lt_trans (hlow p hp) (by omega)
end Mine
namespace Mine
open PySem PySem.W PyProof.Rows
set_option maxRecDepth 100000
theorem pairs_ok (f : Bool) : PairsOk (pairsOf f) := by
  cases f
  · exact .cons (by decide) (by decide) (.cons (by decide) (by decide) .nil)
  · exact .cons (by decide) (by decide) (.cons (by decide) (by decide) (.cons (by decide) (by decide) (.cons (by decide) (by decide) (.cons (by decide) (by decide) (.cons (by decide) (by decide) (.cons (by decide) (by decide) (.cons (by decide) (by decide) .nil)))))))
theorem undo_ok (f : Bool) : PairsOk (undoOf f) := by
  cases f
  · exact .cons (by decide) (by decide) (.cons (by decide) (by decide) .nil)
  · exact .cons (by decide) (by decide) (.cons (by decide) (by decide) (.cons (by decide) (by decide) (.cons (by decide) (by decide) (.cons (by decide) (by decide) (.cons (by decide) (by decide) (.cons (by decide) (by decide) (.cons (by decide) (by decide) .nil)))))))
/-- every c gives way to q -/
def sub (c : Nat) (q l : List Nat) : List Nat := l.flatMap fun k => if k = c then q else [k]
theorem sub_append (c : Nat) (q a b : List Nat) : sub c q (a ++ b) = sub c q a ++ sub c q b := List.flatMap_append
theorem sub_free {c : Nat} {q : List Nat} : ∀ {l : List Nat}, c ∉ l → sub c q l = l
  | [], _ => rfl
  | k :: r, h => by
    have h1 : k ≠ c := fun e => h (e ▸ List.mem_cons_self ..)
    unfold sub
    rw [List.flatMap_cons, if_neg h1]
    exact congrArg (k :: ·) (sub_free fun m => h (List.mem_cons_of_mem _ m))
theorem sub_self (c : Nat) (q : List Nat) : sub c q [c] = q := by
  unfold sub
  rw [List.flatMap_cons, if_pos rfl, List.flatMap_nil, List.append_nil]
theorem sub_join (c : Nat) (q : List Nat) : ∀ parts : List Str, (∀ p ∈ parts, c ∉ p.cps.toList) → sub c q (Str.join (st [c]) parts).cps.toList = (Str.join (st q) parts).cps.toList
  | [], _ => rfl
  | [p], h => sub_free (h p (List.mem_singleton.mpr rfl))
  | p :: p2 :: r, h => by
    have ih := sub_join c q (p2 :: r) fun a ha => h a (List.mem_cons_of_mem _ ha)
    rw [join_cons, join_cons, cps_app, cps_app, cps_app, cps_app, sub_append, sub_append, ih, sub_free (h p (List.mem_cons_self ..)), st_cps, st_cps, sub_self]
theorem put_sub (c : Nat) (q l : List Nat) : Txt.join (st q) (Txt.split (st l) (st [c])) = st (sub c q l) := by
  have hf : ∀ p ∈ Txt.split (st l) (st [c]), c ∉ p.cps.toList := StrLaws.split_free (st l) c
  rw [txt_join, st_of (Str.join _ _), ← sub_join c q _ hf, StrLaws.join_split, st_cps]
def put (c d k : Nat) : Nat := if k = c then d else k
theorem sub_map (c d : Nat) (l : List Nat) : sub c [d] l = l.map (put c d) := by
  unfold sub
  induction l with
  | nil => rfl
  | cons k r ih =>
    rw [List.flatMap_cons, List.map_cons, ih]
    unfold put
    split <;> rfl
theorem put_map (c d : Nat) (l : List Nat) : Txt.join (st [d]) (Txt.split (st l) (st [c])) = st (l.map (put c d)) := by rw [put_sub, sub_map]
theorem s_a : Str.ofString "a" = st [97] := by decide
theorem s_b : Str.ofString "b" = st [98] := by decide
theorem s_c : Str.ofString "c" = st [99] := by decide
theorem s_d : Str.ofString "d" = st [100] := by decide
theorem s_x : Str.ofString "!" = st [33] := by decide
theorem repl_app4 (x a b c d : Str) (r : List Str) : repl x (a :: b :: c :: d :: r) = repl (repl x [a, b, c, d]) r := by
  simp only [repl]
theorem repl_app12 (x a b c d e f g h i j k l : Str) (r : List Str) : repl x (a :: b :: c :: d :: e :: f :: g :: h :: i :: j :: k :: l :: r) = repl (repl x [a, b, c, d, e, f, g, h, i, j, k, l]) r := by
  simp only [repl]
theorem repl_exch {l : List Nat} (h : ∀ c ∈ l, 97 ≤ c ∧ c ≤ 100) : repl (st l) exch = st (l.map swap) := by
  unfold exch
  rw [s_a, s_b, s_c, s_d, s_x]
  unfold repl
  rw [put_map]
  unfold repl
  rw [put_map]
  unfold repl
  rw [put_map]
  unfold repl
  rw [put_map]
  unfold repl
  rw [put_map]
  unfold repl
  rw [put_map]
  unfold repl
  simp only [List.map_map]
  congr 1
  refine List.map_congr_left fun c hc => ?_
  have := h c hc
  rcases (by omega : c = 97 ∨ c = 98 ∨ c = 99 ∨ c = 100) with rfl | rfl | rfl | rfl <;> rfl
theorem swap_swap {l : List Nat} (h : ∀ c ∈ l, 97 ≤ c ∧ c ≤ 100) : (l.map swap).map swap = l := by
  rw [List.map_map]
  conv => rhs; rw [← List.map_id l]
  refine List.map_congr_left fun c hc => ?_
  have := h c hc
  show 197 - (197 - c) = c
  omega
theorem swap_mem {l : List Nat} (h : ∀ c ∈ l, 97 ≤ c ∧ c ≤ 100) : ∀ c ∈ l.map swap, 97 ≤ c ∧ c ≤ 100 := by
  intro c hc
  obtain ⟨d, hd, rfl⟩ := List.mem_map.mp hc
  have := h d hd
  unfold swap
  omega
theorem repl_up (l : List Nat) (h : Signs l) : repl (st l ++ Str.ofString "!") pairsUp = st (up l) := by
  unfold pairsUp
  rw [s_a, ac_st, s_x, ab_st, st_append]
  unfold repl
  rw [put_sub]
  unfold repl
  rw [put_sub]
  unfold repl
  congr 1
  have h33 : 33 ∉ sub 97 [97, 99] l := fun hc => by
    unfold sub at hc
    obtain ⟨d, hd, hc⟩ := List.mem_flatMap.mp hc
    have := h.2 d hd
    split at hc
    · simp at hc
    · have := List.mem_singleton.mp hc; omega
  rw [sub_append, sub_append, sub_free h33]
  rfl
theorem repl_pairs (f : Bool) (l : List Nat) (h : Signs l) : repl (st l ++ Str.ofString "!") (pairsOf f) = st (code f l) := by
  cases f
  · exact repl_up l h
  · have e : repl (st l ++ Str.ofString "!") (pairsOf true) = repl (repl (st l ++ Str.ofString "!") pairsUp) exch := repl_app4 _ _ _ _ _ exch
    rw [e, repl_up l h, repl_exch (esc_mem h.2)]
    rfl
def four : List Nat := [97, 98, 99, 100]
def longer (ls : List (List Nat)) : List (List Nat) := ls.flatMap fun l => four.map fun c => c :: l
/-- the 85 texts of the law -/
def texts : List (List Nat) := [[]] ++ longer [[]] ++ longer (longer [[]]) ++ longer (longer (longer [[]]))
theorem four_mem {c : Nat} (h : 97 ≤ c ∧ c ≤ 100) : c ∈ four := by
  rcases (by omega : c = 97 ∨ c = 98 ∨ c = 99 ∨ c = 100) with rfl | rfl | rfl | rfl <;> decide
theorem longer_mem {c : Nat} {l : List Nat} {ls : List (List Nat)} (h : 97 ≤ c ∧ c ≤ 100) (hl : l ∈ ls) : c :: l ∈ longer ls := List.mem_flatMap.mpr ⟨l, hl, List.mem_map.mpr ⟨c, four_mem h, rfl⟩⟩
theorem texts_mem {l : List Nat} (h : Signs l) : l ∈ texts := by
  obtain ⟨hl, hc⟩ := h
  unfold texts
  match l with
  | [] => exact List.mem_append_left _ (List.mem_append_left _ (List.mem_append_left _ (.head _)))
  | [a] => exact List.mem_append_left _ (List.mem_append_left _ (List.mem_append_right _ (longer_mem (hc a (.head _)) (.head _))))
  | [a, b] => exact List.mem_append_left _ (List.mem_append_right _ (longer_mem (hc a (.head _)) (longer_mem (hc b (.tail _ (.head _))) (.head _))))
  | [a, b, c] => exact List.mem_append_right _ (longer_mem (hc a (.head _)) (longer_mem (hc b (.tail _ (.head _))) (longer_mem (hc c (.tail _ (.tail _ (.head _)))) (.head _))))
  | _ :: _ :: _ :: _ :: _ => simp at hl
theorem repl_back_all : ∀ l ∈ texts, repl (st (up l)) back = st (l ++ [33]) := by decide +kernel
theorem repl_back (l : List Nat) (h : Signs l) : repl (st (up l)) back = st l ++ Str.ofString "!" := by
  rw [repl_back_all l (texts_mem h), s_x, st_append]
theorem repl_undo (f : Bool) (l : List Nat) (h : Signs l) : repl (st (code f l)) (undoOf f) = st l ++ Str.ofString "!" := by
  cases f
  · exact repl_back l h
  · have e : repl (st (code true l)) (undoOf true) = repl (repl (st ((up l).map swap)) exch) back := repl_app12 _ _ _ _ _ _ _ _ _ _ _ _ _ back
    rw [e, repl_exch (swap_mem (esc_mem h.2)), swap_swap (esc_mem h.2), repl_back l h]
theorem code_length (f : Bool) (l : List Nat) : (code f l).length ≤ 2 * l.length + 2 := by
  have := up_length l
  unfold code
  split
  · rw [List.length_map]; exact this
  · exact this
end Mine
namespace Mine
open PySem PySem.W PyProof.Rows PySem.Spec
set_option maxRecDepth 100000
section
variable {prog : Program} {w : World} {A : Around} {E : Value → Shared → Prop} {s : Shared} {Q : Value → Shared → Prop} {D D2 : Addr}
theorem ne_strs2 {a b : Str} {t u t' u' : Tok} (h1 : s.heap.IsList D [Value.str a t, Value.str b u].toArray) (h2 : s.heap.IsList D2 [Value.str a t', Value.str b u'].toArray) (ka : PyData.canLay0 (.str a) = true) (kb : PyData.canLay0 (.str b) = true) (hu : A.units + 64 < cLine)
    (h : Q (.bool false) s) : wpAny (model prog w) A (compareOp .NotEq (.ref D) (.ref D2)) Q E s := by
  have hs : SeqAt.shaped (.list [.str a, .str b]) = true := by
    simp [SeqAt.shaped, PyData.canLay0, PyData.canLayAll0, PyData.depth, PyData.depthAll] at ka kb ⊢
    exact ⟨ka, kb⟩
  refine ne_dataH (reads_newData h1 (.cons (.str a t) (.cons (.str b u) .nil))) (reads_newData h2 (.cons (.str a t') (.cons (.str b u') .nil))) hs hs hu ?_
  simpa [PyData.eqv, PyData.eqvAll] using h
theorem ne_ints2 {a b : Int} {t u t' u' : Tok} (h1 : IsTup s.heap D [Value.int a t, Value.int b u].toArray) (h2 : IsTup s.heap D2 [Value.int a t', Value.int b u'].toArray) (hu : A.units + 64 < cLine)
    (h : Q (.bool false) s) : wpAny (model prog w) A (compareOp .NotEq (.ref D) (.ref D2)) Q E s := by
  have hs : SeqAt.shaped (.tuple [.int a, .int b]) = true := by
    simp [SeqAt.shaped, PyData.canLay0, PyData.canLayAll0, PyData.depth, PyData.depthAll]
  refine ne_dataH (reads_newDataT h1 (.cons (.int a t) (.cons (.int b u) .nil))) (reads_newDataT h2 (.cons (.int a t') (.cons (.int b u') .nil))) hs hs hu ?_
  simpa [PyData.eqv, PyData.eqvAll] using h
theorem lay_st {l : List Nat} (h : ∀ c ∈ l, c < 128) : PyData.canLay0 (.str (st l)) = true := by
  show (st l).cps.all (· < 0x110000) = true
  unfold st
  rw [List.all_toArray]
  exact List.all_eq_true.mpr fun c hc => decide_eq_true (by have := h c hc; omega)
theorem code_small (f : Bool) {l : List Nat} (h : Signs l) : ∀ c ∈ code f l, c < 128 := by
  have hm := esc_mem h.2
  intro c hc
  unfold code at hc
  split at hc
  · obtain ⟨d, hd, rfl⟩ := List.mem_map.mp hc
    have := hm d hd
    unfold swap
    omega
  · have := hm c hc
    omega
end
end Mine
namespace Mine
open PySem PySem.W PyProof.Rows
set_option maxRecDepth 100000
set_option maxHeartbeats 8000000
def lawB : List Stmt := match Challenge.pw_ph0065_01.main.body with
  | [_, _, _, _, _, _, _, _, _, _, _, _, _, .FunctionDef _ _ b _ _ _ _ _ _ _] => b
  | _ => []
def lawSc : Scope := match Challenge.pw_ph0065_01.main.body with
  | [_, _, _, _, _, _, _, _, _, _, _, _, _, .FunctionDef _ _ _ _ _ _ sc _ _ _] => sc
  | _ => default
def body1 : List Stmt := match lawB with
  | [_, _, _, _, .For _ _ b _ _, _, _] => b
  | _ => []
def body2 : List Stmt := match lawB with
  | [_, _, _, _, _, .For _ _ b _ _, _] => b
  | _ => []
def tupS (x : Str) (t : Tok) (y : Str) (u : Tok) : Obj := { cls := .type "tuple", data := .seq #[.str x t, .str y u] }
def falO (f0 f1 : Bool) : Obj := { cls := .type "list", data := .seq #[.bool f0, .bool f1] }
def whole (f0 f1 : Bool) (r : List Nat × List Nat) : Str := st (code f0 r.1 ++ code f1 r.2)
def sel {α : Type} (i : Nat) (a b : α) : α := if i = 0 then a else b
/-- the columns of a row as they are written -/
def cols (f0 f1 : Bool) (x y : List Nat) (i : Nat) : Str := if i = 0 then st (code f0 x) else st (code f1 y)
theorem strs2 {its : List Value} {a b : Str} (h : StrsAre its [a, b]) : ∃ q1 q2, its = [.str a q1, .str b q2] := by
  cases h with | cons _ q1 h => cases h with | cons _ q2 h => cases h; exact ⟨q1, q2, rfl⟩
theorem off1_mem {D : Addr} : ∀ {l : List (Addr × Obj)}, LCg.Off1 D l → ∀ p ∈ l, p.1 ≠ D
  | [], _, _, h => nomatch h
  | _ :: _, x, p, h => by
    rcases List.mem_cons.mp h with rfl | h
    · exact x.1
    · exact off1_mem x.2 p h
theorem strs4 {its : Array Value} {a b c d : Str} (h : StrsAre its.toList [a, b, c, d]) : ∃ q1 q2 q3 q4, its = #[.str a q1, .str b q2, .str c q3, .str d q4] := by
  obtain ⟨l⟩ := its
  change StrsAre l _ at h
  cases h with | cons _ q1 h => cases h with | cons _ q2 h => cases h with | cons _ q3 h => cases h with | cons _ q4 h => cases h; exact ⟨q1, q2, q3, q4, rfl⟩
theorem strs16 {its : Array Value} {za zb zc zd ze zf zg zh zi zj zk zl zm zn zo zp : Str} (h : StrsAre its.toList [za, zb, zc, zd, ze, zf, zg, zh, zi, zj, zk, zl, zm, zn, zo, zp]) : ∃ q1 q2 q3 q4 q5 q6 q7 q8 q9 q10 q11 q12 q13 q14 q15 q16, its = #[.str za q1, .str zb q2, .str zc q3, .str zd q4, .str ze q5, .str zf q6, .str zg q7, .str zh q8, .str zi q9, .str zj q10, .str zk q11, .str zl q12, .str zm q13, .str zn q14, .str zo q15, .str zp q16] := by
  obtain ⟨l⟩ := its
  change StrsAre l _ at h
  cases h with | cons _ q1 h => cases h with | cons _ q2 h => cases h with | cons _ q3 h => cases h with | cons _ q4 h => cases h with | cons _ q5 h => cases h with | cons _ q6 h => cases h with | cons _ q7 h => cases h with | cons _ q8 h => cases h with | cons _ q9 h => cases h with | cons _ q10 h => cases h with | cons _ q11 h => cases h with | cons _ q12 h => cases h with | cons _ q13 h => cases h with | cons _ q14 h => cases h with | cons _ q15 h => cases h with | cons _ q16 h => cases h; exact ⟨q1, q2, q3, q4, q5, q6, q7, q8, q9, q10, q11, q12, q13, q14, q15, q16, rfl⟩
local macro_rules | `(tactic| k_all) => `(tactic| assumption)
local macro_rules | `(tactic| k_mem) => `(tactic| assumption)
theorem turn1 (w : World) (mean : ExcName → Option Value) (mg mb : Str → Option Value) (h₀ h : Heap) (L fa sh fl a I : Addr) (cd : Value) (s : Shared) (tk : Nat) (m : Str → Option Value) (px : Pos) (E : Value → Shared → Prop)
    (oI oC oR oF : Obj) (vC vR : Option Value) (its : List Value) (n : Nat) (xs : List Str) (Tl : List (Addr × Obj)) (f0 f1 : Bool) (x y : List Nat) (t u : Tok)
    (K0 : Below callerA h₀ [] h₀) (KX : (hd.heap_39 w.params).In h₀) (T : Top hd.view_39 loo mean mg mb h₀)
    (F : Fr h₀ L h m) (N : News h₀ L h ((I, oI) :: (L + 1 + 1 + 1, oC) :: (L + 1 + 1, oR) :: (sh, lstOf its n) :: Tl)) (hm : m (Str.ofString "shelf") = some (.ref sh))
    (dC : oC.data = .cell vC) (dR : oR.data = .cell vR) (dF : oF.data = .cell (some (.ref fl))) (mF : (L + 1, oF) ∈ Tl) (mfl : (fl, falO f0 f1) ∈ Tl) (ma : (a, tupS (st x) t (st y) u) ∈ Tl)
    (n1 : L + 1 + 1 + 1 ≠ I) (n2 : L + 1 + 1 ≠ I) (n3 : sh ≠ I) (n4 : sh ≠ L + 1 + 1 + 1) (n5 : sh ≠ L + 1 + 1) (k1 : ∀ p ∈ Tl, p.1 ≠ I) (k2 : ∀ p ∈ Tl, p.1 ≠ L + 1 + 1 + 1) (k3 : ∀ p ∈ Tl, p.1 ≠ L + 1 + 1) (k4 : ∀ p ∈ Tl, p.1 ≠ sh)
    (hx : Signs x) (hy : Signs y) (hv : StrsAre its xs) (hA : Anti xs fun z => ltS z (whole f0 f1 (x, y))) (hn : xs.length ≤ 50) :
    wpAny (model Challenge.rw_ph0065_01.row.prog w) (callerA.deeper (envOfC (Str.ofString "law") lawSc L fa cd)) (assign (.Name (Str.ofString "row") px) (envOfC (Str.ofString "law") lawSc L fa cd) (.ref a))
      (fun _ s₂ => wpAny (model Challenge.rw_ph0065_01.row.prog w) (callerA.deeper (envOfC (Str.ofString "law") lawSc L fa cd)) (execs body1 (envOfC (Str.ofString "law") lawSc L fa cd))
        (fun f s₃ => f = .next ∧ ∃ h' tk' oC' oR' its' n', s₃ = { s with heap := h', toks := tk' } ∧ Fr h₀ L h' m ∧ News h₀ L h' ((I, oI) :: (L + 1 + 1 + 1, oC') :: (L + 1 + 1, oR') :: (sh, lstOf its' n') :: Tl) ∧ (∃ v, oC'.data = .cell v) ∧ (∃ v, oR'.data = .cell v) ∧
          StrsAre its' (xs.take (xs.countP fun z => ltS z (whole f0 f1 (x, y))) ++ whole f0 f1 (x, y) :: xs.drop (xs.countP fun z => ltS z (whole f0 f1 (x, y))))) E s₂) E { s with heap := h, toks := tk } := by
  unfold body1 lawSc lawB Challenge.pw_ph0065_01
  dsimp only
  revert KX; k_fill; intro KX
  replace n1 := neN n1
  replace n2 := neN n2
  replace n3 := neN n3
  replace n4 := neN n4
  replace n5 := neN n5
  (try k_unmd); (try k_fold)
  (repeat ((fail_if_success (with_reducible show wpAny _ _ (exec _ _) _ _ _)); (first | (k_unfold; (try dsimp only)) | walk1 | (dsimp only; walk1))))
  rename_i h1 o1 F1 N1 dR1
  refine wpAny_Assign_Name ?_ (by with_unfolding_all rfl)
  refine LCg.ListComp_U F1 (by with_unfolding_all rfl) (by decide) (by rfl) (by decide) (by rfl) ?_
  repeat ((fail_if_success (with_reducible show LCg.CompSrc _ _ _ _ _ _ _ _ _ _ _ _ _ _)); (first | walk1 | (dsimp only; walk1)))
  rename Fr _ _ _ _ => F2
  rename News _ _ _ _ => N2
  rename IsRange _ _ _ _ _ _ _ _ => R2
  refine LCg.CompSrc.range (n := 2) rfl F2 N2 R2 (by decide) (by decide) (by decide) (fun g => ?_)
  refine compRest_inv (fun i ys nw => nw = (I, oI) :: (L + 1 + 1 + 1, oC) :: (L + 1 + 1, o1) :: (sh, lstOf its n) :: Tl ∧ StrsAre ys ((List.range i).map (cols f0 f1 x y))) ?fin ?step _ _ _ _ (Nat.zero_add _) ⟨rfl, .nil⟩
  case step =>
    rintro i ys nw hi ⟨rfl, hys⟩ v I2 oI2 C oK D m₂ h3 tk3 E' ⟨tv, rfl⟩ hC hxk F3 N3 off ne
    k_fold
    have hta : IsTup h3 a #[.str (st x) t, .str (st y) u] := ⟨_, (N3 (a, tupS (st x) t (st y) u) (.tail _ (.tail _ (.tail _ (.tail _ (.tail _ (.tail _ (.tail _ ma)))))))).1, rfl, _, rfl⟩
    have hlf : h3.IsList fl #[.bool f0, .bool f1] := ⟨_, (N3 (fl, falO f0 f1) (.tail _ (.tail _ (.tail _ (.tail _ (.tail _ (.tail _ (.tail _ mfl)))))))).1, rfl, _, rfl⟩
    have hi2 : i = 0 ∨ i = 1 := by omega
    have e1 : [Value.str (st x) t, Value.str (st y) u][(0 + (i : Int)).toNat]? = some (.str (st (sel i x y)) (sel i t u)) := by rcases hi2 with rfl | rfl <;> rfl
    have e2 : [Value.bool f0, Value.bool f1][(0 + (i : Int)).toNat]? = some (.bool (sel i f0 f1)) := by rcases hi2 with rfl | rfl <;> rfl
    have hsx : Signs (sel i x y) := by rcases hi2 with rfl | rfl <;> assumption
    have ecol : cols f0 f1 x y i = st (code (sel i f0 f1) (sel i x y)) := by rcases hi2 with rfl | rfl <;> rfl
    generalize sel i x y = xi at e1 hsx ecol
    generalize sel i t u = ti at e1
    generalize sel i f0 f1 = fi at e2 ecol
    (repeat ((fail_if_success (with_reducible show wpAny _ _ (subscriptTail _ _ _ _) _ _ _)); (first | (k_unfold; (try dsimp only)) | walk1 | (dsimp only; walk1))))
    refine item_tupleT hta (by omega) (by omega) (StrLaws.seqIndex_nonneg (by omega) (by show 0 + (i : Int) < 2; omega)) e1 ?_
    (repeat ((fail_if_success (with_reducible show wpAny _ _ (binaryOp _ _ _) _ _ _)); (first | (k_unfold; (try dsimp only)) | walk1 | (dsimp only; walk1))))
    have hxl := hsx.1
    refine add_str ?_ (by rw [st_length]; show _ + 1 ≤ _; unfold sizeLine; omega)
    intro t5 tk5
    (repeat ((fail_if_success (with_reducible show wpAny _ _ (subscriptTail _ _ _ _) _ _ _)); (first | (k_unfold; (try dsimp only)) | walk1 | (dsimp only; walk1))))
    refine item_at hlf (by omega) (by omega) e2 ?_
    (repeat ((fail_if_success (with_reducible show wpAny _ _ (call (Value.ref _) _) _ _ _)); (first | (k_unfold; (try dsimp only)) | walk1 | (dsimp only; walk1))))
    refine tellsNew_use (pairs_tells w mean mg mb fi) K0 F3 KX N3 T rfl trivial (by ktr_room) (by ktr_units) ?_
    rintro D6 o6 h6 tk6 ⟨its6, n6, rfl, hs6⟩ F6 N6 hne6
    cases fi with
    | false =>
      obtain ⟨q1, q2, q3, q4, rfl⟩ := strs4 hs6
      (repeat ((fail_if_success (with_reducible show wpAny _ _ (call (Value.ref _) _) _ _ _)); (first | (k_unfold; (try dsimp only)) | walk1 | (dsimp only; walk1))))
      rename Fr _ _ _ _ => F7
      rename News _ _ _ _ => N7
      refine tells_use (repl4 w mean mg mb _ _ _ _ _ _ (pairsOf false) hs6 (pairs_ok false) (by rw [Str.length_append, st_length]; show _ + 1 ≤ 16; omega)) K0 F7 KX N7 T rfl trivial (by ktr_room) (by ktr_units) ?_
      rintro r8 h8 tk8 ⟨t8, rfl⟩ F8 N8
      rw [repl_pairs false xi hsx, ← ecol]
      k_unfold
      refine LCg.CompEnd.intro F8 N8 _ (fun p hp => ?_) off trivial ⟨rfl, ?_⟩
      · exact .tail _ hp
      · rw [List.range_succ, List.map_append]
        exact strs_snoc hys _ _
    | true =>
      obtain ⟨q1, q2, q3, q4, q5, q6, q7, q8, q9, q10, q11, q12, q13, q14, q15, q16, rfl⟩ := strs16 hs6
      (repeat ((fail_if_success (with_reducible show wpAny _ _ (call (Value.ref _) _) _ _ _)); (first | (k_unfold; (try dsimp only)) | walk1 | (dsimp only; walk1))))
      rename Fr _ _ _ _ => F7
      rename News _ _ _ _ => N7
      refine tells_use (repl16 w mean mg mb _ _ _ _ _ _ _ _ _ _ _ _ _ _ _ _ _ _ (pairsOf true) hs6 (pairs_ok true) (by rw [Str.length_append, st_length]; show _ + 1 ≤ 16; omega)) K0 F7 KX N7 T rfl trivial (by ktr_room) (by ktr_units) ?_
      rintro r8 h8 tk8 ⟨t8, rfl⟩ F8 N8
      rw [repl_pairs true xi hsx, ← ecol]
      k_unfold
      refine LCg.CompEnd.intro F8 N8 _ (fun p hp => ?_) off trivial ⟨rfl, ?_⟩
      · exact .tail _ hp
      · rw [List.range_succ, List.map_append]
        exact strs_snoc hys _ _
  case fin =>
    rintro ys nw ⟨rfl, hys⟩
    intro D h4 tk4 F4 N4 off4
    have hD := off1_mem off4
    have d1 : L + 1 + 1 + 1 ≠ D := hD (L + 1 + 1 + 1, oC) (.tail _ (.head _))
    have d2 : L + 1 + 1 ≠ D := hD (L + 1 + 1, o1) (.tail _ (.tail _ (.head _)))
    have d3 : sh ≠ D := hD (sh, lstOf its n) (.tail _ (.tail _ (.tail _ (.head _))))
    have d4 : ∀ p ∈ Tl, p.1 ≠ D := fun p hp => hD p (.tail _ (.tail _ (.tail _ (.tail _ hp))))
    replace d1 := neN d1
    replace d2 := neN d2
    replace d3 := neN d3
    clear hD
    obtain ⟨c0, c1, rfl⟩ := strs2 (a := st (code f0 x)) (b := st (code f1 y)) hys
    (repeat ((fail_if_success (with_reducible show wpAny _ _ (eval (Expr.ListComp _ _ _ _) _) _ _ _)); (first | (k_unfold; (try dsimp only)) | walk1 | (dsimp only; walk1))))
    rename_i h5 o2 F5 N5 dC2
    refine LCg.ListComp_U F5 (by with_unfolding_all rfl) (by decide) (by rfl) (by decide) (by rfl) ?_
    repeat ((fail_if_success (with_reducible show LCg.CompSrc _ _ _ _ _ _ _ _ _ _ _ _ _ _)); (first | walk1 | (dsimp only; walk1)))
    rename Fr _ _ _ _ => F6
    rename News _ _ _ _ => N6
    rename IsRange _ _ _ _ _ _ _ _ => R6
    refine LCg.CompSrc.range (n := 2) rfl F6 N6 R6 (by decide) (by decide) (by decide) (fun g => ?_)
    refine compRest_inv (fun i ys nw => nw = (D, LCg.lst [.str (st (code f0 x)) c0, .str (st (code f1 y)) c1]) :: (I, oI) :: (L + 1 + 1 + 1, o2) :: (L + 1 + 1, o1) :: (sh, lstOf its n) :: Tl ∧ StrsAre ys ((List.range i).map (cols f0 f1 x y))) ?fin2 ?step2 _ _ _ _ (Nat.zero_add _) ⟨rfl, .nil⟩
    case step2 =>
      rintro i ys nw hi ⟨rfl, hys⟩ v I2 oI2 C oK D' m₂ h3 tk3 E' ⟨tv, rfl⟩ hC hxk F3 N3 off ne
      k_fold
      have hta : IsTup h3 a #[.str (st x) t, .str (st y) u] := ⟨_, (N3 (a, tupS (st x) t (st y) u) (.tail _ (.tail _ (.tail _ (.tail _ (.tail _ (.tail _ (.tail _ (.tail _ ma))))))))).1, rfl, _, rfl⟩
      have hlf : h3.IsList fl #[.bool f0, .bool f1] := ⟨_, (N3 (fl, falO f0 f1) (.tail _ (.tail _ (.tail _ (.tail _ (.tail _ (.tail _ (.tail _ (.tail _ mfl))))))))).1, rfl, _, rfl⟩
      have hi2 : i = 0 ∨ i = 1 := by omega
      have e1 : [Value.str (st x) t, Value.str (st y) u][(0 + (i : Int)).toNat]? = some (.str (st (sel i x y)) (sel i t u)) := by rcases hi2 with rfl | rfl <;> rfl
      have e2 : [Value.bool f0, Value.bool f1][(0 + (i : Int)).toNat]? = some (.bool (sel i f0 f1)) := by rcases hi2 with rfl | rfl <;> rfl
      have hsx : Signs (sel i x y) := by rcases hi2 with rfl | rfl <;> assumption
      have ecol : cols f0 f1 x y i = st (code (sel i f0 f1) (sel i x y)) := by rcases hi2 with rfl | rfl <;> rfl
      generalize sel i x y = xi at e1 hsx ecol
      generalize sel i t u = ti at e1
      generalize sel i f0 f1 = fi at e2 ecol
      (repeat ((fail_if_success (with_reducible show wpAny _ _ (subscriptTail _ _ _ _) _ _ _)); (first | (k_unfold; (try dsimp only)) | walk1 | (dsimp only; walk1))))
      refine item_tupleT hta (by omega) (by omega) (StrLaws.seqIndex_nonneg (by omega) (by show 0 + (i : Int) < 2; omega)) e1 ?_
      (repeat ((fail_if_success (with_reducible show wpAny _ _ (subscriptTail _ _ _ _) _ _ _)); (first | (k_unfold; (try dsimp only)) | walk1 | (dsimp only; walk1))))
      refine item_at hlf (by omega) (by omega) e2 ?_
      (repeat ((fail_if_success (with_reducible show wpAny _ _ (call (Value.ref _) _) _ _ _)); (first | (k_unfold; (try dsimp only)) | walk1 | (dsimp only; walk1))))
      refine tells_use (written_tells w mean mg mb xi hsx ti fi) K0 F3 KX N3 T rfl trivial (by ktr_room) (by ktr_units) ?_
      rintro r8 h8 tk8 ⟨t8, rfl⟩ F8 N8
      rw [← ecol]
      k_unfold
      refine LCg.CompEnd.intro F8 N8 _ (fun p hp => hp) off trivial ⟨rfl, ?_⟩
      rw [List.range_succ, List.map_append]
      exact strs_snoc hys _ _
    case fin2 =>
      rintro ys nw ⟨rfl, hys2⟩
      intro D2 h7 tk7 F7 N7 off7
      obtain ⟨c2, c3, rfl⟩ := strs2 (a := st (code f0 x)) (b := st (code f1 y)) hys2
      have hD := off1_mem off7
      have g1 : D ≠ D2 := hD (D, _) (.head _)
      have g2 : L + 1 + 1 + 1 ≠ D2 := hD (L + 1 + 1 + 1, o2) (.tail _ (.tail _ (.head _)))
      (repeat ((fail_if_success (with_reducible show wpAny _ _ (compareOp _ _ _) _ _ _)); (first | (k_unfold; (try dsimp only)) | walk1 | (dsimp only; walk1))))
      refine ne_strs2 (News.isList N7 (.tail _ (.head _))) (News.isList N7 (.head _)) (lay_st (code_small f0 hx)) (lay_st (code_small f1 hy)) (by ktr_units) ?_
      replace N7 := cb_drop N7 (news := (D, LCg.lst [.str (st (code f0 x)) c0, .str (st (code f1 y)) c1]) :: (I, oI) :: (L + 1 + 1 + 1, o2) :: (L + 1 + 1, o1) :: (sh, lstOf its n) :: Tl) fun p hp => .tail _ hp
      clear hD g1 g2 off7 hys2
      (repeat ((fail_if_success (with_reducible show wpAny _ _ (eval (Expr.ListComp _ _ _ _) _) _ _ _)); (first | (k_unfold; (try dsimp only)) | walk1 | (dsimp only; walk1))))
      refine LCg.ListComp_U F7 (by with_unfolding_all rfl) (by decide) (by rfl) (by decide) (by rfl) ?_
      repeat ((fail_if_success (with_reducible show LCg.CompSrc _ _ _ _ _ _ _ _ _ _ _ _ _ _)); (first | walk1 | (dsimp only; walk1)))
      rename Fr _ _ _ _ => F9
      rename News _ _ _ _ => N9
      rename IsRange _ _ _ _ _ _ _ _ => R9
      refine LCg.CompSrc.range (n := 2) rfl F9 N9 R9 (by decide) (by decide) (by decide) (fun g => ?_)
      refine compRest_inv (fun i ys nw => nw = (D, LCg.lst [.str (st (code f0 x)) c0, .str (st (code f1 y)) c1]) :: (I, oI) :: (L + 1 + 1 + 1, o2) :: (L + 1 + 1, o1) :: (sh, lstOf its n) :: Tl ∧ StrsAre ys ((List.range i).map fun i => st (sel i x y) ++ Str.ofString "!")) ?fin3 ?step3 _ _ _ _ (Nat.zero_add _) ⟨rfl, .nil⟩
      case step3 =>
        rintro i ys nw hi ⟨rfl, hys⟩ v I2 oI2 C oK D' m₂ h3 tk3 E' ⟨tv, rfl⟩ hC hxk F3 N3 off ne
        k_fold
        have hlc : h3.IsList D [Value.str (st (code f0 x)) c0, Value.str (st (code f1 y)) c1].toArray := News.isList N3 (.tail _ (.tail _ (.tail _ (.head _))))
        have hlf : h3.IsList fl #[.bool f0, .bool f1] := ⟨_, (N3 (fl, falO f0 f1) (.tail _ (.tail _ (.tail _ (.tail _ (.tail _ (.tail _ (.tail _ (.tail _ mfl))))))))).1, rfl, _, rfl⟩
        have hi2 : i = 0 ∨ i = 1 := by omega
        have e1 : [Value.str (st (code f0 x)) c0, Value.str (st (code f1 y)) c1][(0 + (i : Int)).toNat]? = some (.str (st (code (sel i f0 f1) (sel i x y))) (sel i c0 c1)) := by rcases hi2 with rfl | rfl <;> rfl
        have e2 : [Value.bool f0, Value.bool f1][(0 + (i : Int)).toNat]? = some (.bool (sel i f0 f1)) := by rcases hi2 with rfl | rfl <;> rfl
        have hsx : Signs (sel i x y) := by rcases hi2 with rfl | rfl <;> assumption
        have hgoal : StrsAre (ys ++ [Value.str (st (sel i x y) ++ Str.ofString "!") 0]) ((List.range (i + 1)).map fun i => st (sel i x y) ++ Str.ofString "!") ∧ ∀ q, StrsAre (ys ++ [Value.str (st (sel i x y) ++ Str.ofString "!") q]) ((List.range (i + 1)).map fun i => st (sel i x y) ++ Str.ofString "!") := by
          rw [List.range_succ, List.map_append]
          exact ⟨strs_snoc hys _ _, fun q => strs_snoc hys _ _⟩
        replace hgoal := hgoal.2
        generalize sel i x y = xi at e1 hsx hgoal
        generalize sel i c0 c1 = ti at e1
        generalize sel i f0 f1 = fi at e1 e2
        have hxl := hsx.1
        have hcl := code_length fi xi
        (repeat ((fail_if_success (with_reducible show wpAny _ _ (subscriptTail _ _ _ _) _ _ _)); (first | (k_unfold; (try dsimp only)) | walk1 | (dsimp only; walk1))))
        refine item_at hlc (by omega) (by omega) e1 ?_
        (repeat ((fail_if_success (with_reducible show wpAny _ _ (subscriptTail _ _ _ _) _ _ _)); (first | (k_unfold; (try dsimp only)) | walk1 | (dsimp only; walk1))))
        refine item_at hlf (by omega) (by omega) e2 ?_
        (repeat ((fail_if_success (with_reducible show wpAny _ _ (call (Value.ref _) _) _ _ _)); (first | (k_unfold; (try dsimp only)) | walk1 | (dsimp only; walk1))))
        refine tellsNew_use (undoing_tells w mean mg mb fi) K0 F3 KX N3 T rfl trivial (by ktr_room) (by ktr_units) ?_
        rintro D6 o6 h6 tk6 ⟨its6, n6, rfl, hs6⟩ F6 N6 hne6
        cases fi with
        | false =>
          obtain ⟨q1, q2, q3, q4, rfl⟩ := strs4 hs6
          (repeat ((fail_if_success (with_reducible show wpAny _ _ (call (Value.ref _) _) _ _ _)); (first | (k_unfold; (try dsimp only)) | walk1 | (dsimp only; walk1))))
          rename Fr _ _ _ _ => F7
          rename News _ _ _ _ => N7
          refine tells_use (repl4 w mean mg mb _ _ _ _ _ _ (undoOf false) hs6 (undo_ok false) (by rw [st_length]; omega)) K0 F7 KX N7 T rfl trivial (by ktr_room) (by ktr_units) ?_
          rintro r8 h8 tk8 ⟨t8, rfl⟩ F8 N8
          rw [repl_undo false xi hsx]
          k_unfold
          exact LCg.CompEnd.intro F8 N8 _ (fun p hp => .tail _ hp) off trivial ⟨rfl, hgoal _⟩
        | true =>
          obtain ⟨q1, q2, q3, q4, q5, q6, q7, q8, q9, q10, q11, q12, q13, q14, q15, q16, rfl⟩ := strs16 hs6
          (repeat ((fail_if_success (with_reducible show wpAny _ _ (call (Value.ref _) _) _ _ _)); (first | (k_unfold; (try dsimp only)) | walk1 | (dsimp only; walk1))))
          rename Fr _ _ _ _ => F7
          rename News _ _ _ _ => N7
          refine tells_use (repl16 w mean mg mb _ _ _ _ _ _ _ _ _ _ _ _ _ _ _ _ _ _ (undoOf true) hs6 (undo_ok true) (by rw [st_length]; omega)) K0 F7 KX N7 T rfl trivial (by ktr_room) (by ktr_units) ?_
          rintro r8 h8 tk8 ⟨t8, rfl⟩ F8 N8
          rw [repl_undo true xi hsx]
          k_unfold
          exact LCg.CompEnd.intro F8 N8 _ (fun p hp => .tail _ hp) off trivial ⟨rfl, hgoal _⟩
      case fin3 =>
        rintro ys nw ⟨rfl, hys3⟩
        intro D3 h10 tk10 F10 N10 off10
        obtain ⟨c4, c5, rfl⟩ := strs2 (a := st x ++ Str.ofString "!") (b := st y ++ Str.ofString "!") hys3
        have hta : IsTup h10 a #[.str (st x) t, .str (st y) u] := ⟨_, (N10 (a, tupS (st x) t (st y) u) (.tail _ (.tail _ (.tail _ (.tail _ (.tail _ (.tail _ ma))))))).1, rfl, _, rfl⟩
        have hxl : (st x).length + (Str.ofString "!").length ≤ sizeLine := by rw [st_length]; have := hx.1; show _ + 1 ≤ _; unfold sizeLine; omega
        have hyl : (st y).length + (Str.ofString "!").length ≤ sizeLine := by rw [st_length]; have := hy.1; show _ + 1 ≤ _; unfold sizeLine; omega
        (repeat ((fail_if_success (with_reducible show wpAny _ _ (binaryOp _ _ _) _ _ _)); (first | (k_unfold; (try dsimp only)) | walk1 | (dsimp only; walk1))))
        refine add_str ?_ hxl
        intro t11 tk11
        (repeat ((fail_if_success (with_reducible show wpAny _ _ (binaryOp _ _ _) _ _ _)); (first | (k_unfold; (try dsimp only)) | walk1 | (dsimp only; walk1))))
        refine add_str ?_ hyl
        intro t12 tk12
        (repeat ((fail_if_success (with_reducible show wpAny _ _ (newList _) _ _ _)); (first | (k_unfold; (try dsimp only)) | walk1 | (dsimp only; walk1))))
        refine newList_K F10 N10 ?_
        intro D4 h13 F13 N13 l13
        have lx : ∀ c ∈ x ++ [33], c < 128 := fun c hc => by
          rcases List.mem_append.mp hc with hc | hc
          · have := hx.2 c hc; omega
          · rw [List.mem_singleton.mp hc]; decide
        have ly : ∀ c ∈ y ++ [33], c < 128 := fun c hc => by
          rcases List.mem_append.mp hc with hc | hc
          · have := hy.2 c hc; omega
          · rw [List.mem_singleton.mp hc]; decide
        have ebang : Str.ofString "!" = st [33] := by decide
        (repeat ((fail_if_success (with_reducible show wpAny _ _ (compareOp _ _ _) _ _ _)); (first | (k_unfold; (try dsimp only)) | walk1 | (dsimp only; walk1))))
        refine ne_strs2 (News.isList N13 (.tail _ (.head _))) (News.isList N13 (.head _)) (by rw [ebang, st_append]; exact lay_st lx) (by rw [ebang, st_append]; exact lay_st ly) (by ktr_units) ?_
        replace N13 := cb_drop N13 (news := (D, LCg.lst [.str (st (code f0 x)) c0, .str (st (code f1 y)) c1]) :: (I, oI) :: (L + 1 + 1 + 1, o2) :: (L + 1 + 1, o1) :: (sh, lstOf its n) :: Tl) fun p hp => .tail _ (.tail _ hp)
        have hlc : h13.IsList D [Value.str (st (code f0 x)) c0, Value.str (st (code f1 y)) c1].toArray := News.isList N13 (.head _)
        (repeat ((fail_if_success (with_reducible show wpAny _ _ (eval (Expr.Name (Str.ofString "shelf") _) _) _ _ _)); (first | (k_unfold; (try dsimp only)) | walk1 | (dsimp only; walk1))))
        refine nameX_L F13 hm ?_
        (repeat ((fail_if_success (with_reducible show wpAny _ _ (subscriptTail _ _ _ _) _ _ _)); (first | (k_unfold; (try dsimp only)) | walk1 | (dsimp only; walk1))))
        refine item_at hlc (by decide) (by decide) rfl ?_
        (repeat ((fail_if_success (with_reducible show wpAny _ _ (subscriptTail _ _ _ _) _ _ _)); (first | (k_unfold; (try dsimp only)) | walk1 | (dsimp only; walk1))))
        refine item_at hlc (by decide) (by decide) rfl ?_
        have hc0 := code_length f0 x
        have hc1 := code_length f1 y
        (repeat ((fail_if_success (with_reducible show wpAny _ _ (binaryOp _ _ _) _ _ _)); (first | (k_unfold; (try dsimp only)) | walk1 | (dsimp only; walk1))))
        refine add_str ?_ (by rw [st_length, st_length]; have := hx.1; have := hy.1; unfold sizeLine; omega)
        intro t14 tk14
        rw [st_append]
        (repeat ((fail_if_success (with_reducible show wpAny _ _ (call (Value.ref _) _) _ _ _)); (first | (k_unfold; (try dsimp only)) | walk1 | (dsimp only; walk1))))
        have N14 : News h₀ L h13 ((sh, lstOf its n) :: (I, oI) :: (L + 1 + 1 + 1, o2) :: (L + 1 + 1, o1) :: Tl) := cb_drop N13 fun p hp => by
          rcases List.mem_cons.mp hp with rfl | hp
          · exact .tail _ (.tail _ (.tail _ (.tail _ (.head _))))
          rcases List.mem_cons.mp hp with rfl | hp
          · exact .tail _ (.head _)
          rcases List.mem_cons.mp hp with rfl | hp
          · exact .tail _ (.tail _ (.head _))
          rcases List.mem_cons.mp hp with rfl | hp
          · exact .tail _ (.tail _ (.tail _ (.head _)))
          · exact .tail _ (.tail _ (.tail _ (.tail _ (.tail _ hp))))
        have hne14 : ∀ p ∈ (I, oI) :: (L + 1 + 1 + 1, o2) :: (L + 1 + 1, o1) :: Tl, p.1 ≠ sh := fun p hp => by
          rcases List.mem_cons.mp hp with rfl | hp
          · exact Ne.symm n3
          rcases List.mem_cons.mp hp with rfl | hp
          · exact Ne.symm n4
          rcases List.mem_cons.mp hp with rfl | hp
          · exact Ne.symm n5
          · exact k4 p hp
        refine insort_tells w mean mg mb sh its n xs hv (whole f0 f1 (x, y)) t14 hA (by omega) _ _ _ _ _ _ _ _ _ _ _ _ _ _ _ _ _ _ K0 F13 KX N14 hne14 T rfl (by ktr_room) (by ktr_units) ?_
        intro its' n' h15 tk15 hs15 F15 N15
        refine wpAny_execs_nil ?_
        refine ⟨rfl, h15, tk15, o2, o1, its', n', rfl, F15, cb_drop N15 fun p hp => ?_, ⟨_, dC2⟩, ⟨_, dR1⟩, hs15⟩
        rcases List.mem_cons.mp hp with rfl | hp
        · exact .tail _ (.head _)
        rcases List.mem_cons.mp hp with rfl | hp
        · exact .tail _ (.tail _ (.head _))
        rcases List.mem_cons.mp hp with rfl | hp
        · exact .tail _ (.tail _ (.tail _ (.head _)))
        rcases List.mem_cons.mp hp with rfl | hp
        · exact .head _
        · exact .tail _ (.tail _ (.tail _ (.tail _ hp)))
end Mine
namespace Mine
open PySem PySem.W PyProof.Rows
set_option maxRecDepth 100000
set_option maxHeartbeats 8000000
local macro_rules | `(tactic| k_all) => `(tactic| assumption)
local macro_rules | `(tactic| k_mem) => `(tactic| assumption)
def pairD (r : List Nat × List Nat) : Str × Str := (st r.1, st r.2)
def aheadP2 (f0 f1 : Bool) (a b : Str × Str) : Bool := if a.1 = b.1 then (if a.2 = b.2 then false else ltS a.2 b.2 != f1) else ltS a.1 b.1 != f0
def aheadP1 (f0 : Bool) (a b : Str × Str) : Bool := if a.1 = b.1 then false else ltS a.1 b.1 != f0
/-- the last sign one greater -/
def beyond (l : List Nat) : List Nat := l.dropLast ++ [l.getLastD 0 + 1]
theorem code_pos (f : Bool) (l : List Nat) : 1 ≤ (code f l).length := by
  unfold code up
  split
  · rw [List.length_map, List.length_append]; simp
  · rw [List.length_append]; simp
theorem code_ne (f : Bool) (l : List Nat) : code f l ≠ [] := fun e => by have := code_pos f l; rw [e] at this; cases this
theorem code_last (f : Bool) (l : List Nat) : ∃ r k, code f l = r ++ [k] ∧ 97 ≤ k ∧ k ≤ 100 := by
  cases f
  · exact ⟨esc l ++ [97], 98, by show esc l ++ [97, 98] = _; simp, by decide, by decide⟩
  · exact ⟨(esc l ++ [97]).map swap, 99, by show (esc l ++ [97, 98]).map swap = _; simp [swap], by decide, by decide⟩
theorem last_le (f : Bool) {l : List Nat} (h : Signs l) : 97 ≤ (code f l).getLastD 0 ∧ (code f l).getLastD 0 ≤ 100 := by
  obtain ⟨r, k, e, h1, h2⟩ := code_last f l
  rw [e, List.getLastD_concat]
  exact ⟨h1, h2⟩
theorem item_last {l : List Nat} (h : l ≠ []) : (Txt.item (st l) (-1)).cps.getD 0 0 = l.getLastD 0 := by
  obtain ⟨r, k, rfl⟩ : ∃ r k, l = r ++ [k] := ⟨l.dropLast, l.getLast h, (List.dropLast_concat_getLast h).symm⟩
  rw [List.getLastD_concat]
  have e : Txt.charAt (st (r ++ [k])) (-1) = some k := by
    refine StrLaws.at_neg (by decide) (by rw [st_length, List.length_append]; simp; omega) ?_
    rw [st_length, List.length_append]
    have : (-1 + ((r.length + [k].length : Nat) : Int)).toNat = r.length := by simp; omega
    rw [this]
    simp [st]
  unfold Txt.item
  rw [e]
  rfl
theorem slice_init {l : List Nat} (h : l ≠ []) : Txt.slice (st l) none (some (-1)) = st l.dropLast := by
  obtain ⟨r, k, rfl⟩ : ∃ r k, l = r ++ [k] := ⟨l.dropLast, l.getLast h, (List.dropLast_concat_getLast h).symm⟩
  rw [List.dropLast_concat]
  have e := StrLaws.sliceText_to_neg (x := st (r ++ [k])) (j := -1) (by decide) (by rw [st_length, List.length_append]; simp; omega)
  refine Eq.trans e ?_
  have : (-1 + ((st (r ++ [k])).length : Int) - 0).toNat = r.length := by rw [st_length, List.length_append]; simp; omega
  rw [this, st_cps, List.drop_zero, List.take_left]
  rfl
theorem chr_st (k : Nat) : (⟨#[((k : Int) + 1).toNat]⟩ : Str) = st [k + 1] := by
  have e : ((k : Int) + 1).toNat = k + 1 := by omega
  rw [e]; rfl
theorem turn2 (w : World) (mean : ExcName → Option Value) (mg mb : Str → Option Value) (h₀ h : Heap) (L fa sh fl a I rl : Addr) (cd : Value) (s : Shared) (tk : Nat) (m : Str → Option Value) (px : Pos) (E : Value → Shared → Prop)
    (oI oC oR oF : Obj) (vR : Option Value) (its : List Value) (n : Nat) (xs : List Str) (Tl : List (Addr × Obj)) (f0 f1 : Bool) (x y : List Nat) (t u : Tok) (ys : List Value) (rs : List (List Nat × List Nat))
    (K0 : Below callerA h₀ [] h₀) (KX : (hd.heap_39 w.params).In h₀) (T : Top hd.view_39 loo mean mg mb h₀)
    (F : Fr h₀ L h m) (N : News h₀ L h ((I, oI) :: (L + 1 + 1 + 1, oC) :: (L + 1 + 1, oR) :: (sh, lstOf its n) :: Tl)) (hm : m (Str.ofString "shelf") = some (.ref sh)) (hmr : m (Str.ofString "rows") = some (.ref rl))
    (dR : oR.data = .cell vR) (dF : oF.data = .cell (some (.ref fl))) (mF : (L + 1, oF) ∈ Tl) (mfl : (fl, falO f0 f1) ∈ Tl) (ma : (a, tupS (st x) t (st y) u) ∈ Tl) (mrl : (rl, lstOf ys 0) ∈ Tl)
    (hrow : ∀ (i : Nat) v r, ys[i]? = some v → (rs.map pairD)[i]? = some r → ∃ a t u, v = .ref a ∧ (a, tupS r.1 t r.2 u) ∈ Tl) (hyl : ys.length = rs.length) (hrl : rs.length ≤ 50)
    (n1 : L + 1 + 1 + 1 ≠ I) (n2 : L + 1 + 1 ≠ I) (n3 : sh ≠ I) (n4 : sh ≠ L + 1 + 1 + 1) (n5 : sh ≠ L + 1 + 1) (k1 : ∀ p ∈ Tl, p.1 ≠ I) (k2 : ∀ p ∈ Tl, p.1 ≠ L + 1 + 1 + 1) (k3 : ∀ p ∈ Tl, p.1 ≠ L + 1 + 1) (k4 : ∀ p ∈ Tl, p.1 ≠ sh)
    (hx : Signs x) (hy : Signs y) (hv : StrsAre its xs) (hn : xs.length ≤ 50)
    (hA1 : Anti xs fun z => ltS z (whole f0 f1 (x, y))) (hA2 : Anti xs fun z => !ltS (whole f0 f1 (x, y)) z) (hA3 : Anti xs fun z => ltS z (st (code f0 x))) (hA4 : Anti xs fun z => ltS z (st (beyond (code f0 x))))
    (c1 : xs.countP (fun z => ltS z (whole f0 f1 (x, y))) = (rs.map pairD).countP fun r => aheadP2 f0 f1 r (st x, st y))
    (c2 : ((xs.countP fun z => !ltS (whole f0 f1 (x, y)) z : Nat) : Int) = ((rs.map pairD).length : Int) - ((rs.map pairD).countP fun r => aheadP2 f0 f1 (st x, st y) r : Nat))
    (c3 : xs.countP (fun z => ltS z (st (code f0 x))) = (rs.map pairD).countP fun r => aheadP1 f0 r (st x, st y))
    (c4 : ((xs.countP fun z => ltS z (st (beyond (code f0 x))) : Nat) : Int) = ((rs.map pairD).length : Int) - ((rs.map pairD).countP fun r => aheadP1 f0 (st x, st y) r : Nat)) :
    wpAny (model Challenge.rw_ph0065_01.row.prog w) (callerA.deeper (envOfC (Str.ofString "law") lawSc L fa cd)) (assign (.Name (Str.ofString "row") px) (envOfC (Str.ofString "law") lawSc L fa cd) (.ref a))
      (fun _ s₂ => wpAny (model Challenge.rw_ph0065_01.row.prog w) (callerA.deeper (envOfC (Str.ofString "law") lawSc L fa cd)) (execs body2 (envOfC (Str.ofString "law") lawSc L fa cd))
        (fun f s₃ => f = .next ∧ ∃ h' tk' m' oR', s₃ = { s with heap := h', toks := tk' } ∧ Fr h₀ L h' m' ∧ News h₀ L h' ((I, oI) :: (L + 1 + 1 + 1, oC) :: (L + 1 + 1, oR') :: (sh, lstOf its n) :: Tl) ∧ (∃ v, oR'.data = .cell v) ∧
          m' (Str.ofString "shelf") = some (.ref sh) ∧ m' (Str.ofString "rows") = some (.ref rl)) E s₂) E { s with heap := h, toks := tk } := by
  unfold body2 lawSc lawB Challenge.pw_ph0065_01
  dsimp only
  revert KX; k_fill; intro KX
  replace n1 := neN n1
  replace n2 := neN n2
  replace n3 := neN n3
  replace n4 := neN n4
  replace n5 := neN n5
  (try k_unmd); (try k_fold)
  (repeat ((fail_if_success (with_reducible show wpAny _ _ (exec _ _) _ _ _)); (first | (k_unfold; (try dsimp only)) | walk1 | (dsimp only; walk1))))
  rename_i h1 o1 F1 N1 dR1
  have hta : ∀ {h : Heap} {nw}, News h₀ L h nw → (∀ p ∈ Tl, p ∈ nw) → IsTup h a #[.str (st x) t, .str (st y) u] := fun N hs => ⟨_, (N (a, tupS (st x) t (st y) u) (hs _ ma)).1, rfl, _, rfl⟩
  have hlf : ∀ {h : Heap} {nw}, News h₀ L h nw → (∀ p ∈ Tl, p ∈ nw) → h.IsList fl #[.bool f0, .bool f1] := fun N hs => ⟨_, (N (fl, falO f0 f1) (hs _ mfl)).1, rfl, _, rfl⟩
  have sub4 : ∀ p ∈ Tl, p ∈ (I, oI) :: (L + 1 + 1 + 1, oC) :: (L + 1 + 1, o1) :: (sh, lstOf its n) :: Tl := fun p hp => .tail _ (.tail _ (.tail _ (.tail _ hp)))
  have hta1 := hta N1 sub4
  have hlf1 := hlf N1 sub4
  (repeat ((fail_if_success (with_reducible show wpAny _ _ (subscriptTail _ _ _ _) _ _ _)); (first | (k_unfold; (try dsimp only)) | walk1 | (dsimp only; walk1))))
  refine item_tupleT hta1 (by decide) (by decide) (StrLaws.seqIndex_nonneg (by decide) (by show (0 : Int) < 2; decide)) rfl ?_
  (repeat ((fail_if_success (with_reducible show wpAny _ _ (subscriptTail _ _ _ _) _ _ _)); (first | (k_unfold; (try dsimp only)) | walk1 | (dsimp only; walk1))))
  refine item_at hlf1 (by decide) (by decide) rfl ?_
  (repeat ((fail_if_success (with_reducible show wpAny _ _ (call (Value.ref _) _) _ _ _)); (first | (k_unfold; (try dsimp only)) | walk1 | (dsimp only; walk1))))
  rename Fr _ _ _ _ => F2
  rename News _ _ _ _ => N2
  refine tells_use (written_tells w mean mg mb x hx t f0) K0 F2 KX N2 T rfl trivial (by ktr_room) (by ktr_units) ?_
  rintro r3 h3 tk3 ⟨t3, rfl⟩ F3 N3
  (repeat ((fail_if_success (with_reducible show wpAny _ _ (subscriptTail _ _ _ _) _ _ _)); (first | (k_unfold; (try dsimp only)) | walk1 | (dsimp only; walk1))))
  rename Fr _ _ _ _ => F4
  rename News _ _ _ _ => N4
  refine item_tupleT (hta N4 sub4) (by decide) (by decide) (StrLaws.seqIndex_nonneg (by decide) (by show (1 : Int) < 2; decide)) rfl ?_
  (repeat ((fail_if_success (with_reducible show wpAny _ _ (subscriptTail _ _ _ _) _ _ _)); (first | (k_unfold; (try dsimp only)) | walk1 | (dsimp only; walk1))))
  refine item_at (hlf N4 sub4) (by decide) (by decide) rfl ?_
  (repeat ((fail_if_success (with_reducible show wpAny _ _ (call (Value.ref _) _) _ _ _)); (first | (k_unfold; (try dsimp only)) | walk1 | (dsimp only; walk1))))
  refine tells_use (written_tells w mean mg mb y hy u f1) K0 F4 KX N4 T rfl trivial (by ktr_room) (by ktr_units) ?_
  rintro r5 h5 tk5 ⟨t5, rfl⟩ F5 N5
  have hc0 := code_length f0 x
  have hc1 := code_length f1 y
  (repeat ((fail_if_success (with_reducible show wpAny _ _ (binaryOp _ _ _) _ _ _)); (first | (k_unfold; (try dsimp only)) | walk1 | (dsimp only; walk1))))
  refine add_str ?_ (by rw [st_length, st_length]; have := hx.1; have := hy.1; unfold sizeLine; omega)
  intro t6 tk6
  rw [st_append]
  (repeat ((fail_if_success (with_reducible show wpAny _ _ (eval (Expr.Name (Str.ofString "shelf") _) _) _ _ _)); (first | (k_unfold; (try dsimp only)) | walk1 | (dsimp only; walk1))))
  rename Fr _ _ _ _ => F7
  rename News _ _ _ _ => N7
  refine nameX_L F7 hm ?_
  (repeat ((fail_if_success (with_reducible show wpAny _ _ (call (Value.ref _) _) _ _ _)); (first | (k_unfold; (try dsimp only)) | walk1 | (dsimp only; walk1))))
  have hsrc : LCg.SrcAt h₀ sh its.toArray ((I, oI) :: (L + 1 + 1 + 1, oC) :: (L + 1 + 1, o1) :: (sh, lstOf its n) :: Tl) := Or.inr ⟨_, .tail _ (.tail _ (.tail _ (.head _))), rfl, _, rfl⟩
  refine tells_use (bisl_tells w mean mg mb sh its xs hv (whole f0 f1 (x, y)) t6 hA1 (by omega)) K0 F7 KX N7 T rfl hsrc (by ktr_room) (by ktr_units) ?_
  rintro r8 h8 tk8 ⟨t8, rfl⟩ F8 N8
  (repeat ((fail_if_success (with_reducible show wpAny _ _ (eval (Expr.Name (Str.ofString "shelf") _) _) _ _ _)); (first | (k_unfold; (try dsimp only)) | walk1 | (dsimp only; walk1))))
  refine nameX_L F8 hm ?_
  (repeat ((fail_if_success (with_reducible show wpAny _ _ (call (Value.ref _) _) _ _ _)); (first | (k_unfold; (try dsimp only)) | walk1 | (dsimp only; walk1))))
  refine tells_use (bisr_tells w mean mg mb sh its xs hv (whole f0 f1 (x, y)) t6 hA2 (by omega)) K0 F8 KX N8 T rfl hsrc (by ktr_room) (by ktr_units) ?_
  rintro r9 h9 tk9 ⟨t9, rfl⟩ F9 N9
  (repeat ((fail_if_success (with_reducible show wpAny _ _ (newTuple _) _ _ _)); (first | (k_unfold; (try dsimp only)) | walk1 | (dsimp only; walk1))))
  refine kup_newTuple F9 N9 ?_ (by show 2 ≤ _; unfold sizeLine; omega)
  intro D10 h10 F10 N10 l10
  (repeat ((fail_if_success (with_reducible show wpAny _ _ (eval (Expr.Name (Str.ofString "rows") _) _) _ _ _)); (first | (k_unfold; (try dsimp only)) | walk1 | (dsimp only; walk1))))
  refine nameX_L F10 hmr ?_
  (repeat ((fail_if_success (with_reducible show wpAny _ _ (call (Value.ref _) _) _ _ _)); (first | (k_unfold; (try dsimp only)) | walk1 | (dsimp only; walk1))))
  have hE0 : ∀ {nw : List (Addr × Obj)}, (∀ p ∈ Tl, p ∈ nw) → ∀ h, (∀ p ∈ nw, h.get? p.1 = some p.2) → (∀ (i : Nat) v r, ys[i]? = some v → (rs.map pairD)[i]? = some r → PairAt h v r) ∧ PairAt h (.ref a) (st x, st y) := fun hs h q =>
    ⟨fun i v r hv' hr' => by
      obtain ⟨a', t', u', e', hm'⟩ := hrow i v r hv' hr'
      exact ⟨a', t', u', e', _, q _ (hs _ hm'), rfl, _, rfl⟩, ⟨a, t, u, rfl, _, q _ (hs _ ma), rfl, _, rfl⟩⟩
  have sub5 : ∀ p ∈ Tl, p ∈ (D10, ({ cls := .type "tuple", data := .seq #[.int ((xs.countP fun z => ltS z (whole f0 f1 (x, y)) : Nat) : Int) t8, .int ((xs.countP fun z => !ltS (whole f0 f1 (x, y)) z : Nat) : Int) t9] } : Obj)) :: (I, oI) :: (L + 1 + 1 + 1, oC) :: (L + 1 + 1, o1) :: (sh, lstOf its n) :: Tl := fun p hp => .tail _ (sub4 p hp)
  refine counts_tells w mean mg mb rl fl a ys (rs.map pairD) (st x, st y) #[.bool f0, .bool f1] (aheadP2 f0 f1) (fun o1 o2 a b t0 t1 u0 u1 => ahead2 w mean mg mb o1 o2 fl a.1 a.2 b.1 b.2 t0 t1 u0 u1 f0 f1) (by rw [List.length_map]; exact hyl) (by rw [List.length_map]; omega)
    _ _ _ _ _ _ _ _ _ _ _ _ _ _ _ _ _ _ K0 F10 KX N10 T rfl (Or.inr ⟨_, sub5 _ mrl, rfl, _, rfl⟩) (fun h _ q => ⟨(hE0 sub5 h q).1, (hE0 sub5 h q).2, _, q _ (sub5 _ mfl), rfl, _, rfl⟩) (by ktr_room) (by ktr_units) ?_
  intro D11 h11 tk11 t11 u11 F11 N11 l11
  (repeat ((fail_if_success (with_reducible show wpAny _ _ (compareOp _ _ _) _ _ _)); (first | (k_unfold; (try dsimp only)) | walk1 | (dsimp only; walk1))))
  refine ne_ints2 (a := ((rs.map pairD).countP fun r => aheadP2 f0 f1 r (st x, st y) : Nat)) (b := ((rs.map pairD).length : Int) - ((rs.map pairD).countP fun r => aheadP2 f0 f1 (st x, st y) r : Nat)) (by rw [← c1, ← c2]; exact ⟨_, (N11 _ (.tail _ (.head _))).1, rfl, _, rfl⟩) ⟨_, (N11 _ (.head _)).1, rfl, _, rfl⟩ (by ktr_units) ?_
  replace N11 := cb_drop N11 (news := (I, oI) :: (L + 1 + 1 + 1, oC) :: (L + 1 + 1, o1) :: (sh, lstOf its n) :: Tl) fun p hp => .tail _ (.tail _ hp)
  have hsl : (st (code f0 x)).length ≤ 8 := by rw [st_length]; have := hx.1; omega
  have hs1 : 1 ≤ (st (code f0 x)).length := by rw [st_length]; exact code_pos f0 x
  have hlast := last_le f0 hx
  (repeat ((fail_if_success (with_reducible show wpAny _ _ (binaryOp _ _ _) _ _ _)); (first | (k_unfold; (try dsimp only)) | walk1 | (dsimp only; walk1))))
  rw [item_last (code_ne f0 x)]
  (repeat ((fail_if_success (with_reducible show wpAny _ _ (call (Value.builtin "chr") _) _ _ _)); (first | (k_unfold; (try dsimp only)) | walk1 | (dsimp only; walk1))))
  refine chr_of_range (by omega) (by omega) ?_
  (repeat ((fail_if_success (with_reducible show wpAny _ _ (binaryOp _ _ _) _ _ _)); (first | (k_unfold; (try dsimp only)) | walk1 | (dsimp only; walk1))))
  rw [slice_init (code_ne f0 x), chr_st]
  refine add_str ?_ (by rw [st_length, st_length, List.length_dropLast]; show _ + 1 ≤ _; have := hx.1; unfold sizeLine; omega)
  intro t12 tk12
  rw [st_append]
  (repeat ((fail_if_success (with_reducible show wpAny _ _ (eval (Expr.Name (Str.ofString "shelf") _) _) _ _ _)); (first | (k_unfold; (try dsimp only)) | walk1 | (dsimp only; walk1))))
  rename Fr _ _ _ _ => F13
  rename News _ _ _ _ => N13
  refine nameX_L F13 hm ?_
  (repeat ((fail_if_success (with_reducible show wpAny _ _ (call (Value.ref _) _) _ _ _)); (first | (k_unfold; (try dsimp only)) | walk1 | (dsimp only; walk1))))
  refine tells_use (bisl_tells w mean mg mb sh its xs hv (st (code f0 x)) t3 hA3 (by omega)) K0 F13 KX N13 T rfl hsrc (by ktr_room) (by ktr_units) ?_
  rintro r14 h14 tk14 ⟨t14, rfl⟩ F14 N14
  (repeat ((fail_if_success (with_reducible show wpAny _ _ (eval (Expr.Name (Str.ofString "shelf") _) _) _ _ _)); (first | (k_unfold; (try dsimp only)) | walk1 | (dsimp only; walk1))))
  refine nameX_L F14 hm ?_
  (repeat ((fail_if_success (with_reducible show wpAny _ _ (call (Value.ref _) _) _ _ _)); (first | (k_unfold; (try dsimp only)) | walk1 | (dsimp only; walk1))))
  refine tells_use (bisl_tells w mean mg mb sh its xs hv (st (beyond (code f0 x))) t12 hA4 (by omega)) K0 F14 KX N14 T rfl hsrc (by ktr_room) (by ktr_units) ?_
  rintro r15 h15 tk15 ⟨t15, rfl⟩ F15 N15
  (repeat ((fail_if_success (with_reducible show wpAny _ _ (newTuple _) _ _ _)); (first | (k_unfold; (try dsimp only)) | walk1 | (dsimp only; walk1))))
  refine kup_newTuple F15 N15 ?_ (by show 2 ≤ _; unfold sizeLine; omega)
  intro D16 h16 F16 N16 l16
  have hlf16 := hlf N16 fun p hp => .tail _ (sub4 p hp)
  (repeat ((fail_if_success (with_reducible show wpAny _ _ (eval (Expr.Name (Str.ofString "rows") _) _) _ _ _)); (first | (k_unfold; (try dsimp only)) | walk1 | (dsimp only; walk1))))
  refine nameX_L F16 hmr ?_
  (repeat ((fail_if_success (with_reducible show wpAny _ _ (subscriptTail _ _ _ _) _ _ _)); (first | (k_unfold; (try dsimp only)) | walk1 | (dsimp only; walk1))))
  k_dflt (refine' kmk_slice_lit ?yF ?yN ?yl ?yp ?yq ?ye ?_ ?ys ?yt ?yz)
  case yF => exact F16
  case yN => exact N16
  case yl => exact hlf16
  case yp => kmk_part
  case yq => kmk_part
  case ye => kl_lit
  case ys => with_unfolding_all rfl
  case yt => kmk_pure
  case yz => (show 2 ≤ _; unfold sizeLine; omega)
  intro D17 h17 F17 N17 l17
  (repeat ((fail_if_success (with_reducible show wpAny _ _ (call (Value.ref _) _) _ _ _)); (first | (k_unfold; (try dsimp only)) | walk1 | (dsimp only; walk1))))
  have sub6 : ∀ {p1 p2 : Addr × Obj}, ∀ p ∈ Tl, p ∈ p1 :: p2 :: (I, oI) :: (L + 1 + 1 + 1, oC) :: (L + 1 + 1, o1) :: (sh, lstOf its n) :: Tl := fun p hp => .tail _ (.tail _ (sub4 p hp))
  refine counts_tells w mean mg mb rl D17 a ys (rs.map pairD) (st x, st y) #[.bool f0] (aheadP1 f0) (fun o1 o2 a b t0 t1 u0 u1 => ahead1 w mean mg mb o1 o2 D17 a.1 a.2 b.1 b.2 t0 t1 u0 u1 f0) (by rw [List.length_map]; exact hyl) (by rw [List.length_map]; omega)
    _ _ _ _ _ _ _ _ _ _ _ _ _ _ _ _ _ _ K0 F17 KX N17 T rfl (Or.inr ⟨_, sub6 _ mrl, rfl, _, rfl⟩) (fun h _ q => ⟨(hE0 sub6 h q).1, (hE0 sub6 h q).2, _, q _ (.head _), rfl, _, rfl⟩) (by ktr_room) (by ktr_units) ?_
  intro D18 h18 tk18 t18 u18 F18 N18 l18
  (repeat ((fail_if_success (with_reducible show wpAny _ _ (compareOp _ _ _) _ _ _)); (first | (k_unfold; (try dsimp only)) | walk1 | (dsimp only; walk1))))
  refine ne_ints2 (a := ((rs.map pairD).countP fun r => aheadP1 f0 r (st x, st y) : Nat)) (b := ((rs.map pairD).length : Int) - ((rs.map pairD).countP fun r => aheadP1 f0 (st x, st y) r : Nat)) (by rw [← c3, ← c4]; exact ⟨_, (N18 _ (.tail _ (.tail _ (.head _)))).1, rfl, _, rfl⟩) ⟨_, (N18 _ (.head _)).1, rfl, _, rfl⟩ (by ktr_units) ?_
  (repeat ((fail_if_success (with_reducible show wpAny _ _ (execs [] _) _ _ _)); (first | (k_unfold; (try dsimp only)) | walk1 | (dsimp only; walk1))))
  refine wpAny_execs_nil ?_
  (repeat ((fail_if_success (with_reducible show wpAny _ _ (execs [] _) _ _ _)); (first | (k_unfold; (try dsimp only)) | walk1 | (dsimp only; walk1))))
  refine wpAny_execs_nil ?_
  exact ⟨rfl, h18, tk18, _, o1, rfl, F18, cb_drop N18 fun p hp => .tail _ (.tail _ (.tail _ hp)), ⟨_, dR1⟩, hm, hmr⟩
end Mine
namespace Mine
open PySem PySem.W PyProof.Rows
set_option maxRecDepth 100000
/-- every sign is one of a, b, c, d -/
def Low (l : List Nat) : Prop := ∀ c ∈ l, 97 ≤ c ∧ c ≤ 100
/-- a text written, up to its last sign -/
def codeZ (f : Bool) (z : Nat) (l : List Nat) : List Nat := if f then (esc l ++ [97, z]).map swap else esc l ++ [97, z]
theorem codeZ_code (f : Bool) (l : List Nat) : codeZ f 98 l = code f l := rfl
def sw (f : Bool) (c : Nat) : Nat := if f then swap c else c
theorem codeZ_nil (f : Bool) (z : Nat) : codeZ f z [] = [sw f 97, sw f z] := by cases f <;> rfl
theorem codeZ_a (f : Bool) (z : Nat) (l : List Nat) : codeZ f z (97 :: l) = sw f 97 :: sw f 99 :: codeZ f z l := by cases f <;> rfl
theorem codeZ_o (f : Bool) (z : Nat) {c : Nat} (l : List Nat) (h : c ≠ 97) : codeZ f z (c :: l) = sw f c :: codeZ f z l := by
  have e : esc (c :: l) = c :: esc l := by
    unfold esc
    rw [List.flatMap_cons, if_neg h]
    rfl
  unfold codeZ
  rw [e]
  cases f <;> rfl
theorem codeZ_hd (f : Bool) (z c : Nat) (l : List Nat) : ∃ r, codeZ f z (c :: l) = sw f c :: r := by
  by_cases h : c = 97
  · subst h; exact ⟨_, codeZ_a f z l⟩
  · exact ⟨_, codeZ_o f z l h⟩
def ltB (a b : List Nat) : Bool := decide (a < b)
theorem ltB_nil (d : Nat) (u : List Nat) : ltB [] (d :: u) = true := StrLaws.lt_nil_cons d u
theorem ltB_no (a : List Nat) : ltB a [] = false := by unfold ltB; simp
theorem ltB_cons (a b : Nat) (r t : List Nat) : ltB (a :: r) (b :: t) = (decide (a < b) || (a == b && ltB r t)) := StrLaws.lt_cons_cons a b r t
theorem ltS_st (a b : List Nat) : ltS (st a) (st b) = ltB a b := rfl
theorem lt_hd {a b : Nat} {r t : List Nat} (h : a ≠ b) : ltB (a :: r) (b :: t) = decide (a < b) := by
  rw [ltB_cons]
  have : (a == b) = false := by simpa using h
  rw [this]
  simp
theorem lt_tl (a : Nat) (r t : List Nat) : ltB (a :: r) (a :: t) = ltB r t := by
  rw [ltB_cons]
  simp
theorem lt_pre (p r t : List Nat) : ltB (p ++ r) (p ++ t) = ltB r t := by
  induction p with
  | nil => rfl
  | cons a p ih => rw [List.cons_append, List.cons_append, lt_tl, ih]
theorem lt_irr (a : List Nat) : ltB a a = false := by
  induction a with
  | nil => exact ltB_no []
  | cons c t ih => rw [lt_tl, ih]
theorem sw_ne (f : Bool) {c d : Nat} (hc : 97 ≤ c ∧ c ≤ 100) (hd : 97 ≤ d ∧ d ≤ 100) (h : c ≠ d) : sw f c ≠ sw f d := by
  cases f
  · exact h
  · show 197 - c ≠ 197 - d; omega
theorem sw_lt (f : Bool) {c d : Nat} (hc : 97 ≤ c ∧ c ≤ 100) (hd : 97 ≤ d ∧ d ≤ 100) (h : c ≠ d) : decide (sw f c < sw f d) = (decide (c < d) != f) := by
  cases f
  · show decide (c < d) = _; simp
  · show decide (197 - c < 197 - d) = _
    by_cases hcd : c < d
    · rw [decide_eq_true hcd, decide_eq_false (by omega)]; rfl
    · rw [decide_eq_false hcd, decide_eq_true (by omega)]; rfl
/-- the order of two texts written, whatever follows them -/
theorem code_lt (f : Bool) (z : Nat) (B : List Nat) (hz : z = 98 ∨ (B = [] ∧ z = if f then 97 else 99)) : ∀ (t u A : List Nat), Low t → Low u → t ≠ u → ltB (codeZ f 98 t ++ A) (codeZ f z u ++ B) = (ltB t u != f)
  | [], [], _, _, _, h => absurd rfl h
  | [], d :: u, A, _, hu, _ => by
    have hd := hu d (.head _)
    rw [ltB_nil, codeZ_nil]
    by_cases h : d = 97
    · subst h
      rw [codeZ_a, List.cons_append, List.cons_append, List.cons_append, List.cons_append, lt_tl, lt_hd (sw_ne f (by decide) (by decide) (by decide)), sw_lt f (by decide) (by decide) (by decide)]
      rfl
    · rw [codeZ_o f z u h, List.cons_append, List.cons_append, List.cons_append, lt_hd (sw_ne f (by decide) hd (Ne.symm h)), sw_lt f (by decide) hd (Ne.symm h), decide_eq_true (by omega)]
  | c :: t, [], A, ht, _, _ => by
    have hc := ht c (.head _)
    rw [ltB_no, codeZ_nil]
    by_cases h : c = 97
    · subst h
      rw [codeZ_a, List.cons_append, List.cons_append, List.cons_append, List.cons_append, lt_tl]
      rcases hz with rfl | ⟨rfl, rfl⟩
      · rw [lt_hd (sw_ne f (by decide) (by decide) (by decide)), sw_lt f (by decide) (by decide) (by decide)]
        rfl
      · cases f
        · show ltB (99 :: _) (99 :: []) = false
          rw [lt_tl, ltB_no]
        · show ltB (98 :: _) (100 :: []) = true
          rw [lt_hd (by decide)]
          rfl
    · rw [codeZ_o f 98 t h, List.cons_append, List.cons_append, lt_hd (sw_ne f hc (by decide) h), sw_lt f hc (by decide) h, decide_eq_false (by omega)]
  | c :: t, d :: u, A, ht, hu, h => by
    have hc := ht c (.head _)
    have hd := hu d (.head _)
    by_cases hcd : c = d
    · subst hcd
      have ih := code_lt f z B hz t u A (fun k hk => ht k (.tail _ hk)) (fun k hk => hu k (.tail _ hk)) (fun e => h (e ▸ rfl))
      rw [lt_tl c t u, ← ih]
      by_cases h97 : c = 97
      · subst h97
        rw [codeZ_a, codeZ_a, List.cons_append, List.cons_append, List.cons_append, List.cons_append, lt_tl, lt_tl]
      · rw [codeZ_o f 98 t h97, codeZ_o f z u h97, List.cons_append, List.cons_append, lt_tl]
    · obtain ⟨r1, e1⟩ := codeZ_hd f 98 c t
      obtain ⟨r2, e2⟩ := codeZ_hd f z d u
      rw [e1, e2, List.cons_append, List.cons_append, lt_hd (sw_ne f hc hd hcd), sw_lt f hc hd hcd, lt_hd hcd]
theorem code_lt' (f : Bool) {t u : List Nat} (A B : List Nat) (ht : Low t) (hu : Low u) (h : t ≠ u) : ltB (code f t ++ A) (code f u ++ B) = (ltB t u != f) := code_lt f 98 B (.inl rfl) t u A ht hu h
theorem beyond_codeZ (f : Bool) (l : List Nat) : beyond (code f l) = codeZ f (if f then 97 else 99) l := by
  cases f
  · have e : code false l = (esc l ++ [97]) ++ [98] := by show esc l ++ [97, 98] = _; simp
    unfold beyond
    rw [e, List.dropLast_concat, List.getLastD_concat]
    show _ = esc l ++ [97, 99]
    simp
  · have e : code true l = ((esc l).map swap ++ [100]) ++ [99] := by show (esc l ++ [97, 98]).map swap = _; simp [swap]
    unfold beyond
    rw [e, List.dropLast_concat, List.getLastD_concat]
    show _ = (esc l ++ [97, 97]).map swap
    simp [swap]
theorem beyond_self (l A : List Nat) (h : l ≠ []) : ltB (l ++ A) (beyond l) = true := by
  obtain ⟨r, k, rfl⟩ : ∃ r k, l = r ++ [k] := ⟨l.dropLast, l.getLast h, (List.dropLast_concat_getLast h).symm⟩
  unfold beyond
  rw [List.dropLast_concat, List.getLastD_concat, List.append_assoc, lt_pre, List.cons_append, lt_hd (by omega)]
  exact decide_eq_true (by omega)
def LowR (r : List Nat × List Nat) : Prop := Low r.1 ∧ Low r.2
theorem st_eq {a b : List Nat} : (st a = st b) = (a = b) := propext ⟨st_inj, fun e => e ▸ rfl⟩
theorem whole_lt (f0 f1 : Bool) {r s : List Nat × List Nat} (hr : LowR r) (hs : LowR s) : ltS (whole f0 f1 r) (whole f0 f1 s) = aheadP2 f0 f1 (pairD r) (pairD s) := by
  unfold aheadP2 pairD whole
  simp only [ltS_st, st_eq]
  by_cases h1 : r.1 = s.1
  · rw [if_pos h1, h1, lt_pre]
    by_cases h2 : r.2 = s.2
    · rw [if_pos h2, h2]; exact lt_irr _
    · rw [if_neg h2]
      have := code_lt' f1 [] [] hr.2 hs.2 h2
      rwa [List.append_nil, List.append_nil] at this
  · rw [if_neg h1]
    exact code_lt' f0 _ _ hr.1 hs.1 h1
theorem head_lt (f0 f1 : Bool) {r s : List Nat × List Nat} (hr : LowR r) (hs : LowR s) : ltS (whole f0 f1 r) (st (code f0 s.1)) = aheadP1 f0 (pairD r) (pairD s) := by
  unfold aheadP1 pairD whole
  simp only [ltS_st, st_eq]
  by_cases h1 : r.1 = s.1
  · rw [if_pos h1, h1]
    have := lt_pre (code f0 s.1) (code f1 r.2) []
    rw [List.append_nil] at this
    rw [this, ltB_no]
  · rw [if_neg h1]
    have := code_lt' f0 (code f1 r.2) [] hr.1 hs.1 h1
    rwa [List.append_nil] at this
theorem lt_conn {a b : List Nat} (h : a ≠ b) : ltB a b = !ltB b a := by
  induction a generalizing b with
  | nil =>
    cases b with
    | nil => exact absurd rfl h
    | cons d u => rw [ltB_nil, ltB_no]; rfl
  | cons c t ih =>
    cases b with
    | nil => rw [ltB_nil, ltB_no]; rfl
    | cons d u =>
      by_cases hcd : c = d
      · subst hcd
        rw [lt_tl, lt_tl]
        exact ih fun e => h (e ▸ rfl)
      · rw [lt_hd hcd, lt_hd (Ne.symm hcd)]
        by_cases hlt : c < d
        · rw [decide_eq_true hlt, decide_eq_false (by omega)]; rfl
        · rw [decide_eq_false hlt, decide_eq_true (by omega)]; rfl
theorem beyond_lt (f0 f1 : Bool) {r s : List Nat × List Nat} (hr : LowR r) (hs : LowR s) : ltS (whole f0 f1 r) (st (beyond (code f0 s.1))) = !aheadP1 f0 (pairD s) (pairD r) := by
  unfold aheadP1 pairD whole
  simp only [ltS_st, st_eq]
  by_cases h1 : r.1 = s.1
  · rw [if_pos h1.symm, h1]
    exact beyond_self _ _ (code_ne f0 s.1)
  · rw [if_neg (Ne.symm h1), beyond_codeZ]
    have := code_lt f0 (if f0 = true then 97 else 99) [] (.inr ⟨rfl, rfl⟩) r.1 s.1 (code f1 r.2) hr.1 hs.1 h1
    rw [List.append_nil, lt_conn h1] at this
    refine this.trans ?_
    cases ltB s.1 r.1 <;> cases f0 <;> rfl
/-- no later text comes before an earlier one -/
def Sorted (xs : List Str) : Prop := xs.Pairwise fun a b => ltS b a = false
theorem lt_trans' : ∀ {a b w : List Nat}, ltB b a = false → ltB b w = true → ltB a w = true
  | [], [], _, _, h => h
  | [], _ :: _, [], _, h => by rw [ltB_no] at h; cases h
  | [], _ :: _, _ :: _, _, _ => ltB_nil _ _
  | _ :: _, [], _, h, _ => by rw [ltB_nil] at h; cases h
  | _ :: _, _ :: _, [], _, h => by rw [ltB_no] at h; cases h
  | a :: r, b :: s, w :: t, h, h2 => by
    rw [ltB_cons] at h h2 ⊢
    simp only [Bool.or_eq_false_iff, Bool.and_eq_false_iff, Bool.or_eq_true, Bool.and_eq_true, decide_eq_true_eq, decide_eq_false_iff_not, beq_iff_eq, beq_eq_false_iff_ne] at h h2 ⊢
    rcases h2 with h2 | ⟨rfl, h2⟩
    · left; omega
    · by_cases hab : a = b
      · subst hab
        right
        refine ⟨rfl, ?_⟩
        exact lt_trans' (h.2.resolve_left fun n => n rfl) h2
      · left; omega
theorem sorted_get {xs : List Str} (h : Sorted xs) {i j : Nat} {a b : Str} (hij : i ≤ j) (ha : xs[i]? = some a) (hb : xs[j]? = some b) : ltS b a = false := by
  obtain ⟨hi, ea⟩ := List.getElem?_eq_some_iff.mp ha
  obtain ⟨hj, eb⟩ := List.getElem?_eq_some_iff.mp hb
  rcases Nat.lt_or_eq_of_le hij with hlt | rfl
  · have := List.pairwise_iff_getElem.mp h i j hi hj hlt
    rwa [ea, eb] at this
  · rw [ea] at eb
    rw [eb]
    exact lt_irr _
theorem anti_lt {xs : List Str} (h : Sorted xs) (w : Str) : Anti xs fun z => ltS z w := fun i j a b hij ha hb hw => lt_trans' (sorted_get h hij ha hb) hw
theorem anti_ge {xs : List Str} (h : Sorted xs) (w : Str) : Anti xs fun z => !ltS w z := fun i j a b hij ha hb hw => by
  have hw' : ltS w b = false := by simpa using hw
  have : ltS w a = false := by
    cases h1 : ltS w a with
    | false => rfl
    | true =>
      have h2 : ltS b a = false := sorted_get h hij ha hb
      -- b < a would follow from b ≤ w < a
      have h3 : ltS b a = true := lt_trans' (a := b.cps.toList) (b := w.cps.toList) hw' h1
      rw [h2] at h3; cases h3
  simpa using this
theorem anti_split {p : Str → Bool} : ∀ {xs : List Str}, Anti xs p → (∀ a ∈ xs.take (xs.countP p), p a = true) ∧ (∀ a ∈ xs.drop (xs.countP p), p a = false)
  | [], _ => ⟨fun _ h => by simp at h, fun _ h => by simp at h⟩
  | x :: r, h => by
    by_cases hp : p x = true
    · have ih := anti_split (xs := r) (p := p) fun i j a b hij ha hb => h (i + 1) (j + 1) a b (by omega) ha hb
      rw [List.countP_cons_of_pos hp, List.take_succ_cons, List.drop_succ_cons]
      refine ⟨fun a ha => ?_, ih.2⟩
      rcases List.mem_cons.mp ha with rfl | ha
      · exact hp
      · exact ih.1 a ha
    · have hall : ∀ a ∈ x :: r, p a = false := fun a ha => by
        obtain ⟨j, hj⟩ := List.mem_iff_getElem?.mp ha
        cases hpa : p a with
        | false => rfl
        | true => exact absurd (h 0 j x a (by omega) rfl hj hpa) hp
      have h0 : (x :: r).countP p = 0 := List.countP_eq_zero.mpr fun a ha => by rw [hall a ha]; decide
      rw [h0]
      exact ⟨fun _ h => by simp at h, fun a ha => hall a (by simpa using ha)⟩
def putIn (xs : List Str) (w : Str) : List Str := xs.take (xs.countP fun z => ltS z w) ++ w :: xs.drop (xs.countP fun z => ltS z w)
theorem putIn_perm (xs : List Str) (w : Str) : (putIn xs w).Perm (w :: xs) := by
  unfold putIn
  refine List.perm_middle.trans ?_
  rw [List.take_append_drop]
theorem putIn_sorted {xs : List Str} (h : Sorted xs) (w : Str) : Sorted (putIn xs w) := by
  have hs := anti_split (anti_lt h w)
  have hd : (xs.take (xs.countP fun z => ltS z w) ++ xs.drop (xs.countP fun z => ltS z w)).Pairwise fun a b => ltS b a = false := by rw [List.take_append_drop]; exact h
  unfold Sorted putIn
  obtain ⟨d1, d2, d3⟩ := List.pairwise_append.mp hd
  refine List.pairwise_append.mpr ⟨d1, List.pairwise_cons.mpr ⟨hs.2, d2⟩, fun a ha b hb => ?_⟩
  rcases List.mem_cons.mp hb with rfl | hb
  · have h1 := hs.1 a ha
    cases h2 : ltS b a with
    | false => rfl
    | true =>
      have : ltS b b = true := by
        -- b < a < b
        have h3 : ltB a.cps.toList b.cps.toList = true := h1
        by_cases e : a.cps.toList = b.cps.toList
        · have : ltB a.cps.toList b.cps.toList = false := by rw [e]; exact lt_irr _
          rw [h3] at this; cases this
        · have h5 := lt_conn e
          have h6 : ltB b.cps.toList a.cps.toList = true := h2
          rw [h3, h6] at h5
          cases h5
      have h4 : ltS b b = false := lt_irr _
      rw [this] at h4; cases h4
  · exact d3 a ha b hb
section
variable {f0 f1 : Bool} {xs : List Str} {rs : List (List Nat × List Nat)} {x y : List Nat}
theorem count_map (hp : xs.Perm (rs.map (whole f0 f1))) (p : Str → Bool) (q : Str × Str → Bool) (h : ∀ r ∈ rs, p (whole f0 f1 r) = q (pairD r)) : xs.countP p = (rs.map pairD).countP q := by
  rw [hp.countP_eq, List.countP_map, List.countP_map]
  exact List.countP_congr fun r hr => by
    show p (whole f0 f1 r) = true ↔ q (pairD r) = true
    rw [h r hr]
theorem count_not (hp : xs.Perm (rs.map (whole f0 f1))) (p : Str → Bool) (q : Str × Str → Bool) (h : ∀ r ∈ rs, p (whole f0 f1 r) = !q (pairD r)) : ((xs.countP p : Nat) : Int) = ((rs.map pairD).length : Int) - ((rs.map pairD).countP q : Nat) := by
  have e := count_map hp p (fun r => !q r) h
  have e2 := List.length_eq_countP_add_countP q (l := rs.map pairD)
  have e3 : (rs.map pairD).countP (fun r => !q r) = (rs.map pairD).countP (fun a => decide ¬q a = true) := List.countP_congr fun a _ => by simp
  rw [← e3] at e2
  omega
theorem counts_all (hp : xs.Perm (rs.map (whole f0 f1))) (hl : ∀ r ∈ rs, LowR r) (hx : Low x) (hy : Low y) :
    xs.countP (fun z => ltS z (whole f0 f1 (x, y))) = (rs.map pairD).countP (fun r => aheadP2 f0 f1 r (st x, st y)) ∧
    ((xs.countP fun z => !ltS (whole f0 f1 (x, y)) z : Nat) : Int) = ((rs.map pairD).length : Int) - ((rs.map pairD).countP fun r => aheadP2 f0 f1 (st x, st y) r : Nat) ∧
    xs.countP (fun z => ltS z (st (code f0 x))) = (rs.map pairD).countP (fun r => aheadP1 f0 r (st x, st y)) ∧
    ((xs.countP fun z => ltS z (st (beyond (code f0 x))) : Nat) : Int) = ((rs.map pairD).length : Int) - ((rs.map pairD).countP fun r => aheadP1 f0 (st x, st y) r : Nat) := by
  have hs : LowR (x, y) := ⟨hx, hy⟩
  refine ⟨count_map hp _ _ fun r hr => whole_lt f0 f1 (hl r hr) hs, count_not hp _ _ fun r hr => ?_, count_map hp _ _ fun r hr => head_lt f0 f1 (hl r hr) hs, count_not hp _ _ fun r hr => beyond_lt f0 f1 (hl r hr) hs⟩
  exact congrArg (!·) (whole_lt f0 f1 hs (hl r hr))
end
end Mine
namespace Mine
open PySem PySem.W PyProof.Rows
set_option maxRecDepth 100000
set_option maxHeartbeats 8000000
/-- the rows that the law builds: each a pair of texts, known to the ledger -/
inductive RowsIn (RT : List (Addr × Obj)) : List Value → List (List Nat × List Nat) → Prop
  | nil : RowsIn RT [] []
  | cons {a : Addr} {x y : List Nat} {t u : Tok} {ys : List Value} {rs : List (List Nat × List Nat)} : (a, tupS (st x) t (st y) u) ∈ RT → Signs x → Signs y → RowsIn RT ys rs → RowsIn RT (.ref a :: ys) ((x, y) :: rs)
theorem RowsIn.mono {RT RT' : List (Addr × Obj)} {ys : List Value} {rs : List (List Nat × List Nat)} (h : RowsIn RT ys rs) (hs : ∀ p ∈ RT, p ∈ RT') : RowsIn RT' ys rs := by
  induction h with
  | nil => exact .nil
  | cons hm h1 h2 _ ih => exact .cons (hs _ hm) h1 h2 ih
theorem RowsIn.append {RT : List (Addr × Obj)} {ys ys' : List Value} {rs rs' : List (List Nat × List Nat)} (h : RowsIn RT ys rs) (h' : RowsIn RT ys' rs') : RowsIn RT (ys ++ ys') (rs ++ rs') := by
  induction h with
  | nil => exact h'
  | cons hm h1 h2 _ ih => exact .cons hm h1 h2 ih
theorem RowsIn.length {RT : List (Addr × Obj)} {ys : List Value} {rs : List (List Nat × List Nat)} (h : RowsIn RT ys rs) : ys.length = rs.length := by
  induction h with
  | nil => rfl
  | cons _ _ _ _ ih => simp [ih]
theorem RowsIn.get {RT : List (Addr × Obj)} {ys : List Value} {rs : List (List Nat × List Nat)} (h : RowsIn RT ys rs) : ∀ {i : Nat} {v : Value}, ys[i]? = some v → ∃ a x y t u, v = .ref a ∧ rs[i]? = some (x, y) ∧ (a, tupS (st x) t (st y) u) ∈ RT ∧ Signs x ∧ Signs y := by
  induction h with
  | nil => intro i v e; cases e
  | cons hm h1 h2 _ ih =>
    intro i v e
    cases i with
    | zero => exact ⟨_, _, _, _, _, (Option.some.inj e).symm, rfl, hm, h1, h2⟩
    | succ i => exact ih e
theorem RowsIn.low {RT : List (Addr × Obj)} {ys : List Value} {rs : List (List Nat × List Nat)} (h : RowsIn RT ys rs) : ∀ r ∈ rs, LowR r := by
  induction h with
  | nil => intro r hr; cases hr
  | cons hm h1 h2 _ ih =>
    intro r hr
    rcases List.mem_cons.mp hr with rfl | hr
    · exact ⟨h1.2, h2.2⟩
    · exact ih r hr
theorem RowsIn.row {RT : List (Addr × Obj)} {ys : List Value} {rs : List (List Nat × List Nat)} (h : RowsIn RT ys rs) (i : Nat) (v : Value) (r : Str × Str) (hv : ys[i]? = some v) (hr : (rs.map pairD)[i]? = some r) : ∃ a t u, v = .ref a ∧ (a, tupS r.1 t r.2 u) ∈ RT := by
  obtain ⟨a, x, y, t, u, e, e2, hm, _⟩ := h.get hv
  rw [List.getElem?_map, e2] at hr
  obtain rfl := Option.some.inj hr
  exact ⟨a, t, u, e, hm⟩
section
variable (w : World) (mean : ExcName → Option Value) (mg mb : Str → Option Value) (h₀ : Heap) (L fa sh fl rl : Addr) (cd : Value) (s : Shared) (m : Str → Option Value) (px : Pos) (Q : Flow → Shared → Prop) (X E : Value → Shared → Prop)
    (oF : Obj) (Tl : List (Addr × Obj)) (f0 f1 : Bool) (ys : List Value) (rs : List (List Nat × List Nat))
    (K0 : Below callerA h₀ [] h₀) (KX : (hd.heap_39 w.params).In h₀) (T : Top hd.view_39 loo mean mg mb h₀)
    (dF : oF.data = .cell (some (.ref fl))) (mF : (L + 1, oF) ∈ Tl) (mfl : (fl, falO f0 f1) ∈ Tl) (mrl : (rl, lstOf ys 0) ∈ Tl) (hrows : RowsIn Tl ys rs) (hrl : rs.length ≤ 8)
    (n4 : sh ≠ L + 1 + 1 + 1) (n5 : sh ≠ L + 1 + 1) (k2 : ∀ p ∈ Tl, p.1 ≠ L + 1 + 1 + 1) (k3 : ∀ p ∈ Tl, p.1 ≠ L + 1 + 1) (k4 : ∀ p ∈ Tl, p.1 ≠ sh)
include K0 KX T dF mF mfl mrl hrows hrl n4 n5 k2 k3 k4
theorem loop1 (oC oR : Obj) (F : Fr h₀ L s.heap m) (N : News h₀ L s.heap ((L + 1 + 1 + 1, oC) :: (L + 1 + 1, oR) :: (sh, lstOf [] 0) :: Tl)) (hm : m (Str.ofString "shelf") = some (.ref sh)) (dC : oC.data = .cell none) (dR : oR.data = .cell none)
    (done : ∀ h' tk' oC' oR' its n xs, Fr h₀ L h' m → News h₀ L h' ((L + 1 + 1 + 1, oC') :: (L + 1 + 1, oR') :: (sh, lstOf its n) :: Tl) → (∃ v, oC'.data = .cell v) → (∃ v, oR'.data = .cell v) → StrsAre its xs → Sorted xs → xs.Perm (rs.map (whole f0 f1)) → Q .next { s with heap := h', toks := tk' }) :
    wpAny (model Challenge.rw_ph0065_01.row.prog w) (callerA.deeper (envOfC (Str.ofString "law") lawSc L fa cd)) (pyIter (.ref rl)) (fun it s₂ => codeAny (model Challenge.rw_ph0065_01.row.prog w) (callerA.deeper (envOfC (Str.ofString "law") lawSc L fa cd)) (.forLoop (.Name (Str.ofString "row") px) it body1 [] (envOfC (Str.ofString "law") lawSc L fa cd)) (fun r s' => match r with | .ok f => Q f s' | .error e => X e s') s₂) E s := by
  refine for_list rfl F N (fun i m' nw => m' = m ∧ ∃ oC' oR' its n xs, nw = (L + 1 + 1 + 1, oC') :: (L + 1 + 1, oR') :: (sh, lstOf its n) :: Tl ∧ (∃ v, oC'.data = .cell v) ∧ (∃ v, oR'.data = .cell v) ∧ StrsAre its xs ∧ Sorted xs ∧ xs.Perm ((rs.take i).map (whole f0 f1)))
    ⟨rfl, oC, oR, [], 0, [], rfl, ⟨_, dC⟩, ⟨_, dR⟩, .nil, .nil, by simp⟩ ?_ ?_ ?_ (its := ys)
  · rintro i m' nw ⟨rfl, oC', oR', its, n, xs, rfl, _⟩
    exact Or.inr ⟨_, .tail _ (.tail _ (.tail _ mrl)), rfl, _, rfl⟩
  · rintro i v m₁ nw I oI h tk E' hv ⟨rfl, oC', oR', its, n, xs, rfl, ⟨vC, dC'⟩, ⟨vR, dR'⟩, hs, hso, hp⟩ F1 N1 hne
    obtain ⟨a, x, y, t, u, rfl, hr, ma, hx, hy⟩ := hrows.get hv
    have hi : i < rs.length := (List.getElem?_eq_some_iff.mp hr).1
    have hxl : xs.length ≤ 50 := by rw [hp.length_eq, List.length_map, List.length_take]; omega
    refine wpAny_mono (turn1 w mean mg mb h₀ h L fa sh fl a I cd s tk m₁ px E' oI oC' oR' oF vC vR its n xs Tl f0 f1 x y t u K0 KX T F1 N1 hm dC' dR' dF mF mfl ma (hne _ (.head _)) (hne _ (.tail _ (.head _))) (hne _ (.tail _ (.tail _ (.head _)))) n4 n5 (fun p hp => hne p (.tail _ (.tail _ (.tail _ hp)))) k2 k3 k4 hx hy hs (anti_lt hso _) hxl)
      (fun _ s₂ h₂ => wpAny_mono h₂ (fun f s₃ h₃ => ?_) fun _ _ e => e) fun _ _ e => e
    obtain ⟨rfl, h', tk', oC2, oR2, its2, n2, rfl, F2, N2, dC2, dR2, hs2⟩ := h₃
    refine ⟨rfl, h', tk', m₁, _, rfl, F2, N2, fun p hp => ?_, rfl, oC2, oR2, its2, n2, _, rfl, dC2, dR2, hs2, putIn_sorted hso _, ?_⟩
    · rcases List.mem_cons.mp hp with rfl | hp
      · exact hne (L + 1 + 1 + 1, oC') (.head _)
      rcases List.mem_cons.mp hp with rfl | hp
      · exact hne (L + 1 + 1, oR') (.tail _ (.head _))
      rcases List.mem_cons.mp hp with rfl | hp
      · exact hne (sh, lstOf its n) (.tail _ (.tail _ (.head _)))
      · exact hne p (.tail _ (.tail _ (.tail _ hp)))
    · rw [take_snoc (whole f0 f1) hr]
      exact ((putIn_perm xs _).trans (hp.cons _)).trans (List.perm_append_singleton _ _).symm
  · rintro h' tk' m' nw' F' N' ⟨rfl, oC', oR', its, n, xs, rfl, dC', dR', hs, hso, hp⟩
    rw [hrows.length, List.take_length] at hp
    exact done h' tk' oC' oR' its n xs F' N' dC' dR' hs hso hp
theorem loop2 (oC oR : Obj) (its : List Value) (n : Nat) (xs : List Str) (F : Fr h₀ L s.heap m) (N : News h₀ L s.heap ((L + 1 + 1 + 1, oC) :: (L + 1 + 1, oR) :: (sh, lstOf its n) :: Tl)) (hm : m (Str.ofString "shelf") = some (.ref sh)) (hmr : m (Str.ofString "rows") = some (.ref rl)) (dR : ∃ v, oR.data = .cell v)
    (hs : StrsAre its xs) (hso : Sorted xs) (hp : xs.Perm (rs.map (whole f0 f1)))
    (done : ∀ h' tk' m', Fr h₀ L h' m' → Q .next { s with heap := h', toks := tk' }) :
    wpAny (model Challenge.rw_ph0065_01.row.prog w) (callerA.deeper (envOfC (Str.ofString "law") lawSc L fa cd)) (pyIter (.ref rl)) (fun it s₂ => codeAny (model Challenge.rw_ph0065_01.row.prog w) (callerA.deeper (envOfC (Str.ofString "law") lawSc L fa cd)) (.forLoop (.Name (Str.ofString "row") px) it body2 [] (envOfC (Str.ofString "law") lawSc L fa cd)) (fun r s' => match r with | .ok f => Q f s' | .error e => X e s') s₂) E s := by
  have hxl : xs.length ≤ 50 := by rw [hp.length_eq, List.length_map]; omega
  refine for_list rfl F N (fun i m' nw => m' (Str.ofString "shelf") = some (.ref sh) ∧ m' (Str.ofString "rows") = some (.ref rl) ∧ ∃ oR', nw = (L + 1 + 1 + 1, oC) :: (L + 1 + 1, oR') :: (sh, lstOf its n) :: Tl ∧ (∃ v, oR'.data = .cell v))
    ⟨hm, hmr, oR, rfl, dR⟩ ?_ ?_ ?_ (its := ys)
  · rintro i m' nw ⟨_, _, oR', rfl, _⟩
    exact Or.inr ⟨_, .tail _ (.tail _ (.tail _ mrl)), rfl, _, rfl⟩
  · rintro i v m₁ nw I oI h tk E' hv ⟨hm1, hmr1, oR', rfl, ⟨vR, dR'⟩⟩ F1 N1 hne
    obtain ⟨a, x, y, t, u, rfl, hr, ma, hx, hy⟩ := hrows.get hv
    obtain ⟨c1, c2, c3, c4⟩ := counts_all hp hrows.low hx.2 hy.2
    refine wpAny_mono (turn2 w mean mg mb h₀ h L fa sh fl a I rl cd s tk m₁ px E' oI oC oR' oF vR its n xs Tl f0 f1 x y t u ys rs K0 KX T F1 N1 hm1 hmr1 dR' dF mF mfl ma mrl hrows.row hrows.length (by omega) (hne _ (.head _)) (hne _ (.tail _ (.head _))) (hne _ (.tail _ (.tail _ (.head _)))) n4 n5 (fun p hp => hne p (.tail _ (.tail _ (.tail _ hp)))) k2 k3 k4 hx hy hs hxl
        (anti_lt hso _) (anti_ge hso _) (anti_lt hso _) (anti_lt hso _) c1 c2 c3 c4)
      (fun _ s₂ h₂ => wpAny_mono h₂ (fun f s₃ h₃ => ?_) fun _ _ e => e) fun _ _ e => e
    obtain ⟨rfl, h', tk', m2, oR2, rfl, F2, N2, dR2, hm2, hmr2⟩ := h₃
    refine ⟨rfl, h', tk', m2, _, rfl, F2, N2, fun p hp => ?_, hm2, hmr2, oR2, rfl, dR2⟩
    rcases List.mem_cons.mp hp with rfl | hp
    · exact hne _ (.head _)
    rcases List.mem_cons.mp hp with rfl | hp
    · exact hne (L + 1 + 1, oR') (.tail _ (.head _))
    · exact hne p (.tail _ (.tail _ hp))
  · rintro h' tk' m' nw' F' N' _
    exact done h' tk' m' F'
end
end Mine
namespace Mine
open PySem PySem.W PyProof.Rows
set_option maxRecDepth 100000
set_option maxHeartbeats 8000000
def extra : List (List Nat × List Nat) := [([97], [97, 100]), ([97, 100], []), ([97], [97])]
theorem rows_done {h₀ h : Heap} {L D a1 a2 a3 low : Addr} {lo c3 c2 c1 d : Addr × Obj} {oD : Obj} {RT : List (Addr × Obj)} {ys : List Value} {rs : List (List Nat × List Nat)} {t1 u1 t2 u2 t3 u3 : Tok}
    (N : News h₀ L h ((D, oD) :: lo :: (a3, tupS (Str.ofString "a") t3 (Str.ofString "a") u3) :: (a2, tupS (Str.ofString "ad") t2 (Str.ofString "") u2) :: (a1, tupS (Str.ofString "a") t1 (Str.ofString "ad") u1) :: c3 :: c2 :: c1 :: d :: RT))
    (hrows : RowsIn RT ys rs) (hRT : ∀ p ∈ RT, low < p.1) (h1 : low < a1) (h2 : low < a2) (h3 : low < a3)
    (hl : ∀ p ∈ lo :: (a3, tupS (Str.ofString "a") t3 (Str.ofString "a") u3) :: (a2, tupS (Str.ofString "ad") t2 (Str.ofString "") u2) :: (a1, tupS (Str.ofString "a") t1 (Str.ofString "ad") u1) :: c3 :: c2 :: c1 :: d :: RT, p.1 < D) :
    ∃ RT2, News h₀ L h (c3 :: c2 :: c1 :: (D, oD) :: RT2) ∧ RowsIn RT2 (ys ++ [.ref a1, .ref a2, .ref a3]) (rs ++ extra) ∧ (∀ p ∈ RT2, low < p.1) ∧ (∀ p ∈ c3 :: c2 :: c1 :: RT2, p.1 < D) := by
  have e1 : Str.ofString "a" = st [97] := by decide
  have e2 : Str.ofString "ad" = st [97, 100] := by decide
  have e3 : Str.ofString "" = st [] := by decide
  rw [e1, e2, e3] at N hl
  refine ⟨(a3, tupS (st [97]) t3 (st [97]) u3) :: (a2, tupS (st [97, 100]) t2 (st []) u2) :: (a1, tupS (st [97]) t1 (st [97, 100]) u1) :: RT, fun p hp => N p ?_, ?_, fun p hp => ?_, fun p hp => hl p ?_⟩
  · simp only [List.mem_cons] at hp ⊢
    rcases hp with h | h | h | h | h | h | h | h <;> simp [h]
  · refine (hrows.mono fun p hp => .tail _ (.tail _ (.tail _ hp))).append ?_
    refine .cons (.tail _ (.tail _ (.head _))) ⟨by decide, by decide⟩ ⟨by decide, by decide⟩ ?_
    refine .cons (.tail _ (.head _)) ⟨by decide, by decide⟩ ⟨by decide, by decide⟩ ?_
    exact .cons (.head _) ⟨by decide, by decide⟩ ⟨by decide, by decide⟩ .nil
  · simp only [List.mem_cons] at hp
    rcases hp with h | h | h | h
    · rw [h]; exact h3
    · rw [h]; exact h2
    · rw [h]; exact h1
    · exact hRT p h
  · simp only [List.mem_cons] at hp ⊢
    rcases hp with h | h | h | h | h | h | h <;> simp [h]
theorem led {h₀ h : Heap} {L sh fl D : Addr} {b0 b1 : Bool} {ys : List Value} {c d e f g i j : Addr × Obj} {R : List (Addr × Obj)} (N : News h₀ L h ((sh, W.listOf [].toArray 0) :: (fl, W.listOf [Value.bool b0, Value.bool b1].toArray 0) :: c :: d :: e :: f :: g :: i :: j :: (D, W.listOf ys.toArray 0) :: R)) :
    ∃ f0 f1, News h₀ L h (g :: i :: (sh, lstOf [] 0) :: j :: (fl, falO f0 f1) :: (D, lstOf ys 0) :: R) := ⟨b0, b1, fun p hp => N p (by
  change p ∈ g :: i :: (sh, W.listOf [].toArray 0) :: j :: (fl, W.listOf [Value.bool b0, Value.bool b1].toArray 0) :: (D, W.listOf ys.toArray 0) :: R at hp
  simp only [List.mem_cons] at hp ⊢
  rcases hp with h | h | h | h | h | h | h <;> simp [h])⟩
theorem allLt_mem {D : Addr} : ∀ {l : List (Addr × Obj)}, AllLt D l → ∀ p ∈ l, p.1 < D
  | [], _, _, h => nomatch h
  | _ :: _, x, p, h => by
    rcases List.mem_cons.mp h with rfl | h
    · exact x.1
    · exact allLt_mem x.2 p h
local macro_rules | `(tactic| k_all) => `(tactic| assumption)
theorem law_holds : PySem.Challenge.rw_ph0065_01.Holds := hd (by
  w_strict (
    k_fill
    intro w s₀ s₁ mg mb G Y fa o pm cd doc dV kV ho hd hcd hD hmg hg args vals as hpre hlay hrd hwl hlo
    have KX := kIn_of Y
    k_behind G ho hd hcd hD hmg hpre hlay hrd hwl hlo cd
    (try k_fold)
    rename Top _ _ _ _ _ _ => T
    rename Below _ _ _ _ => K0
    rename News _ _ _ _ => N0
    replace K0 : Below callerA s₁.heap [] s₁.heap := K0
    rename IntsAre _ _ => hI
    rename Heap.IsList _ _ _ => hSc
    rename ¬ ((63 : Nat) : Int) < _ => h63
    obtain ⟨oC, oR, oF, N1, dC, dR, dF⟩ : ∃ oC oR oF, News s₁.heap s₁.heap.objs.size _ [(s₁.heap.objs.size + 1 + 1 + 1, oC), (s₁.heap.objs.size + 1 + 1, oR), (s₁.heap.objs.size + 1, oF)] ∧ oC.data = Data.cell none ∧ oR.data = Data.cell none ∧ oF.data = Data.cell none := ⟨_, _, _, N0, by assumption, by assumption, by assumption⟩
    have hend : ∀ h' tk' m', Fr s₁.heap s₁.heap.objs.size h' m' → qk (.ret (.bool true)) { heap := h', gens := s₁.gens, drawn := s₁.drawn, toks := tk', os := s₁.os } := by
      intro h' tk' m' F'
      k_unfold
      dsimp only
      wrow_close
    clear_value qk ek
    rename Tables _ _ _ _ => j1
    rename TopE _ _ _ _ => j2
    rename TopW _ _ _ => j3
    rename Flt.MathXP _ _ _ => j4
    rename LooseAre _ _ _ => j5
    rename CellsAre _ _ _ => j6
    rename Glob _ _ _ _ _ _ _ _ => j7
    rename BMod _ _ _ _ _ => j8
    rename Dflts _ _ _ _ _ _ => j9
    rename Well _ _ _ _ => j10
    rename ReadsAll _ _ _ _ => j11
    rename ReadsAllW _ _ _ _ _ _ => j12
    rename Reads _ _ _ _ => j13
    clear j1 j2 j3 j4 j5 j6 j7 j8 j9 j10 j11 j12 j13 hcd Y G
    generalize hLdef : s₁.heap.objs.size = L at *
    (repeat ((fail_if_success (with_reducible show wpAny _ _ (eval (Expr.ListComp _ _ _ _) _) _ _ _)); (first | (k_unfold; (try dsimp only)) | (walk1; (try dsimp only)) | (dsimp only; walk1))))
    rename Fr _ _ _ _ => F1
    refine LCg.ListComp_U F1 (by with_unfolding_all rfl) (by decide) (by rfl) (by decide) (by rfl) ?_
    repeat ((fail_if_success (with_reducible show LCg.CompSrc _ _ _ _ _ _ _ _ _ _ _ _ _ _)); (first | walk1 | (dsimp only; walk1)))
    rename Fr _ _ _ _ => F2
    rename News _ _ _ _ => N2
    rename IntsAre _ (List.take 5 _) => hI2
    rename (List.take 5 _).length = _ => hlen5
    rename _ ∧ _ ∧ _ => hlt
    have hwl := hI2.length
    refine LCg.CompSrc.ledger (k := 0) rfl F2 N2 (.head _) (by rw [List.size_toArray]; unfold sizeLine; omega) (fun g => ?_)
    refine compRest_inv (fun i ys nw => ∃ RT rs, nw = RT ++ [(_, _), (L + 1 + 1 + 1, oC), (L + 1 + 1, oR), (L + 1, oF)] ∧ RowsIn RT ys rs ∧ rs.length = i ∧ ∀ p ∈ RT, L + 1 + 1 + 1 < p.1) ?fin ?step _ _ _ _ (Nat.zero_add _) ⟨[], [], rfl, .nil, rfl, fun _ h => nomatch h⟩
    case step =>
      rintro i ys nw hi ⟨RT, rs, rfl, hrows, hrl, hRT⟩ v I oI C oK D m₂ h tk E' hv hC' hx F3 N3 off ne
      k_fold
      rw [List.size_toArray, hwl] at hi
      obtain ⟨t, hn⟩ := hI2.get i _ (List.getElem?_eq_getElem hi)
      generalize (List.take 5 _)[i] = n at hn
      have hv2 : v = .int n t := by
        rw [List.getElem?_toArray, hn] at hv
        exact (Option.some.inj hv).symm
      subst hv2
      (repeat ((fail_if_success (with_reducible show wpAny _ _ (call (Value.ref _) _) _ _ _)); (first | (k_unfold; (try dsimp only)) | (walk1; (try dsimp only)) | (dsimp only; walk1))))
      rename Fr _ _ _ _ => F4
      rename News _ _ _ _ => N4
      refine tells_use (text_tells w _ mg mb n t) K0 F4 KX N4 T rfl trivial (by ktr_room) (by ktr_units) ?_
      rintro r1 h5 tk5 ⟨l1, t1, hl1, rfl⟩ F5 N5
      (repeat ((fail_if_success (with_reducible show wpAny _ _ (call (Value.ref _) _) _ _ _)); (first | (k_unfold; (try dsimp only)) | (walk1; (try dsimp only)) | (dsimp only; walk1))))
      refine tells_use (text_tells w _ mg mb _ _) K0 F5 KX N5 T rfl trivial (by ktr_room) (by ktr_units) ?_
      rintro r2 h6 tk6 ⟨l2, t2, hl2, rfl⟩ F6 N6
      (repeat ((fail_if_success (with_reducible show wpAny _ _ (newTuple _) _ _ _)); (first | (k_unfold; (try dsimp only)) | (walk1; (try dsimp only)) | (dsimp only; walk1))))
      refine kup_newTuple F6 N6 ?_ (by show 2 ≤ _; unfold sizeLine; omega)
      intro D7 h7 F7 N7 l7
      k_unfold
      have lI : I < D7 := l7 _ (.head _)
      have lC : C < D7 := l7 _ (.tail _ (.head _))
      have lD : D < D7 := l7 _ (.tail _ (.tail _ (.head _)))
      have lc : L + 1 + 1 + 1 < D7 := l7 (L + 1 + 1 + 1, oC) (.tail _ (.tail _ (.tail _ (List.mem_append_right _ (.tail _ (.head _))))))
      refine LCg.CompEnd.intro F7 N7 ((D7, tupS (st l1) t1 (st l2) t2) :: (RT ++ _)) (fun p hp => ?_) ⟨⟨Nat.ne_of_gt lI, Nat.ne_of_gt lC, Nat.ne_of_gt lD⟩, off⟩ (Or.inr ⟨_, .tail _ (List.mem_append_right _ (.head _)), rfl, _, rfl⟩)
        ⟨(D7, tupS (st l1) t1 (st l2) t2) :: RT, rs ++ [(l1, l2)], rfl, (hrows.mono fun p hp => .tail _ hp).append (.cons (.head _) hl1 hl2 .nil), by rw [List.length_append, hrl]; rfl, fun p hp => ?_⟩
      · rcases List.mem_cons.mp hp with rfl | hp
        · exact .tail _ (.head _)
        rcases List.mem_cons.mp hp with rfl | hp
        · exact .tail _ (.tail _ (.head _))
        rcases List.mem_cons.mp hp with rfl | hp
        · exact .tail _ (.tail _ (.tail _ (.head _)))
        rcases List.mem_cons.mp hp with rfl | hp
        · exact .head _
        · exact .tail _ (.tail _ (.tail _ (.tail _ hp)))
      · rcases List.mem_cons.mp hp with rfl | hp
        · exact lc
        · exact hRT p hp
    case fin =>
      rintro ys nw ⟨RT, rs, rfl, hrows, hrl, hRT⟩
      intro D h9 tk9 F9 N9 off9
      have hys := hrows.length
      rw [List.size_toArray, hwl, hlen5] at hrl
      have hrl5 : rs.length ≤ 5 := by omega
      clear hI2 hlen5 hwl
      have oD := off1_mem off9
      have oDc : L + 1 + 1 + 1 ≠ D := oD (L + 1 + 1 + 1, oC) (List.mem_append_right _ (.tail _ (.head _)))
      have oDr : L + 1 + 1 ≠ D := oD (L + 1 + 1, oR) (List.mem_append_right _ (.tail _ (.tail _ (.head _))))
      have oDf : L + 1 ≠ D := oD (L + 1, oF) (List.mem_append_right _ (.tail _ (.tail _ (.tail _ (.head _)))))
      have N10 : News s₁.heap L h9 ((L + 1 + 1 + 1, oC) :: (L + 1 + 1, oR) :: (L + 1, oF) :: (D, W.listOf ys.toArray ys.length) :: RT) := fun p hp => N9 p (by
        rcases List.mem_cons.mp hp with rfl | hp
        · exact .tail _ (List.mem_append_right _ (.tail _ (.head _)))
        rcases List.mem_cons.mp hp with rfl | hp
        · exact .tail _ (List.mem_append_right _ (.tail _ (.tail _ (.head _))))
        rcases List.mem_cons.mp hp with rfl | hp
        · exact .tail _ (List.mem_append_right _ (.tail _ (.tail _ (.tail _ (.head _)))))
        rcases List.mem_cons.mp hp with rfl | hp
        · exact .head _
        · exact .tail _ (List.mem_append_left _ hp))
      have hRf : ∀ p ∈ RT, p.1 ≠ L + 1 := fun p hp => by have := hRT p hp; exact Nat.ne_of_gt (Nat.lt_trans (by omega) this)
      clear N9 off9 oD
      (repeat ((fail_if_success (with_reducible show wpAny _ _ (binaryOp _ _ _) _ _ _)); (first | (k_unfold; (try dsimp only)) | (walk1; (try dsimp only)) | (dsimp only; walk1))))
      rename Fr _ _ _ _ => F11
      rename News _ _ _ _ => N11
      refine kmk_add_lit F11 N11 (News.isList N11 (.tail _ (.tail _ (.tail _ (.tail _ (.tail _ (.tail _ (.tail _ (.head _)))))))) ) (News.isList N11 (.head _)) rfl ?_ (by simp only [List.length_cons, List.length_nil]; unfold sizeLine; omega)
      intro D12 h12 F12 N12 l12
      obtain ⟨RT2, N13, hrows2, hlow2, hup2⟩ := rows_done (low := L + 1 + 1 + 1) N12 hrows hRT (by refine ltN ?_; omega) (by refine ltN ?_; omega) (by refine ltN ?_; omega) l12
      have N14 : News s₁.heap L h12 ((L + 1 + 1 + 1, oC) :: (L + 1 + 1, oR) :: (L + 1, oF) :: (D12, W.listOf (List.toArray (ys ++ [_, _, _])) 0) :: RT2) := N13
      clear N11 N12 N13 F11 l12
      have hrs8 : (rs ++ extra).length ≤ 8 := by rw [List.length_append]; show _ + 3 ≤ 8; omega
      generalize (ys ++ _) = ys2 at N14 hrows2
      generalize (rs ++ extra) = rs2 at hrows2 hrs8
      have hRf2 : ∀ p ∈ RT2, p.1 ≠ L + 1 := fun p hp => by have := hlow2 p hp; exact Nat.ne_of_gt (Nat.lt_trans (by refine ltN ?_; omega) this)
      have hD1 : L + 1 + 1 + 1 < D12 := hup2 _ (.head _)
      have hD2 : L + 1 + 1 < D12 := hup2 _ (.tail _ (.head _))
      have hD3 : L + 1 < D12 := hup2 _ (.tail _ (.tail _ (.head _)))
      replace hD1 := ltN hD1
      replace hD2 := ltN hD2
      replace hD3 := ltN hD3
      (repeat ((fail_if_success (with_reducible show wpAny _ _ (exec (Stmt.For _ _ _ _ _) _) _ _ _)); (first | (k_unfold; (try dsimp only)) | walk1 | (dsimp only; walk1))))
      rename Fr _ _ _ _ => F20
      rename News _ _ _ _ => N20
      rename Obj.data _ = Data.cell (some _) => dF20
      refine wpAny_For ?_
      refine nameX_L F20 rfl ?_
      obtain ⟨f0, f1, N21⟩ := led N20
      rename _ < _ ∧ _ < _ ∧ _ < _ ∧ _ < _ ∧ _ < _ ∧ _ < _ ∧ _ < _ ∧ _ < _ ∧ _ < _ ∧ AllLt _ _ => lsh
      rename _ < _ ∧ _ < _ ∧ _ < _ ∧ _ < _ ∧ _ < _ ∧ _ < _ ∧ _ < _ ∧ _ < _ ∧ AllLt _ _ => lfl
      obtain ⟨a1, a2, a3, a4, a5, a6, a7, a8, a9, a10⟩ := lsh
      obtain ⟨b1, b2, b3, b4, b5, b6, b7, b8, b9⟩ := lfl
      refine loop1 w _ mg mb s₁.heap L fa _ _ _ _ _ _ _ _ _ _ _ _ f0 f1 ys2 rs2 K0 KX T dF20 ?mF ?mfl ?mrl ?hrows hrs8 ?n4 ?n5 ?k2 ?k3 ?k4 oC oR F20 N21 rfl dC dR ?done
      case mF => exact .head _
      case mfl => exact .tail _ (.head _)
      case mrl => exact .tail _ (.tail _ (.head _))
      case hrows => exact hrows2.mono fun p hp => .tail _ (.tail _ (.tail _ hp))
      case n4 => exact Nat.ne_of_gt a6
      case n5 => exact Nat.ne_of_gt a7
      case k2 =>
        intro p hp
        rcases List.mem_cons.mp hp with rfl | hp
        · exact neN (by show L + 1 ≠ L + 1 + 1 + 1; omega)
        rcases List.mem_cons.mp hp with rfl | hp
        · exact Nat.ne_of_gt b5
        rcases List.mem_cons.mp hp with rfl | hp
        · exact Nat.ne_of_gt hD1
        · exact Nat.ne_of_gt (hlow2 p hp)
      case k3 =>
        intro p hp
        rcases List.mem_cons.mp hp with rfl | hp
        · exact neN (by show L + 1 ≠ L + 1 + 1; omega)
        rcases List.mem_cons.mp hp with rfl | hp
        · exact Nat.ne_of_gt b6
        rcases List.mem_cons.mp hp with rfl | hp
        · exact Nat.ne_of_gt hD2
        · exact Nat.ne_of_gt (Nat.lt_trans (Nat.lt_succ_self _) (hlow2 p hp))
      case k4 =>
        intro p hp
        rcases List.mem_cons.mp hp with rfl | hp
        · exact Nat.ne_of_lt a8
        rcases List.mem_cons.mp hp with rfl | hp
        · exact Nat.ne_of_lt a1
        rcases List.mem_cons.mp hp with rfl | hp
        · exact Nat.ne_of_lt a9
        · exact Nat.ne_of_lt (allLt_mem a10 p hp)
      case done =>
        intro h30 tk30 oC30 oR30 its30 n30 xs30 F30 N30 dC30 dR30 hs30 hso30 hp30
        clear N20 F20 N21
        (repeat ((fail_if_success (with_reducible show wpAny _ _ (exec (Stmt.For _ _ _ _ _) _) _ _ _)); (first | (k_unfold; (try dsimp only)) | walk1 | (dsimp only; walk1))))
        refine wpAny_For ?_
        refine nameX_L F30 rfl ?_
        refine loop2 w _ mg mb s₁.heap L fa _ _ _ _ _ _ _ _ _ _ _ _ f0 f1 ys2 rs2 K0 KX T dF20 ?mF ?mfl ?mrl ?hrows hrs8 ?n4 ?n5 ?k2 ?k3 ?k4 oC30 oR30 its30 n30 xs30 F30 N30 rfl rfl dR30 hs30 hso30 hp30 ?done
        case mF => exact .head _
        case mfl => exact .tail _ (.head _)
        case mrl => exact .tail _ (.tail _ (.head _))
        case hrows => exact hrows2.mono fun p hp => .tail _ (.tail _ (.tail _ hp))
        case n4 => exact Nat.ne_of_gt a6
        case n5 => exact Nat.ne_of_gt a7
        case k2 =>
          intro p hp
          rcases List.mem_cons.mp hp with rfl | hp
          · exact neN (by show L + 1 ≠ L + 1 + 1 + 1; omega)
          rcases List.mem_cons.mp hp with rfl | hp
          · exact Nat.ne_of_gt b5
          rcases List.mem_cons.mp hp with rfl | hp
          · exact Nat.ne_of_gt hD1
          · exact Nat.ne_of_gt (hlow2 p hp)
        case k3 =>
          intro p hp
          rcases List.mem_cons.mp hp with rfl | hp
          · exact neN (by show L + 1 ≠ L + 1 + 1; omega)
          rcases List.mem_cons.mp hp with rfl | hp
          · exact Nat.ne_of_gt b6
          rcases List.mem_cons.mp hp with rfl | hp
          · exact Nat.ne_of_gt hD2
          · exact Nat.ne_of_gt (Nat.lt_trans (Nat.lt_succ_self _) (hlow2 p hp))
        case k4 =>
          intro p hp
          rcases List.mem_cons.mp hp with rfl | hp
          · exact Nat.ne_of_lt a8
          rcases List.mem_cons.mp hp with rfl | hp
          · exact Nat.ne_of_lt a1
          rcases List.mem_cons.mp hp with rfl | hp
          · exact Nat.ne_of_lt a9
          · exact Nat.ne_of_lt (allLt_mem a10 p hp)
        case done =>
          intro h40 tk40 m40 F40
          (repeat ((fail_if_success (with_reducible show qk _ _)); (first | walk1 | (dsimp only; walk1))))
          exact hend _ _ _ F40))
end Mine
theorem PySem.Challenge.cw_ph0065_01_holds : PySem.Challenge.rw_ph0065_01.Holds := by
  exact Mine.law_holds
