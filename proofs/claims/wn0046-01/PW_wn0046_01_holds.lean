import PyProof.Rows.All
import Wide.All
import OpenK.AllK
import Wide.FinOn
import PySem.Challenge.RW_wn0046_01
open PySem PySem.W PyProof.Rows
set_option Elab.async false
namespace Mine
set_option maxRecDepth 100000 in
set_option maxHeartbeats 8000000 in
open_top hd for PySem.Challenge.rw_wn0046_01
end Mine
open PySem.Spec PySem.Calls
set_option maxHeartbeats 2000000
set_option rowWalk.seconds 0
namespace Mine

abbrev Led := List (Addr × Obj)

/-- what is said of a call of the def at address f on the values vs: the ledger must be of the kind asks; behind it comes a value and a ledger of the kind R -/
def Fn (w : World) (f : Addr) (d u : Nat) (vs : List Value) (asks : Led → Prop) (R : Led → Value → Led → Prop) : Prop :=
  ∀ (mean : ExcName → Option Value) (mg mb : Str → Option Value) (dp un : Nat) (gd : Option (List Code)) (cn : Str) (cs : Scope) (a : Addr) (ccd : Value) (cl : List (Str × Addr)) (outer : List Env) (A₀ : Around) (base h₀ : Heap) (L : Addr) (m : Str → Option Value) (news : Led) (s : Shared) (Q E : Value → Shared → Prop),
    Below A₀ base outer h₀ → Fr h₀ L s.heap m → (hd.heap_39 w.params).In h₀ → News h₀ L s.heap news → Top hd.view_39 (looseW hd.view_39 [Str.ofString "Flags"]) mean mg mb h₀ → cs.kind = .function →
    dp + d < recursionLimit → un + u < cLine → asks news →
    (∀ r news' h' tk', Fr h₀ L h' m → News h₀ L h' news' → R news r news' → Q r { s with heap := h', toks := tk' }) →
    wpAny (model PySem.Challenge.rw_wn0046_01.row.prog w) (ktrTop dp un gd cn cs L a ccd cl outer) (call (.ref f) vs) Q E s

theorem Fn.use {w : World} {f : Addr} {d u : Nat} {vs : List Value} {asks : Led → Prop} {R : Led → Value → Led → Prop}
    {mean : ExcName → Option Value} {mg mb : Str → Option Value} {dp un : Nat} {gd : Option (List Code)} {cn : Str} {cs : Scope} {a : Addr} {ccd : Value} {cl : List (Str × Addr)} {outer : List Env} {A₀ : Around} {base h₀ : Heap} {L : Addr} {m : Str → Option Value} {news : Led} {s : Shared} {Q E : Value → Shared → Prop}
    (C : Fn w f d u vs asks R)
    (B : Below A₀ base outer h₀) (F : Fr h₀ L s.heap m) (X : (hd.heap_39 w.params).In h₀) (N : News h₀ L s.heap news) (T : Top hd.view_39 (looseW hd.view_39 [Str.ofString "Flags"]) mean mg mb h₀) (hk : cs.kind = .function)
    (hd : dp + d < recursionLimit) (hu : un + u < cLine) (ha : asks news)
    (hret : ∀ r news' h' tk', Fr h₀ L h' m → News h₀ L h' news' → R news r news' → Q r { s with heap := h', toks := tk' }) :
    wpAny (model PySem.Challenge.rw_wn0046_01.row.prog w) (ktrTop dp un gd cn cs L a ccd cl outer) (call (.ref f) vs) Q E s :=
  C mean mg mb dp un gd cn cs a ccd cl outer A₀ base h₀ L m news s Q E B F X N T hk hd hu ha hret

/-- a new list of ints on the ledger -/
def NewInts (res : List Int) (news : Led) (r : Value) (news' : Led) : Prop :=
  ∃ (l : Addr) (ys : List Value) (n : Nat), r = .ref l ∧ news' = (l, listOf ys.toArray n) :: news ∧ IntsAre ys res ∧ LCg.Off1 l news
/-- an int, the ledger as it was -/
def RetInt (x : Int) (news : Led) (r : Value) (news' : Led) : Prop := (∃ t, r = .int x t) ∧ news' = news

/-- a place where the walk stands still -/
def Stop (P : Prop) : Prop := P
theorem stopI {P : Prop} (h : Stop P) : P := h
theorem off1_of {D : Addr} : ∀ {l : Led}, (∀ p ∈ l, p.1 < D) → LCg.Off1 D l
  | [], _ => trivial
  | p :: r, h => ⟨Nat.ne_of_lt (h p (.head _)), off1_of fun q hq => h q (.tail _ hq)⟩
end Mine

namespace Mine
section
variable {prog : Program} {w : World} {A : Around} {h₀ : Heap} {L : Addr} {m : Str → Option Value} {env : Env} {R : Result → Shared → Prop}

theorem turn_two1 (elt : Expr) (g0 : Comprehension) (target iter ct : Expr) (scope : Scope) (pos : Pos) (it acc : Value) (cenv : Env) :
    compTurn (.ListComp elt [g0, ⟨target, iter, [ct], 0⟩] scope pos) 1 it acc cenv = (do
      standAt iter.pos
      match ← pyNext it with
      | none => pure (.done .next)
      | some v =>
        letOwnedTupleGo target it v
        assign target cenv v
        let mut ok := true
        for c in [ct] do
          if ok then ok ← isTrue c cenv (eval c cenv)
        if ok then
          (do let _ ← call (.builtin "list.append") [acc, ← eval elt cenv])
        again (.compLoop (.ListComp elt [g0, ⟨target, iter, [ct], 0⟩] scope pos) 1 it acc cenv)) := by rfl

theorem turn_two0 (elt target iter : Expr) (target' iter' ct : Expr) (scope : Scope) (pos : Pos) (it acc : Value) (cenv : Env) :
    compTurn (.ListComp elt [⟨target, iter, [], 0⟩, ⟨target', iter', [ct], 0⟩] scope pos) 0 it acc cenv = (do
      standAt iter.pos
      match ← pyNext it with
      | none => pure (.done .next)
      | some v =>
        letOwnedTupleGo target it v
        assign target cenv v
        let x ← eval iter' cenv
        standAt iter'.pos
        let x ← foldedSetIterable iter' cenv x
        let _ ← runOwn (.compStart (.ListComp elt [⟨target, iter, [], 0⟩, ⟨target', iter', [ct], 0⟩] scope pos) 1 (← holding [x] (pyIter x)) acc cenv) cenv
        again (.compLoop (.ListComp elt [⟨target, iter, [], 0⟩, ⟨target', iter', [ct], 0⟩] scope pos) 0 it acc cenv)) := by rfl

theorem start_two1 {elt : Expr} {g0 : Comprehension} {target iter ct : Expr} {scope : Scope} {pos : Pos} {it acc : Value} {cenv : Env} {s : Shared}
    (h0 : codeAny (model prog w) A (.compLoop (.ListComp elt [g0, ⟨target, iter, [ct], 0⟩] scope pos) 1 it acc cenv) R s)
    (h : ∀ E, wpAny (model prog w) A (pyIter it) (fun it' s' => codeAny (model prog w) A (.compLoop (.ListComp elt [g0, ⟨target, iter, [ct], 0⟩] scope pos) 1 it' acc cenv) R s') E s) :
    codeAny (model prog w) A (.compStart (.ListComp elt [g0, ⟨target, iter, [ct], 0⟩] scope pos) 1 it acc cenv) R s := by
  refine codeAny_of_tree ?_
  show wpAny _ _ ((compStart (.ListComp elt [g0, ⟨target, iter, [ct], 0⟩] scope pos) 1 it acc cenv).onRaise (fun x => do noteFrame x cenv; standAt theWindowsPlace)) _ _ s
  refine wpAny_notedAt ?_
  unfold compStart
  show wpAny _ _ (ask >>= _) _ _ s
  refine wpAny_bind (wpAny_askSetting (wpAny_ite ?_))
  split
  · first
      | exact wpAny_bind (wpAny_pure (wpAny_pure (And.intro rfl h0)))
      | exact wpAny_pure (And.intro rfl h0)
  · first
      | exact wpAny_bind (wpAny_rule (wpAny_bind (wpAny_standAt (wpAny_bind (wpAny_mono (h _) (fun it' s' h' => wpAny_pure (And.intro rfl h')) fun _ _ x => x)))))
      | (refine wpAny_bind (wpAny_rule ?_); show wpAny _ _ (standAt iter.pos >>= _) _ _ s; exact wpAny_bind (wpAny_standAt (wpAny_bind (wpAny_mono (h _) (fun it' s' h' => wpAny_pure (And.intro rfl h')) fun _ _ x => x))))

/-- what a turn of the inner clause gives -/
def EndIn (h₀ : Heap) (L : Addr) (m : Str → Option Value) (s₁ : Shared) (J : Addr) (oJ : Obj) (C : Addr) (oC : Obj) (D : Addr) (oD : Obj) (news : Led) (ok : List Int → Prop) (l : List Int) (y : Option Value) (s₂ : Shared) : Prop :=
  ∃ h' tk, s₂ = { s₁ with heap := h', toks := tk } ∧ Fr h₀ L h' m ∧ News h₀ L h' ((J, oJ) :: (C, oC) :: (D, oD) :: news) ∧
    match y with
    | none => ok l
    | some y => ∃ (a : Int) (t : Tok), y = .int a t ∧ ok (l ++ [a])

theorem loop_in {elt : Expr} {g0 : Comprehension} {x : Str} {px : Pos} {iter ct : Expr} {scope : Scope} {pos : Pos} {cl : List (Str × Addr)} {s : Shared} {news : Led}
    {J X C D : Addr} {nX : Nat} {items : List Value} {ks : List Int} {l₀ : List Int} {mC : Str → Option Value} (G : List Int → Int → List Int)
    (hh : A.handled = none) (hkind : scope.kind = .function) (hx : scope.names.lookup x = some .local) (hi : IntsAre items ks)
    (hX : (X, listOf items.toArray nX) ∈ news) (hJL : L ≠ J) (hJ₀ : h₀.get? J = none) (hJC : J ≠ C) (hJD : J ≠ D) (hCD : C ≠ D) (off : LCg.Off3 J C D news)
    (turn : ∀ k t oJ oC m₂ ys l h tk (E' : Value → Shared → Prop), k ∈ ks → IntsAre ys l → LCg.NsObj oC m₂ → m₂ x = some (.int k t) → (∀ z, z ≠ x → m₂ z = mC z) → Fr h₀ L h m → News h₀ L h ((J, oJ) :: (C, oC) :: (D, LCg.lst ys) :: news) →
      wpAny (model prog w) A (isTrue ct (compEnvC scope cl C env) (eval ct (compEnvC scope cl C env))) (fun b s' => if b = true then
          wpAny (model prog w) A (eval elt (compEnvC scope cl C env)) (fun y s'' => EndIn h₀ L m { s with heap := h, toks := tk } J oJ C oC D (LCg.lst ys) news (fun r => r = G l k) l (some y) s'') E' s'
        else EndIn h₀ L m { s with heap := h, toks := tk } J oJ C oC D (LCg.lst ys) news (fun r => r = G l k) l none s') E' { s with heap := h, toks := tk })
    (fin : ∀ ys oC m₂ h tk, IntsAre ys (ks.foldl G l₀) → LCg.NsObj oC m₂ → Fr h₀ L h m → News h₀ L h ((C, oC) :: (D, LCg.lst ys) :: news) → R (.ok .next) { s with heap := h, toks := tk })
    {ys : List Value} {oC : Obj} {h : Heap} {tk : Nat} (hit : h.IsListIter J X 0) (F : Fr h₀ L h m) (N : News h₀ L h ((C, oC) :: (D, LCg.lst ys) :: news)) (hoC : LCg.NsObj oC mC) (hy : IntsAre ys l₀)
    (hsz : l₀.length + ks.length ≤ sizeLine) (hg : KPfGrows G) :
    codeAny (model prog w) A (.compLoop (.ListComp elt [g0, ⟨.Name x px, iter, [ct], 0⟩] scope pos) 1 (.ref J) (.ref D) (compEnvC scope cl C env)) R { s with heap := h, toks := tk } := by
  have hXJ : X ≠ J := (off.mem _ hX).1
  have W := Walks.list (prog := prog) (w := w) hh J X hXJ items.toArray
  have hN : items.toArray.size = ks.length := by simp [hi.length]
  rw [hN] at W
  have lens : ∀ i, ((ks.take i).foldl G l₀).length ≤ l₀.length + (ks.take i).length := fun i => by
    have := kpf_len hg (ks.take i) l₀
    omega
  refine codeAny_loop rfl (fun n s' => ∃ h' tk' i ys' oC' m', s' = { s with heap := h', toks := tk' } ∧ i ≤ ks.length ∧ n = ks.length + 1 - i ∧ (h'.IsListIter J X i ∧ h'.IsList X items.toArray) ∧ Fr h₀ L h' m ∧
      News h₀ L h' ((C, oC') :: (D, LCg.lst ys') :: news) ∧ LCg.NsObj oC' m' ∧ (∀ z, z ≠ x → m' z = mC z) ∧ IntsAre ys' ((ks.take i).foldl G l₀)) (fun n s' hI => ?_) (ks.length + 1)
    ⟨h, tk, 0, ys, oC, mC, rfl, Nat.zero_le _, rfl, ⟨hit, ⟨_, (N _ (.tail _ (.tail _ hX))).1, rfl, _, rfl⟩⟩, F, N, hoC, fun _ _ => rfl, by simpa using hy⟩
  obtain ⟨h', tk', i, ys', oC', m', rfl, hi', rfl, hst, F', N', hoC', hm', hy'⟩ := hI
  show wpAny _ A ((compTurn (.ListComp elt [g0, ⟨.Name x px, iter, [ct], 0⟩] scope pos) 1 (.ref J) (.ref D) (compEnvC scope cl C env)).onRaise (fun x => do noteFrame x (compEnvC scope cl C env); theTreesLotGoes x)) _ _ _
  refine wpAny_noted ?_
  rw [turn_two1]
  refine wpAny_bind (wpAny_standAt (wpAny_bind ?_))
  have zC' := N' _ (.head _)
  have zD' := N' _ (.tail _ (.head _))
  by_cases hlt : i < ks.length
  · refine W.item i _ _ _ hlt hst fun v h₂ tk₂ hPv hst₂ hk₂ => ?_
    refine wpAny_bind (wpAny_of_eq rfl ?_)
    have hn₂ : h₂.Ns C m' := (hoC'.ns zC'.1).at' fun o e => hk₂ _ o (by simpa using Ne.symm hJC) e
    refine wpAny_bind (wpAny_assign_Name (wpAny_storeName_local (lookup_relabel_local hx) hn₂ (fun h₃ hn₃ hs₃ => ?_) (by simp [compEnvC, relabel, hkind])))
    refine wpAny_bind (wpAny_tests_one ?_)
    obtain ⟨k, t, ev, hk⟩ := IntsAre.at hi i v (by simpa using hPv)
    subst ev
    have keep3 : ∀ b o, b ≠ J → b ≠ C → h'.get? b = some o → h₃.get? b = some o := fun b o e1 e2 e => hs₃.extBut b o e2 (hk₂ b o (by simpa using e1) e)
    have hC₀ := zC'.2.2
    have hCL := zC'.2.1
    have F₃ : Fr h₀ L h₃ m := ⟨F'.ns.at' fun o e => keep3 L o hJL (Ne.symm hCL) e, fun b o e => keep3 b o (fun q => by rw [q, hJ₀] at e; cases e) (fun q => by rw [q, hC₀] at e; cases e) (F'.keep b o e), F'.above⟩
    have off3 := off.mem
    obtain ⟨oC₃, heC, hoC₃⟩ := LCg.ns_obj hn₃
    have hst₃ : h₃.IsListIter J X (i + 1) ∧ h₃.IsList X items.toArray := W.frame _ _ _ hst₂ fun b hb o e => hs₃.extBut b o (fun q => by
      have q' : b = C := q
      rcases List.mem_cons.mp hb with r | r
      · exact hJC (by rw [← r, q'])
      · exact (off3 _ hX).2.1 (by rw [← q', List.mem_singleton.mp r])) e
    have hJ₃ : ∃ oJ, h₃.get? J = some oJ := by obtain ⟨o, e, _⟩ := hst₃.1; exact ⟨o, e⟩
    obtain ⟨oJ, heJ⟩ := hJ₃
    have N₃ : News h₀ L h₃ ((J, oJ) :: (C, oC₃) :: (D, LCg.lst ys') :: news) := fun p hp => by
      rcases List.mem_cons.mp hp with rfl | hp
      · exact ⟨heJ, Ne.symm hJL, hJ₀⟩
      · rcases List.mem_cons.mp hp with rfl | hp
        · exact ⟨heC, hCL, hC₀⟩
        · rcases List.mem_cons.mp hp with rfl | hp
          · exact ⟨keep3 _ _ (Ne.symm hJD) (Ne.symm hCD) zD'.1, zD'.2⟩
          · have z := N' p (.tail _ (.tail _ hp))
            exact ⟨keep3 _ _ (off3 p hp).1 (off3 p hp).2.1 z.1, z.2⟩
    have hsI : (ks.take (i + 1)).foldl G l₀ = G ((ks.take i).foldl G l₀) k := by
      rw [List.take_add_one, hk]; simp
    refine wpAny_mono (turn k t oJ oC₃ _ ys' _ h₃ _ _ (List.mem_of_getElem? hk) hy' hoC₃ (by simp) (fun z hz => by simp only [if_neg hz]; exact hm' z hz) F₃ N₃) (fun b s₄ h₄ => ?_) fun _ _ e => e
    have fin' : ∀ h₅ tk₅ ys₅, h₅.get? J = some oJ → Fr h₀ L h₅ m → News h₀ L h₅ ((C, oC₃) :: (D, LCg.lst ys₅) :: news) → IntsAre ys₅ ((ks.take (i + 1)).foldl G l₀) →
        ∃ n', n' < ks.length + 1 - i ∧ ∃ h' tk' i ys' oC' m', ({ s with heap := h₅, toks := tk₅ } : Shared) = { s with heap := h', toks := tk' } ∧ i ≤ ks.length ∧ n' = ks.length + 1 - i ∧ (h'.IsListIter J X i ∧ h'.IsList X items.toArray) ∧ Fr h₀ L h' m ∧
          News h₀ L h' ((C, oC') :: (D, LCg.lst ys') :: news) ∧ LCg.NsObj oC' m' ∧ (∀ z, z ≠ x → m' z = mC z) ∧ IntsAre ys' ((ks.take i).foldl G l₀) := fun h₅ tk₅ ys₅ e₅ F₅ N₅ y₅ =>
      ⟨ks.length + 1 - (i + 1), by omega, h₅, tk₅, i + 1, ys₅, oC₃, _, rfl, hlt, rfl, ⟨by obtain ⟨o, q, r⟩ := hst₃.1; rw [heJ] at q; cases q; exact ⟨oJ, e₅, r⟩, ⟨_, (N₅ _ (.tail _ (.tail _ hX))).1, rfl, _, rfl⟩⟩, F₅, N₅, hoC₃, fun z hz => by simp only [if_neg hz]; exact hm' z hz, y₅⟩
    cases b with
    | true =>
      simp only [if_true] at h₄ ⊢
      refine wpAny_bind (wpAny_bind (wpAny_mono h₄ (fun y s₅ h₅ => ?_) fun _ _ e => e))
      obtain ⟨h₄, tk₄, rfl, F₄, N₄, a, ta, rfl, ha⟩ := h₅
      have zJ := (N₄ _ (.head _)).1
      have zD := (N₄ _ (.tail _ (.tail _ (.head _)))).1
      have hlen : ys'.length ≤ sizeLine := by
        rw [hy'.length]
        have h1 := lens i
        have h2 := List.length_take_le i ks
        omega
      refine wpAny_bind (append_at (hsz := by show ys'.toArray.size ≤ sizeLine; rw [List.size_toArray]; exact hlen) zD fun h₅ hs₅ hD₅ => ?_)
      refine wpAny_pure (wpAny_pure ⟨rfl, ?_⟩)
      have zDL := (N₄ _ (.tail _ (.tail _ (.head _)))).2
      refine fin' h₅ tk₄ (ys' ++ [.int a ta]) (hs₅.extBut _ _ hJD zJ) (F₄.change hs₅ zDL.1 zDL.2) (fun p hp => ?_) (by rw [hsI, ← ha]; exact IntsAre.append hy' (.cons a ta .nil))
      rcases List.mem_cons.mp hp with rfl | hp
      · have z := N₄ _ (.tail _ (.head _)); exact ⟨hs₅.extBut _ _ hCD z.1, z.2⟩
      · rcases List.mem_cons.mp hp with rfl | hp
        · exact ⟨hD₅.trans (congrArg some (LCg.lst_snoc ys' _)), zDL⟩
        · have z := N₄ p (.tail _ (.tail _ (.tail _ hp))); exact ⟨hs₅.extBut _ _ (off3 p hp).2.2 z.1, z.2⟩
    | false =>
      simp only [Bool.false_eq_true, if_false] at h₄ ⊢
      obtain ⟨h₅, tk₄, rfl, F₄, N₄, ha⟩ := h₄
      refine wpAny_pure ⟨rfl, fin' h₅ tk₄ ys' (N₄ _ (.head _)).1 F₄ (fun p hp => N₄ p (.tail _ hp)) (by rw [hsI, ← ha]; exact hy')⟩
  · obtain rfl : i = ks.length := Nat.le_antisymm hi' (Nat.not_lt.mp hlt)
    refine W.done _ _ _ hst fun h₂ tk₂ hk₂ => ?_
    refine wpAny_pure ?_
    rw [List.take_length] at hy'
    refine fin ys' oC' m' h₂ tk₂ hy' hoC' ⟨F'.ns.at' fun o e => hk₂ L o (by simpa using hJL) e, fun b o e => hk₂ b o (fun hm => by rw [List.mem_singleton.mp hm, hJ₀] at e; cases e) (F'.keep b o e), F'.above⟩ (fun p hp => ?_)
    have z := N' p hp
    refine ⟨hk₂ _ _ ?_ z.1, z.2⟩
    rcases List.mem_cons.mp hp with rfl | hp
    · simpa using Ne.symm hJC
    · rcases List.mem_cons.mp hp with rfl | hp
      · simpa using Ne.symm hJD
      · simpa using (off.mem p hp).1
end
end Mine

namespace Mine
section
variable {prog : Program} {w : World} {A : Around} {E : Value → Shared → Prop} {h₀ : Heap} {L : Addr} {m : Str → Option Value} {env : Env} {R : Result → Shared → Prop}

/-- the inner iterable of a turn of the outer clause: a new list of ints -/
def EndIter (h₀ : Heap) (L : Addr) (m : Str → Option Value) (s₁ : Shared) (led : Led) (ws : List Int) (v : Value) (s₂ : Shared) : Prop :=
  ∃ X vs nX h' tk, v = .ref X ∧ s₂ = { s₁ with heap := h', toks := tk } ∧ Fr h₀ L h' m ∧ News h₀ L h' ((X, listOf vs.toArray nX) :: led) ∧ IntsAre vs ws ∧ ∀ p ∈ led, p.1 ≠ X

def Iter2 (prog : Program) (w : World) (A : Around) (h₀ : Heap) (L : Addr) (m : Str → Option Value) (env : Env) (iter' : Expr) (x : Str) (scope : Scope) (cl : List (Str × Addr)) (s : Shared) (news : Led) (ns : List Int) (W : Int → List Int) : Prop :=
  ∀ k t I oI C oC D m₂ ys h tk (E' : Value → Shared → Prop), k ∈ ns → LCg.NsObj oC m₂ → m₂ x = some (.int k t) → Fr h₀ L h m → News h₀ L h ((I, oI) :: (C, oC) :: (D, LCg.lst ys) :: news) → LCg.Off3 I C D news → ((@Ne Nat I C) ∧ (@Ne Nat I D) ∧ (@Ne Nat C D)) →
    wpAny (model prog w) A (eval iter' (compEnvC scope cl C env)) (EndIter h₀ L m { s with heap := h, toks := tk } ((I, oI) :: (C, oC) :: (D, LCg.lst ys) :: news) (W k)) E' { s with heap := h, toks := tk }

def Turn2 (prog : Program) (w : World) (A : Around) (h₀ : Heap) (L : Addr) (m : Str → Option Value) (env : Env) (ct elt : Expr) (x x' : Str) (scope : Scope) (cl : List (Str × Addr)) (s : Shared) (news : Led) (ns : List Int) (W : Int → List Int) (G : Int → List Int → Int → List Int) : Prop :=
  ∀ k t k' t' J oJ X oX I oI C oC D m₂ ys l h tk (E' : Value → Shared → Prop), k ∈ ns → k' ∈ W k → IntsAre ys l → LCg.NsObj oC m₂ → m₂ x = some (.int k t) → m₂ x' = some (.int k' t') → Fr h₀ L h m →
    News h₀ L h ((J, oJ) :: (C, oC) :: (D, LCg.lst ys) :: (X, oX) :: (I, oI) :: news) →
    wpAny (model prog w) A (isTrue ct (compEnvC scope cl C env) (eval ct (compEnvC scope cl C env))) (fun b s' => if b = true then
        wpAny (model prog w) A (eval elt (compEnvC scope cl C env)) (fun y s'' => EndIn h₀ L m { s with heap := h, toks := tk } J oJ C oC D (LCg.lst ys) ((X, oX) :: (I, oI) :: news) (fun r => r = G k l k') l (some y) s'') E' s'
      else EndIn h₀ L m { s with heap := h, toks := tk } J oJ C oC D (LCg.lst ys) ((X, oX) :: (I, oI) :: news) (fun r => r = G k l k') l none s') E' { s with heap := h, toks := tk }

def G2 (W : Int → List Int) (G : Int → List Int → Int → List Int) (l : List Int) (k : Int) : List Int := (W k).foldl (G k) l
theorem G2_len {W : Int → List Int} {G : Int → List Int → Int → List Int} {b : Nat} (hg : ∀ k, KPfGrows (G k)) (hW : ∀ k, (W k).length ≤ b) : ∀ (ns : List Int) (l : List Int), (ns.foldl (G2 W G) l).length ≤ l.length + ns.length * b
  | [], l => by simp
  | k :: r, l => by
    have h1 := G2_len hg hW r (G2 W G l k)
    have h2 := kpf_len (hg k) (W k) l
    have h3 := hW k
    simp only [List.foldl_cons, List.length_cons, Nat.succ_mul]
    unfold G2 at h1 ⊢
    omega

theorem loop_out {elt iter iter' ct : Expr} {x x' : Str} {px px' : Pos} {scope : Scope} {pos : Pos} {cl : List (Str × Addr)} {s : Shared} {news : Led}
    {I ax C D : Addr} {nn b : Nat} {vs : List Value} {ns : List Int} {W : Int → List Int} {G : Int → List Int → Int → List Int}
    (hh : A.handled = none) (hkind : scope.kind = .function) (hx : scope.names.lookup x = some .local) (hx' : scope.names.lookup x' = some .local) (hxx : x ≠ x') (hi : IntsAre vs ns)
    (hax : (ax, listOf vs.toArray nn) ∈ news) (hIL : L ≠ I) (hI₀ : h₀.get? I = none) (hIC : I ≠ C) (hID : I ≠ D) (hCD : C ≠ D) (off : LCg.Off3 I C D news)
    (hfs : ∀ v, foldedSetIterable iter' (compEnvC scope cl C env) v = pure v)
    (H1 : Iter2 prog w A h₀ L m env iter' x scope cl s news ns W) (H2 : Turn2 prog w A h₀ L m env ct elt x x' scope cl s news ns W G)
    (fin : ∀ ys oC m₂ h tk, IntsAre ys (ns.foldl (G2 W G) []) → LCg.NsObj oC m₂ → Fr h₀ L h m → News h₀ L h ((C, oC) :: (D, LCg.lst ys) :: news) → R (.ok .next) { s with heap := h, toks := tk })
    {oC : Obj} {h : Heap} {tk : Nat} {mC : Str → Option Value} (hit : h.IsListIter I ax 0) (F : Fr h₀ L h m) (N : News h₀ L h ((C, oC) :: (D, LCg.lst []) :: news)) (hoC : LCg.NsObj oC mC)
    (hg : ∀ k, KPfGrows (G k)) (hW : ∀ k, (W k).length ≤ b) (hsz : ns.length * b ≤ sizeLine) :
    codeAny (model prog w) A (.compLoop (.ListComp elt [⟨.Name x px, iter, [], 0⟩, ⟨.Name x' px', iter', [ct], 0⟩] scope pos) 0 (.ref I) (.ref D) (compEnvC scope cl C env)) R { s with heap := h, toks := tk } := by
  have hXI : ax ≠ I := (off.mem _ hax).1
  have WL := Walks.list (prog := prog) (w := w) hh I ax hXI vs.toArray
  have hN : vs.toArray.size = ns.length := by simp [hi.length]
  rw [hN] at WL
  refine codeAny_loop rfl (fun n s' => ∃ h' tk' i ys' oC' m', s' = { s with heap := h', toks := tk' } ∧ i ≤ ns.length ∧ n = ns.length + 1 - i ∧ (h'.IsListIter I ax i ∧ h'.IsList ax vs.toArray) ∧ Fr h₀ L h' m ∧
      News h₀ L h' ((C, oC') :: (D, LCg.lst ys') :: news) ∧ LCg.NsObj oC' m' ∧ IntsAre ys' ((ns.take i).foldl (G2 W G) [])) (fun n s' hI => ?_) (ns.length + 1)
    ⟨h, tk, 0, [], oC, mC, rfl, Nat.zero_le _, rfl, ⟨hit, ⟨_, (N _ (.tail _ (.tail _ hax))).1, rfl, _, rfl⟩⟩, F, N, hoC, by simpa using IntsAre.nil⟩
  obtain ⟨h', tk', i, ys', oC', m', rfl, hi', rfl, hst, F', N', hoC', hy'⟩ := hI
  show wpAny _ A ((compTurn (.ListComp elt [⟨.Name x px, iter, [], 0⟩, ⟨.Name x' px', iter', [ct], 0⟩] scope pos) 0 (.ref I) (.ref D) (compEnvC scope cl C env)).onRaise (fun x => do noteFrame x (compEnvC scope cl C env); theTreesLotGoes x)) _ _ _
  refine wpAny_noted ?_
  rw [turn_two0]
  refine wpAny_bind (wpAny_standAt (wpAny_bind ?_))
  have zC' := N' _ (.head _)
  have zD' := N' _ (.tail _ (.head _))
  have off3 := off.mem
  by_cases hlt : i < ns.length
  · refine WL.item i _ _ _ hlt hst fun v h₂ tk₂ hPv hst₂ hk₂ => ?_
    refine wpAny_bind (wpAny_of_eq rfl ?_)
    have hn₂ : h₂.Ns C m' := (hoC'.ns zC'.1).at' fun o e => hk₂ _ o (by simpa using Ne.symm hIC) e
    refine wpAny_bind (wpAny_assign_Name (wpAny_storeName_local (lookup_relabel_local hx) hn₂ (fun h₃ hn₃ hs₃ => ?_) (by simp [compEnvC, relabel, hkind])))
    obtain ⟨k, t, ev, hk⟩ := IntsAre.at hi i v (by simpa using hPv)
    subst ev
    have keep3 : ∀ b o, b ≠ I → b ≠ C → h'.get? b = some o → h₃.get? b = some o := fun b o e1 e2 e => hs₃.extBut b o e2 (hk₂ b o (by simpa using e1) e)
    have hC₀ := zC'.2.2
    have hCL := zC'.2.1
    have F₃ : Fr h₀ L h₃ m := ⟨F'.ns.at' fun o e => keep3 L o hIL (Ne.symm hCL) e, fun b o e => keep3 b o (fun q => by rw [q, hI₀] at e; cases e) (fun q => by rw [q, hC₀] at e; cases e) (F'.keep b o e), F'.above⟩
    obtain ⟨oC₃, heC, hoC₃⟩ := LCg.ns_obj hn₃
    have hst₃ : h₃.IsListIter I ax (i + 1) ∧ h₃.IsList ax vs.toArray := WL.frame _ _ _ hst₂ fun b hb o e => hs₃.extBut b o (fun q => by
      have q' : b = C := q
      rcases List.mem_cons.mp hb with r | r
      · exact hIC (by rw [← r, q'])
      · exact (off3 _ hax).2.1 (by rw [← q', List.mem_singleton.mp r])) e
    have hI₃ : ∃ oI, h₃.get? I = some oI := by obtain ⟨o, e, _⟩ := hst₃.1; exact ⟨o, e⟩
    obtain ⟨oI, heI⟩ := hI₃
    have N₃ : News h₀ L h₃ ((I, oI) :: (C, oC₃) :: (D, LCg.lst ys') :: news) := fun p hp => by
      rcases List.mem_cons.mp hp with rfl | hp
      · exact ⟨heI, Ne.symm hIL, hI₀⟩
      · rcases List.mem_cons.mp hp with rfl | hp
        · exact ⟨heC, hCL, hC₀⟩
        · rcases List.mem_cons.mp hp with rfl | hp
          · exact ⟨keep3 _ _ (Ne.symm hID) (Ne.symm hCD) zD'.1, zD'.2⟩
          · have z := N' p (.tail _ (.tail _ hp))
            exact ⟨keep3 _ _ (off3 p hp).1 (off3 p hp).2.1 z.1, z.2⟩
    have hkn : k ∈ ns := List.mem_of_getElem? hk
    have hsI : (ns.take (i + 1)).foldl (G2 W G) [] = G2 W G ((ns.take i).foldl (G2 W G) []) k := by
      rw [List.take_add_one, hk]; simp
    refine wpAny_bind (wpAny_mono (H1 k t I oI C oC₃ D _ ys' h₃ _ _ hkn hoC₃ (by simp) F₃ N₃ off ⟨hIC, hID, hCD⟩) (fun xv s₄ h₄ => ?_) fun _ _ e => e)
    obtain ⟨X, ws, nX, h₄, tk₄, rfl, rfl, F₄, N₄, hw, hXo⟩ := h₄
    refine wpAny_bind (wpAny_standAt (wpAny_bind (wpAny_of_eq (hfs _) ?_)))
    have hXl : h₄.IsList X ws.toArray := ⟨_, (N₄ _ (.head _)).1, rfl, _, rfl⟩
    have up : ∀ o b o', h₄.get? b = some o' → (h₄.push o).get? b = some o' := fun o b o' e => Heap.get?_push_of_some _ e
    refine wpAny_bind (wpAny_holding (wpAny_pyIter_list hXl ?_))
    refine wpAny_bind (wpAny_runOwn ?_)
    have hJlt : ∀ p ∈ ((X, listOf ws.toArray nX) :: (I, oI) :: (C, oC₃) :: (D, LCg.lst ys') :: news : Led), p.1 ≠ h₄.objs.size := fun p hp => Nat.ne_of_lt (Heap.lt_size (N₄ p hp).1)
    have offJ : LCg.Off3 h₄.objs.size C D ((X, listOf ws.toArray nX) :: (I, oI) :: news) := LCg.Off3.of fun p hp => by
      rcases List.mem_cons.mp hp with rfl | hp
      · exact ⟨hJlt _ (.head _), Ne.symm (hXo _ (.tail _ (.head _))), Ne.symm (hXo _ (.tail _ (.tail _ (.head _))))⟩
      · rcases List.mem_cons.mp hp with rfl | hp
        · exact ⟨hJlt _ (.tail _ (.head _)), hIC, hID⟩
        · exact ⟨hJlt _ (.tail _ (.tail _ (.tail _ (.tail _ hp)))), (off3 p hp).2.1, (off3 p hp).2.2⟩
    have hJ₀ : h₀.get? h₄.objs.size = none := by
      cases q : h₀.get? h₄.objs.size with
      | none => rfl
      | some o => exact absurd (Heap.lt_size (F₄.keep _ _ q)) (Nat.lt_irrefl _)
    have lenW := hW k
    have len1 := G2_len hg hW (ns.take i) []
    have len2 := List.length_take_le i ns
    have len3 : (ns.take i).length = i := by rw [List.length_take]; omega
    have len4 : i * b + b ≤ ns.length * b := by rw [← Nat.succ_mul]; exact Nat.mul_le_mul_right b hlt
    have inner : ∀ s₅ : Shared, s₅ = { s with heap := h₄.push { cls := .type "list_iterator", data := .fields #[.ref X, .int 0 0] }, toks := tk₄ } →
        codeAny (model prog w) A (.compLoop (.ListComp elt [⟨.Name x px, iter, [], 0⟩, ⟨.Name x' px', iter', [ct], 0⟩] scope pos) 1 (.ref h₄.objs.size) (.ref D) (compEnvC scope cl C env))
          (fun r s' => match r with
            | .ok f => wpAny (model prog w) A (again (.compLoop (.ListComp elt [⟨.Name x px, iter, [], 0⟩, ⟨.Name x' px', iter', [ct], 0⟩] scope pos) 0 (.ref I) (.ref D) (compEnvC scope cl C env))) (fun fin s' => match fin with
                | .done f => R (.ok f) s'
                | .again c' => c' = .compLoop (.ListComp elt [⟨.Name x px, iter, [], 0⟩, ⟨.Name x' px', iter', [ct], 0⟩] scope pos) 0 (.ref I) (.ref D) (compEnvC scope cl C env) ∧ ∃ n', n' < ns.length + 1 - i ∧ ∃ h' tk' i ys' oC' m', s' = { s with heap := h', toks := tk' } ∧ i ≤ ns.length ∧ n' = ns.length + 1 - i ∧ (h'.IsListIter I ax i ∧ h'.IsList ax vs.toArray) ∧ Fr h₀ L h' m ∧
                    News h₀ L h' ((C, oC') :: (D, LCg.lst ys') :: news) ∧ LCg.NsObj oC' m' ∧ IntsAre ys' ((ns.take i).foldl (G2 W G) [])) (notedBy (model prog w) A (compEnvC scope cl C env) fun e s' => R (.error e) s') s'
            | .error e => cameBackBy (model prog w) A (compEnvC scope cl C env) (notedBy (model prog w) A (compEnvC scope cl C env) fun e s' => R (.error e) s') e s') s₅ := by
      rintro s₅ rfl
      refine loop_in (news := (X, listOf ws.toArray nX) :: (I, oI) :: news) (J := h₄.objs.size) (X := X) (ks := W k) (mC := fun z => if z = x then some (.int k t) else m' z) (l₀ := (ns.take i).foldl (G2 W G) []) (G k) hh hkind hx' hw (.head _) (Nat.ne_of_lt F₄.ns.lt) hJ₀
        (Ne.symm (hJlt _ (.tail _ (.tail _ (.head _))))) (Ne.symm (hJlt _ (.tail _ (.tail _ (.tail _ (.head _)))))) hCD offJ ?_ ?_
        (ys := ys') (oC := oC₃) ⟨_, Heap.get?_push_size _ rfl, rfl, rfl⟩ (F₄.keeps (up _)) ?_ hoC₃ hy' ?_ (hg k)
      · intro k' t' oJ oC₆ m₆ ys₆ l₆ h₆ tk₆ E₆ hk' hy₆ hoC₆ hm₆ hz₆ F₆ N₆
        exact H2 k t k' t' _ oJ X _ I oI C oC₆ D m₆ ys₆ l₆ h₆ tk₆ E₆ hkn hk' hy₆ hoC₆ (by rw [hz₆ x hxx]; simp) hm₆ F₆ N₆
      · intro ys₆ oC₆ m₆ h₆ tk₆ hy₆ hoC₆ F₆ N₆
        refine wpAny_pure ⟨rfl, ns.length + 1 - (i + 1), by omega, h₆, tk₆, i + 1, ys₆, oC₆, m₆, rfl, hlt, rfl, ⟨?_, ⟨_, (N₆ _ (.tail _ (.tail _ (.tail _ (.tail _ hax))))).1, rfl, _, rfl⟩⟩, F₆, ?_, hoC₆, by rw [hsI]; exact hy₆⟩
        · obtain ⟨o, q, r⟩ := hst₃.1
          rw [heI] at q; cases q
          exact ⟨oI, (N₆ _ (.tail _ (.tail _ (.tail _ (.head _))))).1, r⟩
        · intro p hp
          rcases List.mem_cons.mp hp with rfl | hp
          · exact N₆ _ (.head _)
          · rcases List.mem_cons.mp hp with rfl | hp
            · exact N₆ _ (.tail _ (.head _))
            · exact N₆ _ (.tail _ (.tail _ (.tail _ (.tail _ hp))))
      · intro p hp
        refine ⟨up _ _ _ (N₄ p ?_).1, (N₄ p ?_).2⟩ <;> (
          rcases List.mem_cons.mp hp with rfl | hp
          · exact .tail _ (.tail _ (.head _))
          · rcases List.mem_cons.mp hp with rfl | hp
            · exact .tail _ (.tail _ (.tail _ (.head _)))
            · rcases List.mem_cons.mp hp with rfl | hp
              · exact .head _
              · rcases List.mem_cons.mp hp with rfl | hp
                · exact .tail _ (.head _)
                · exact .tail _ (.tail _ (.tail _ (.tail _ hp))))
      · simp only [List.length_nil] at len1
        rw [len3] at len1
        omega
    exact start_two1 (inner _ rfl) fun E => wpAny_pyIter_listiter (it := h₄.objs.size) (l := X) (i := 0) ⟨_, Heap.get?_push_size _ rfl, rfl, rfl⟩ (inner _ rfl)
  · obtain rfl : i = ns.length := Nat.le_antisymm hi' (Nat.not_lt.mp hlt)
    refine WL.done _ _ _ hst fun h₂ tk₂ hk₂ => ?_
    refine wpAny_pure ?_
    rw [List.take_length] at hy'
    refine fin ys' oC' m' h₂ tk₂ hy' hoC' ⟨F'.ns.at' fun o e => hk₂ L o (by simpa using hIL) e, fun b o e => hk₂ b o (fun hm => by rw [List.mem_singleton.mp hm, hI₀] at e; cases e) (F'.keep b o e), F'.above⟩ (fun p hp => ?_)
    have z := N' p hp
    refine ⟨hk₂ _ _ ?_ z.1, z.2⟩
    rcases List.mem_cons.mp hp with rfl | hp
    · simpa using Ne.symm hIC
    · rcases List.mem_cons.mp hp with rfl | hp
      · simpa using Ne.symm hID
      · simpa using (off3 p hp).1
end
end Mine

namespace Mine
section
variable {prog : Program} {w : World} {A : Around} {E : Value → Shared → Prop} {s : Shared} {h₀ : Heap} {L : Addr} {m : Str → Option Value} {env : Env}

def Src2 (prog : Program) (w : World) (A : Around) (h₀ : Heap) (L : Addr) (m : Str → Option Value) (env : Env) (iter' ct elt : Expr) (x x' : Str) (scope : Scope) (cl : List (Str × Addr)) (y : Str) (Q : Flow → Shared → Prop) (xv : Value) (s₁ : Shared) : Prop :=
  ∃ ax nn b vs ns news W G, xv = .ref ax ∧ A.handled = none ∧ Fr h₀ L s₁.heap m ∧ News h₀ L s₁.heap news ∧ (ax, listOf (List.toArray vs) nn) ∈ news ∧ IntsAre vs ns ∧ (∀ k, KPfGrows (G k)) ∧ (∀ k, (W k).length ≤ b) ∧ ns.length * b ≤ sizeLine ∧
    ∀ s₂ : Shared, (∃ h, s₂ = { s₁ with heap := h }) → Iter2 prog w A h₀ L m env iter' x scope cl s₂ news ns W ∧ Turn2 prog w A h₀ L m env ct elt x x' scope cl s₂ news ns W G ∧
      (∀ D ys h tk, Fr h₀ L h (fun z => if z = y then some (.ref D) else m z) → News h₀ L h ((D, LCg.lst ys) :: news) → LCg.Off1 D news → IntsAre ys (ns.foldl (G2 W G) []) → Q .next { s₂ with heap := h, toks := tk })

theorem Assign_two {elt iter iter' ct : Expr} {x x' y : Str} {px px' py : Pos} {scope : Scope} {cl : List (Str × Addr)} {pos spos : Pos} {Q : Flow → Shared → Prop} (_F₀ : Fr h₀ L s.heap m) (hLe : env.locals = L)
    (hsw : swapsWith (.ListComp elt [⟨.Name x px, iter, [], 0⟩, ⟨.Name x' px', iter', [ct], 0⟩] scope pos) (some (.Name y py)) spos.line env = pure true)
    (hclos : closureFor scope env = pure cl) (hcell : ∀ z ∈ scope.names, z.2 ≠ .cell) (hkind : scope.kind = .function)
    (hnames : ∀ z ∈ scope.names, z.2 = .local → scope.names.lookup z.1 = some .local) (hx : scope.names.lookup x = some .local) (hx' : scope.names.lookup x' = some .local) (hxx : x ≠ x')
    (hy : env.kindOf y = some .local) (hp : (env.scope.kind == .class || (env.scope.kind == .module && env.locals != env.globals)) = false)
    (h : wpAny (model prog w) A (eval iter env) (Src2 prog w A h₀ L m env iter' ct elt x x' scope cl y Q) E s)
    (hs : ∀ x, foldedSetIterable iter env x = pure x := by intro _; rfl) (hfs : ∀ C v, foldedSetIterable iter' (compEnvC scope cl C env) v = pure v := by intro _ _; rfl) :
    wpAny (model prog w) A (exec (.Assign [.Name y py] (.ListComp elt [⟨.Name x px, iter, [], 0⟩, ⟨.Name x' px', iter', [ct], 0⟩] scope pos) spos) env) Q E s := by
  subst hLe
  rw [exec_Assign_Name_used _ _ _ _ hsw]
  refine wpAny_bind (wpAny_standAt (wpAny_bind ?_))
  show wpAny _ A (do let _ ← comprehension (.ListComp elt [⟨.Name x px, iter, [], 0⟩, ⟨.Name x' px', iter', [ct], 0⟩] scope pos) scope env _ (newList []) false (eval iter env) (some (assign (.Name y py) env))) _ _ s
  refine wpAny_bind (wpAny_mono (wpAny_comprehension_free (use := some (assign (.Name y py) env)) (Q := fun _ s' => Q .next s') rfl hs hclos hkind hnames
    (wpAny_mono h (fun xv s₁ h₁ => ?_) fun _ _ e => e)) (fun _ s' hq => wpAny_pure (wpAny_pure hq)) fun _ _ e => e)
  obtain ⟨ax, nn, b, vs, ns, news, W, G, rfl, hh, F, N, hax, hi, hg, hW, hsz, k⟩ := h₁
  have hl : s₁.heap.IsList ax vs.toArray := ⟨_, (N _ hax).1, rfl, _, rfl⟩
  refine wpAny_pyIter_list hl ?_
  obtain ⟨H1, H2, H3⟩ := k { s₁ with heap := s₁.heap.push { cls := .type "list_iterator", data := .fields #[.ref ax, .int 0 0] } } ⟨_, rfl⟩
  clear k
  have up : ∀ b o, s₁.heap.get? b = some o → (s₁.heap.push { cls := .type "list_iterator", data := .fields #[.ref ax, .int 0 0] }).get? b = some o := fun b o e => Heap.get?_push_of_some _ e
  refine wpAny_newObj_type (wpAny_newFunctionEnv hcell (by intro y hy; simp at hy) (fun h₁ hns₁ hsb₁ => ?_) hkind)
  dsimp only at hns₁ hsb₁ ⊢
  generalize hH1 : s₁.heap.push { cls := .type "list_iterator", data := .fields #[.ref ax, .int 0 0] } = H0 at *
  generalize hH2 : H0.push { cls := .type "list", dict := none, data := .seq ([] : List Value).toArray } = HH at hns₁ hsb₁ ⊢
  have sI : s₁.heap.objs.size < H0.objs.size := by rw [← hH1, Heap.size_push]; exact Nat.lt_succ_self _
  have sC : HH.objs.size = H0.objs.size + 1 := by rw [← hH2, Heap.size_push]
  have hIC : s₁.heap.objs.size ≠ HH.objs.size := Nat.ne_of_lt (by rw [sC]; exact Nat.lt_succ_of_lt sI)
  have hID : s₁.heap.objs.size ≠ H0.objs.size := Nat.ne_of_lt sI
  have hCD : HH.objs.size ≠ H0.objs.size := by rw [sC]; exact Nat.ne_of_gt (Nat.lt_succ_self _)
  have low : ∀ b, b < H0.objs.size → b ≠ HH.objs.size ∧ b ≠ H0.objs.size := fun b hb => ⟨by rw [sC]; exact Nat.ne_of_lt (Nat.lt_succ_of_lt hb), Nat.ne_of_lt hb⟩
  have old : ∀ b o, H0.get? b = some o → h₁.get? b = some o := fun b o e => hsb₁.extBut b o (low b (Heap.lt_size e)).1 (Heap.get?_push_of_some _ (hH2 ▸ Heap.get?_push_of_some _ e))
  have old₀ : ∀ b o, s₁.heap.get? b = some o → h₁.get? b = some o := fun b o e => old b o (up b o e)
  have fresh₀ : ∀ a, s₁.heap.objs.size ≤ a → h₀.get? a = none := fun a ha => by
    cases e : h₀.get? a with
    | none => rfl
    | some o' => exact absurd (Heap.lt_size (F.keep a o' e)) (Nat.not_lt.mpr ha)
  have hLlt : env.locals < s₁.heap.objs.size := F.ns.lt
  have hD : h₁.get? H0.objs.size = some (LCg.lst []) := hsb₁.extBut _ _ (Ne.symm hCD) (Heap.get?_push_of_some _ (hH2 ▸ Heap.get?_push_size _ rfl))
  have hI : h₁.get? s₁.heap.objs.size = some { cls := .type "list_iterator", data := .fields #[.ref ax, .int 0 0] } := old _ _ (hH1 ▸ Heap.get?_push_size _ rfl)
  obtain ⟨oC, heC, hoC⟩ := LCg.ns_obj hns₁
  have ltI : ∀ p ∈ news, p.1 < s₁.heap.objs.size := fun p hp => Heap.lt_size (N p hp).1
  have off : LCg.Off3 s₁.heap.objs.size HH.objs.size H0.objs.size news := LCg.Off3.of fun p hp => ⟨Nat.ne_of_lt (ltI p hp), (low _ (Nat.lt_trans (ltI p hp) sI)).1, (low _ (Nat.lt_trans (ltI p hp) sI)).2⟩
  have hCL : HH.objs.size ≠ env.locals := Ne.symm (low _ (Nat.lt_trans hLlt sI)).1
  have hDL : H0.objs.size ≠ env.locals := Ne.symm (low _ (Nat.lt_trans hLlt sI)).2
  have hC₀ : h₀.get? HH.objs.size = none := fresh₀ _ (by rw [sC]; exact Nat.le_succ_of_le (Nat.le_of_lt sI))
  have hD₀ : h₀.get? H0.objs.size = none := fresh₀ _ (Nat.le_of_lt sI)
  have loop : ∀ s₃ : Shared, s₃ = { s₁ with heap := h₁, toks := s₁.toks + ([] : List (Str × Value)).length } →
      codeAny (model prog w) A (.compLoop (.ListComp elt [⟨.Name x px, iter, [], 0⟩, ⟨.Name x' px', iter', [ct], 0⟩] scope pos) 0 (.ref s₁.heap.objs.size) (.ref H0.objs.size) (compEnvC scope cl HH.objs.size env))
        (compPost (model prog w) A E (some (assign (.Name y py) env)) (fun _ s' => Q .next s') (.ref H0.objs.size) HH.objs.size) s₃ := by
    rintro s₃ rfl
    refine loop_out (news := news) (W := W) (G := G) (b := b) (vs := vs) (ns := ns) (oC := oC) (s := { s₁ with heap := H0 }) hh hkind hx hx' hxx hi hax (Nat.ne_of_lt hLlt) (fresh₀ _ (Nat.le_refl _)) hIC hID hCD off (hfs _) H1 H2 ?_
      ⟨_, hI, rfl, rfl⟩ (F.keeps old₀) (fun p hp => ?_) hoC hg hW hsz
    · intro ys oC' m₂ h' tk hy' hoC' F' N'
      show wpAny _ A (assign (.Name y py) env (.ref H0.objs.size)) _ _ _
      refine wpAny_assign_Name (wpAny_storeName_local hy F'.ns (fun h₂ hn₂ hs₂ => ?_) hp)
      have hL₀ : h₀.get? env.locals = none := Heap.get?_none_of_le F'.above
      have F₂ : Fr h₀ env.locals h₂ (fun z => if z = y then some (.ref H0.objs.size) else m z) := ⟨hn₂, fun b o e => hs₂.extBut b o (fun q => by rw [q, hL₀] at e; cases e) (F'.keep b o e), F'.above⟩
      refine ⟨m₂, (hoC'.ns (N' _ (.head _)).1).sameBut hs₂ hCL, fun h'' hs'' => H3 _ ys h'' _ (F₂.change hs'' hCL hC₀) (fun p hp => ?_) off.one hy'⟩
      have z := N' p (.tail _ hp)
      have z₂ : h₂.get? p.1 = some p.2 := hs₂.extBut _ _ z.2.1 z.1
      refine ⟨hs''.extBut _ _ ?_ z₂, z.2⟩
      rcases List.mem_cons.mp hp with rfl | hp
      · exact Ne.symm hCD
      · exact (off.mem p hp).2.1
    · rcases List.mem_cons.mp hp with rfl | hp
      · exact ⟨heC, hCL, hC₀⟩
      · rcases List.mem_cons.mp hp with rfl | hp
        · exact ⟨hD, hDL, hD₀⟩
        · exact ⟨old₀ _ _ (N p hp).1, (N p hp).2⟩
  exact codeAny_compStart_list (loop _ rfl) (wpAny_pyIter_listiter (l := ax) (i := 0) ⟨_, hI, rfl, rfl⟩ (loop _ rfl))
end
end Mine

namespace Mine
/-- the end of a turn -/
def StepL (h₀ : Heap) (L : Addr) (J : (Str → Option Value) → Led → Prop) (I : Addr) (oI : Obj) (news : Led) (s₁ s₂ : Shared) : Prop :=
  ∃ h' tk m' nx, s₂ = { s₁ with heap := h', toks := tk } ∧ Fr h₀ L h' m' ∧ News h₀ L h' ((I, oI) :: (nx ++ news)) ∧ (∀ p ∈ nx, p.1 ≠ I) ∧ J m' nx
def EndL (h₀ : Heap) (L : Addr) (J : (Str → Option Value) → Led → Prop) (I : Addr) (oI : Obj) (news : Led) (s₁ : Shared) (Q : Flow → Shared → Prop) (f : Flow) (s₂ : Shared) : Prop :=
  match f with
  | .ret v => Q (.ret v) s₂
  | .brk => Q .next s₂
  | _ => StepL h₀ L J I oI news s₁ s₂
theorem StepL.intro {h₀ : Heap} {L : Addr} {J : (Str → Option Value) → Led → Prop} {I : Addr} {oI : Obj} {news all : Led} {s₁ : Shared} {h' : Heap} {tk : Nat} {m' : Str → Option Value}
    (F : Fr h₀ L h' m') (N : News h₀ L h' all) (nx : Led) (hs : ∀ p ∈ (I, oI) :: (nx ++ news), p ∈ all) (ho : ∀ p ∈ nx, p.1 ≠ I) (hj : J m' nx) : StepL h₀ L J I oI news s₁ { s₁ with heap := h', toks := tk } :=
  ⟨h', tk, m', nx, rfl, F, fun p hp => N p (hs p hp), ho, hj⟩

section
variable {prog : Program} {w : World} {A : Around} {E : Value → Shared → Prop} {s : Shared} {env : Env} {h₀ : Heap} {x : Str} {body : List Stmt} {Q : Flow → Shared → Prop}

theorem iter_walk {I : Addr} {fp : List Addr} {n : Nat} {P : Nat → Value → Prop} {St : Nat → Heap → Prop} {news nx₀ : Led} {m₀ : Str → Option Value} (J : Nat → (Str → Option Value) → Led → Prop)
    (W : Walks prog w A I fp [I] n P St) (hfp : ∀ b ∈ fp, b = I ∨ ∃ o, (b, o) ∈ news) (hIL : env.locals ≠ I) (hI₀ : h₀.get? I = none) (off : ∀ p ∈ nx₀ ++ news, p.1 ≠ I)
    (hIo : ∀ i h, St i h → ∃ oI, h.get? I = some oI) (hst : St 0 s.heap) (F : Fr h₀ env.locals s.heap m₀) (N : News h₀ env.locals s.heap (nx₀ ++ news)) (hj : J 0 m₀ nx₀)
    (turn : ∀ i v m₁ nx oI h tk, i < n → P i v → J i m₁ nx → (∀ p ∈ nx ++ news, p.1 ≠ I) → Fr h₀ env.locals h (fun y => if y = x then some v else m₁ y) → News h₀ env.locals h ((I, oI) :: (nx ++ news)) →
      wpAny (model prog w) A (execs body env) (EndL h₀ env.locals (J (i + 1)) I oI news { s with heap := h, toks := tk } Q) E { s with heap := h, toks := tk })
    (done : ∀ m₁ nx h tk, J n m₁ nx → Fr h₀ env.locals h m₁ → News h₀ env.locals h (nx ++ news) → Q .next { s with heap := h, toks := tk }) :
    LoopAtV prog w A h₀ env x body Q E (.ref I) s := by
  have hIf : I ∈ fp := W.sub I (.head _)
  refine ⟨I, fp, [I], n, P, St, m₀, nx₀ ++ news, fun i m₁ nw => ∃ nx, nw = nx ++ news ∧ J i m₁ nx, rfl, W, ?_, ?_, ?_, hst, F, N, ⟨nx₀, rfl, hj⟩, ?_, ?_⟩
  · intro hm
    rcases hfp _ hm with e | ⟨o, ho⟩
    · exact hIL e
    · exact (N (_, o) (List.mem_append_right _ ho)).2.1 rfl
  · intro b hb
    rw [List.mem_singleton.mp hb]; exact hI₀
  · intro p hp hm
    exact off p hp (List.mem_singleton.mp hm)
  · rintro i v m₁ nw s₁ own ⟨h, tk, rfl⟩ hin hP ⟨nx, rfl, hJ⟩ hoff hown hget hfpo hst₁ F₁ N₁
    obtain ⟨oI, heI⟩ := hIo _ _ hst₁
    have hIown : (I, oI) ∈ own := hfpo I hIf hI₀ oI heI
    have ho : ∀ p ∈ nx ++ news, p.1 ≠ I := fun p hp e => hoff p hp (List.mem_singleton.mpr e)
    refine wpAny_mono (turn i v m₁ nx oI h tk hin hP hJ ho F₁ (fun p hp => ?_)) (fun f s₂ hq => ?_) fun _ _ e => e
    · rcases List.mem_cons.mp hp with rfl | hp
      · exact N₁ _ (List.mem_append_left _ hIown)
      · exact N₁ _ (List.mem_append_right _ hp)
    · have fin : StepL h₀ env.locals (J (i + 1)) I oI news { s with heap := h, toks := tk } s₂ → LoopStepU h₀ env.locals [I] own (fun m₁ nw => ∃ nx, nw = nx ++ news ∧ J (i + 1) m₁ nx) { s with heap := h, toks := tk } .next s₂ := by
        rintro ⟨h', tk', m', nx', rfl, F', N', off', hJ'⟩
        refine ⟨rfl, h', tk', m', nx' ++ news, rfl, F', fun p hp => ?_, fun p hp hm => ?_, nx', rfl, hJ'⟩
        · rcases List.mem_append.mp hp with hp | hp
          · have hg := hget p hp
            rcases hfp _ (hown p hp) with e | ⟨o, ho'⟩
            · have e2 : p = (I, oI) := Prod.ext e (by rw [e, heI] at hg; exact (Option.some.inj hg).symm)
              rw [e2]; exact N' _ (.head _)
            · have hg' := (N₁ (p.1, o) (List.mem_append_right _ (List.mem_append_right _ ho'))).1
              rw [hg] at hg'
              have e2 : p = (p.1, o) := Prod.ext rfl (Option.some.inj hg')
              rw [e2]; exact N' _ (.tail _ (List.mem_append_right _ ho'))
          · exact N' _ (.tail _ hp)
        · have e := List.mem_singleton.mp hm
          rcases List.mem_append.mp hp with hp | hp
          · exact off' p hp e
          · exact ho p (List.mem_append_right _ hp) e
      cases f with
      | ret v => exact .ret hq
      | brk => exact .brk hq
      | next => exact .next (fin hq)
      | cont => exact .cont (fin hq)
  · rintro h' tk m' nw F' N' _ ⟨nx, rfl, hJ⟩
    exact done m' nx h' tk hJ F' N'

/-- a for over a list of the ledger -/
theorem iter_list {l : Addr} {vs : List Value} {nn : Nat} {news nx₀ : Led} {m₀ : Str → Option Value} (J : Nat → (Str → Option Value) → Led → Prop)
    (hh : A.handled = none) (hl : (l, listOf vs.toArray nn) ∈ news) (F : Fr h₀ env.locals s.heap m₀) (N : News h₀ env.locals s.heap (nx₀ ++ news)) (hj : J 0 m₀ nx₀)
    (turn : ∀ i v m₁ nx I oI h tk, vs[i]? = some v → J i m₁ nx → (∀ p ∈ nx ++ news, p.1 ≠ I) → Fr h₀ env.locals h (fun y => if y = x then some v else m₁ y) → News h₀ env.locals h ((I, oI) :: (nx ++ news)) →
      wpAny (model prog w) A (execs body env) (EndL h₀ env.locals (J (i + 1)) I oI news { s with heap := h, toks := tk } Q) E { s with heap := h, toks := tk })
    (done : ∀ m₁ nx h tk, J vs.length m₁ nx → Fr h₀ env.locals h m₁ → News h₀ env.locals h (nx ++ news) → Q .next { s with heap := h, toks := tk }) :
    wpAny (model prog w) A (pyIter (.ref l)) (fun it s₂ => LoopAtV prog w A h₀ env x body Q E it s₂) E s := by
  have hlo := N _ (List.mem_append_right _ hl)
  have hls : s.heap.IsList l vs.toArray := ⟨_, hlo.1, rfl, _, rfl⟩
  have hne : l ≠ s.heap.objs.size := Nat.ne_of_lt (Heap.lt_size hlo.1)
  refine wpAny_pyIter_list hls ?_
  have W := Walks.list (prog := prog) (w := w) hh s.heap.objs.size l hne vs.toArray
  have hlen : vs.toArray.size = vs.length := List.size_toArray ..
  rw [hlen] at W
  have up : ∀ o b o', s.heap.get? b = some o' → (s.heap.push o).get? b = some o' := fun o b o' e => Heap.get?_push_of_some _ e
  refine iter_walk J W (fun b hb => ?_) (Nat.ne_of_lt F.ns.lt) (next_is_new F) (fun p hp => Nat.ne_of_lt (Heap.lt_size (N p hp).1)) (fun i h st => by obtain ⟨o, e, _⟩ := st.1; exact ⟨o, e⟩)
    ⟨⟨_, Heap.get?_push_size _ rfl, rfl, rfl⟩, hls.push _⟩ (F.push _) (fun p hp => ⟨up _ _ _ (N p hp).1, (N p hp).2⟩) hj (fun i v m₁ nx oI h tk hi hP => turn i v m₁ nx _ oI h tk (by simpa using hP)) done
  rcases List.mem_cons.mp hb with e | hb
  · exact .inl e
  · exact .inr ⟨_, (List.mem_singleton.mp hb) ▸ hl⟩
/-- a for over a range -/
theorem iter_range {r : Addr} {a b : Int} {t₀ u₀ v₀ : Tok} {n : Nat} {news nx₀ : Led} {m₀ : Str → Option Value} (J : Nat → (Str → Option Value) → Led → Prop)
    (hh : A.handled = none) (hr : IsRange s.heap r a b 1 t₀ u₀ v₀) (hsmall : Builtin.Range.small a b 1 = true) (hn : Builtin.Range.rangeSize a b 1 = (n : Int)) (F : Fr h₀ env.locals s.heap m₀) (N : News h₀ env.locals s.heap (nx₀ ++ news)) (hj : J 0 m₀ nx₀)
    (turn : ∀ (i : Nat) t m₁ nx I oI h tk, i < n → J i m₁ nx → (∀ p ∈ nx ++ news, p.1 ≠ I) → Fr h₀ env.locals h (fun y => if y = x then some (.int (a + (i : Int)) t) else m₁ y) → News h₀ env.locals h ((I, oI) :: (nx ++ news)) →
      wpAny (model prog w) A (execs body env) (EndL h₀ env.locals (J (i + 1)) I oI news { s with heap := h, toks := tk } Q) E { s with heap := h, toks := tk })
    (done : ∀ m₁ nx h tk, J n m₁ nx → Fr h₀ env.locals h m₁ → News h₀ env.locals h (nx ++ news) → Q .next { s with heap := h, toks := tk }) :
    wpAny (model prog w) A (pyIter (.ref r)) (fun it s₂ => LoopAtV prog w A h₀ env x body Q E it s₂) E s := by
  refine wpAny_pyIter_range hr hsmall ?_
  have W := LCg.range_walks (prog := prog) (w := w) (I := s.heap.objs.size) hh a n
  have up : ∀ o b o', s.heap.get? b = some o' → (s.heap.push o).get? b = some o' := fun o b o' e => Heap.get?_push_of_some _ e
  refine iter_walk J W (fun b hb => .inl (List.mem_singleton.mp hb)) (Nat.ne_of_lt F.ns.lt) (next_is_new F) (fun p hp => Nat.ne_of_lt (Heap.lt_size (N p hp).1)) (fun i h st => ⟨_, st⟩)
    (by show IsRangeIter _ _ _ _ _; rw [hn]; simpa using Heap.get?_push_size _ rfl) (F.push _) (fun p hp => ⟨up _ _ _ (N p hp).1, (N p hp).2⟩) hj (fun i v m₁ nx oI h tk hi hP => ?_) done
  obtain ⟨t, rfl⟩ := hP
  exact turn i t m₁ nx _ oI h tk hi
end
end Mine

namespace Mine
section
variable {prog : Program} {w : World} {A : Around} {E : Value → Shared → Prop} {s : Shared} {env : Env} {h₀ : Heap} {m : Str → Option Value} {body : List Stmt} {Q : Flow → Shared → Prop}

/-- a for over a list of the ledger whose name is a cell of the frame's -/
def SrcC (prog : Program) (w : World) (A : Around) (h₀ : Heap) (m : Str → Option Value) (env : Env) (c : Addr) (body : List Stmt) (Q : Flow → Shared → Prop) (xv : Value) (s₁ : Shared) : Prop :=
  ∃ l nn vs news nx₀ oc v₀, xv = .ref l ∧ A.handled = none ∧ Fr h₀ env.locals s₁.heap m ∧ News h₀ env.locals s₁.heap (nx₀ ++ (c, oc) :: news) ∧ oc.data = .cell v₀ ∧ (l, listOf (List.toArray vs) nn) ∈ news ∧ (∀ p ∈ news, p.1 ≠ c) ∧
    ∃ J : Nat → (Str → Option Value) → Led → Prop, (∀ i m nx, J i m nx → ∀ p ∈ nx, p.1 ≠ c) ∧ J 0 m nx₀ ∧
      (∀ i v m₁ nx I oI oc' h tk (E' : Value → Shared → Prop), vs[i]? = some v → J i m₁ nx → (∀ p ∈ nx ++ (c, oc') :: news, p.1 ≠ I) → oc'.data = .cell (some v) → Fr h₀ env.locals h m₁ → News h₀ env.locals h ((I, oI) :: (nx ++ (c, oc') :: news)) →
        wpAny (model prog w) A (execs body env) (EndL h₀ env.locals (J (i + 1)) I oI ((c, oc') :: news) { s₁ with heap := h, toks := tk } Q) E' { s₁ with heap := h, toks := tk }) ∧
      (∀ m₁ nx oc' h tk, J vs.length m₁ nx → Fr h₀ env.locals h m₁ → News h₀ env.locals h (nx ++ (c, oc') :: news) → Q .next { s₁ with heap := h, toks := tk })

theorem For_cell {x : Str} {px pos : Pos} {iter : Expr} {c : Addr} (_F₀ : Fr h₀ env.locals s.heap m) (hk : env.scope.kind = .function) (hx : env.kindOf x = some .cell) (hc : env.cells.lookup x = some c)
    (h : wpAny (model prog w) A (eval iter env) (SrcC prog w A h₀ m env c body Q) E s)
    (hs : ∀ x, foldedSetIterable iter env x = pure x := by intro _; rfl) :
    wpAny (model prog w) A (exec (.For (.Name x px) iter body [] pos) env) Q E s := by
  refine wpAny_For (wpAny_mono h (fun xv s₁ h₁ => ?_) fun _ _ e => e) hs
  obtain ⟨l, nn, vs, news, nx₀, oc, v₀, rfl, hh, F, N, hd, hl, hnc, J, hJc, hj, turn, done⟩ := h₁
  have hlo := N _ (List.mem_append_right _ (.tail _ hl))
  have hls : s₁.heap.IsList l vs.toArray := ⟨_, hlo.1, rfl, _, rfl⟩
  have hne : l ≠ s₁.heap.objs.size := Nat.ne_of_lt (Heap.lt_size hlo.1)
  refine wpAny_pyIter_list hls ?_
  have W := Walks.list (prog := prog) (w := w) hh s₁.heap.objs.size l hne vs.toArray
  have hlen : vs.toArray.size = vs.length := List.size_toArray ..
  rw [hlen] at W
  generalize hI : s₁.heap.objs.size = I at *
  have up : ∀ o b o', s₁.heap.get? b = some o' → (s₁.heap.push o).get? b = some o' := fun o b o' e => Heap.get?_push_of_some _ e
  have hI₀ : h₀.get? I = none := hI ▸ next_is_new F
  have hIL : env.locals ≠ I := hI ▸ Nat.ne_of_lt F.ns.lt
  have offI : ∀ p ∈ nx₀ ++ (c, oc) :: news, p.1 ≠ I := fun p hp => hI ▸ Nat.ne_of_lt (Heap.lt_size (N p hp).1)
  have hcI : c ≠ I := offI _ (List.mem_append_right _ (.head _))
  have hlI : l ≠ I := hne
  have hcL : c ≠ env.locals := (N _ (List.mem_append_right _ (.head _))).2.1
  have hc₀ : h₀.get? c = none := (N _ (List.mem_append_right _ (.head _))).2.2
  have hlc : l ≠ c := hnc _ hl
  refine codeAny_forLoop (fun k s' => ∃ h' tk m' nx oc' v' i, s' = { s₁ with heap := h', toks := tk } ∧ (h'.IsListIter I l i ∧ h'.IsList l vs.toArray) ∧ Fr h₀ env.locals h' m' ∧ News h₀ env.locals h' (nx ++ (c, oc') :: news) ∧ (∀ p ∈ nx, p.1 ≠ I) ∧ oc'.data = .cell v' ∧ J i m' nx ∧ i ≤ vs.length ∧ k = vs.length + 1 - i) ?_ (vs.length + 1)
    ⟨_, s₁.toks, m, nx₀, oc, v₀, 0, rfl, ⟨⟨_, hI ▸ Heap.get?_push_size _ rfl, rfl, rfl⟩, hls.push _⟩, F.push _, fun p hp => ⟨up _ _ _ (N p hp).1, (N p hp).2⟩, fun p hp => offI p (List.mem_append_left _ hp), hd, hj, Nat.zero_le _, rfl⟩
  rintro k s' ⟨h', tk, m', nx, oc', v', i, rfl, hst, F', N', hnI, hd', hJ, hi, rfl⟩
  have hnx := hJc _ _ _ hJ
  by_cases hlt : i < vs.length
  · refine W.item i _ _ _ hlt hst fun v h₁ tk₁ hP hst₁ hk₁ => ?_
    have keep1 : ∀ b o, b ≠ I → h'.get? b = some o → h₁.get? b = some o := fun b o e1 e => hk₁ b o (by simpa using e1) e
    have zc := N' _ (List.mem_append_right _ (.head _))
    refine wpAny_assign_Name (wpAny_storeName_cell hk hx hc ⟨oc', keep1 _ _ hcI zc.1, hd'⟩ fun h₂ hv₂ hs₂ => ?_)
    obtain ⟨oc₂, ec₂, hd₂⟩ := hv₂
    have keep2 : ∀ b o, b ≠ I → b ≠ c → h'.get? b = some o → h₂.get? b = some o := fun b o e1 e2 e => hs₂.extBut b o e2 (keep1 b o e1 e)
    have F₂ : Fr h₀ env.locals h₂ m' := ⟨F'.ns.at' fun o e => keep2 _ o hIL (Ne.symm hcL) e, fun b o e => keep2 b o (fun q => by rw [q, hI₀] at e; cases e) (fun q => by rw [q, hc₀] at e; cases e) (F'.keep b o e), F'.above⟩
    have hst₂ : h₂.IsListIter I l (i + 1) ∧ h₂.IsList l vs.toArray := W.frame _ _ _ hst₁ fun b hb o e => hs₂.extBut b o (fun q => by
      have q' : b = c := q
      rcases List.mem_cons.mp hb with r | r
      · exact hcI (by rw [← q', r])
      · exact hlc (by rw [← q', List.mem_singleton.mp r])) e
    obtain ⟨oI, heI⟩ : ∃ oI, h₂.get? I = some oI := by obtain ⟨o, e, _⟩ := hst₂.1; exact ⟨o, e⟩
    have N₂ : News h₀ env.locals h₂ ((I, oI) :: (nx ++ (c, oc₂) :: news)) := fun p hp => by
      rcases List.mem_cons.mp hp with rfl | hp
      · exact ⟨heI, Ne.symm hIL, hI₀⟩
      · rcases List.mem_append.mp hp with hp | hp
        · have z := N' p (List.mem_append_left _ hp)
          exact ⟨keep2 _ _ (hnI p hp) (hnx p hp) z.1, z.2⟩
        · rcases List.mem_cons.mp hp with rfl | hp
          · exact ⟨ec₂, hcL, hc₀⟩
          · have z := N' p (List.mem_append_right _ (.tail _ hp))
            exact ⟨keep2 _ _ (offI p (List.mem_append_right _ (.tail _ hp))) (hnc p hp) z.1, z.2⟩
    have offT : ∀ p ∈ nx ++ (c, oc₂) :: news, p.1 ≠ I := fun p hp => by
      rcases List.mem_append.mp hp with hp | hp
      · exact hnI p hp
      · rcases List.mem_cons.mp hp with rfl | hp
        · exact hcI
        · exact offI p (List.mem_append_right _ (.tail _ hp))
    refine wpAny_mono (turn i v m' nx I oI oc₂ h₂ tk₁ _ (by simpa using hP) hJ offT hd₂ F₂ N₂) (fun f s₃ h₃ => ?_) fun _ _ e => e
    have fin : StepL h₀ env.locals (J (i + 1)) I oI ((c, oc₂) :: news) { s₁ with heap := h₂, toks := tk₁ } s₃ → ∃ k', k' < vs.length + 1 - i ∧ ∃ h' tk m' nx oc' v' i, s₃ = { s₁ with heap := h', toks := tk } ∧ (h'.IsListIter I l i ∧ h'.IsList l vs.toArray) ∧ Fr h₀ env.locals h' m' ∧ News h₀ env.locals h' (nx ++ (c, oc') :: news) ∧ (∀ p ∈ nx, p.1 ≠ I) ∧ oc'.data = .cell v' ∧ J i m' nx ∧ i ≤ vs.length ∧ k' = vs.length + 1 - i := by
      rintro ⟨h₄, tk₄, m₄, nx₄, rfl, F₄, N₄, ho₄, hJ₄⟩
      refine ⟨vs.length + 1 - (i + 1), by omega, h₄, tk₄, m₄, nx₄, oc₂, _, i + 1, rfl, ⟨?_, ⟨_, (N₄ _ (.tail _ (List.mem_append_right _ (.tail _ hl)))).1, rfl, _, rfl⟩⟩, F₄, fun p hp => N₄ p (.tail _ hp), ho₄, hd₂, hJ₄, hlt, rfl⟩
      obtain ⟨o, q, r⟩ := hst₂.1
      rw [heI] at q; cases q
      exact ⟨oI, (N₄ _ (.head _)).1, r⟩
    cases f with
    | ret v => exact h₃
    | brk => exact h₃
    | next => exact fin h₃
    | cont => exact fin h₃
  · obtain rfl : i = vs.length := Nat.le_antisymm hi (Nat.not_lt.mp hlt)
    refine W.done _ _ _ hst fun h₁ tk₁ hk₁ => wpAny_execs_nil ?_
    refine done m' nx oc' h₁ tk₁ hJ ⟨F'.ns.at' fun o e => hk₁ _ o (by simpa using hIL) e, fun b o e => hk₁ b o (fun hm => by rw [List.mem_singleton.mp hm, hI₀] at e; cases e) (F'.keep b o e), F'.above⟩ (fun p hp => ?_)
    have z := N' p hp
    refine ⟨hk₁ _ _ ?_ z.1, z.2⟩
    rcases List.mem_append.mp hp with hp | hp
    · simpa using hnI p hp
    · rcases List.mem_cons.mp hp with rfl | hp
      · simpa using hcI
      · simpa using offI p (List.mem_append_right _ (.tail _ hp))
end
end Mine

namespace Mine
section
variable {prog : Program} {w : World} {A : Around} {E : Value → Shared → Prop} {s₁ : Shared} {env : Env} {h₀ : Heap} {m₀ : Str → Option Value} {body : List Stmt} {Q : Flow → Shared → Prop}
/-- what a turn that binds the name y to a new list of ints leaves -/
def NewL (y : Str) (m₀ : Str → Option Value) (c : Addr) (news : Led) (r : List Int) (m' : Str → Option Value) (nx : Led) : Prop :=
  ∃ D ys n, nx = [(D, listOf (List.toArray ys) n)] ∧ D ≠ c ∧ LCg.Off1 D news ∧ IntsAre ys r ∧ m' y = some (.ref D) ∧ ∀ z, z ≠ y → m' z = m₀ z
theorem NewL.eq {y : Str} {m₀ m' : Str → Option Value} {v : Option Value} (h1 : m' y = v) (h2 : ∀ z, z ≠ y → m' z = m₀ z) : m' = fun z => if z = y then v else m₀ z := by
  funext z
  by_cases e : z = y
  · rw [if_pos e, e, h1]
  · rw [if_neg e, h2 z e]

theorem srcC_fold {y : Str} {l c D₀ : Addr} {nn n₀ : Nat} {vs ys₀ : List Value} {ks l₀ : List Int} {oc : Obj} {v₀ : Option Value} {news : Led} (g : List Int → Int → List Int)
    (hh : A.handled = none) (F : Fr h₀ env.locals s₁.heap m₀) (N : News h₀ env.locals s₁.heap ((D₀, listOf ys₀.toArray n₀) :: (c, oc) :: news)) (hd : oc.data = .cell v₀) (hl : (l, listOf vs.toArray nn) ∈ news) (hi : IntsAre vs ks)
    (hnc : LCg.Off1 c news) (hDc : D₀ ≠ c) (hDn : LCg.Off1 D₀ news) (hy : m₀ y = some (.ref D₀)) (hys : IntsAre ys₀ l₀)
    (turn : ∀ (i : Nat) k t D ys n I oI oc' h tk (E' : Value → Shared → Prop), ks[i]? = some k → IntsAre ys ((ks.take i).foldl g l₀) → oc'.data = .cell (some (.int k t)) → D ≠ c → D ≠ I → c ≠ I → LCg.Off1 I news →
      Fr h₀ env.locals h (fun z => if z = y then some (.ref D) else m₀ z) → News h₀ env.locals h ((I, oI) :: (D, listOf (List.toArray ys) n) :: (c, oc') :: news) →
      wpAny (model prog w) A (execs body env) (EndL h₀ env.locals (NewL y m₀ c news (g ((ks.take i).foldl g l₀) k)) I oI ((c, oc') :: news) { s₁ with heap := h, toks := tk } Q) E' { s₁ with heap := h, toks := tk })
    (done : ∀ D ys n oc' h tk, IntsAre ys (ks.foldl g l₀) → D ≠ c → LCg.Off1 D news → Fr h₀ env.locals h (fun z => if z = y then some (.ref D) else m₀ z) → News h₀ env.locals h ((D, listOf (List.toArray ys) n) :: (c, oc') :: news) → Q .next { s₁ with heap := h, toks := tk }) :
    SrcC prog w A h₀ m₀ env c body Q (.ref l) s₁ := by
  have off1 : ∀ {D : Addr} {l : Led}, LCg.Off1 D l → ∀ p ∈ l, p.1 ≠ D := by
    intro D l
    induction l with
    | nil => intro _ p hp; cases hp
    | cons q r ih => intro h p hp; rcases List.mem_cons.mp hp with rfl | hp; exact h.1; exact ih h.2 p hp
  have off1' : ∀ {D : Addr} {l : Led}, (∀ p ∈ l, p.1 ≠ D) → LCg.Off1 D l := by
    intro D l
    induction l with
    | nil => intro _; trivial
    | cons q r ih => intro h; exact ⟨h q (.head _), ih fun p hp => h p (.tail _ hp)⟩
  refine ⟨l, nn, vs, news, [(D₀, listOf ys₀.toArray n₀)], oc, v₀, rfl, hh, F, N, hd, hl, off1 hnc, fun i m nx => NewL y m₀ c news ((ks.take i).foldl g l₀) m nx, ?_, ⟨D₀, ys₀, n₀, rfl, hDc, hDn, by simpa using hys, hy, fun _ _ => rfl⟩, ?_, ?_⟩
  · rintro i m nx ⟨D, ys, n, rfl, hc, _⟩ p hp
    rw [List.mem_singleton.mp hp]; exact hc
  · rintro i v m₁ nx I oI oc' h tk E' hv ⟨D, ys, n, rfl, hc, hn, hY, h1, h2⟩ hoI hd' F' N'
    obtain ⟨k, t, rfl, hk⟩ := IntsAre.at hi i v hv
    rw [NewL.eq h1 h2] at F'
    have hs : (ks.take (i + 1)).foldl g l₀ = g ((ks.take i).foldl g l₀) k := by
      rw [List.take_add_one, hk]; simp
    have T := turn i k t D ys n I oI oc' h tk E' hk hY hd' hc (hoI _ (.head _)) (hoI _ (.tail _ (.head _))) (off1' fun p hp => hoI p (.tail _ (.tail _ hp))) F' N'
    rw [← hs] at T
    exact T
  · rintro m₁ nx oc' h tk ⟨D, ys, n, rfl, hc, hn, hY, h1, h2⟩ F' N'
    rw [NewL.eq h1 h2] at F'
    have hY' : IntsAre ys ((ks.take vs.length).foldl g l₀) := hY
    rw [hi.length, List.take_length] at hY'
    exact done D ys n oc' h tk hY' hc hn F' N'
end
end Mine

namespace Mine
/-- the state between two turns: a letter c of the type σ; its ledger, the names it binds, what holds of it; the names `stored` may hold anything -/
def KS {σ : Type} (Led : σ → Mine.Led) (ps : σ → List (Str × Value)) (Facts : Nat → σ → Prop) (x : Str) (stored : List Str) (m₀ : Str → Option Value) (i : Nat) (m : Str → Option Value) (nx : Mine.Led) : Prop :=
  ∃ c : σ, nx = Led c ∧ Facts i c ∧ (∀ p ∈ ps c, m p.1 = some p.2) ∧ (∀ z, z ≠ x → (∀ p ∈ ps c, z ≠ p.1) → stored.contains z = false → m z = m₀ z)
theorem kb_same {stored : List Str} {u m₀ : Str → Option Value} {z : Str} (h3 : stored.contains z = false) : ∀ {ps : List (Str × Value)}, (∀ p ∈ ps, z ≠ p.1) → kstB (fun z => if stored.contains z then u z else m₀ z) ps z = m₀ z
  | [], _ => by
    show (if stored.contains z = true then u z else m₀ z) = m₀ z
    rw [if_neg (by rw [h3]; exact Bool.false_ne_true)]
  | p :: r, h2 => by
    show (if z = p.1 then some p.2 else kstB _ r z) = m₀ z
    rw [if_neg (h2 p (.head _))]
    exact kb_same h3 fun q hq => h2 q (.tail _ hq)
theorem km_same {x : Str} {v : Option Value} {stored : List Str} {u m₀ : Str → Option Value} {ps : List (Str × Value)} {z : Str} (h1 : z ≠ x) (h3 : stored.contains z = false) (h2 : ∀ p ∈ ps, z ≠ p.1) :
    (if z = x then v else kstB (fun z => if stored.contains z then u z else m₀ z) ps z) = m₀ z := by
  rw [if_neg h1]
  exact kb_same h3 h2
theorem kz_ne {st : List Str} {z n : Str} (h : st.contains z = false) (hn : st.contains n = true) : z ≠ n := fun e => by rw [e, hn] at h; cases h
theorem kz_sub {st st' : List Str} {z : Str} (h : st.contains z = false) (hs : st'.all st.contains = true) : st'.contains z = false := by
  cases q : st'.contains z with
  | false => rfl
  | true =>
    have := List.all_eq_true.mp hs z (by simpa using q)
    rw [h] at this; cases this
abbrev KM (x : Str) (v : Option Value) (stored : List Str) (u m₀ : Str → Option Value) (ps : List (Str × Value)) : Str → Option Value :=
  fun y => if y = x then v else kstB (fun z => if stored.contains z then u z else m₀ z) ps y

section
variable {prog : Program} {w : World} {A : Around} {E : Value → Shared → Prop} {s : Shared} {env : Env} {h₀ : Heap} {x : Str} {body : List Stmt} {Q : Flow → Shared → Prop} {σ : Type}

theorem iter_listS {l : Addr} {vs : List Value} {nn : Nat} {news : Mine.Led} {m₀ : Str → Option Value} (Led : σ → Mine.Led) (ps : σ → List (Str × Value)) (Facts : Nat → σ → Prop) (stored : List Str) (c₀ : σ)
    (hh : A.handled = none) (hl : (l, listOf vs.toArray nn) ∈ news) (F : Fr h₀ env.locals s.heap m₀) (N : News h₀ env.locals s.heap (Led c₀ ++ news)) (hf : Facts 0 c₀) (hk : ∀ p ∈ ps c₀, m₀ p.1 = some p.2)
    (turn : ∀ i v c I oI (u : Str → Option Value) h tk, vs[i]? = some v → Facts i c → (∀ p ∈ Led c ++ news, p.1 ≠ I) → Fr h₀ env.locals h (KM x (some v) stored u m₀ (ps c)) → News h₀ env.locals h ((I, oI) :: (Led c ++ news)) →
      wpAny (model prog w) A (execs body env) (EndL h₀ env.locals (KS Led ps Facts x stored m₀ (i + 1)) I oI news { s with heap := h, toks := tk } Q) E { s with heap := h, toks := tk })
    (done : ∀ c (u : Str → Option Value) h tk, Facts vs.length c → Fr h₀ env.locals h (fun y => if y = x then u y else kstB (fun z => if stored.contains z then u z else m₀ z) (ps c) y) → News h₀ env.locals h (Led c ++ news) → Q .next { s with heap := h, toks := tk }) :
    wpAny (model prog w) A (pyIter (.ref l)) (fun it s₂ => LoopAtV prog w A h₀ env x body Q E it s₂) E s := by
  refine iter_list (KS Led ps Facts x stored m₀) hh hl F N ⟨c₀, rfl, hf, hk, fun _ _ _ _ => rfl⟩ ?_ ?_
  · rintro i v m₁ nx I oI h tk hv ⟨c, rfl, hf', h1, h2⟩ off F₁ N₁
    exact turn i v c I oI m₁ h tk hv hf' off (kst_fr h1 h2 F₁) N₁
  · rintro m₁ nx h tk ⟨c, rfl, hf', h1, h2⟩ F₁ N₁
    exact done c m₁ h tk hf' (kst_frOut h1 h2 F₁) N₁

theorem iter_rangeS {r : Addr} {a b : Int} {t₀ u₀ v₀ : Tok} {n : Nat} {news : Mine.Led} {m₀ : Str → Option Value} (Led : σ → Mine.Led) (ps : σ → List (Str × Value)) (Facts : Nat → σ → Prop) (stored : List Str) (c₀ : σ)
    (hh : A.handled = none) (hr : IsRange s.heap r a b 1 t₀ u₀ v₀) (hsmall : Builtin.Range.small a b 1 = true) (hn : Builtin.Range.rangeSize a b 1 = (n : Int)) (F : Fr h₀ env.locals s.heap m₀) (N : News h₀ env.locals s.heap (Led c₀ ++ news)) (hf : Facts 0 c₀) (hk : ∀ p ∈ ps c₀, m₀ p.1 = some p.2)
    (turn : ∀ (i : Nat) t c I oI (u : Str → Option Value) h tk, i < n → Facts i c → (∀ p ∈ Led c ++ news, p.1 ≠ I) → Fr h₀ env.locals h (KM x (some (.int (a + (i : Int)) t)) stored u m₀ (ps c)) → News h₀ env.locals h ((I, oI) :: (Led c ++ news)) →
      wpAny (model prog w) A (execs body env) (EndL h₀ env.locals (KS Led ps Facts x stored m₀ (i + 1)) I oI news { s with heap := h, toks := tk } Q) E { s with heap := h, toks := tk })
    (done : ∀ c (u : Str → Option Value) h tk, Facts n c → Fr h₀ env.locals h (fun y => if y = x then u y else kstB (fun z => if stored.contains z then u z else m₀ z) (ps c) y) → News h₀ env.locals h (Led c ++ news) → Q .next { s with heap := h, toks := tk }) :
    wpAny (model prog w) A (pyIter (.ref r)) (fun it s₂ => LoopAtV prog w A h₀ env x body Q E it s₂) E s := by
  refine iter_range (KS Led ps Facts x stored m₀) hh hr hsmall hn F N ⟨c₀, rfl, hf, hk, fun _ _ _ _ => rfl⟩ ?_ ?_
  · rintro i t m₁ nx I oI h tk hi ⟨c, rfl, hf', h1, h2⟩ off F₁ N₁
    exact turn i t c I oI m₁ h tk hi hf' off (kst_fr h1 h2 F₁) N₁
  · rintro m₁ nx h tk ⟨c, rfl, hf', h1, h2⟩ F₁ N₁
    exact done c m₁ h tk hf' (kst_frOut h1 h2 F₁) N₁

/-- a dict of the ledger: its pairs of ints -/
def IsD (prog : Program) (w : World) (o : Obj) (c : List (Int × Int)) : Prop := ∃ kvs, o.IsDictOf (PySem.intKind prog w) kvs ∧ PyProof.V.FlatPairs PySem.PyData.int kvs (kdfD c)
theorem flat_key : ∀ {kvs : List (Int × Value)} {c : List (Int × Int)}, PyProof.V.FlatPairs PySem.PyData.int kvs (kdfD c) → ∀ {i : Nat} {k : Int} {v : Value}, kvs[i]? = some (k, v) → ∃ x, c[i]? = some (k, x)
  | [], c, hf, i, k, v, h => by simp at h
  | (k', v') :: r, [], hf, i, k, v, h => by cases hf
  | (k', v') :: r, (a, b) :: c, hf, i, k, v, h => by
    have e : PySem.PyData.int k' = PySem.PyData.int a ∧ PyProof.V.FlatPairs PySem.PyData.int r (kdfD c) := by
      generalize hD : kdfD ((a, b) :: c) = D at hf
      cases hf with
      | cons h1 h2 =>
        simp only [kdfD, List.map_cons, List.cons.injEq, Prod.mk.injEq] at hD
        exact ⟨hD.1.1.symm, by rw [← hD.2] at h2; exact h2⟩
    cases i with
    | zero =>
      simp only [List.getElem?_cons_zero, Option.some.injEq, Prod.mk.injEq] at h
      have e1 := e.1
      simp only [PySem.PyData.int.injEq] at e1
      exact ⟨b, by simp [← e1, h.1]⟩
    | succ i =>
      simp only [List.getElem?_cons_succ] at h ⊢
      exact flat_key e.2 h

theorem iter_dictS {d : Addr} {o : Obj} {dc : List (Int × Int)} {news : Mine.Led} {m₀ : Str → Option Value} (Led : σ → Mine.Led) (ps : σ → List (Str × Value)) (Facts : Nat → σ → Prop) (stored : List Str) (c₀ : σ)
    (hh : A.handled = none) (lo : (d == sysModules) = false) (hl : (d, o) ∈ news) (hD : IsD prog w o dc) (F : Fr h₀ env.locals s.heap m₀) (N : News h₀ env.locals s.heap (Led c₀ ++ news)) (hf : Facts 0 c₀) (hk : ∀ p ∈ ps c₀, m₀ p.1 = some p.2)
    (turn : ∀ (i : Nat) k y t c I oI (u : Str → Option Value) h tk, dc[i]? = some (k, y) → Facts i c → (∀ p ∈ Led c ++ news, p.1 ≠ I) → Fr h₀ env.locals h (KM x (some (.int k t)) stored u m₀ (ps c)) → News h₀ env.locals h ((I, oI) :: (Led c ++ news)) →
      wpAny (model prog w) A (execs body env) (EndL h₀ env.locals (KS Led ps Facts x stored m₀ (i + 1)) I oI news { s with heap := h, toks := tk } Q) E { s with heap := h, toks := tk })
    (done : ∀ c (u : Str → Option Value) h tk, Facts dc.length c → Fr h₀ env.locals h (fun y => if y = x then u y else kstB (fun z => if stored.contains z then u z else m₀ z) (ps c) y) → News h₀ env.locals h (Led c ++ news) → Q .next { s with heap := h, toks := tk }) :
    wpAny (model prog w) A (pyIter (.ref d)) (fun it s₂ => LoopAtV prog w A h₀ env x body Q E it s₂) E s := by
  obtain ⟨kvs, hd, hfl⟩ := hD
  have hlo := N _ (List.mem_append_right _ hl)
  obtain ⟨ep, hat⟩ := (Heap.dictOf_iff.mpr ⟨o, hlo.1, hd⟩ : s.heap.DictOf (PySem.intKind prog w) d kvs).dictAt
  have hne : d ≠ s.heap.objs.size := Nat.ne_of_lt (Heap.lt_size hlo.1)
  have hlen : kvs.length = dc.length := by rw [← hfl.length, kdfD_length]
  refine wpAny_pyIter_dict lo hat ?_
  have W := Walks.dictKeys (prog := prog) (w := w) (knd := PySem.intKind prog w) hh s.heap.objs.size d hne kvs ep
  rw [hlen] at W
  have up : ∀ o b o', s.heap.get? b = some o' → (s.heap.push o).get? b = some o' := fun o b o' e => Heap.get?_push_of_some _ e
  refine iter_walk (KS Led ps Facts x stored m₀) W (fun b hb => ?_) (Nat.ne_of_lt F.ns.lt) (next_is_new F) (fun p hp => Nat.ne_of_lt (Heap.lt_size (N p hp).1)) (fun i h st => by obtain ⟨o, e, _⟩ := st.1; exact ⟨o, e⟩)
    ⟨⟨_, Heap.get?_push_size _ rfl, rfl, by rw [hlen]; rfl⟩, hat.push _⟩ (F.push _) (fun p hp => ⟨up _ _ _ (N p hp).1, (N p hp).2⟩) ⟨c₀, rfl, hf, hk, fun _ _ _ _ => rfl⟩ ?_ ?_
  · rcases List.mem_cons.mp hb with e | hb
    · exact .inl e
    · exact .inr ⟨_, (List.mem_singleton.mp hb) ▸ hl⟩
  · rintro i v m₁ nx oI h tk hi ⟨k, y, hx, hv⟩ ⟨c, rfl, hf', h1, h2⟩ off F₁ N₁
    obtain ⟨t, rfl⟩ := Value.isInt_shape hv
    obtain ⟨z, hz⟩ := flat_key hfl hx
    exact turn i k z t c _ oI m₁ h tk hz hf' off (kst_fr h1 h2 F₁) N₁
  · rintro m₁ nx h tk ⟨c, rfl, hf', h1, h2⟩ F₁ N₁
    exact done c m₁ h tk hf' (kst_frOut h1 h2 F₁) N₁
end
end Mine

namespace Mine
theorem len_led {prog : Program} {w : World} {A : Around} {E : Value → Shared → Prop} {s : Shared} {h₀ : Heap} {L l : Addr} {news : Led} {vs : List Value} {n k : Nat} {Q : Value → Shared → Prop}
    (N : News h₀ L s.heap news) (hm : (l, listOf vs.toArray n) ∈ news) (hlen : vs.length = k) (hk : k < 2 ^ 62) (h : Q (.int (k : Nat) (s.toks + 1)) { s with toks := s.toks + 1 + 1 }) :
    wpAny (model prog w) A (call (.builtin "len") [.ref l]) Q E s := by
  subst hlen
  refine Calls.call_len_list (items := vs.toArray) ⟨_, (N _ hm).1, rfl, _, rfl⟩ ?_ ?_
  · rw [List.size_toArray]; omega
  · rw [List.size_toArray]; exact h
end Mine

namespace Mine
theorem off1_mem {D : Addr} : ∀ {l : Led}, LCg.Off1 D l → ∀ p ∈ l, p.1 ≠ D
  | [], _, _, hp => nomatch hp
  | _ :: _, h, p, hp => by
    rcases List.mem_cons.mp hp with rfl | hp
    · exact h.1
    · exact off1_mem h.2 p hp
section
variable {prog : Program} {w : World} {A : Around} {E : Value → Shared → Prop} {s : Shared} {h₀ : Heap} {L d : Addr} {m : Str → Option Value} {news : Led} {o : Obj} {c : List (Int × Int)} {k e : Int} {tk te : Tok}
theorem isD_tab (N : News h₀ L s.heap news) (hm : (d, o) ∈ news) (lo : (d == sysModules) = false) (hD : IsD prog w o c) : IntTab prog w s.heap d (kdfD c) :=
  let ⟨kvs, hd, hf⟩ := hD; ⟨lo, kvs, Heap.dictOf_iff.mpr ⟨o, (N _ hm).1, hd⟩, hf⟩
theorem isD_new {env : Env} {pos : Pos} {Q : Value → Shared → Prop} (F : Fr h₀ L s.heap m) (N : News h₀ L s.heap news) (hbig : h₀.NoLimit)
    (h : ∀ d h' o, Fr h₀ L h' m → News h₀ L h' ((d, o) :: news) → (d == sysModules) = false → IsD prog w o [] → (∀ p ∈ news, p.1 < d) → Q (.ref d) { s with heap := h' }) : wpAny (model prog w) A (eval (.Dict [] [] pos) env) Q E s :=
  Dict_empty_made2 F N (modules_low hbig) fun h' o F' N' lo _ _ hi hf _ => h _ h' o F' N' lo ⟨[], hi, hf⟩ fun p hp => Heap.lt_size (N p hp).1
theorem isD_method {pl : Sem Bool} {Q : Value × List Value → Shared → Prop} (N : News h₀ L s.heap news) (hm : (d, o) ∈ news) (hD : IsD prog w o c) (h : Q (.builtin "dict.get", [.ref d]) s) : wpAny (model prog w) A (getMethod (.ref d) "get" pl) Q E s :=
  let ⟨_, hd, _⟩ := hD; kdg_method N hm hd h
theorem isD_get2 {Q : Value → Shared → Prop} (N : News h₀ L s.heap news) (hm : (d, o) ∈ news) (lo : (d == sysModules) = false) (hD : IsD prog w o c) (h : ∀ t, Q (.int (kdfLook c k e) t) { s with toks := s.toks + 1 }) :
    wpAny (model prog w) A (call (.builtin "dict.get") [.ref d, .int k tk, .int e te]) Q E s := kdf_get2 (isD_tab N hm lo hD) h
theorem isD_item {value slice : PySem.Expr} {Q : Value → Shared → Prop} (N : News h₀ L s.heap news) (hm : (d, o) ∈ news) (lo : (d == sysModules) = false) (hD : IsD prog w o c) (hk : kdfHas c k = true) (h : ∀ t, Q (.int (kdfLook c k 0) t) { s with toks := s.toks + 1 })
    (hs : subscripted slice false (.ref d) (.int k tk) = operate [.ref d, .int k tk] (getItem (.ref d) (.int k tk)) := by with_unfolding_all rfl) (hg : ∀ r, letTemporaryGo value (.ref d) r = pure () := by intro _; with_unfolding_all rfl) :
    wpAny (model prog w) A (subscriptTail value slice (.ref d) (.int k tk)) Q E s := kdf_item (isD_tab N hm lo hD) hk h hs hg
theorem updF_of : ∀ {own rest : Led}, (∀ p ∈ own, p.1 ≠ d) → (∀ p ∈ rest, p.1 ≠ d) → UpdF d o (own ++ (d, o) :: rest) (fun o' => own ++ (d, o') :: rest)
  | [], _, _, h2 => .head h2
  | p :: r, _, h1, h2 => .tail (h1 p (.head _)) (updF_of (fun q hq => h1 q (.tail _ hq)) h2)
theorem isD_set {own rest : Led} {Q : Unit → Shared → Prop} (F : Fr h₀ L s.heap m) (N : News h₀ L s.heap (own ++ (d, o) :: rest)) (h1 : ∀ p ∈ own, p.1 ≠ d) (h2 : ∀ p ∈ rest, p.1 ≠ d) (hD : IsD prog w o c) (hc : c.length ≤ 16777216)
    (h : ∀ h' o', Fr h₀ L h' m → News h₀ L h' (own ++ (d, o') :: rest) → IsD prog w o' (kdfPut c k e) → Q () { s with heap := h', toks := s.toks + 1 }) :
    wpAny (model prog w) A (setItem (.ref d) (.int k tk) (.int e te)) Q E s :=
  let ⟨_, hd, hf⟩ := hD; kdf_setItem F N (updF_of h1 h2) hd hf hc fun h' o' kvs' F' N' a b => h h' o' F' N' ⟨kvs', a, b⟩
end
end Mine

namespace Mine
def TEnd (h₀ : Heap) (L : Addr) (mm : Str → Option Value) (news : Led) (s₁ : Shared) (c : Bool) (b : Bool) (s' : Shared) : Prop := b = c ∧ ∃ h' tk', s' = { s₁ with heap := h', toks := tk' } ∧ Fr h₀ L h' mm ∧ News h₀ L h' news
def BEnd (h₀ : Heap) (L : Addr) (x : Str) (v : Int) (m₀ : Str → Option Value) (news : Led) (s₁ : Shared) (fl : Flow) (s' : Shared) : Prop := fl = .next ∧ ∃ h' tk' t', s' = { s₁ with heap := h', toks := tk' } ∧ Fr h₀ L h' (fun z => if z = x then some (.int v t') else m₀ z) ∧ News h₀ L h' news
section
variable {prog : Program} {w : World} {A : Around} {E : Value → Shared → Prop} {s : Shared} {env : Env} {h₀ : Heap} {L : Addr} {m₀ : Str → Option Value} {news : Led} {Q : Flow → Shared → Prop}
/-- a while that counts one name from f 0 to f n -/
theorem while_count {x : Str} {test : Expr} {body : List Stmt} {pos : Pos} (f : Nat → Int) (n : Nat) {t₀ : Tok}
    (F : Fr h₀ L s.heap m₀) (N : News h₀ L s.heap news) (hx : m₀ x = some (.int (f 0) t₀))
    (htest : ∀ p t h tk (E' : Value → Shared → Prop), p ≤ n → Fr h₀ L h (fun z => if z = x then some (.int (f p) t) else m₀ z) → News h₀ L h news →
      wpAny (model prog w) A (isTrue test env (eval test env)) (TEnd h₀ L (fun z => if z = x then some (.int (f p) t) else m₀ z) news { s with heap := h, toks := tk } (decide (p < n))) E' { s with heap := h, toks := tk })
    (hbody : ∀ p t h tk (E' : Value → Shared → Prop), p < n → Fr h₀ L h (fun z => if z = x then some (.int (f p) t) else m₀ z) → News h₀ L h news →
      wpAny (model prog w) A (execs body env) (BEnd h₀ L x (f (p + 1)) m₀ news { s with heap := h, toks := tk }) E' { s with heap := h, toks := tk })
    (done : ∀ t h tk, Fr h₀ L h (fun z => if z = x then some (.int (f n) t) else m₀ z) → News h₀ L h news → Q .next { s with heap := h, toks := tk }) :
    wpAny (model prog w) A (exec (.While test body [] pos) env) Q E s := by
  refine wpAny_While ?_
  have e0 : m₀ = fun z => if z = x then some (.int (f 0) t₀) else m₀ z := by
    funext z
    by_cases e : z = x
    · rw [if_pos e, e, hx]
    · rw [if_neg e]
  refine codeAny_whileLoop (fun k s' => ∃ h tk p t, s' = { s with heap := h, toks := tk } ∧ p ≤ n ∧ k = n - p ∧ Fr h₀ L h (fun z => if z = x then some (.int (f p) t) else m₀ z) ∧ News h₀ L h news) ?_ n
    ⟨s.heap, s.toks, 0, t₀, rfl, Nat.zero_le _, rfl, e0 ▸ F, N⟩
  rintro k s' ⟨h, tk, p, t, rfl, hp, rfl, F', N'⟩
  refine wpAny_mono (htest p t h tk _ hp F' N') (fun b s₂ h₂ => ?_) fun _ _ e => e
  obtain ⟨rfl, h', tk', rfl, F₂, N₂⟩ := h₂
  by_cases hlt : p < n
  · rw [decide_eq_true hlt]
    simp only [if_true]
    refine wpAny_mono (hbody p t h' tk' _ hlt F₂ N₂) (fun fl s₃ h₃ => ?_) fun _ _ e => e
    obtain ⟨rfl, h₃, tk₃, t₃, rfl, F₃, N₃⟩ := h₃
    exact ⟨n - (p + 1), by omega, h₃, tk₃, p + 1, t₃, rfl, hlt, rfl, F₃, N₃⟩
  · rw [decide_eq_false hlt]
    simp only [Bool.false_eq_true, if_false]
    obtain rfl : p = n := by omega
    exact wpAny_execs_nil (done t h' tk' F₂ N₂)
end
end Mine

local macro_rules | `(tactic| walk_at "mine enter") => `(tactic| first
  | k_dflt ktr_enter
  | k_dflt (refine' code_defC ?k1 ?k2 ?k3 ?k4 ?k5 ?kA ?kF ?kK ?k6 ?k7 ?k8 ?k9 ?kB ?kD ?_ ?c2 ?c3 ?c4; (case kA => exact rfl); (case kF => exact rfl); (case kK => assumption); (case k1 => k_asm); (case k2 => k_asm); (case k3 => k_asm); (case k4 => k_asm); (case k5 => k_asm); (case k6 => k_is); (case k7 => k_is); (case k8 => ktr_room); (case k9 => exact BindsTo.of_eq rfl); (case kB => exact rfl); (case kD => decide +kernel); (case c2 => exact rfl); (case c3 => exact rfl); (case c4 => exact rfl); k_whole; intro g' L' h' tk' cells' FG' F' N' Y' B' X' T' l1; (try k_lt l1); k_cells Y'; (try simp only [List.cons_append, List.nil_append] at N'); (try dsimp only); (try k_lift B'); (try k_fold)))
local macro_rules | `(tactic| walk_at "CompSrcT") => `(tactic| k_extra "my CompSrcT")
local macro_rules | `(tactic| walk_at "CompSrc") => `(tactic| k_extra "my CompSrc")
local macro_rules | `(tactic| walk_at "CompEnd") => `(tactic| k_extra "my CompEnd")
local macro_rules | `(tactic| walk_at "pyIter ref") => `(tactic| k_extra "my pyIter")
local macro_rules | `(tactic| walk_at "call ref") => `(tactic| k_extra "my call")
local macro_rules | `(tactic| walk_at "eval Dict") => `(tactic| k_extra "my Dict")
local macro_rules | `(tactic| walk_at "call builtin:len") => `(tactic| k_extra "my len")
local macro_rules | `(tactic| walk_at "getMethod ref") => `(tactic| k_extra "my getMethod")
local macro_rules | `(tactic| walk_at "call builtin:dict.get") => `(tactic| k_extra "my dict.get")
local macro_rules | `(tactic| walk_at "subscriptTail") => `(tactic| k_extra "my item")
local macro_rules | `(tactic| walk_at "setItem ref int") => `(tactic| k_extra "my setItem")
local macro_rules | `(tactic| walk_at "eval Dict nil nil") => `(tactic| k_extra "my Dict0")
local macro_rules | `(tactic| walk_at "km same") => `(tactic| (intro z h1 h2 h3; dsimp only at h2; repeat (first
  | rfl
  | (refine Eq.trans (Mine.km_same (by first | exact h1 | exact Mine.kz_ne h3 (by decide) | (change _ ≠ PySem.Str.ofString _; exact Mine.kz_ne h3 (by decide)) | (have hh := h2 _ (.head _); exact hh) | (have hh := h2 _ (.tail _ (.head _)); exact hh) | (have hh := h2 _ (.tail _ (.tail _ (.head _))); exact hh)) (by first | rfl | exact h3 | exact Mine.kz_sub h3 (by decide)) (by first | exact List.forall_mem_nil _ | exact h2 | (repeat' (first | exact List.forall_mem_nil _ | refine List.forall_mem_cons.mpr ⟨?_, ?_⟩ | first | exact h1 | exact Mine.kz_ne h3 (by decide) | (change _ ≠ PySem.Str.ofString _; exact Mine.kz_ne h3 (by decide)) | (have hh := h2 _ (.head _); exact hh) | (have hh := h2 _ (.tail _ (.head _)); exact hh) | (have hh := h2 _ (.tail _ (.tail _ (.head _))); exact hh))))) ?_)
  | (refine Eq.trans (if_neg (by first | exact h1 | exact Mine.kz_ne h3 (by decide) | (change _ ≠ PySem.Str.ofString _; exact Mine.kz_ne h3 (by decide)) | (have hh := h2 _ (.head _); exact hh) | (have hh := h2 _ (.tail _ (.head _)); exact hh) | (have hh := h2 _ (.tail _ (.tail _ (.head _))); exact hh))) ?_))))
local macro_rules | `(tactic| walk_at "exec For") => `(tactic| (k_here; (rename Fr _ _ _ _ => lF'); (with_unfolding_all refine' For_invVF lF' ?k1 ?k2 ?_; (case k1 => exact rfl); (case k2 => exact rfl); k_whole)))
local macro_rules | `(tactic| walk_at "exec While") => `(tactic| k_extra "my while")
local macro_rules | `(tactic| walk_at "truthy") => `(tactic| k_extra "my truthy")
local macro_rules | `(tactic| walk_at "subscriptTail Name Name str int") => `(tactic| k_extra "my item")
local macro_rules | `(tactic| walk_at "subscriptTail Name BinOp str int") => `(tactic| k_extra "my item")
local macro_rules | `(tactic| walk_at "subscriptTail Name Slice str ref") => `(tactic| k_extra "my item")
local macro_rules | `(tactic| walk_at "eval BoolOp") => `(tactic| k_extra "my BoolOp")
local macro_rules | `(tactic| walk_at "call type:list") => `(tactic| k_extra "my list")
local macro_rules | `(tactic| walk_at "call builtin:min") => `(tactic| k_extra "my min")
local macro_rules | `(tactic| walk_at "subscriptTail Name Name ref int") => `(tactic| k_extra "my item")
local macro_rules | `(tactic| walk_at "subscriptTail Name Slice bytes ref") => `(tactic| k_extra "my item")
local macro_rules | `(tactic| walk_at "binaryOp Add bytes bytes") => `(tactic| k_extra "my cat")
local macro_rules | `(tactic| walk_at "subscriptTail Name Slice ref ref") => `(tactic| k_extra "my item")
local macro_rules | `(tactic| walk_at "binaryOp Add ref ref") => `(tactic| k_extra "my cat")
local macro_rules | `(tactic| walk_at "delItem ref int") => `(tactic| k_extra "my del")
local macro_rules | `(tactic| walk_at "getMethod bytes") => `(tactic| k_extra "my getMethod")
local macro_rules | `(tactic| walk_at "call builtin:re.Pattern.match") => `(tactic| k_extra "my match")
local macro_rules | `(tactic| walk_at "call builtin:re.Match.group") => `(tactic| k_extra "my group")
local macro_rules | `(tactic| walk_at "call builtin:bytes.split") => `(tactic| k_extra "my split")
local macro_rules | `(tactic| walk_at "call builtin:bytes.join") => `(tactic| k_extra "my join")
local macro_rules | `(tactic| walk_at "call builtin:bytes.decode") => `(tactic| k_extra "my decode")
local macro_rules | `(tactic| walk_at "call type:tuple") => `(tactic| k_extra "my tuple")
local macro_rules | `(tactic| walk_at "eval ListComp") => `(tactic| k_extra "my comp")
local macro_rules | `(tactic| walk_at "exec Assign cons ListComp") => `(tactic| k_extra "my assigncomp")
local macro_rules | `(tactic| walk_at "binaryOp Mult str int") => `(tactic| k_extra "my smul")
local macro_rules | `(tactic| walk_at "binaryOp Add str str") => `(tactic| k_extra "my sadd")
local macro_rules | `(tactic| walk_at "compareOp NotEq ref ref") => `(tactic| k_extra "my ne")

namespace Mine
def freeG (taken : Int) (l : List Int) (k : Int) : List Int := if (taken.fdiv (2 ^ k.toNat)).fmod 2 = 0 then l ++ [k] else l
def freeL (taken first last : Int) : List Int := (rangeKs first (last + 1 - first).toNat).foldl (freeG taken) []
theorem freeG_grows (taken : Int) : KPfGrows (freeG taken) := by
  intro l k; unfold freeG; split <;> simp
set_option maxRecDepth 100000 in
set_option maxHeartbeats 8000000 in
theorem free_c (w : World) (taken first last : Int) (t1 t2 t3 : Tok) (h2 : 0 ≤ first) (h2' : first ≤ 5) (h3 : last = 5) :
    Fn w 128 1 8 [.int taken t1, .int first t2, .int last t3] (fun _ => True) (NewInts (freeL taken first last)) := by
  w_top off
  k_with_none
  unfold Fn
  intro mean mg mb dp un gd cn cs a ccd cl outer A₀ base h₀ L m news s Q E B F X N T hk hd hu ha hret
  revert X; k_fill; intro X
  refine wpAny_call ?_
  walk_at "mine enter"
  k_with_none
  k_with "my CompSrcT" => (refine stopI ?_)
  k_steps
  unfold Stop
  refine LCt.CompSrcT.range (by rfl) (by k_asm) (by k_asm) (by assumption) (by exact small_one (by omega) (by omega) (by omega) (by omega)) (by exact rangeSize_nat _ _) (by rw [PySem.sizeLine_eq]; omega) ?_
  intro g'
  refine' kci_range (freeG taken) (fun k' t' I' oI' C' oC' D' m' ys' l' h' tk' E' hlo' hhi' hI' hC' hx' F' N' off' ne' mk' => ?_) ?_ (freeG_grows taken)
  (try (simp only [LCg.Off3, and_true] at off')); kcf_last
  k_with "my CompEnd" => (refine stopI ?_)
  k_steps
  all_goals try unfold Stop
  · refine LCg.CompEnd.intro (by assumption) (by assumption) _ (by kcf_all) (by assumption) trivial ⟨rfl, _, _, rfl, ?_⟩
    exact if_pos (by assumption)
  · refine LCg.CompEnd.intro (by assumption) (by assumption) _ (by kcf_all) (by assumption) trivial ⟨rfl, ?_⟩
    exact if_neg (by assumption)
  · (rename News _ _ _ _ => kN9); (rename _ ∧ LCg.Off1 _ _ => o9)
    exact hret _ _ _ _ (by assumption) (cb_drop kN9 (by kcf_all)) ⟨_, _, _, rfl, rfl, by assumption, o9.2⟩
end Mine

namespace Mine
def takesG (first last : Int) (t : Int) (l : List Int) (w : Int) : List Int := if first ≤ w ∧ w ≤ last ∧ (t.fdiv (2 ^ w.toNat)).fmod 2 = 0 then l ++ [t + 2 ^ w.toNat] else l
def takesStep (shift first last : Int) (l : List Int) (c : Int) : List Int := l.foldl (G2 (fun _ => [c + shift, c + shift + 1]) (takesG first last)) []
def takesL (cells : List Int) (shift first last : Int) : List Int := cells.foldl (takesStep shift first last) [0]
theorem takes_len (shift first last : Int) : ∀ (cs l : List Int), (cs.foldl (takesStep shift first last) l).length ≤ l.length * 2 ^ cs.length
  | [], l => by simp
  | c :: r, l => by
    have h1 := takes_len shift first last r (takesStep shift first last l c)
    have h2 : (takesStep shift first last l c).length ≤ 0 + l.length * 2 := G2_len (W := fun _ => [c + shift, c + shift + 1]) (G := takesG first last) (b := 2) (fun k => by intro l k; unfold takesG; split <;> simp) (fun _ => Nat.le_refl _) l []
    have h3 : (takesStep shift first last l c).length * 2 ^ r.length ≤ (l.length * 2) * 2 ^ r.length := Nat.mul_le_mul_right _ (by omega)
    rw [List.foldl_cons, List.length_cons, Nat.pow_succ]
    have h4 : l.length * 2 * 2 ^ r.length = l.length * (2 ^ r.length * 2) := by rw [Nat.mul_assoc, Nat.mul_comm 2]
    omega
theorem takesG_grows (first last t : Int) : KPfGrows (takesG first last t) := by
  intro l k; unfold takesG; split <;> simp
set_option maxRecDepth 100000 in
set_option maxHeartbeats 8000000 in
theorem takes_c (w : World) (lc : Addr) (cells : List Int) (shift first last : Int) (t1 t2 t3 : Tok) (hlen : cells.length ≤ 6) (hf : 0 ≤ first) (hlast : last ≤ 5) :
    Fn w 123 1 8 [.ref lc, .int shift t1, .int first t2, .int last t3] (fun news => ∃ (its : List Value) (n : Nat), (lc, listOf its.toArray n) ∈ news ∧ IntsAre its cells) (NewInts (takesL cells shift first last)) := by
  w_top off
  k_with_none
  unfold Fn
  intro mean mg mb dp un gd cn cs a ccd cl outer A₀ base h₀ L m news s Q E B F X N T hk hd hu ha hret
  obtain ⟨its, nn, hl, hi⟩ := ha
  revert X; k_fill; intro X
  refine wpAny_call ?_
  walk_at "mine enter"
  k_with_none
  k_steps
  (rename Fr _ _ _ _ => kF)
  with_unfolding_all refine For_cell kF rfl rfl rfl ?_
  k_steps
  rename_i d1 d2 d3 d4 ll h1 l1 h2 kN
  refine srcC_fold (y := Str.ofString "takes") (l₀ := [0]) (takesStep shift first last) rfl (by assumption) kN d1 (.tail _ (.tail _ (.tail _ hl))) hi ?_ ?_ ?_ rfl (.cons 0 _ .nil) ?_ ?_
  · (rename ∀ (p : Addr × Obj), p ∈ news → @LT.lt Nat _ p.1 _ => lN)
    exact ⟨by omega, by omega, by omega, off1_of fun p hp => Nat.lt_of_lt_of_le (lN p hp) (Nat.le_add_right _ 4)⟩
  · exact Nat.ne_of_gt l1.1
  · exact ⟨Nat.ne_of_lt l1.2.1, Nat.ne_of_lt l1.2.2.1, Nat.ne_of_lt l1.2.2.2.1, off1_of (ktn_ltOf l1.2.2.2.2)⟩
  · intro i k t D ys n I oI oc' h tk E' hk hY hd' hc hoI hcI hIn F' N'
    k_fold
    k_steps
    with_unfolding_all refine Assign_two F' rfl rfl rfl (by decide) rfl (by decide) rfl rfl (by decide) rfl rfl ?_
    k_steps
    refine ⟨D, n, 2, ys, _, _, fun _ => [k + shift, k + shift + 1], takesG first last, rfl, rfl, by assumption, N', .tail _ (.head _), hY, takesG_grows first last, fun _ => Nat.le_refl _, ?_, ?_⟩
    · have h1 := takes_len shift first last (cells.take i) [0]
      have h2 := List.length_take_le i cells
      have h3 : 2 ^ (cells.take i).length ≤ 2 ^ 6 := Nat.pow_le_pow_right (by decide) (by rw [List.length_take]; omega)
      rw [List.length_singleton, Nat.one_mul] at h1
      rw [PySem.sizeLine_eq]
      omega
    · rintro s₂ ⟨h₂, rfl⟩
      refine ⟨?_, ?_, ?_⟩
      · intro kt tt I2 oI2 C2 oC2 D2 m2 ys2 h2 tk2 E2 hk2 hC2 hx2 F2 N2 off2 ne2
        k_fold
        k_steps
        show EndIter _ _ _ _ _ _ _ _
        exact ⟨_, _, _, _, _, rfl, rfl, by assumption, by assumption, .cons _ _ (.cons _ _ .nil), fun p hp => Nat.ne_of_lt (ktn_ltOf (by ktn_lt) p hp)⟩
      · intro kt tt kw tw J2 oJ2 X2 oX2 I2 oI2 C2 oC2 D2 m2 ys2 l2 h2 tk2 E2 hk2 hkw2 hY2 hC2 hx2 hx2' F2 N2
        k_fold
        k_steps
        · unfold EndIn
          refine ⟨_, _, rfl, by assumption, by assumption, ?_⟩
          refine ⟨_, _, rfl, ?_⟩
          unfold takesG
          rw [if_pos ⟨by assumption, by assumption, by assumption⟩]
        all_goals (unfold EndIn; refine ⟨_, _, rfl, by assumption, by assumption, ?_⟩; show _ = takesG _ _ _ _ _; unfold takesG; rw [if_neg (by omega)])
      · intro D2 ys2 h2 tk2 F2 N2 off2 hY2
        dsimp only
        (try k_fold)
        k_steps
        show StepL _ _ _ _ _ _ _ _
        exact StepL.intro F2 N2 [(D2, LCg.lst ys2)] (by kcf_all) (fun p hp => by rw [List.mem_singleton.mp hp]; exact Ne.symm off2.1) ⟨D2, ys2, _, rfl, Ne.symm off2.2.2.1, off2.2.2.2, hY2, if_pos rfl, fun z hz => by simp only [if_neg hz]⟩
  · intro D ys n oc' h tk hY hc hD F' N'
    dsimp only
    (try k_fold)
    k_steps
    (rename News _ _ _ _ => kN9)
    exact hret _ _ _ _ (by assumption) (cb_drop kN9 (by kcf_all)) ⟨D, ys, n, rfl, rfl, hY, hD.2.2.2⟩
end Mine

namespace Mine
def putT (v : Int) (c : List (Int × Int)) (k : Int) : List (Int × Int) := kdfPut c k (kdfLook c k 0 + v)
theorem putT_len (v : Int) : ∀ (l : List Int) (c : List (Int × Int)), (l.foldl (putT v) c).length ≤ c.length + l.length
  | [], c => by simp
  | k :: r, c => by
    have h1 := putT_len v r (putT v c k)
    have h2 := kdfPut_len c k (kdfLook c k 0 + v)
    simp only [List.foldl_cons, List.length_cons]
    unfold putT at h1 ⊢
    omega
theorem freeL_len (taken first last : Int) : (freeL taken first last).length ≤ (last + 1 - first).toNat := by
  have h := kpf_len (freeG_grows taken) (rangeKs first (last + 1 - first).toNat) []
  rw [rangeKs_length] at h
  simpa [freeL] using h
theorem takesL_len (cells : List Int) (shift first last : Int) (h : cells.length ≤ 6) : (takesL cells shift first last).length ≤ 64 := by
  have h1 := takes_len shift first last cells [0]
  have h3 : 2 ^ cells.length ≤ 2 ^ 6 := Nat.pow_le_pow_right (by decide) h
  rw [List.length_singleton, Nat.one_mul] at h1
  exact Nat.le_trans h1 h3
def lozIn (strip : Int) (dc : List (Int × Int)) (after : List (Int × Int)) (taken : Int) : List (Int × Int) :=
  (takesL (freeL (62 - taken) 1 5) (-1) 1 (4 - strip)).foldl (putT (kdfLook dc taken 0)) after
theorem free5 (t : Int) : (freeL t 1 5).length ≤ 6 := Nat.le_trans (freeL_len t 1 5) (by decide)
theorem lozIn_len (strip : Int) (dc : List (Int × Int)) : ∀ (l : List Int) (c : List (Int × Int)), (l.foldl (lozIn strip dc) c).length ≤ c.length + l.length * 64
  | [], c => by simp
  | k :: r, c => by
    have h1 := lozIn_len strip dc r (lozIn strip dc c k)
    have h2 := putT_len (kdfLook dc k 0) (takesL (freeL (62 - k) 1 5) (-1) 1 (4 - strip)) c
    have h3 := takesL_len (freeL (62 - k) 1 5) (-1) 1 (4 - strip) (free5 _)
    simp only [List.foldl_cons, List.length_cons, Nat.succ_mul]
    unfold lozIn at h1 ⊢
    omega
def lozStep (dc : List (Int × Int)) (strip : Int) : List (Int × Int) := (dc.map (·.1)).foldl (lozIn strip dc) []
def tally0 (spots : List Int) : List (Int × Int) := [(62 - (spots.map fun x => 2 ^ x.toNat).sum, 1)]
def lozD (spots : List Int) : Nat → List (Int × Int)
  | 0 => tally0 spots
  | i + 1 => lozStep (lozD spots i) (0 + (i : Int))
theorem lozD_len (spots : List Int) : ∀ i, (lozD spots i).length ≤ 64 ^ i
  | 0 => by simp [lozD, tally0]
  | i + 1 => by
    have h := lozD_len spots i
    have h1 := lozIn_len (0 + (i : Int)) (lozD spots i) ((lozD spots i).map (·.1)) []
    rw [List.length_map, List.length_nil] at h1
    show (lozStep (lozD spots i) (0 + (i : Int))).length ≤ _
    unfold lozStep
    rw [Nat.pow_succ]
    have := Nat.mul_le_mul_right 64 h
    omega
def lozL (spots : List Int) : Int := ((lozD spots spots.length).map (·.2)).sum
theorem has_of_get {c : List (Int × Int)} {i : Nat} {k y : Int} (h : c[i]? = some (k, y)) : kdfHas c k = true := by
  unfold kdfHas
  exact List.any_eq_true.mpr ⟨(k, y), List.mem_of_getElem? h, by simp⟩
end Mine

namespace Mine
set_option maxRecDepth 100000 in
set_option maxHeartbeats 8000000 in
theorem loz_c (w : World) (ls : Addr) (spots : List Int) (hlen : spots.length ≤ 3) (hsp : ∀ x ∈ spots, 1 ≤ x ∧ x ≤ 5) :
    Fn w 138 2 16 [.ref ls] (fun news => ∃ (its : List Value) (n : Nat), (ls, listOf its.toArray n) ∈ news ∧ IntsAre its spots) (RetInt (lozL spots)) := by
  w_top off
  k_with_none
  unfold Fn
  intro mean mg mb dp un gd cn cs a ccd cl outer A₀ base h₀ L m news s Q E B F X N T hk hd hu ha hret
  obtain ⟨its, nn, hl, hi⟩ := ha
  revert X; k_fill; intro X
  refine wpAny_call ?_
  walk_at "mine enter"
  k_with_none
  k_with "my CompSrc" => (refine stopI ?_)
  k_with "my pyIter" => (refine stopI ?_)
  k_with "my Dict" => (refine kdn_eval (knd := PySem.intKind _ _) (by k_asm) (by k_asm) (Top.nolimit (by k_asm)) rfl rfl (List.cons_ne_nil _ _) (Nat.le_of_ble_eq_true rfl) ?_; intro d' h' o' F' N' l1 lo' hd'; (try k_lt l1))
  k_steps
  unfold Stop
  (refine LCg.CompSrc.ledger (by rfl) (by k_asm) (by k_asm) (by first | exact hl | exact .tail _ hl) (by rw [PySem.sizeLine_eq, List.size_toArray, hi.length]; omega) ?_)
  intro g'
  refine' kcf_list (fun x => 2 ^ x.toNat) hi (fun k' t' I' oI' C' oC' D' m' ys' h' tk' E' hk' hC' hx' F' N' off' ne' mk' => ?_) ?_
  · obtain ⟨hb1, hb2⟩ := hsp _ hk'
    (try k_unmd); (try k_fold)
    k_with "my CompEnd" => (refine stopI ?_)
    k_steps
    unfold Stop
    exact LCg.CompEnd.intro (by assumption) (by assumption) _ (by kcf_all) (by assumption) (Or.inr ⟨_, .tail _ hl, rfl, _, rfl⟩) ⟨rfl, _, rfl⟩
  · k_with "my len" => (refine len_led (by k_asm) (by first | exact .tail _ (.tail _ hl) | exact .tail _ hl | exact hl) hi.length (by omega) ?_)
    k_steps
    unfold Stop
    (rename IsRange _ _ _ _ _ _ _ _ => kR); (rename Fr _ _ _ _ => kF); (rename News _ _ _ _ => kN); (rename PyProof.V.FlatPairs _ _ _ => kFP); (rename Obj.IsDictOf _ _ _ => kID)
    refine iter_rangeS (σ := Addr × Obj × List (Int × Int)) (news := news) (n := spots.length) (fun c => [(c.1, c.2.1)]) (fun c => [(Str.ofString "tally", .ref c.1)])
      (fun i c => IsD PySem.Challenge.rw_wn0046_01.row.prog w c.2.1 c.2.2 ∧ c.2.2 = lozD spots i ∧ (c.1 == sysModules) = false ∧ LCg.Off1 c.1 news) [Str.ofString "after", Str.ofString "taken", Str.ofString "above"] (d', _, tally0 spots)
      rfl kR (small_one (by omega) (by omega) (by omega) (by omega)) (by rw [rangeSize_nat]; omega) kF (cb_drop kN (by kcf_all)) ⟨⟨_, kID, kFP⟩, rfl, lo', off1_of l1⟩ (by kst_all) ?_ ?_
    · rintro i t ⟨dT, oT, tl⟩ I oI u h tk hi' ⟨hDT, htl, loT, offT⟩ off F' N'
      dsimp only at hDT htl loT offT off F' N'
      simp only [List.cons_append, List.nil_append] at off N'
      k_with "my Dict0" => (refine isD_new (by k_asm) (by k_asm) (Top.nolimit (by k_asm)) ?_; intro dA hA oA FA NA loA hDA lA)
      (try k_unmd); (try k_fold)
      k_steps
      unfold Stop
      (rename Fr _ _ _ _ => kF2); (rename News _ _ _ _ => kN2)
      have offA : LCg.Off1 dA ((I, oI) :: (dT, oT) :: news) := off1_of lA
      obtain ⟨offA1, offA2, offA3⟩ := offA
      have hlt3 : i < 3 := Nat.lt_of_lt_of_le hi' hlen
      have htlen : tl.length ≤ 4096 := by
        rw [htl]
        exact Nat.le_trans (lozD_len spots i) (Nat.pow_le_pow_right (n := 64) (by decide) (show i ≤ 2 by omega))
      refine iter_dictS (σ := Obj × List (Int × Int)) (news := (I, oI) :: (dT, oT) :: news) (dc := tl) (fun c => [(dA, c.1)]) (fun _ => [])
        (fun j c => IsD PySem.Challenge.rw_wn0046_01.row.prog w c.1 c.2 ∧ c.2 = ((tl.take j).map (·.1)).foldl (lozIn (0 + (i : Int)) tl) []) [Str.ofString "above"] (oA, [])
        rfl loT (.tail _ (.head _)) hDT kF2 (by k_asm) ⟨hDA, rfl⟩ (by kst_all) ?_ ?_
      · rintro j k y t2 ⟨oA2, ac⟩ I2 oI2 u2 h2 tk2 hk2 ⟨hDA2, hac⟩ off2 F2 N2
        dsimp only at hDA2 hac off2 F2 N2
        simp only [List.cons_append, List.nil_append] at off2 N2
        have hjlt : j < tl.length := (List.getElem?_eq_some_iff.mp hk2).1
        k_with "my call" => (refine stopI ?_)
        (try k_unmd); (try k_fold)
        k_steps
        unfold Stop
        refine Fn.use (free_c w (62 - k) 1 5 _ _ _ (by omega) (by omega) rfl) (by k_asm) (by k_asm) (by k_asm) (by k_asm) (by k_asm) (by first | exact rfl | assumption) (by ktr_room) (by ktr_units) trivial ?_
        rintro _ _ hf tkf Ff Nf ⟨lf, ysf, nf, rfl, rfl, hYf, offf⟩
        (try k_unmd); (try k_fold)
        k_steps
        unfold Stop
        refine Fn.use (takes_c w lf (freeL (62 - k) 1 5) (-1) 1 (4 - (0 + (i : Int))) _ _ _ (free5 _) (by omega) (by omega)) (by k_asm) (by k_asm) (by k_asm) (by k_asm) (by k_asm) (by first | exact rfl | assumption) (by ktr_room) (by ktr_units) ⟨ysf, nf, .head _, hYf⟩ ?_
        rintro _ _ ht tkt Ft Nt ⟨lt, yst, nt, rfl, rfl, hYt, offt⟩
        (try k_unmd); (try k_fold)
        k_steps
        unfold Stop
        (rename Fr _ _ _ _ => kF3); (rename News _ _ _ _ => kN3)
        obtain ⟨_, offt1, offt2, offt3, offt4, offt5⟩ := offt
        have hacl : ac.length ≤ 262144 := by
          have h1 := lozIn_len (0 + (i : Int)) tl ((tl.take j).map (·.1)) []
          rw [← hac, List.length_map, List.length_take, List.length_nil] at h1
          omega
        refine iter_listS (σ := Obj × List (Int × Int)) (news := (lt, listOf yst.toArray nt) :: (I2, oI2) :: (I, oI) :: (dT, oT) :: news) (vs := yst) (fun c => [(dA, c.1)]) (fun _ => [])
          (fun q c => IsD PySem.Challenge.rw_wn0046_01.row.prog w c.1 c.2 ∧ c.2 = ((takesL (freeL (62 - k) 1 5) (-1) 1 (4 - (0 + (i : Int)))).take q).foldl (putT (kdfLook tl k 0)) ac) [] (oA2, ac)
          rfl (.head _) kF3 (cb_drop kN3 (by kcf_all)) ⟨hDA2, rfl⟩ (by kst_all) ?_ ?_
        · rintro q v ⟨oA3, ad⟩ I3 oI3 u3 h3 tk3 hv ⟨hDA3, had⟩ off3 F3 N3
          dsimp only at hDA3 had off3 F3 N3
          simp only [List.cons_append, List.nil_append] at off3 N3
          obtain ⟨kk, tt, rfl, hkk⟩ := IntsAre.at hYt q v hv
          have hadl : ad.length ≤ 16777216 := by
            have h1 := putT_len (kdfLook tl k 0) ((takesL (freeL (62 - k) 1 5) (-1) 1 (4 - (0 + (i : Int)))).take q) ac
            have h2 := takesL_len (freeL (62 - k) 1 5) (-1) 1 (4 - (0 + (i : Int))) (free5 _)
            rw [← had, List.length_take] at h1
            omega
          k_with "my getMethod" => (refine isD_method (by k_asm) (by k_mem) hDA3 ?_)
          k_with "my dict.get" => (refine isD_get2 (by k_asm) (by k_mem) loA hDA3 ?_; intro tg)
          k_with "my item" => (refine isD_item (by k_asm) (by k_mem) loT hDT (has_of_get hk2) ?_; intro tg)
          k_with "my setItem" => (refine stopI ?_)
          (try k_unmd); (try k_fold)
          k_steps
          unfold Stop
          (rename Fr _ _ _ _ => kF4); (rename News _ _ _ _ => kN4)
          refine isD_set (own := [(I3, oI3)]) kF4 kN4 (fun p hp => by rw [List.mem_singleton.mp hp]; exact Ne.symm (off3 (dA, oA3) (.head _)))
            (off1_mem ⟨Ne.symm offt2, Ne.symm (off2 (dA, oA2) (.head _)), offA1, offA2, offA3⟩) hDA3 hadl ?_
          intro h4 o4 F4 N4 hD4
          (try k_unmd); (try k_fold)
          k_steps
          show StepL _ _ _ _ _ _ _ _
          refine StepL.intro F4 N4 [(dA, o4)] (by kcf_all) (fun p hp => by rw [List.mem_singleton.mp hp]; exact off3 (dA, oA3) (.head _)) ⟨(o4, putT (kdfLook tl k 0) ad kk), rfl, ⟨hD4, ?_⟩, by kst_all, by walk_at "km same"⟩
          show putT (kdfLook tl k 0) ad kk = _
          rw [List.take_add_one, hkk, List.foldl_append, ← had]
          rfl
        · rintro ⟨oA3, ad⟩ u3 h3 tk3 ⟨hDA3, had⟩ F3 N3
          dsimp only at hDA3 had F3 N3
          simp only [List.cons_append, List.nil_append] at N3
          dsimp only
          (try k_unmd); (try k_fold)
          k_steps
          show StepL _ _ _ _ _ _ _ _
          refine StepL.intro F3 N3 [(dA, oA3)] (by kcf_all) (fun p hp => by rw [List.mem_singleton.mp hp]; exact off2 (dA, oA2) (.head _)) ⟨(oA3, ad), rfl, ⟨hDA3, ?_⟩, by kst_all, by walk_at "km same"⟩
          show ad = _
          rw [hYt.length, List.take_length] at had
          rw [List.take_add_one, hk2, List.map_append, List.foldl_append, ← hac]
          exact had
      · rintro ⟨oA2, ac⟩ u2 h2 tk2 ⟨hDA2, hac⟩ F2 N2
        dsimp only at hDA2 hac F2 N2
        simp only [List.cons_append, List.nil_append] at N2
        dsimp only
        (try k_unmd); (try k_fold)
        k_steps
        show StepL _ _ _ _ _ _ _ _
        (rename Fr _ _ _ _ => kF5); (rename News _ _ _ _ => kN5)
        refine StepL.intro kF5 kN5 [(dA, oA2)] (by kcf_all) (fun p hp => by rw [List.mem_singleton.mp hp]; exact Ne.symm offA1) ⟨(dA, oA2, ac), rfl, ⟨hDA2, ?_, loA, offA3⟩, by kst_all, by walk_at "km same"⟩
        show ac = lozD spots (i + 1)
        rw [List.take_length] at hac
        rw [hac, htl]
        rfl
    · rintro ⟨dT, oT, tl⟩ u h tk ⟨hDT, htl, loT, offT⟩ F' N'
      dsimp only at hDT htl loT offT F' N'
      simp only [List.cons_append, List.nil_append] at N'
      dsimp only
      (try k_unmd); (try k_fold)
      k_with_none
      obtain ⟨kvsT, hidT, hfpT⟩ := hDT
      k_steps
      (rename Fr _ _ _ _ => kF6); (rename News _ _ _ _ => kN6)
      subst htl
      exact hret _ _ _ _ kF6 (cb_drop kN6 (by kcf_all)) ⟨⟨_, rfl⟩, rfl⟩
end Mine

namespace Mine
def domIn2 (v : Int) (after : List (Int × Int)) (below : Int) : List (Int × Int) := (takesL (freeL below 0 5) 0 1 5).foldl (putT v) after
theorem free6 (t : Int) : (freeL t 0 5).length ≤ 6 := Nat.le_trans (freeL_len t 0 5) (by decide)
theorem domIn2_len (v : Int) : ∀ (l : List Int) (c : List (Int × Int)), (l.foldl (domIn2 v) c).length ≤ c.length + l.length * 64
  | [], c => by simp
  | k :: r, c => by
    have h1 := domIn2_len v r (domIn2 v c k)
    have h2 := putT_len v (takesL (freeL k 0 5) 0 1 5) c
    have h3 := takesL_len (freeL k 0 5) 0 1 5 (free6 _)
    simp only [List.foldl_cons, List.length_cons, Nat.succ_mul]
    unfold domIn2 at h1 ⊢
    omega
def domIn (dc : List (Int × Int)) (after : List (Int × Int)) (taken : Int) : List (Int × Int) := (takesL (freeL taken 1 5) (-1) 0 5).foldl (domIn2 (kdfLook dc taken 0)) after
theorem domIn_len (dc : List (Int × Int)) : ∀ (l : List Int) (c : List (Int × Int)), (l.foldl (domIn dc) c).length ≤ c.length + l.length * 4096
  | [], c => by simp
  | k :: r, c => by
    have h1 := domIn_len dc r (domIn dc c k)
    have h2 := domIn2_len (kdfLook dc k 0) (takesL (freeL k 1 5) (-1) 0 5) c
    have h3 := takesL_len (freeL k 1 5) (-1) 0 5 (free5 _)
    simp only [List.foldl_cons, List.length_cons, Nat.succ_mul]
    unfold domIn at h1 ⊢
    omega
def domStep (dc : List (Int × Int)) : List (Int × Int) := (dc.map (·.1)).foldl (domIn dc) []
def domD (spots : List Int) : Nat → List (Int × Int)
  | 0 => tally0 spots
  | i + 1 => domStep (domD spots i)
def domL (spots : List Int) : Int := ((domD spots spots.length).map (·.2)).sum
end Mine

namespace Mine
set_option maxRecDepth 100000 in
set_option maxHeartbeats 8000000 in
theorem dom_c (w : World) (ls : Addr) (spots : List Int) (hlen : spots.length ≤ 3) (hsp : ∀ x ∈ spots, 1 ≤ x ∧ x ≤ 5) (hb : ∀ i, i < spots.length → (domD spots i).length ≤ 1024) :
    Fn w 133 2 16 [.ref ls] (fun news => ∃ (its : List Value) (n : Nat), (ls, listOf its.toArray n) ∈ news ∧ IntsAre its spots) (RetInt (domL spots)) := by
  w_top off
  k_with_none
  unfold Fn
  intro mean mg mb dp un gd cn cs a ccd cl outer A₀ base h₀ L m news s Q E B F X N T hk hd hu ha hret
  obtain ⟨its, nn, hl, hi⟩ := ha
  revert X; k_fill; intro X
  refine wpAny_call ?_
  walk_at "mine enter"
  k_with_none
  k_with "my CompSrc" => (refine stopI ?_)
  k_with "my pyIter" => (refine stopI ?_)
  k_with "my Dict" => (refine kdn_eval (knd := PySem.intKind _ _) (by k_asm) (by k_asm) (Top.nolimit (by k_asm)) rfl rfl (List.cons_ne_nil _ _) (Nat.le_of_ble_eq_true rfl) ?_; intro d' h' o' F' N' l1 lo' hd'; (try k_lt l1))
  k_steps
  unfold Stop
  (refine LCg.CompSrc.ledger (by rfl) (by k_asm) (by k_asm) (by first | exact hl | exact .tail _ hl) (by rw [PySem.sizeLine_eq, List.size_toArray, hi.length]; omega) ?_)
  intro g'
  refine' kcf_list (fun x => 2 ^ x.toNat) hi (fun k' t' I' oI' C' oC' D' m' ys' h' tk' E' hk' hC' hx' F' N' off' ne' mk' => ?_) ?_
  · obtain ⟨hb1, hb2⟩ := hsp _ hk'
    (try k_unmd); (try k_fold)
    k_with "my CompEnd" => (refine stopI ?_)
    k_steps
    unfold Stop
    exact LCg.CompEnd.intro (by assumption) (by assumption) _ (by kcf_all) (by assumption) (Or.inr ⟨_, .tail _ hl, rfl, _, rfl⟩) ⟨rfl, _, rfl⟩
  · k_with "my len" => (refine len_led (by k_asm) (by first | exact .tail _ (.tail _ hl) | exact .tail _ hl | exact hl) hi.length (by omega) ?_)
    k_steps
    unfold Stop
    (rename Fr _ _ _ _ => kF); (rename News _ _ _ _ => kN); (rename PyProof.V.FlatPairs _ _ _ => kFP); (rename Obj.IsDictOf _ _ _ => kID)
    refine iter_listS (σ := Addr × Obj × List (Int × Int)) (news := news) (vs := its) (fun c => [(c.1, c.2.1)]) (fun c => [(Str.ofString "tally", .ref c.1)])
      (fun i c => IsD PySem.Challenge.rw_wn0046_01.row.prog w c.2.1 c.2.2 ∧ c.2.2 = domD spots i ∧ (c.1 == sysModules) = false ∧ LCg.Off1 c.1 news) [Str.ofString "after", Str.ofString "taken", Str.ofString "below", Str.ofString "above"] (d', _, tally0 spots)
      rfl hl kF (cb_drop kN (by kcf_all)) ⟨⟨_, kID, kFP⟩, rfl, lo', off1_of l1⟩ (by kst_all) ?_ ?_
    · rintro i v0 ⟨dT, oT, tl⟩ I oI u h tk hi0 ⟨hDT, htl, loT, offT⟩ off F' N'
      dsimp only at hDT htl loT offT off F' N'
      simp only [List.cons_append, List.nil_append] at off N'
      have hi' : i < spots.length := by rw [← hi.length]; exact (List.getElem?_eq_some_iff.mp hi0).1
      have htlen : tl.length ≤ 1024 := by rw [htl]; exact hb i hi'
      k_with "my Dict0" => (refine isD_new (by k_asm) (by k_asm) (Top.nolimit (by k_asm)) ?_; intro dA hA oA FA NA loA hDA lA)
      (try k_unmd); (try k_fold)
      k_steps
      unfold Stop
      (rename Fr _ _ _ _ => kF2); (rename News _ _ _ _ => kN2)
      have offA : LCg.Off1 dA ((I, oI) :: (dT, oT) :: news) := off1_of lA
      obtain ⟨offA1, offA2, offA3⟩ := offA
      refine iter_dictS (σ := Obj × List (Int × Int)) (news := (I, oI) :: (dT, oT) :: news) (dc := tl) (fun c => [(dA, c.1)]) (fun _ => [])
        (fun j c => IsD PySem.Challenge.rw_wn0046_01.row.prog w c.1 c.2 ∧ c.2 = ((tl.take j).map (·.1)).foldl (domIn tl) []) [Str.ofString "below", Str.ofString "above"] (oA, [])
        rfl loT (.tail _ (.head _)) hDT kF2 (by k_asm) ⟨hDA, rfl⟩ (by kst_all) ?_ ?_
      · rintro j k y t2 ⟨oA2, ac⟩ I2 oI2 u2 h2 tk2 hk2 ⟨hDA2, hac⟩ off2 F2 N2
        dsimp only at hDA2 hac off2 F2 N2
        simp only [List.cons_append, List.nil_append] at off2 N2
        have hjlt : j < tl.length := (List.getElem?_eq_some_iff.mp hk2).1
        have hacl : ac.length ≤ j * 4096 := by
          have h1 := domIn_len tl ((tl.take j).map (·.1)) []
          rw [← hac, List.length_map, List.length_take, List.length_nil] at h1
          have h2 := Nat.mul_le_mul_right 4096 (Nat.min_le_left j tl.length)
          omega
        k_with "my call" => (refine stopI ?_)
        (try k_unmd); (try k_fold)
        k_steps
        unfold Stop
        refine Fn.use (free_c w k 1 5 _ _ _ (by omega) (by omega) rfl) (by k_asm) (by k_asm) (by k_asm) (by k_asm) (by k_asm) (by first | exact rfl | assumption) (by ktr_room) (by ktr_units) trivial ?_
        rintro _ _ hf tkf Ff Nf ⟨lf, ysf, nf, rfl, rfl, hYf, offf⟩
        (try k_unmd); (try k_fold)
        k_steps
        unfold Stop
        refine Fn.use (takes_c w lf (freeL k 1 5) (-1) 0 5 _ _ _ (free5 _) (by omega) (by omega)) (by k_asm) (by k_asm) (by k_asm) (by k_asm) (by k_asm) (by first | exact rfl | assumption) (by ktr_room) (by ktr_units) ⟨ysf, nf, .head _, hYf⟩ ?_
        rintro _ _ ht tkt Ft Nt ⟨lt, yst, nt, rfl, rfl, hYt, offt⟩
        (try k_unmd); (try k_fold)
        k_steps
        unfold Stop
        (rename Fr _ _ _ _ => kF3); (rename News _ _ _ _ => kN3)
        obtain ⟨_, offt1, offt2, offt3, offt4, offt5⟩ := offt
        refine iter_listS (σ := Obj × List (Int × Int)) (news := (lt, listOf yst.toArray nt) :: (I2, oI2) :: (I, oI) :: (dT, oT) :: news) (vs := yst) (fun c => [(dA, c.1)]) (fun _ => [])
          (fun q c => IsD PySem.Challenge.rw_wn0046_01.row.prog w c.1 c.2 ∧ c.2 = ((takesL (freeL k 1 5) (-1) 0 5).take q).foldl (domIn2 (kdfLook tl k 0)) ac) [Str.ofString "above"] (oA2, ac)
          rfl (.head _) kF3 (cb_drop kN3 (by kcf_all)) ⟨hDA2, rfl⟩ (by kst_all) ?_ ?_
        · rintro q v ⟨oA3, ad⟩ I3 oI3 u3 h3 tk3 hv ⟨hDA3, had⟩ off3 F3 N3
          dsimp only at hDA3 had off3 F3 N3
          simp only [List.cons_append, List.nil_append] at off3 N3
          obtain ⟨kb, tb, rfl, hkb⟩ := IntsAre.at hYt q v hv
          have hadl : ad.length ≤ j * 4096 + 4096 := by
            have h1 := domIn2_len (kdfLook tl k 0) ((takesL (freeL k 1 5) (-1) 0 5).take q) ac
            have h2 := takesL_len (freeL k 1 5) (-1) 0 5 (free5 _)
            rw [← had, List.length_take] at h1
            have h3 := Nat.mul_le_mul_right 64 (Nat.min_le_right q (takesL (freeL k 1 5) (-1) 0 5).length)
            omega
          (try k_unmd); (try k_fold)
          k_steps
          unfold Stop
          refine Fn.use (free_c w kb 0 5 _ _ _ (by omega) (by omega) rfl) (by k_asm) (by k_asm) (by k_asm) (by k_asm) (by k_asm) (by first | exact rfl | assumption) (by ktr_room) (by ktr_units) trivial ?_
          rintro _ _ hg tkg Fg Ng ⟨lg, ysg, ng, rfl, rfl, hYg, offg⟩
          (try k_unmd); (try k_fold)
          k_steps
          unfold Stop
          refine Fn.use (takes_c w lg (freeL kb 0 5) 0 1 5 _ _ _ (free6 _) (by omega) (by omega)) (by k_asm) (by k_asm) (by k_asm) (by k_asm) (by k_asm) (by first | exact rfl | assumption) (by ktr_room) (by ktr_units) ⟨ysg, ng, .head _, hYg⟩ ?_
          rintro _ _ hs tks Fs Ns ⟨ls2, yss, ns, rfl, rfl, hYs, offs⟩
          (try k_unmd); (try k_fold)
          k_steps
          unfold Stop
          (rename Fr _ _ _ _ => kF4); (rename News _ _ _ _ => kN4)
          obtain ⟨_, offs1, offs2, offs3, offs4, offs5, offs6, offs7⟩ := offs
          refine iter_listS (σ := Obj × List (Int × Int)) (news := (ls2, listOf yss.toArray ns) :: (I3, oI3) :: (lt, listOf yst.toArray nt) :: (I2, oI2) :: (I, oI) :: (dT, oT) :: news) (vs := yss) (fun c => [(dA, c.1)]) (fun _ => [])
            (fun r c => IsD PySem.Challenge.rw_wn0046_01.row.prog w c.1 c.2 ∧ c.2 = ((takesL (freeL kb 0 5) 0 1 5).take r).foldl (putT (kdfLook tl k 0)) ad) [] (oA3, ad)
            rfl (.head _) kF4 (cb_drop kN4 (by kcf_all)) ⟨hDA3, rfl⟩ (by kst_all) ?_ ?_
          · rintro r v4 ⟨oA4, ae⟩ I4 oI4 u4 h4 tk4 hv4 ⟨hDA4, hae⟩ off4 F4 N4
            dsimp only at hDA4 hae off4 F4 N4
            simp only [List.cons_append, List.nil_append] at off4 N4
            obtain ⟨kk, tt, rfl, hkk⟩ := IntsAre.at hYs r v4 hv4
            have hael : ae.length ≤ 16777216 := by
              have h1 := putT_len (kdfLook tl k 0) ((takesL (freeL kb 0 5) 0 1 5).take r) ad
              have h2 := takesL_len (freeL kb 0 5) 0 1 5 (free6 _)
              rw [← hae, List.length_take] at h1
              omega
            k_with "my getMethod" => (refine isD_method (by k_asm) (by k_mem) hDA4 ?_)
            k_with "my dict.get" => (refine isD_get2 (by k_asm) (by k_mem) loA hDA4 ?_; intro tg)
            k_with "my item" => (refine isD_item (by k_asm) (by k_mem) loT hDT (has_of_get hk2) ?_; intro tg)
            k_with "my setItem" => (refine stopI ?_)
            (try k_unmd); (try k_fold)
            k_steps
            unfold Stop
            (rename Fr _ _ _ _ => kF5); (rename News _ _ _ _ => kN5)
            refine isD_set (own := [(I4, oI4)]) kF5 kN5 (fun p hp => by rw [List.mem_singleton.mp hp]; exact Ne.symm (off4 (dA, oA4) (.head _)))
              (off1_mem ⟨Ne.symm offs2, Ne.symm (off3 (dA, oA3) (.head _)), Ne.symm offt2, Ne.symm (off2 (dA, oA2) (.head _)), offA1, offA2, offA3⟩) hDA4 hael ?_
            intro h6 o6 F6 N6 hD6
            (try k_unmd); (try k_fold)
            k_steps
            show StepL _ _ _ _ _ _ _ _
            refine StepL.intro F6 N6 [(dA, o6)] (by kcf_all) (fun p hp => by rw [List.mem_singleton.mp hp]; exact off4 (dA, oA4) (.head _)) ⟨(o6, putT (kdfLook tl k 0) ae kk), rfl, ⟨hD6, ?_⟩, by kst_all, by walk_at "km same"⟩
            show putT (kdfLook tl k 0) ae kk = _
            rw [List.take_add_one, hkk, List.foldl_append, ← hae]
            rfl
          · rintro ⟨oA4, ae⟩ u4 h4 tk4 ⟨hDA4, hae⟩ F4 N4
            dsimp only at hDA4 hae F4 N4
            simp only [List.cons_append, List.nil_append] at N4
            dsimp only
            (try k_unmd); (try k_fold)
            k_steps
            show StepL _ _ _ _ _ _ _ _
            refine StepL.intro F4 N4 [(dA, oA4)] (by kcf_all) (fun p hp => by rw [List.mem_singleton.mp hp]; exact off3 (dA, oA3) (.head _)) ⟨(oA4, ae), rfl, ⟨hDA4, ?_⟩, by kst_all, by walk_at "km same"⟩
            show ae = _
            rw [hYs.length, List.take_length] at hae
            rw [List.take_add_one, hkb, List.foldl_append, ← had]
            exact hae
        · rintro ⟨oA3, ad⟩ u3 h3 tk3 ⟨hDA3, had⟩ F3 N3
          dsimp only at hDA3 had F3 N3
          simp only [List.cons_append, List.nil_append] at N3
          dsimp only
          (try k_unmd); (try k_fold)
          k_steps
          show StepL _ _ _ _ _ _ _ _
          refine StepL.intro F3 N3 [(dA, oA3)] (by kcf_all) (fun p hp => by rw [List.mem_singleton.mp hp]; exact off2 (dA, oA2) (.head _)) ⟨(oA3, ad), rfl, ⟨hDA3, ?_⟩, by kst_all, by walk_at "km same"⟩
          show ad = _
          rw [hYt.length, List.take_length] at had
          rw [List.take_add_one, hk2, List.map_append, List.foldl_append, ← hac]
          exact had
      · rintro ⟨oA2, ac⟩ u2 h2 tk2 ⟨hDA2, hac⟩ F2 N2
        dsimp only at hDA2 hac F2 N2
        simp only [List.cons_append, List.nil_append] at N2
        dsimp only
        (try k_unmd); (try k_fold)
        k_steps
        show StepL _ _ _ _ _ _ _ _
        (rename Fr _ _ _ _ => kF5); (rename News _ _ _ _ => kN5)
        refine StepL.intro kF5 kN5 [(dA, oA2)] (by kcf_all) (fun p hp => by rw [List.mem_singleton.mp hp]; exact Ne.symm offA1) ⟨(dA, oA2, ac), rfl, ⟨hDA2, ?_, loA, offA3⟩, by kst_all, by walk_at "km same"⟩
        show ac = domD spots (i + 1)
        rw [List.take_length] at hac
        rw [hac, htl]
        rfl
    · rintro ⟨dT, oT, tl⟩ u h tk ⟨hDT, htl, loT, offT⟩ F' N'
      dsimp only at hDT htl loT offT F' N'
      simp only [List.cons_append, List.nil_append] at N'
      dsimp only
      (try k_unmd); (try k_fold)
      k_with_none
      obtain ⟨kvsT, hidT, hfpT⟩ := hDT
      k_steps
      (rename Fr _ _ _ _ => kF6); (rename News _ _ _ _ => kN6)
      rw [hi.length] at htl
      subst htl
      exact hret _ _ _ _ kF6 (cb_drop kN6 (by kcf_all)) ⟨⟨_, rfl⟩, rfl⟩
end Mine

namespace Mine
def strBC (b c : Nat) : Str := ⟨(List.replicate b 66 ++ List.replicate c 67).toArray⟩
def strW (i : Nat) : Str := strBC i (5 - i)
theorem strBC_len (b c : Nat) : (strBC b c).length = b + c := by simp [strBC, PySem.Str.length]
theorem w_ne : ∀ i, i < 6 → ∀ j, j < 6 → ((strW i == strW j) = true ↔ i = j) := by decide +kernel
theorem w_from : ∀ i, i < 6 → ∀ p, p ≤ i → Txt.slice (strW i) (some (p : Int)) none = strBC (i - p) (5 - i) := by decide +kernel
theorem w_item : ∀ i : Nat, i < 6 → ∀ p : Nat, p < 5 → Txt.item (strW i) (p : Int) = if p < i then Str.ofString "B" else Str.ofString "C" := by decide +kernel
section
variable {prog : Program} {w : World} {A : Around} {E : Value → Shared → Prop} {s : Shared} {h₀ : Heap} {L : Addr} {m : Str → Option Value} {news : Led} {value slice : PySem.Expr} {x y : PySem.Str} {t : Tok} {Q : Value → Shared → Prop}
theorem sl_from {i : Int} {ui : Tok} (e : Txt.slice x (some i) none = y) (hF : Fr h₀ L s.heap m) (hN : News h₀ L s.heap news) (hsz : x.length ≤ 1000) (h : ∀ h' t' k, Fr h₀ L h' m → News h₀ L h' news → Q (.str y t') { s with heap := h', toks := k })
    (hs : subscripted slice false (.str x t) (.ref s.heap.objs.size) = operate [.ref s.heap.objs.size, .str x t] (getItem (.str x t) (.ref s.heap.objs.size)) := by with_unfolding_all rfl)
    (ht : ∀ r, letTemporaryGo value (.str x t) r = pure () := by intro _; with_unfolding_all rfl) :
    wpAny (model prog w) A (subscriptTail value slice (.str x t) (.ref s.heap.objs.size)) Q E { s with heap := s.heap.push { cls := .type "slice", data := .fields #[.int i ui, .none, .none] } } := by
  subst e
  exact slice_strN_sn hF hN h hs ht (by rw [PySem.sizeLine_eq]; omega)
theorem sl_to {j : Int} {uj : Tok} (e : Txt.slice x none (some j) = y) (hF : Fr h₀ L s.heap m) (hN : News h₀ L s.heap news) (hsz : x.length ≤ 1000) (h : ∀ h' t' k, Fr h₀ L h' m → News h₀ L h' news → Q (.str y t') { s with heap := h', toks := k })
    (hs : subscripted slice false (.str x t) (.ref s.heap.objs.size) = operate [.ref s.heap.objs.size, .str x t] (getItem (.str x t) (.ref s.heap.objs.size)) := by with_unfolding_all rfl)
    (ht : ∀ r, letTemporaryGo value (.str x t) r = pure () := by intro _; with_unfolding_all rfl) :
    wpAny (model prog w) A (subscriptTail value slice (.str x t) (.ref s.heap.objs.size)) Q E { s with heap := s.heap.push { cls := .type "slice", data := .fields #[.none, .int j uj, .none] } } := by
  subst e
  exact slice_strN_ns hF hN h hs ht (by rw [PySem.sizeLine_eq]; omega)
theorem sl_all (e : Txt.slice x none none = y) (hF : Fr h₀ L s.heap m) (hN : News h₀ L s.heap news) (hsz : x.length ≤ 1000) (h : ∀ h' t' k, Fr h₀ L h' m → News h₀ L h' news → Q (.str y t') { s with heap := h', toks := k })
    (hs : subscripted slice false (.str x t) (.ref s.heap.objs.size) = operate [.ref s.heap.objs.size, .str x t] (getItem (.str x t) (.ref s.heap.objs.size)) := by with_unfolding_all rfl)
    (ht : ∀ r, letTemporaryGo value (.str x t) r = pure () := by intro _; with_unfolding_all rfl) :
    wpAny (model prog w) A (subscriptTail value slice (.str x t) (.ref s.heap.objs.size)) Q E { s with heap := s.heap.push { cls := .type "slice", data := .fields #[.none, .none, .none] } } := by
  subst e
  exact slice_strN_nn hF hN h hs ht (by rw [PySem.sizeLine_eq]; omega)
theorem it_str {i : Int} {u : Tok} (e : Txt.item x i = y) (h1 : -(x.length : Int) ≤ i) (h2 : i < x.length) (hn : x.length ≤ 1000) (h : Q (.str y s.toks) { s with toks := s.toks + 1 })
    (hs : subscripted slice false (.str x t) (.int i u) = operate [.str x t, .int i u] (getItem (.str x t) (.int i u)) := by with_unfolding_all rfl)
    (ht : ∀ r, letTemporaryGo value (.str x t) r = pure () := by intro _; with_unfolding_all rfl) :
    wpAny (model prog w) A (subscriptTail value slice (.str x t) (.int i u)) Q E s := by
  subst e
  exact item_str (fitsSsize_of (N := 9223372036854775808) (by omega) (by omega) (Int.le_refl _)) h1 h2 (fun _ => h) hs ht
theorem tr_str {Q : Bool → Shared → Prop} (hp : 1 ≤ x.length ∧ x.length ≤ 1000) (h : Q true { s with toks := s.toks + 1 + 1 }) : wpAny (model prog w) A (truthy (.str x t)) Q E s :=
  PySem.P.truthy_str (by omega) (by rw [show ((x.length : Int) != 0) = true from by simp; omega]; exact h)
def orN (q : Nat) (t : Tok) : Value := if q = 0 then .none else .int (-(q : Int)) t
theorem or_none {env : Env} {e₁ : Expr} {k : Nat} {p1 p2 : Pos} {q : Nat} {Q : Value → Shared → Prop} (h1 : ∀ Q' : Value → Shared → Prop, Q' (.int (-(q : Int)) t) s → wpAny (model prog w) A (eval e₁ env) Q' E s) (h : Q (orN q t) s) :
    wpAny (model prog w) A (eval (.BoolOp .Or [e₁, .Constant .none k p1] p2) env) Q E s := by
  refine BoolOp_or (h1 _ (PySem.P.truthy_int ?_))
  unfold orN at h
  by_cases e : q = 0
  · subst e
    rw [if_pos rfl] at h
    exact BoolOp_one (wpAny_pure h)
  · rw [if_neg e] at h
    rw [if_pos (by simp; omega)]
    exact h
theorem sl_opt {q : Nat} {uj : Tok} (e : q = 0 → Txt.slice x none none = y) (e' : 0 < q → Txt.slice x none (some (-(q : Int))) = y) (hF : Fr h₀ L s.heap m) (hN : News h₀ L s.heap news) (hsz : x.length ≤ 1000) (h : ∀ h' t' k, Fr h₀ L h' m → News h₀ L h' news → Q (.str y t') { s with heap := h', toks := k })
    (hs : subscripted slice false (.str x t) (.ref s.heap.objs.size) = operate [.ref s.heap.objs.size, .str x t] (getItem (.str x t) (.ref s.heap.objs.size)) := by with_unfolding_all rfl)
    (ht : ∀ r, letTemporaryGo value (.str x t) r = pure () := by intro _; with_unfolding_all rfl) :
    wpAny (model prog w) A (subscriptTail value slice (.str x t) (.ref s.heap.objs.size)) Q E { s with heap := s.heap.push { cls := .type "slice", data := .fields #[.none, orN q uj, .none] } } := by
  unfold orN
  by_cases e0 : q = 0
  · rw [if_pos e0]
    exact sl_all (e e0) hF hN hsz h hs ht
  · rw [if_neg e0]
    exact sl_to (e' (Nat.pos_of_ne_zero e0)) hF hN hsz h hs ht
theorem fr_upd2 {x : Str} {v v' : Option Value} {h : Heap} (F : Fr h₀ L h (fun y => if y = x then v else if y = x then v' else m y)) : Fr h₀ L h (fun y => if y = x then v else m y) := by
  have e : (fun y => if y = x then v else if y = x then v' else m y) = fun y => if y = x then v else m y := by
    funext y
    by_cases h1 : y = x
    · rw [if_pos h1, if_pos h1]
    · rw [if_neg h1, if_neg h1, if_neg h1]
  exact e ▸ F
end
theorem s_all : ∀ d, d < 6 → ∀ c, c < 6 → Txt.slice (strBC d c) none none = strBC d c := by decide +kernel
theorem s_to : ∀ d, d < 6 → ∀ c, c < 6 → ∀ q : Nat, q ≤ c → 0 < q → Txt.slice (strBC d c) none (some (-(q : Int))) = strBC d (c - q) := by decide +kernel
theorem s_item : ∀ d, d < 6 → ∀ c, c < 6 → ∀ q : Nat, q < 6 → q < d + c → Txt.item (strBC d c) (-(q : Int) - 1) = if q < c then Str.ofString "C" else Str.ofString "B" := by decide +kernel
def levV (i j : Nat) (mc : Int) : Int := if 2 * ((j : Int) - i) ≤ mc then 2 * ((j : Int) - i) else mc + 1
end Mine

namespace Mine
structure LevF (i j : Nat) : Prop where
  ne : (strW i == strW j) = true → False
  ai : ∀ p : Nat, p ≤ i → Txt.slice (strW i) (some (p : Int)) none = strBC (i - p) (5 - i)
  aj : ∀ p : Nat, p ≤ i → Txt.slice (strW j) (some (p : Int)) none = strBC (j - p) (5 - j)
  ai0 : Txt.slice (strW i) (some (i : Int)) none = strBC 0 (5 - i)
  li : (strW i).length ≤ 1000
  lj : (strW j).length ≤ 1000
  ii : ∀ p : Nat, p ≤ i → Txt.item (strW i) (p : Int) = if p < i then Str.ofString "B" else Str.ofString "C"
  ij : ∀ p : Nat, p ≤ i → Txt.item (strW j) (p : Int) = Str.ofString "B"
  ri1 : ∀ p : Nat, p ≤ i → -((strW i).length : Int) ≤ (p : Int)
  ri2 : ∀ p : Nat, p ≤ i → (p : Int) < ((strW i).length : Int)
  rj1 : ∀ p : Nat, p ≤ i → -((strW j).length : Int) ≤ (p : Int)
  rj2 : ∀ p : Nat, p ≤ i → (p : Int) < ((strW j).length : Int)
  ti : ∀ p : Nat, p ≤ i → 1 ≤ (strBC (i - p) (5 - i)).length ∧ (strBC (i - p) (5 - i)).length ≤ 1000
  tj : ∀ p : Nat, p ≤ i → 1 ≤ (strBC (j - p) (5 - j)).length ∧ (strBC (j - p) (5 - j)).length ≤ 1000
  lt : ∀ p : Nat, p ≤ i → ((if p < i then Str.ofString "B" else Str.ofString "C") == Str.ofString "B") = true → p < i
  nl : ∀ p : Nat, p ≤ i → ((if p < i then Str.ofString "B" else Str.ofString "C") == Str.ofString "B") = false → ¬ p < i
  qa : ∀ q : Nat, q ≤ 5 - j → q = 0 → Txt.slice (strBC 0 (5 - i)) none none = strBC 0 (5 - i - q)
  qa' : ∀ q : Nat, q ≤ 5 - j → 0 < q → Txt.slice (strBC 0 (5 - i)) none (some (-(q : Int))) = strBC 0 (5 - i - q)
  qb : ∀ q : Nat, q ≤ 5 - j → q = 0 → Txt.slice (strBC (j - i) (5 - j)) none none = strBC (j - i) (5 - j - q)
  qb' : ∀ q : Nat, q ≤ 5 - j → 0 < q → Txt.slice (strBC (j - i) (5 - j)) none (some (-(q : Int))) = strBC (j - i) (5 - j - q)
  qla : (strBC 0 (5 - i)).length ≤ 1000
  qlb : (strBC (j - i) (5 - j)).length ≤ 1000
  qia : ∀ q : Nat, q ≤ 5 - j → Txt.item (strBC 0 (5 - i)) (-(q : Int) - 1) = Str.ofString "C"
  qib : ∀ q : Nat, q ≤ 5 - j → Txt.item (strBC (j - i) (5 - j)) (-(q : Int) - 1) = if q < 5 - j then Str.ofString "C" else Str.ofString "B"
  qa1 : ∀ q : Nat, q ≤ 5 - j → -((strBC 0 (5 - i)).length : Int) ≤ -(q : Int) - 1
  qa2 : ∀ q : Nat, q ≤ 5 - j → -(q : Int) - 1 < ((strBC 0 (5 - i)).length : Int)
  qb1 : ∀ q : Nat, q ≤ 5 - j → -((strBC (j - i) (5 - j)).length : Int) ≤ -(q : Int) - 1
  qb2 : ∀ q : Nat, q ≤ 5 - j → -(q : Int) - 1 < ((strBC (j - i) (5 - j)).length : Int)
  qta : ∀ q : Nat, q ≤ 5 - j → 1 ≤ (strBC 0 (5 - i - q)).length ∧ (strBC 0 (5 - i - q)).length ≤ 1000
  qtb : ∀ q : Nat, q ≤ 5 - j → 1 ≤ (strBC (j - i) (5 - j - q)).length ∧ (strBC (j - i) (5 - j - q)).length ≤ 1000
  qlt : ∀ q : Nat, q ≤ 5 - j → (Str.ofString "C" == (if q < 5 - j then Str.ofString "C" else Str.ofString "B")) = true → q < 5 - j
  qnl : ∀ q : Nat, q ≤ 5 - j → (Str.ofString "C" == (if q < 5 - j then Str.ofString "C" else Str.ofString "B")) = false → ¬ q < 5 - j

theorem bend {h₀ h' : Heap} {L : Addr} {x : Str} {v v' : Int} {m₀ : Str → Option Value} {o : Option Value} {news : Led} {s₁ : Shared} {t' : Tok} {tk' : Nat} (e : v' = v)
    (F : Fr h₀ L h' (fun z => if z = x then some (.int v' t') else if z = x then o else m₀ z)) (N : News h₀ L h' news) :
    BEnd h₀ L x v m₀ news s₁ .next { s₁ with heap := h', toks := tk' } := by
  subst e
  exact ⟨rfl, _, _, _, rfl, fr_upd2 F, N⟩
theorem len_str {prog : Program} {w : World} {A : Around} {E : Value → Shared → Prop} {s : Shared} {x : Str} {t : Tok} {k : Nat} {Q : Value → Shared → Prop} (e : x.length = k) (hk : k ≤ 4) (h : Q (.int (k : Nat) (s.toks + 1)) { s with toks := s.toks + 1 + 1 }) :
    wpAny (model prog w) A (call (.builtin "len") [.str x t]) Q E s := by
  subst e
  exact PySem.P.len_str (by omega) h
theorem neg_step (p : Nat) : -(p : Int) - 1 = -((p + 1 : Nat) : Int) := by omega
def levK (k : Nat) (mc : Int) : Int := if 2 * (k : Int) ≤ mc then 2 * (k : Int) else mc + 1
structure LevK (i j k : Nat) : Prop where
  k1 : 1 ≤ k
  k4 : k ≤ 4
  qa : 5 - j = 0 → Txt.slice (strBC 0 (5 - i)) none none = strBC 0 k
  qa' : 0 < 5 - j → Txt.slice (strBC 0 (5 - i)) none (some (-((5 - j : Nat) : Int))) = strBC 0 k
  qb : 5 - j = 0 → Txt.slice (strBC (j - i) (5 - j)) none none = strBC k 0
  qb' : 0 < 5 - j → Txt.slice (strBC (j - i) (5 - j)) none (some (-((5 - j : Nat) : Int))) = strBC k 0
  ta : 1 ≤ (strBC 0 k).length ∧ (strBC 0 k).length ≤ 1000
  tb : 1 ≤ (strBC k 0).length ∧ (strBC k 0).length ≤ 1000
  la : (strBC 0 k).length = k
  lb : (strBC k 0).length = k
theorem levK_of (i j : Nat) (mc : Int) (h1 : 1 ≤ i) (hij : i < j) (hj : j ≤ 5) : ∃ k : Nat, levV i j mc = levK k mc ∧ LevK i j k := by
  refine ⟨j - i, ?_, ?_⟩
  · unfold levV levK
    rw [show ((j : Int) - i) = ((j - i : Nat) : Int) by omega]
  · have e : 5 - i - (5 - j) = j - i := by omega
    refine ⟨by omega, by omega, ?_, ?_, ?_, ?_, ?_, ?_, ?_, ?_⟩
    · intro h; rw [s_all 0 (by omega) (5 - i) (by omega)]; congr 1; omega
    · intro h; rw [s_to 0 (by omega) (5 - i) (by omega) (5 - j) (by omega) h, e]
    · intro h; rw [s_all (j - i) (by omega) (5 - j) (by omega), h]
    · intro h; rw [s_to (j - i) (by omega) (5 - j) (by omega) (5 - j) (by omega) h, Nat.sub_self]
    · rw [strBC_len]; omega
    · rw [strBC_len]; omega
    · rw [strBC_len]; omega
    · rw [strBC_len]; omega
theorem levF (i j : Nat) (h1 : 1 ≤ i) (hij : i < j) (hj : j ≤ 5) : LevF i j := by
  have hi : i < 6 := by omega
  have hj' : j < 6 := by omega
  have sl : ∀ k, (strW k).length = k + (5 - k) := fun k => strBC_len _ _
  refine ⟨?_, ?_, ?_, ?_, ?_, ?_, ?_, ?_, ?_, ?_, ?_, ?_, ?_, ?_, ?_, ?_, ?_, ?_, ?_, ?_, ?_, ?_, ?_, ?_, ?_, ?_, ?_, ?_, ?_, ?_, ?_, ?_⟩
  · intro h; have := (w_ne i hi j hj').mp h; omega
  · intro p hp; exact w_from i hi p hp
  · intro p hp; exact w_from j hj' p (by omega)
  · have := w_from i hi i (Nat.le_refl _); rwa [Nat.sub_self] at this
  · rw [sl]; omega
  · rw [sl]; omega
  · intro p hp; exact w_item i hi p (by omega)
  · intro p hp; rw [w_item j hj' p (by omega), if_pos (by omega)]
  · intro p hp; rw [sl]; omega
  · intro p hp; rw [sl]; omega
  · intro p hp; rw [sl]; omega
  · intro p hp; rw [sl]; omega
  · intro p hp; rw [strBC_len]; omega
  · intro p hp; rw [strBC_len]; omega
  · intro p hp h
    by_cases e : p < i
    · exact e
    · rw [if_neg e] at h; exact absurd h (by decide)
  · intro p hp h e
    rw [if_pos e] at h; exact absurd h (by decide)
  · intro q hq h0; rw [s_all 0 (by omega) (5 - i) (by omega), h0, Nat.sub_zero]
  · intro q hq h0; exact s_to 0 (by omega) (5 - i) (by omega) q (by omega) h0
  · intro q hq h0; rw [s_all (j - i) (by omega) (5 - j) (by omega), h0, Nat.sub_zero]
  · intro q hq h0; exact s_to (j - i) (by omega) (5 - j) (by omega) q (by omega) h0
  · rw [strBC_len]; omega
  · rw [strBC_len]; omega
  · intro q hq; rw [s_item 0 (by omega) (5 - i) (by omega) q (by omega) (by omega), if_pos (by omega)]
  · intro q hq; exact s_item (j - i) (by omega) (5 - j) (by omega) q (by omega) (by omega)
  · intro q hq; rw [strBC_len]; omega
  · intro q hq; rw [strBC_len]; omega
  · intro q hq; rw [strBC_len]; omega
  · intro q hq; rw [strBC_len]; omega
  · intro q hq; rw [strBC_len]; omega
  · intro q hq; rw [strBC_len]; omega
  · intro q hq h
    by_cases e : q < 5 - j
    · exact e
    · rw [if_neg e] at h; exact absurd h (by decide)
  · intro q hq h e
    rw [if_pos e] at h; exact absurd h (by decide)
end Mine

namespace Mine
def dist (b x : Nat) : Int := ((2 * max b x : Nat) : Int)
def resV (b x : Nat) : Int := if x = 0 then ((2 * b : Nat) : Int) else ((2 * max (b + 1) x : Nat) : Int)
def mnV (b x : Nat) : Int := if x = 0 then 9223372036854775807 else ((2 * (b + 1) : Nat) : Int)
def rowM (k b x : Nat) : List Int := (List.range k).map fun y => if y < x then ((2 * max (b + 1) (y + 1) : Nat) : Int) else ((2 * max b (y + 1) : Nat) : Int)
theorem rowM_len (k b x : Nat) : (rowM k b x).length = k := by simp [rowM]
theorem rowM_get : ∀ k, k < 5 → ∀ b, b < 5 → ∀ x, x < k → (rowM k b x).getD x 0 = dist b (x + 1) := by decide +kernel
theorem rowM_set : ∀ k, k < 5 → ∀ b, b < 5 → ∀ x, x < k → (rowM k b x).set x (resV b (x + 1)) = rowM k b (x + 1) := by decide +kernel
theorem rowM_next : ∀ k, k < 5 → ∀ b, b < 5 → rowM k b k = rowM k (b + 1) 0 := by decide +kernel
theorem rowM_zero : ∀ k, k < 5 → ∀ x, x < k → (rowM k 0 0)[x]? = some (2 + (x : Int) * 2) := by decide +kernel
theorem resV_step : ∀ b, b < 5 → ∀ x, x < 5 → (if dist b x + 2 < (if dist b (x + 1) < resV b x then dist b (x + 1) else resV b x) + 2 then dist b x + 2 else (if dist b (x + 1) < resV b x then dist b (x + 1) else resV b x) + 2) = resV b (x + 1) := by decide +kernel
theorem mnV_yes : ∀ b, b < 5 → ∀ x, x < 5 → resV b (x + 1) < mnV b x → resV b (x + 1) = mnV b (x + 1) := by decide +kernel
theorem mnV_no : ∀ b, b < 5 → ∀ x, x < 5 → ¬ resV b (x + 1) < mnV b x → mnV b x = mnV b (x + 1) := by decide +kernel
theorem start0 : ∀ b : Nat, b < 5 → (0 + (b : Int)) * 2 = dist b 0 ∧ (0 + (b : Int)) * 2 = resV b 0 := by decide +kernel
theorem mnV_end : ∀ k, k < 5 → 1 ≤ k → ∀ b, b < 5 → mnV b k = 2 * ((b : Int) + 1) := by decide +kernel
theorem resV_end : ∀ k, k < 5 → 1 ≤ k → ∀ b, b < k → resV b k = 2 * (k : Int) := by decide +kernel
theorem b_item : ∀ k, k < 6 → ∀ x : Nat, x < k → Txt.item (strBC k 0) (0 + (x : Int)) = Str.ofString "B" := by decide +kernel
theorem c_item : ∀ k, k < 6 → ∀ x : Nat, x < k → Txt.item (strBC 0 k) (0 + (x : Int)) = Str.ofString "C" := by decide +kernel
theorem ints_of : ∀ (vs : List Value) (ns : List Int), vs.length = ns.length → (∀ (j : Nat) (v : Value), vs[j]? = some v → ∃ n t, ns[j]? = some n ∧ v = .int n t) → IntsAre vs ns
  | [], [], _, _ => IntsAre.nil
  | [], _ :: _, e, _ => by cases e
  | _ :: _, [], e, _ => by cases e
  | v :: r, n :: ns, e, h => by
    obtain ⟨n', t, hn, rfl⟩ := h 0 v rfl
    cases hn
    exact IntsAre.cons _ _ (ints_of r ns (Nat.succ.inj e) fun j v hj => h (j + 1) v hj)
theorem small2 : ∀ k : Nat, k < 5 → Builtin.Range.small 2 (2 * ((k : Int) + 1)) 2 = true := by decide +kernel
theorem size2 : ∀ k : Nat, k < 5 → Builtin.Range.rangeSize 2 (2 * ((k : Int) + 1)) 2 = (k : Int) := by decide +kernel
section
variable {prog : Program} {w : World} {A : Around} {E : Value → Shared → Prop} {s : Shared} {h₀ : Heap} {L : Addr} {m : Str → Option Value} {news : Led}
theorem list_row {r : Addr} {t₀ u₀ v₀ : Tok} {k : Nat} {Q : Value → Shared → Prop} (hh : A.handled = none) (F : Fr h₀ L s.heap m) (N : News h₀ L s.heap news)
    (hr : IsRange s.heap r 2 (2 * ((k : Int) + 1)) 2 t₀ u₀ v₀) (hk : k < 5)
    (h : ∀ D us c h' tk, Fr h₀ L h' m → News h₀ L h' ((D, listOf (List.toArray us) c) :: news) → (∀ p ∈ news, p.1 < D) → IntsAre us (rowM k 0 0) → Q (.ref D) { s with heap := h', toks := tk }) :
    wpAny (model prog w) A (call (.type "list") [.ref r]) Q E s := by
  refine call_list_range hh hr (small2 k hk) (size2 k hk) (by omega) fun h' tk acc c hk' hD hI => ?_
  have hD' : h'.get? s.heap.objs.size = some (listOf (List.toArray acc.toList) c) := by
    rw [Array.toArray_toList]
    exact hD
  refine h _ acc.toList c h' tk (F.keeps hk') (news_pushed F N hk' hD' rfl) (fun p hp => Heap.lt_size (N p hp).1) (ints_of _ _ (by rw [Array.length_toList, rowM_len]; exact hI.1) fun j v hj => ?_)
  have hj' : j < acc.size := by
    have := (List.getElem?_eq_some_iff.mp hj).1
    rwa [Array.length_toList] at this
  obtain ⟨t, rfl⟩ := hI.2 j v (by rw [← hj, Array.getElem?_toList])
  exact ⟨_, t, rowM_zero k hk j (by rw [← hI.1]; exact hj'), rfl⟩
theorem min_is {a b v : Int} {t u : Tok} {Q : Value → Shared → Prop} (e : (if b < a then b else a) = v) (hh : A.handled = none) (F : Fr h₀ L s.heap m) (N : News h₀ L s.heap news)
    (h : ∀ h' tk t', Fr h₀ L h' m → News h₀ L h' news → Q (.int v t') { s with heap := h', toks := tk }) :
    wpAny (model prog w) A (call (.builtin "min") [.int a t, .int b u]) Q E s := by
  subst e
  exact min_two_N hh F N fun h' tk F' N' => h h' tk _ F' N'
theorem row_sub {D : Addr} {vs : List Value} {ns : List Int} {n x : Nat} {v : Int} {u : Tok} {value slice : PySem.Expr} {Q : Value → Shared → Prop} (e : ns.getD x 0 = v) (hx : x < ns.length) (h100 : ns.length ≤ 100)
    (N : News h₀ L s.heap news) (hm : (D, listOf vs.toArray n) ∈ news) (hi : IntsAre vs ns) (h : ∀ t, Q (.int v t) s)
    (hs : subscripted slice false (.ref D) (.int (0 + (x : Int)) u) = operate [.ref D, .int (0 + (x : Int)) u] (getItem (.ref D) (.int (0 + (x : Int)) u)) := by with_unfolding_all rfl) :
    wpAny (model prog w) A (subscriptTail value slice (.ref D) (.int (0 + (x : Int)) u)) Q E s := by
  refine ksa_sub N hm hi (by omega) (by omega) (by omega) (fun t => ?_) hs
  rw [show (0 + (x : Int)).toNat = x by omega, e]
  exact h t
theorem row_set {news' : Led} {D : Addr} {vs : List Value} {ns : List Int} {n x : Nat} {v : Int} {t u : Tok} {Q : Unit → Shared → Prop} (hx : x < ns.length) (h100 : ns.length ≤ 100) (F : Fr h₀ L s.heap m)
    (N : News h₀ L s.heap news) (U : Upd D (listOf vs.toArray n) (listOf (vs.set x (.int v u)).toArray n) news news') (hi : IntsAre vs ns)
    (h : ∀ h', Fr h₀ L h' m → News h₀ L h' news' → IntsAre (vs.set x (.int v u)) (ns.set x v) → Q () { s with heap := h' }) :
    wpAny (model prog w) A (setItem (.ref D) (.int (0 + (x : Int)) t) (.int v u)) Q E s := by
  have e : (0 + (x : Int)).toNat = x := by omega
  refine ksa_set F N (news' := news') (by rw [e]; exact U) hi (by omega) (by omega) (by omega) fun h' F' N' hi' _ _ => ?_
  rw [e] at hi'
  exact h h' F' N' hi'
end
end Mine

namespace Mine
set_option maxRecDepth 100000 in
set_option maxHeartbeats 8000000 in
theorem sub_c (w : World) (t1 t2 : Tok) : Fn w 78 1 8 [.str (Str.ofString "B") t1, .str (Str.ofString "C") t2] (fun _ => True) (RetInt 2) := by
  w_top off
  k_with_none
  unfold Fn
  intro mean mg mb dp un gd cn cs a ccd cl outer A₀ base h₀ L m news s Q E B F X N T hk hd hu ha hret
  revert X; k_fill; intro X
  refine wpAny_call ?_
  walk_at "mine enter"
  k_with_none
  k_steps
  (rename Fr _ _ _ _ => kF6); (rename News _ _ _ _ => kN6)
  exact hret _ _ _ _ kF6 kN6 ⟨⟨_, rfl⟩, rfl⟩
end Mine

namespace Mine
set_option maxRecDepth 100000 in
set_option maxHeartbeats 8000000 in
theorem lev_lt (w : World) (i j : Nat) (mc : Int) (t1 t2 t3 : Tok) (h1 : 1 ≤ i) (hij : i < j) (hj : j ≤ 5) (hm : 0 ≤ mc) (hm2 : mc ≤ 100) :
    Fn w 85 3 24 [.str (strW i) t1, .str (strW j) t2, .int mc t3] (fun _ => True) (RetInt (levV i j mc)) := by
  have LF := levF i j h1 hij hj
  have hp1 := h1
  have hp2 := hj
  w_top off
  k_with_none
  unfold Fn
  intro mean mg mb dp un gd cn cs a ccd cl outer A₀ base h₀ L m news s Q E B F X N T hk hd hu ha hret
  revert X; k_fill; intro X
  refine wpAny_call ?_
  walk_at "mine enter"
  k_with_none
  k_with "my while" => (refine stopI ?_)
  k_steps
  · exact absurd (LF.ne (by assumption)) id
  unfold Stop
  (rename Fr _ _ _ _ => kF); (rename News _ _ _ _ => kN)
  refine while_count (x := Str.ofString "pre") (fun p => (p : Int)) i kF kN rfl ?_ ?_ ?_
  · intro p t h tk E' hp F' N'
    k_with "my item" => (first
      | (refine sl_from (s := ⟨_, _, _, _, _⟩) (LF.ai p hp) (by k_asm) (by k_asm) LF.li ?_; intro _ _ _ _ _)
      | (refine sl_from (s := ⟨_, _, _, _, _⟩) (LF.aj p hp) (by k_asm) (by k_asm) LF.lj ?_; intro _ _ _ _ _)
      | (refine it_str (LF.ii p hp) (LF.ri1 p hp) (LF.ri2 p hp) LF.li ?_)
      | (refine it_str (LF.ij p hp) (LF.rj1 p hp) (LF.rj2 p hp) LF.lj ?_))
    k_with "my truthy" => ((first | refine tr_str (LF.ti p hp) ?_ | refine tr_str (LF.tj p hp) ?_); (try dsimp only))
    (try k_unmd); (try k_fold)
    k_steps
    · refine ⟨(decide_eq_true ?_).symm, _, _, rfl, by assumption, by assumption⟩
      (rename (_ == _) = _ => hc)
      exact LF.lt p hp hc
    · refine ⟨(decide_eq_false ?_).symm, _, _, rfl, by assumption, by assumption⟩
      (rename (_ == _) = _ => hc)
      exact LF.nl p hp hc
  · intro p t h tk E' hp F' N'
    (try k_unmd); (try k_fold)
    k_steps
    exact ⟨rfl, _, _, _, rfl, fr_upd2 (by assumption), by assumption⟩
  · intro t h tk F' N'
    k_with_none
    k_with "my while" => (refine stopI ?_)
    k_with "my item" => (first
      | (refine sl_from (s := ⟨_, _, _, _, _⟩) LF.ai0 (by k_asm) (by k_asm) LF.li ?_; intro _ _ _ _ _)
      | (refine sl_from (s := ⟨_, _, _, _, _⟩) (LF.aj i (Nat.le_refl _)) (by k_asm) (by k_asm) LF.lj ?_; intro _ _ _ _ _))
    (try k_unmd); (try k_fold)
    k_steps
    unfold Stop
    (rename Fr _ _ _ _ => kF2); (rename News _ _ _ _ => kN2)
    refine while_count (x := Str.ofString "post") (fun q => -(q : Int)) (5 - j) kF2 kN2 rfl ?_ ?_ ?_
    · intro q t h tk E' hq F' N'
      k_with_none
      k_with "my BoolOp" => (refine or_none (q := q) (t := t) (fun Q' hQ' => (by k_steps; exact hQ')) ?_)
      k_with "my item" => (first
        | (refine sl_opt (s := ⟨_, _, _, _, _⟩) (LF.qa q hq) (LF.qa' q hq) (by k_asm) (by k_asm) LF.qla ?_; intro _ _ _ _ _)
        | (refine sl_opt (s := ⟨_, _, _, _, _⟩) (LF.qb q hq) (LF.qb' q hq) (by k_asm) (by k_asm) LF.qlb ?_; intro _ _ _ _ _)
        | (refine it_str (LF.qia q hq) (LF.qa1 q hq) (LF.qa2 q hq) LF.qla ?_)
        | (refine it_str (LF.qib q hq) (LF.qb1 q hq) (LF.qb2 q hq) LF.qlb ?_))
      k_with "my truthy" => ((first | refine tr_str (LF.qta q hq) ?_ | refine tr_str (LF.qtb q hq) ?_); (try dsimp only))
      (try k_unmd); (try k_fold)
      k_steps
      · refine ⟨(decide_eq_true ?_).symm, _, _, rfl, by assumption, by assumption⟩
        (rename (_ == _) = _ => hc)
        exact LF.qlt q hq hc
      · refine ⟨(decide_eq_false ?_).symm, _, _, rfl, by assumption, by assumption⟩
        (rename (_ == _) = _ => hc)
        exact LF.qnl q hq hc
    · intro p t h tk E' hp F' N'
      (try k_unmd); (try k_fold)
      k_with_none
      k_steps
      exact bend (neg_step p) (by assumption) (by assumption)
    · intro t h tk F' N'
      obtain ⟨k, hk0, LK⟩ : ∃ k : Nat, levV i j mc = levK k mc ∧ LevK i j k := levK_of i j mc hp1 hij hp2
      rw [hk0] at hret
      k_with_none
      k_with "my BoolOp" => (refine or_none (q := 5 - j) (t := t) (fun Q' hQ' => (by k_steps; exact hQ')) ?_)
      k_with "my item" => (first
        | (refine sl_opt (s := ⟨_, _, _, _, _⟩) LK.qa LK.qa' (by k_asm) (by k_asm) LF.qla ?_; intro _ _ _ _ _)
        | (refine sl_opt (s := ⟨_, _, _, _, _⟩) LK.qb LK.qb' (by k_asm) (by k_asm) LF.qlb ?_; intro _ _ _ _ _))
      k_with "my truthy" => ((first | refine tr_str LK.ta ?_ | refine tr_str LK.tb ?_); (try dsimp only))
      k_with "my len" => ((first | refine len_str LK.la LK.k4 ?_ | refine len_str LK.lb LK.k4 ?_); (try dsimp only))
      k_with "my pyIter" => (refine stopI ?_)
      have k1 := LK.k1
      have k4 := LK.k4
      have k5 : k < 5 := by omega
      k_with "my list" => (refine list_row (k := k) (by rfl) (by k_asm) (by k_asm) (by assumption) k5 ?_; intro D us n0 h' tk' F' N' l1 hI; (try k_lt l1))
      (try k_unmd); (try k_fold)
      k_steps
      unfold Stop
      (rename IsRange _ _ _ _ _ _ _ _ => kR); (rename Fr _ _ _ _ => kF3); (rename News _ _ _ _ => kN3)
      refine iter_rangeS (σ := List Value × Nat × Int × Tok) (news := news) (n := k) (fun c => [(D, listOf c.1.toArray c.2.1)]) (fun c => [(Str.ofString "result", .int c.2.2.1 c.2.2.2)])
        (fun b c => IntsAre c.1 (rowM k b 0) ∧ c.2.2.1 = (if b = 0 then 0 else 2 * (k : Int)) ∧ (b = 0 ∨ 2 * (b : Int) ≤ mc)) [Str.ofString "bchar", Str.ofString "distance", Str.ofString "minimum", Str.ofString "index", Str.ofString "substitute", Str.ofString "insert_delete"] (us, n0, 0, _)
        rfl kR (small_one (by omega) (by omega) (by omega) (by omega)) (by rw [rangeSize_nat]; omega) kF3 (cb_drop kN3 (by kcf_all)) ⟨hI, rfl, .inl rfl⟩ (by kst_all) ?_ ?_
      · rintro b t ⟨vs, n1, r1, tr1⟩ I oI u h tk hb ⟨hV, hr1, hmc⟩ off F' N'
        dsimp only at hV hr1 off F' N'
        simp only [List.cons_append, List.nil_append] at off N'
        have b5 : b < 5 := by omega
        k_with "my list" => (fail "none")
        k_with "my item" => (refine it_str (b_item k (by omega) b hb) (by rw [LK.lb]; omega) (by rw [LK.lb]; omega) LK.tb.2 ?_)
        (try k_unmd); (try k_fold)
        k_steps
        unfold Stop
        (rename IsRange _ _ _ _ _ _ _ _ => kR2); (rename Fr _ _ _ _ => kF4); (rename News _ _ _ _ => kN4)
        have st := start0 b b5
        refine iter_rangeS (σ := List Value × Nat × (Int × Tok) × (Int × Tok) × (Int × Tok)) (news := (I, oI) :: news) (n := k) (fun c => [(D, listOf c.1.toArray c.2.1)])
          (fun c => [(Str.ofString "distance", .int c.2.2.1.1 c.2.2.1.2), (Str.ofString "result", .int c.2.2.2.1.1 c.2.2.2.1.2), (Str.ofString "minimum", .int c.2.2.2.2.1 c.2.2.2.2.2)])
          (fun x c => IntsAre c.1 (rowM k b x) ∧ c.2.2.1.1 = dist b x ∧ c.2.2.2.1.1 = resV b x ∧ c.2.2.2.2.1 = mnV b x) [Str.ofString "substitute", Str.ofString "insert_delete"]
          (vs, n1, ((0 + (b : Int)) * 2, _), ((0 + (b : Int)) * 2, _), (9223372036854775807, _))
          rfl kR2 (small_one (by omega) (by omega) (by omega) (by omega)) (by rw [rangeSize_nat]; omega) kF4 (cb_drop kN4 (by kcf_all)) ⟨hV, st.1, st.2, rfl⟩ (by kst_all) ?_ ?_
        · rintro x t2 ⟨vs2, n2, ⟨d2, td2⟩, ⟨r2, tr2⟩, ⟨m2, tm2⟩⟩ I2 oI2 u2 h2 tk2 hx ⟨hV2, hd2, hr2, hm2'⟩ off2 F2 N2
          dsimp only at hV2 hd2 hr2 hm2' off2 F2 N2
          simp only [List.cons_append, List.nil_append] at off2 N2
          have x5 : x < 5 := by omega
          have hxl : x < (rowM k b x).length := by rw [rowM_len]; exact hx
          have hDn : ∀ p ∈ (I, oI) :: news, p.1 ≠ D := fun p hp => by
            rcases List.mem_cons.mp hp with rfl | hp
            · exact Ne.symm (off (D, listOf vs.toArray n1) (.head _))
            · exact Nat.ne_of_lt (l1 p hp)
          have hxl2 : (rowM k b x).length ≤ 100 := by rw [rowM_len]; omega
          subst hd2 hr2 hm2'
          k_with "my item" => (first
            | (refine it_str (c_item k (by omega) x hx) (by rw [LK.la]; omega) (by rw [LK.la]; omega) LK.ta.2 ?_)
            | (k_dflt (refine row_sub (rowM_get k k5 b b5 x hx) hxl hxl2 (by k_asm) (by first | exact .tail _ (.head _) | exact .head _ | exact .tail _ (.tail _ (.head _))) hV2 ?_); intro tg))
          k_with "my call" => (refine stopI ?_)
          k_with "my min" => (first
            | (k_dflt (refine min_is (resV_step b b5 x x5) (by rfl) (by k_asm) (by k_asm) ?_); intro hmn tmn tmn2 Fmn Nmn)
            | (k_dflt (refine min_is rfl (by rfl) (by k_asm) (by k_asm) ?_); intro hmn tmn tmn2 Fmn Nmn))
          k_with "my setItem" => (k_dflt (refine row_set hxl hxl2 (by k_asm) (by k_asm) (.tail (Ne.symm (off2 (D, listOf vs2.toArray n2) (.head _))) (.head hDn)) hV2 ?_); intro hst Fst Nst hIst)
          (try k_unmd); (try k_fold)
          k_steps
          unfold Stop
          refine Fn.use (sub_c w _ _) (by k_asm) (by k_asm) (by k_asm) (by k_asm) (by k_asm) (by first | exact rfl | assumption) (by ktr_room) (by ktr_units) trivial ?_
          rintro _ _ hs2 tks2 Fs Ns ⟨⟨ts, rfl⟩, rfl⟩
          (try k_unmd); (try k_fold)
          k_steps
          all_goals (rename Fr _ _ _ _ => kF5; rename News _ _ _ _ => kN5)
          all_goals (show StepL _ _ _ _ _ _ _ _)
          · refine StepL.intro kF5 kN5 [(D, _)] (by kcf_all) (fun p hp => by rw [List.mem_singleton.mp hp]; exact off2 (D, listOf vs2.toArray n2) (.head _)) ⟨(_, _, (_, _), (_, _), (_, _)), rfl, ⟨rowM_set k k5 b b5 x hx ▸ hIst, rfl, rfl, mnV_yes b b5 x x5 (by first | assumption | (simp only [decide_eq_true_eq] at *; assumption))⟩, by kst_all, by walk_at "km same"⟩
          · refine StepL.intro kF5 kN5 [(D, _)] (by kcf_all) (fun p hp => by rw [List.mem_singleton.mp hp]; exact off2 (D, listOf vs2.toArray n2) (.head _)) ⟨(_, _, (_, _), (_, _), (_, _)), rfl, ⟨rowM_set k k5 b b5 x hx ▸ hIst, rfl, rfl, mnV_no b b5 x x5 (by first | assumption | (simp only [decide_eq_false_iff_not] at *; assumption))⟩, by kst_all, by walk_at "km same"⟩
        · rintro ⟨vs2, n2, ⟨d2, td2⟩, ⟨r2, tr2⟩, ⟨m2, tm2⟩⟩ u2 h2 tk2 ⟨hV2, hd2, hr2, hm2'⟩ F2 N2
          dsimp only at hV2 hd2 hr2 hm2' F2 N2
          simp only [List.cons_append, List.nil_append] at N2
          dsimp only
          subst hd2 hr2 hm2'
          have e1 := mnV_end k k5 k1 b b5
          have e2 := resV_end k k5 k1 b hb
          rw [rowM_next k k5 b b5] at hV2
          rw [e1] at F2
          (try k_unmd); (try k_fold)
          k_steps
          · have e3 : levK k mc = mc + 1 := by unfold levK; rw [if_neg (by first | omega | (simp only [decide_eq_true_eq] at *; omega))]
            rw [e3] at hret
            refine ⟨_, _, _, F2, N2, fun kF6 kN6 => ?_⟩
            exact hret _ _ _ _ kF6 (cb_drop kN6 (by kcf_all)) ⟨⟨_, rfl⟩, rfl⟩
          · show StepL _ _ _ _ _ _ _ _
            refine StepL.intro F2 N2 [(D, _)] (by kcf_all) (fun p hp => by rw [List.mem_singleton.mp hp]; exact off (D, listOf vs.toArray n1) (.head _)) ⟨(vs2, n2, resV b k, tr2), rfl, ⟨hV2, ?_, .inr ?_⟩, by kst_all, by walk_at "km same"⟩
            · rw [if_neg (Nat.succ_ne_zero b)]; exact e2
            · (first | omega | (simp only [decide_eq_false_iff_not] at *; omega))
      · rintro ⟨vs2, n2, r2, tr2⟩ u2 h2 tk2 ⟨hV2, hr2, hmc⟩ F2 N2
        dsimp only at hV2 hr2 F2 N2
        simp only [List.cons_append, List.nil_append] at N2
        dsimp only
        rw [if_neg (by omega)] at hr2
        subst hr2
        have e3 : levK k mc = 2 * (k : Int) := by unfold levK; rw [if_pos (by omega)]
        rw [e3] at hret
        (try k_unmd); (try k_fold)
        k_with_none
        k_steps
        (rename Fr _ _ _ _ => kF6); (rename News _ _ _ _ => kN6)
        exact hret _ _ _ _ kF6 (cb_drop kN6 (by kcf_all)) ⟨⟨_, rfl⟩, rfl⟩
end Mine

namespace Mine
set_option maxRecDepth 100000 in
set_option maxHeartbeats 8000000 in
theorem lev_eq (w : World) (i : Nat) (mc : Int) (t1 t2 t3 : Tok) :
    Fn w 85 3 24 [.str (strW i) t1, .str (strW i) t2, .int mc t3] (fun _ => True) (RetInt 0) := by
  w_top off
  k_with_none
  unfold Fn
  intro mean mg mb dp un gd cn cs a ccd cl outer A₀ base h₀ L m news s Q E B F X N T hk hd hu ha hret
  revert X; k_fill; intro X
  refine wpAny_call ?_
  walk_at "mine enter"
  k_with_none
  k_with "my while" => (refine stopI ?_)
  k_steps
  · (rename Fr _ _ _ _ => kF6); (rename News _ _ _ _ => kN6)
    exact hret _ _ _ _ kF6 kN6 ⟨⟨_, rfl⟩, rfl⟩
  · exact absurd (by assumption : (strW i == strW i) = false) (by rw [beq_self_eq_true]; decide)
theorem mul_c (w : World) (x y : Int) (t1 t2 : Tok) (hx : -(2 ^ 40) ≤ x ∧ x ≤ 2 ^ 40) (hy : -(2 ^ 40) ≤ y ∧ y ≤ 2 ^ 40) :
    Fn w 64 1 8 [.int x t1, .int y t2] (fun _ => True) (RetInt (x * y)) := by
  w_top off
  k_with_none
  unfold Fn
  intro mean mg mb dp un gd cn cs a ccd cl outer A₀ base h₀ L m news s Q E B F X N T hk hd hu ha hret
  revert X; k_fill; intro X
  refine wpAny_call ?_
  walk_at "mine enter"
  k_with_none
  k_steps
  (rename Fr _ _ _ _ => kF6); (rename News _ _ _ _ => kN6)
  exact hret _ _ _ _ kF6 kN6 ⟨⟨_, rfl⟩, rfl⟩
theorem shl_c (w : World) (x : Int) (k : Nat) (t1 t2 : Tok) (hx : -(2 ^ 40) ≤ x ∧ x ≤ 2 ^ 40) (hk4 : k ≤ 4) :
    Fn w 57 1 8 [.int x t1, .int (k : Int) t2] (fun _ => True) (RetInt (x * 2 ^ k)) := by
  w_top off
  k_with_none
  unfold Fn
  intro mean mg mb dp un gd cn cs a ccd cl outer A₀ base h₀ L m news s Q E B F X N T hk hd hu ha hret
  revert X; k_fill; intro X
  refine wpAny_call ?_
  walk_at "mine enter"
  k_with_none
  k_steps
  (rename Fr _ _ _ _ => kF6); (rename News _ _ _ _ => kN6)
  exact hret _ _ _ _ kF6 kN6 ⟨⟨_, rfl⟩, rfl⟩
end Mine

namespace Mine
def outs : List (List Int) := [[1,2],[1,3],[1,4],[1,5],[2,3],[2,4],[2,5],[3,4],[3,5],[4,5],[1,2,3],[1,2,4],[1,2,5],[1,3,4],[1,3,5],[1,4,5],[2,3,4],[2,3,5],[2,4,5],[3,4,5]]
def wordN (x : Int) : Nat := x.toNat
def pFac (spots : List Int) (j i : Nat) : Int := levV (spots.getD i 0).toNat (spots.getD j 0).toNat (2 * (spots.getD j 0 - spots.getD i 0))
def pIn (spots : List Int) (j : Nat) : Nat → Int → Int
  | 0, p => p
  | i + 1, p => pIn spots j i p * pFac spots j i
def pOut (spots : List Int) : Nat → Int
  | 0 => 1
  | j + 1 => pIn spots j j (pOut spots j)
def prodL (spots : List Int) : Int := pOut spots spots.length
theorem outs_len : ∀ spots ∈ outs, spots.length = 2 ∨ spots.length = 3 := by decide +kernel
theorem outs_in : ∀ spots ∈ outs, ∀ j, j < 3 → j < spots.length → 1 ≤ spots.getD j 0 ∧ spots.getD j 0 ≤ 5 := by decide +kernel
theorem outs_lt : ∀ spots ∈ outs, ∀ j, j < 3 → j < spots.length → ∀ i, i < j → spots.getD i 0 < spots.getD j 0 := by decide +kernel
theorem outs_p : ∀ spots ∈ outs, ∀ j, j < 3 → j < spots.length → ∀ i, i < j → -(2 ^ 40) ≤ pIn spots j i (pOut spots j) ∧ pIn spots j i (pOut spots j) ≤ 2 ^ 40 := by decide +kernel
theorem outs_f : ∀ spots ∈ outs, ∀ j, j < 3 → j < spots.length → ∀ i, i < j → -(2 ^ 40) ≤ pFac spots j i ∧ pFac spots j i ≤ 2 ^ 40 := by decide +kernel
theorem item_val {prog : Program} {w : World} {A : Around} {E : Value → Shared → Prop} {s : Shared} {h₀ : Heap} {L : Addr} {news : Led} {value slice : PySem.Expr} {l : Addr} {vs : List Value} {n x : Nat} {v : Value} {u : Tok} {Q : Value → Shared → Prop}
    (N : News h₀ L s.heap news) (hm : (l, listOf vs.toArray n) ∈ news) (e : vs[x]? = some v) (hx : x ≤ 1000) (h : Q v s)
    (hs : subscripted slice false (.ref l) (.int (0 + (x : Int)) u) = operate [.ref l, .int (0 + (x : Int)) u] (getItem (.ref l) (.int (0 + (x : Int)) u)) := by with_unfolding_all rfl) :
    wpAny (model prog w) A (subscriptTail value slice (.ref l) (.int (0 + (x : Int)) u)) Q E s := by
  have hl : s.heap.IsList l vs.toArray := PySem.IsL.isList (n := n) (N _ hm).1
  refine tail_any hl.typeIs slot_list_getitem.lookup (wpAny_getItem_list hl (by omega) (by omega) (x := v) ?_ h) hs
  rw [show (0 + (x : Int)).toNat = x by omega]
  simpa using e
end Mine

namespace Mine
set_option maxRecDepth 100000 in
set_option maxHeartbeats 8000000 in
theorem prod_c (w : World) (lw ls : Addr) (spots : List Int) (ho : spots ∈ outs) :
    Fn w 118 4 40 [.ref lw, .ref ls] (fun news => ∃ (wits sits : List Value) (nw ns : Nat), (lw, listOf wits.toArray nw) ∈ news ∧ (ls, listOf sits.toArray ns) ∈ news ∧ IntsAre sits spots ∧ wits.length = spots.length ∧
      ∀ j, j < spots.length → ∃ t, wits[j]? = some (.str (strW (spots.getD j 0).toNat) t)) (RetInt (prodL spots)) := by
  w_top off
  k_with_none
  unfold Fn
  intro mean mg mb dp un gd cn cs a ccd cl outer A₀ base h₀ L m news s Q E B F X N T hk hd hu ha hret
  obtain ⟨wits, sits, nw, ns, hlw, hls, hsi, hwl, hww⟩ := ha
  have hl3 : spots.length ≤ 3 := by have := outs_len spots ho; omega
  have hin := outs_in spots ho
  have hlt := outs_lt spots ho
  have hpp := outs_p spots ho
  have hff := outs_f spots ho
  clear ho
  revert X; k_fill; intro X
  refine wpAny_call ?_
  walk_at "mine enter"
  k_with_none
  k_with "my pyIter" => (refine stopI ?_)
  k_with "my len" => (refine len_led (by k_asm) hlw hwl (by omega) ?_)
  k_steps
  unfold Stop
  (rename IsRange _ _ _ _ _ _ _ _ => kR); (rename Fr _ _ _ _ => kF); (rename News _ _ _ _ => kN)
  refine iter_rangeS (σ := Int × Tok) (news := news) (n := spots.length) (fun _ => []) (fun c => [(Str.ofString "product", .int c.1 c.2)])
    (fun j c => c.1 = pOut spots j) [Str.ofString "i"] (1, _)
    rfl kR (small_one (by omega) (by omega) (by omega) (by omega)) (by rw [rangeSize_nat]; omega) kF (cb_drop kN (by kcf_all)) rfl (by kst_all) ?_ ?_
  · rintro j tj ⟨p, tp⟩ I oI u h tk hj hp off F' N'
    dsimp only at hp off F' N'
    simp only [List.cons_append, List.nil_append] at off N'
    subst hp
    have j3 : j < 3 := by omega
    obtain ⟨twj, hwj⟩ := hww j hj
    (try k_unmd); (try k_fold)
    k_with "my len" => (fail "none")
    k_steps
    unfold Stop
    (rename IsRange _ _ _ _ _ _ _ _ => kR2); (rename Fr _ _ _ _ => kF2); (rename News _ _ _ _ => kN2)
    refine iter_rangeS (σ := Int × Tok) (news := (I, oI) :: news) (n := j) (fun _ => []) (fun c => [(Str.ofString "product", .int c.1 c.2)])
      (fun i c => c.1 = pIn spots j i (pOut spots j)) [] (pOut spots j, tp)
      rfl kR2 (small_one (by omega) (by omega) (by omega) (by omega)) (by rw [rangeSize_nat]; omega) kF2 (cb_drop kN2 (by kcf_all)) rfl (by kst_all) ?_ ?_
    · rintro i ti ⟨p, tp2⟩ I2 oI2 u2 h2 tk2 hi ⟨⟩ off2 F2 N2
      dsimp only at off2 F2 N2
      simp only [List.cons_append, List.nil_append] at off2 N2
      have hil : i < spots.length := by omega
      obtain ⟨twi, hwi⟩ := hww i hil
      have b1 := hin j j3 hj
      have b2 := hin i (by omega) hil
      have b3 := hlt j j3 hj i hi
      have bp := hpp j j3 hj i hi
      have bf := hff j j3 hj i hi
      have l100 : spots.length ≤ 100 := by omega
      k_with "my item" => (first
        | (refine item_val (by k_asm) (by first | exact .tail _ (.tail _ hlw) | exact .tail _ (.tail _ (.tail _ hlw))) hwi (by omega) ?_)
        | (refine item_val (by k_asm) (by first | exact .tail _ (.tail _ hlw) | exact .tail _ (.tail _ (.tail _ hlw))) hwj (by omega) ?_)
        | (refine row_sub rfl hil l100 (by k_asm) (by first | exact .tail _ (.tail _ hls) | exact .tail _ (.tail _ (.tail _ hls))) hsi ?_; intro tg)
        | (refine row_sub rfl hj l100 (by k_asm) (by first | exact .tail _ (.tail _ hls) | exact .tail _ (.tail _ (.tail _ hls))) hsi ?_; intro tg))
      k_with "my call" => (refine stopI ?_)
      (try k_unmd); (try k_fold)
      k_steps
      unfold Stop
      refine Fn.use (lev_lt w (spots.getD i 0).toNat (spots.getD j 0).toNat _ _ _ _ (by omega) (by omega) (by omega) (by omega) (by omega)) (by k_asm) (by k_asm) (by k_asm) (by k_asm) (by k_asm) (by first | exact rfl | assumption) (by ktr_room) (by ktr_units) trivial ?_
      rintro _ _ hs2 tks2 Fs Ns ⟨⟨ts, rfl⟩, rfl⟩
      (try k_unmd); (try k_fold)
      k_steps
      unfold Stop
      refine Fn.use (mul_c w (pIn spots j i (pOut spots j)) (pFac spots j i) _ _ bp bf) (by k_asm) (by k_asm) (by k_asm) (by k_asm) (by k_asm) (by first | exact rfl | assumption) (by ktr_room) (by ktr_units) trivial ?_
      rintro _ _ hs3 tks3 Fs3 Ns3 ⟨⟨ts3, rfl⟩, rfl⟩
      (try k_unmd); (try k_fold)
      k_steps
      show StepL _ _ _ _ _ _ _ _
      (rename Fr _ _ _ _ => kF5); (rename News _ _ _ _ => kN5)
      exact StepL.intro kF5 kN5 [] (by kcf_all) (fun p hp => by cases hp) ⟨(_, _), rfl, rfl, by kst_all, by walk_at "km same"⟩
    · rintro ⟨p, tp2⟩ u2 h2 tk2 ⟨⟩ F2 N2
      dsimp only at F2 N2
      simp only [List.cons_append, List.nil_append] at N2
      dsimp only
      (try k_unmd); (try k_fold)
      k_steps
      show StepL _ _ _ _ _ _ _ _
      (rename Fr _ _ _ _ => kF5); (rename News _ _ _ _ => kN5)
      exact StepL.intro kF5 kN5 [] (by kcf_all) (fun p hp => by cases hp) ⟨(_, _), rfl, rfl, by kst_all, by walk_at "km same"⟩
  · rintro ⟨p, tp2⟩ u2 h2 tk2 ⟨⟩ F2 N2
    dsimp only at F2 N2
    simp only [List.cons_append, List.nil_append] at N2
    dsimp only
    (try k_unmd); (try k_fold)
    k_with_none
    k_steps
    (rename Fr _ _ _ _ => kF6); (rename News _ _ _ _ => kN6)
    exact hret _ _ _ _ kF6 (cb_drop kN6 (by kcf_all)) ⟨⟨_, rfl⟩, rfl⟩
end Mine

namespace Mine
def W2End (h₀ : Heap) (L : Addr) (x y z₀ : Str) (v : Int) (b : Array UInt8) (m₀ : Str → Option Value) (news : Led) (s₁ : Shared) (fl : Flow) (s' : Shared) : Prop :=
  fl = .next ∧ ∃ h' tk' m' t' u', s' = { s₁ with heap := h', toks := tk' } ∧ Fr h₀ L h' m' ∧ News h₀ L h' news ∧ m' x = some (.int v t') ∧ m' y = some (.bytes b u') ∧ ∀ z, z ≠ x → z ≠ y → z ≠ z₀ → m' z = m₀ z
section
variable {prog : Program} {w : World} {A : Around} {E : Value → Shared → Prop} {s : Shared} {env : Env} {h₀ : Heap} {L : Addr} {m₀ : Str → Option Value} {news : Led} {Q : Flow → Shared → Prop}
abbrev W2M (x y z₀ : Str) (v : Int) (t : Tok) (b : Array UInt8) (u : Tok) (o : Option Value) (m₀ : Str → Option Value) : Str → Option Value :=
  fun z => if z = x then some (.int v t) else if z = y then some (.bytes b u) else if z = z₀ then o else m₀ z
theorem w2_eq {x y z₀ : Str} {v : Int} {t : Tok} {b : Array UInt8} {u : Tok} {m m₀ : Str → Option Value} (h1 : m x = some (.int v t)) (h2 : m y = some (.bytes b u)) (h3 : ∀ z, z ≠ x → z ≠ y → z ≠ z₀ → m z = m₀ z) :
    m = W2M x y z₀ v t b u (m z₀) m₀ := by
  funext z
  by_cases e1 : z = x
  · rw [show W2M x y z₀ v t b u (m z₀) m₀ z = some (.int v t) from if_pos e1, e1, h1]
  · by_cases e2 : z = y
    · rw [show W2M x y z₀ v t b u (m z₀) m₀ z = some (.bytes b u) from (if_neg e1).trans (if_pos e2), e2, h2]
    · by_cases e3 : z = z₀
      · rw [show W2M x y z₀ v t b u (m z₀) m₀ z = m z₀ from (if_neg e1).trans ((if_neg e2).trans (if_pos e3)), e3]
      · rw [show W2M x y z₀ v t b u (m z₀) m₀ z = m₀ z from (if_neg e1).trans ((if_neg e2).trans (if_neg e3)), h3 z e1 e2 e3]
/-- a while with an int and a bytes that change -/
theorem while_two {x y z₀ : Str} {test : Expr} {body : List Stmt} {pos : Pos} (f : Nat → Int) (g : Nat → Array UInt8) (n : Nat) {t₀ u₀ : Tok} {v₀ : Int} {b₀ : Array UInt8} (hv : v₀ = f 0) (hb : b₀ = g 0)
    (F : Fr h₀ L s.heap m₀) (N : News h₀ L s.heap news) (hx : m₀ x = some (.int v₀ t₀)) (hy : m₀ y = some (.bytes b₀ u₀))
    (htest : ∀ p t u o h tk (E' : Value → Shared → Prop), p ≤ n → Fr h₀ L h (W2M x y z₀ (f p) t (g p) u o m₀) → News h₀ L h news →
      wpAny (model prog w) A (isTrue test env (eval test env)) (TEnd h₀ L (W2M x y z₀ (f p) t (g p) u o m₀) news { s with heap := h, toks := tk } (decide (p < n))) E' { s with heap := h, toks := tk })
    (hbody : ∀ p t u o h tk (E' : Value → Shared → Prop), p < n → Fr h₀ L h (W2M x y z₀ (f p) t (g p) u o m₀) → News h₀ L h news →
      wpAny (model prog w) A (execs body env) (W2End h₀ L x y z₀ (f (p + 1)) (g (p + 1)) m₀ news { s with heap := h, toks := tk }) E' { s with heap := h, toks := tk })
    (done : ∀ t u o h tk, Fr h₀ L h (W2M x y z₀ (f n) t (g n) u o m₀) → News h₀ L h news → Q .next { s with heap := h, toks := tk }) :
    wpAny (model prog w) A (exec (.While test body [] pos) env) Q E s := by
  subst hv hb
  refine wpAny_While ?_
  refine codeAny_whileLoop (fun k s' => ∃ h tk p t u o, s' = { s with heap := h, toks := tk } ∧ p ≤ n ∧ k = n - p ∧ Fr h₀ L h (W2M x y z₀ (f p) t (g p) u o m₀) ∧ News h₀ L h news) ?_ n
    ⟨s.heap, s.toks, 0, t₀, u₀, m₀ z₀, rfl, Nat.zero_le _, rfl, (w2_eq hx hy fun _ _ _ _ => rfl) ▸ F, N⟩
  rintro k s' ⟨h, tk, p, t, u, o, rfl, hp, rfl, F', N'⟩
  refine wpAny_mono (htest p t u o h tk _ hp F' N') (fun b s₂ h₂ => ?_) fun _ _ e => e
  obtain ⟨rfl, h', tk', rfl, F₂, N₂⟩ := h₂
  by_cases hlt : p < n
  · rw [decide_eq_true hlt]
    simp only [if_true]
    refine wpAny_mono (hbody p t u o h' tk' _ hlt F₂ N₂) (fun fl s₃ h₃ => ?_) fun _ _ e => e
    obtain ⟨rfl, h₃, tk₃, m₃, t₃, u₃, rfl, F₃, N₃, e1, e2, e3⟩ := h₃
    exact ⟨n - (p + 1), by omega, h₃, tk₃, p + 1, t₃, u₃, m₃ z₀, rfl, hlt, rfl, (w2_eq e1 e2 e3) ▸ F₃, N₃⟩
  · rw [decide_eq_false hlt]
    simp only [Bool.false_eq_true, if_false]
    obtain rfl : p = n := by omega
    exact wpAny_execs_nil (done t u o h' tk' F₂ N₂)
end
end Mine

namespace Mine
def RetBytes (b : Array UInt8) (news : Led) (r : Value) (news' : Led) : Prop := (∃ t, r = .bytes b t) ∧ news' = news
def numN (spot : Nat) : Nat → Int
  | 0 => 0
  | k + 1 => 16 * numN spot k + (if k < spot then 1 else 2)
def argN (spot : Nat) : Int := if spot % 2 = 1 then numN spot 5 else -numN spot 5
def apF (spot p : Nat) : Int := numN spot 5 / 16 ^ p
def apG (spot p : Nat) : Array UInt8 := (((List.range 5).map fun k => if k < spot then (66 : UInt8) else 67).drop (5 - p)).toArray
def wordB (spot : Nat) : Array UInt8 := apG spot 5
def apD (spot p : Nat) : Array UInt8 := if 4 - p < spot then #[66] else #[67]
def AP : Array UInt8 := #[65, 66, 67, 68, 69, 70, 71, 72, 73, 74, 75, 76, 77, 78, 79, 80]
theorem ap_abs : ∀ spot, spot < 6 → 1 ≤ spot → (if argN spot < 0 then -argN spot else argN spot) = apF spot 0 := by decide +kernel
theorem ap_g0 : ∀ spot, spot < 6 → #[] = apG spot 0 := by decide +kernel
theorem ap_nz : ∀ spot, spot < 6 → 1 ≤ spot → ∀ p, p < 6 → decide (p < 5) = (apF spot p != 0) := by decide +kernel
theorem ap_div : ∀ spot, spot < 6 → 1 ≤ spot → ∀ p, p < 5 → (apF spot p).fdiv 16 = apF spot (p + 1) := by decide +kernel
theorem ap_whole : ∀ spot, spot < 6 → 1 ≤ spot → ∀ p, p < 5 → KBy.whole #[65, 66, 67, 68, 69, 70, 71, 72, 73, 74, 75, 76, 77, 78, 79, 80] (some ((apF spot p).fmod 16)) (some ((apF spot p).fmod 16 + 1)) = false := by decide +kernel
theorem ap_pick : ∀ spot, spot < 6 → 1 ≤ spot → ∀ p, p < 5 → KBy.picked #[65, 66, 67, 68, 69, 70, 71, 72, 73, 74, 75, 76, 77, 78, 79, 80] (some ((apF spot p).fmod 16)) (some ((apF spot p).fmod 16 + 1)) = apD spot p := by decide +kernel
theorem ap_cat : ∀ spot, spot < 6 → ∀ p, p < 5 → apD spot p ++ apG spot p = apG spot (p + 1) := by decide +kernel
theorem ap_size : ∀ spot, spot < 6 → ∀ p, p < 5 → (apD spot p).size + (apG spot p).size ≤ 16777216 := by decide +kernel
theorem ap_dsize : ∀ spot, spot < 6 → ∀ p, p < 5 → (apD spot p).size ≤ 16777216 := by decide +kernel
section
variable {prog : Program} {w : World} {A : Around} {E : Value → Shared → Prop} {s : Shared} {value slice : PySem.Expr} {b c : Array UInt8} {t : Tok} {h₀ : Heap} {L : Addr} {m : PySem.Str → Option Value} {news : List (Addr × Obj)} {i j : Int} {Q : Value → Shared → Prop}
theorem b_pick {ti tj : Tok} (hF : Fr h₀ L s.heap m) (hN : News h₀ L s.heap news) (hne : KBy.whole b (some i) (some j) = false) (e : KBy.picked b (some i) (some j) = c) (hz : c.size ≤ 16777216)
    (h : ∀ h' t' k, Fr h₀ L h' m → News h₀ L h' news → Q (.bytes c t') { s with heap := h', toks := k })
    (hs : subscripted slice false (.bytes b t) (.ref s.heap.objs.size) = operate [.ref s.heap.objs.size, .bytes b t] (getItem (.bytes b t) (.ref s.heap.objs.size)) := by with_unfolding_all rfl)
    (ht : ∀ r, letTemporaryGo value (.bytes b t) r = pure () := by intro _; with_unfolding_all rfl) :
    wpAny (model prog w) A (subscriptTail value slice (.bytes b t) (.ref s.heap.objs.size)) Q E { s with heap := s.heap.push { cls := .type "slice", data := .fields #[.int i ti, .int j tj, .none] } } := by
  subst e
  exact KBy.slice_N hF hN (by constructor) (by constructor) hne hz h hs ht
theorem b_cat {a b c : Array UInt8} {t u : Tok} (e : a ++ b = c) (hsz : a.size + b.size ≤ 16777216) (h : ∀ t' k, Q (.bytes c t') { s with toks := k }) : wpAny (model prog w) A (binaryOp .Add (.bytes a t) (.bytes b u)) Q E s := by
  subst e
  exact KBy.add_bytes hsz h
end
end Mine

namespace Mine
set_option maxRecDepth 100000 in
set_option maxHeartbeats 8000000 in
theorem ap_c (w : World) (spot : Nat) (h1 : 1 ≤ spot) (h5 : spot ≤ 5) (t1 : Tok) : Fn w 43 1 16 [.int (argN spot) t1] (fun _ => True) (RetBytes (wordB spot)) := by
  have s6 : spot < 6 := by omega
  w_top off
  k_with_none
  unfold Fn
  intro mean mg mb dp un gd cn cs a ccd cl outer A₀ base h₀ L m news s Q E B F X N T hk hd hu ha hret
  revert X; k_fill; intro X
  refine wpAny_call ?_
  walk_at "mine enter"
  k_with_none
  k_with "my while" => (refine stopI ?_)
  k_steps
  unfold Stop
  (rename Fr _ _ _ _ => kF); (rename News _ _ _ _ => kN)
  refine while_two (x := Str.ofString "num") (y := Str.ofString "val") (z₀ := Str.ofString "mod") (apF spot) (apG spot) 5 ?_ ?_ kF kN rfl rfl ?_ ?_ ?_
  · exact ap_abs spot s6 h1
  · exact ap_g0 spot s6
  · intro p t u o h tk E' hp F' N'
    k_with_none
    (try k_unmd); (try k_fold)
    k_steps
    exact ⟨(ap_nz spot s6 h1 p (by omega)).symm, _, _, rfl, by assumption, by assumption⟩
  · intro p t u o h tk E' hp F' N'
    k_with_none
    k_with "my item" => ((with_reducible rename Fr _ _ _ _ => F1); (with_reducible rename News _ _ _ _ => N1); k_dflt (refine b_pick (s := ⟨_, _, _, _, _⟩) F1 N1 (ap_whole spot s6 h1 p hp) (ap_pick spot s6 h1 p hp) (ap_dsize spot s6 p hp) ?_); intro _ _ _ _ _)
    k_with "my cat" => (k_dflt (refine b_cat (ap_cat spot s6 p hp) (ap_size spot s6 p hp) ?_); intro _ _)
    (try k_unmd); (try k_fold)
    k_steps
    (rename Fr _ _ _ _ => kF5); (rename News _ _ _ _ => kN5)
    rw [ap_div spot s6 h1 p hp] at kF5
    refine ⟨rfl, _, _, _, _, _, rfl, kF5, cb_drop kN5 (by kcf_all), rfl, rfl, fun z e1 e2 e3 => ?_⟩
    (first
      | (repeat (first | rfl | (refine Eq.trans (if_neg (by assumption)) ?_)))
      | trace_state)
  · intro t u o h tk F' N'
    k_with_none
    (try k_unmd); (try k_fold)
    k_steps
    (rename Fr _ _ _ _ => kF6); (rename News _ _ _ _ => kN6)
    exact hret _ _ _ _ kF6 kN6 ⟨⟨_, rfl⟩, rfl⟩
end Mine

namespace Mine
theorem fm2 : ∀ spot : Nat, spot < 6 → ((spot : Int).fmod 2 = 0 → argN spot = -numN spot 5) ∧ ((spot : Int).fmod 2 ≠ 0 → argN spot = numN spot 5) := by decide +kernel
set_option maxRecDepth 100000 in
set_option maxHeartbeats 8000000 in
theorem word_c (w : World) (spot : Nat) (h1 : 1 ≤ spot) (h5 : spot ≤ 5) (t1 : Tok) : Fn w 111 2 24 [.int (spot : Int) t1] (fun _ => True) (RetBytes (wordB spot)) := by
  have s6 : spot < 6 := by omega
  w_top off
  k_with_none
  unfold Fn
  intro mean mg mb dp un gd cn cs a ccd cl outer A₀ base h₀ L m news s Q E B F X N T hk hd hu ha hret
  revert X; k_fill; intro X
  refine wpAny_call ?_
  walk_at "mine enter"
  k_with_none
  k_with "my pyIter" => (refine stopI ?_)
  k_steps
  unfold Stop
  (rename IsRange _ _ _ _ _ _ _ _ => kR); (rename Fr _ _ _ _ => kF); (rename News _ _ _ _ => kN)
  refine iter_rangeS (σ := Int × Tok) (news := news) (n := 5) (fun _ => []) (fun c => [(Str.ofString "number", .int c.1 c.2)])
    (fun k c => c.1 = numN spot k) [] (0, _)
    rfl kR (by decide +kernel) (by decide +kernel) kF (cb_drop kN (by kcf_all)) rfl (by kst_all) ?_ ?_
  · rintro k tk' ⟨p, tp⟩ I oI u h tk hk ⟨⟩ off F' N'
    dsimp only at off F' N'
    simp only [List.cons_append, List.nil_append] at off N'
    k_with_none
    (try k_unmd); (try k_fold)
    k_steps
    all_goals (show StepL _ _ _ _ _ _ _ _)
    all_goals (rename Fr _ _ _ _ => kF5; rename News _ _ _ _ => kN5)
    · exact StepL.intro kF5 kN5 [] (by kcf_all) (fun p hp => by cases hp) ⟨(_, _), rfl, (by show _ = 16 * numN spot k + (if k < spot then 1 else 2); rw [if_pos (by omega)]), by kst_all, by walk_at "km same"⟩
    · exact StepL.intro kF5 kN5 [] (by kcf_all) (fun p hp => by cases hp) ⟨(_, _), rfl, (by show _ = 16 * numN spot k + (if k < spot then 1 else 2); rw [if_neg (by omega)]), by kst_all, by walk_at "km same"⟩
  · rintro ⟨p, tp⟩ u h tk hp F' N'
    dsimp only at hp F' N'
    simp only [List.cons_append, List.nil_append] at N'
    dsimp only
    k_with_none
    k_with "my call" => (refine stopI ?_)
    (try k_unmd); (try k_fold)
    k_steps
    · unfold Stop
      have e : argN spot = p := hp ▸ (fm2 spot s6).2 (by first | assumption | (simp only [bne_iff_ne, ne_eq, decide_eq_true_eq] at *; assumption))
      refine Fn.use (e ▸ ap_c w spot h1 h5 _) (by k_asm) (by k_asm) (by k_asm) (by k_asm) (by k_asm) (by first | exact rfl | assumption) (by ktr_room) (by ktr_units) trivial ?_
      rintro _ _ hs2 tks2 Fs Ns ⟨⟨ts, rfl⟩, rfl⟩
      (try k_unmd); (try k_fold)
      refine ⟨_, _, _, Fs, Ns, fun kF6 kN6 => ?_⟩
      exact hret _ _ _ _ kF6 kN6 ⟨⟨_, rfl⟩, rfl⟩
    · unfold Stop
      have e : argN spot = -p := hp ▸ (fm2 spot s6).1 (by first | assumption | (simp only [bne_iff_ne, ne_eq, decide_eq_false_iff_not, Decidable.not_not, bne_eq_false_iff_eq] at *; assumption))
      refine Fn.use (e ▸ ap_c w spot h1 h5 _) (by k_asm) (by k_asm) (by k_asm) (by k_asm) (by k_asm) (by first | exact rfl | assumption) (by ktr_room) (by ktr_units) trivial ?_
      rintro _ _ hs2 tks2 Fs Ns ⟨⟨ts, rfl⟩, rfl⟩
      (try k_unmd); (try k_fold)
      refine ⟨_, _, _, Fs, Ns, fun kF6 kN6 => ?_⟩
      exact hret _ _ _ _ kF6 kN6 ⟨⟨_, rfl⟩, rfl⟩
end Mine

namespace Mine
def leftStep (row : List Int) (d : Int) : List Int := row.take (d.fmod row.length).toNat ++ row.drop (d.fmod row.length + 1).toNat
def leftR (draws : List Int) (i : Nat) : List Int := (draws.take i).foldl leftStep [1, 2, 3, 4, 5]
def leftL (draws : List Int) : List Int := leftR draws draws.length
theorem fm_lo (d : Int) {n : Nat} (h : 0 < n) : 0 ≤ d.fmod n := Int.fmod_nonneg_of_pos _ (by omega)
theorem fm_hi (d : Int) {n : Nat} (h : 0 < n) : d.fmod n < n := Int.fmod_lt_of_pos _ (by omega)
theorem leftStep_len (row : List Int) (d : Int) {n : Nat} (h : row.length = n + 1) : (leftStep row d).length = n := by
  have h1 := fm_lo d (n := n + 1) (Nat.succ_pos _)
  have h2 := fm_hi d (n := n + 1) (Nat.succ_pos _)
  unfold leftStep
  rw [List.length_append, List.length_take, List.length_drop, h]
  omega
theorem leftR_succ {draws : List Int} {i : Nat} {d : Int} (h : draws[i]? = some d) : leftR draws (i + 1) = leftStep (leftR draws i) d := by
  unfold leftR
  rw [List.take_add_one, h, List.foldl_append]
  rfl
theorem leftR_len (draws : List Int) : ∀ i, i ≤ 3 → i ≤ draws.length → (leftR draws i).length = 5 - i
  | 0, _, _ => rfl
  | i + 1, h3, hl => by
    have h := leftR_len draws i (by omega) (by omega)
    have hx : draws[i]? = some (draws[i]'(by omega)) := List.getElem?_eq_getElem (by omega)
    rw [leftR_succ hx]
    exact leftStep_len _ _ (by rw [h]; omega)
def leftP (row : List Int) (p : Nat) : List Int := row.take p ++ row.drop (p + 1)
theorem leftStep_P (row : List Int) (d : Int) (h : 0 < row.length) : ∃ p, p < row.length ∧ leftStep row d = leftP row p := by
  have h1 := fm_lo d h
  have h2 := fm_hi d h
  refine ⟨(d.fmod row.length).toNat, by omega, ?_⟩
  unfold leftStep leftP
  rw [show (d.fmod row.length + 1).toNat = (d.fmod row.length).toNat + 1 by omega]
theorem outs_dec : (∀ p, p < 5 → ∀ q, q < 4 → leftP (leftP [1, 2, 3, 4, 5] p) q ∈ outs ∧ ∀ r, r < 3 → leftP (leftP (leftP [1, 2, 3, 4, 5] p) q) r ∈ outs) := by decide +kernel
theorem leftP_len (row : List Int) (p : Nat) {n : Nat} (hp : p < row.length) (h : row.length = n + 1) : (leftP row p).length = n := by
  unfold leftP
  rw [List.length_append, List.length_take, List.length_drop]
  omega
theorem leftL_outs (draws : List Int) (h : draws.length = 2 ∨ draws.length = 3) : leftL draws ∈ outs := by
  rcases h with h | h
  · match draws, h with
    | [a, b], _ =>
      show leftStep (leftStep [1, 2, 3, 4, 5] a) b ∈ outs
      obtain ⟨p, hp, e1⟩ := leftStep_P [1, 2, 3, 4, 5] a (by decide)
      have l1 := leftP_len _ p hp (n := 4) rfl
      obtain ⟨q, hq, e2⟩ := leftStep_P (leftP [1, 2, 3, 4, 5] p) b (by rw [l1]; decide)
      rw [e1, e2]
      exact (outs_dec p hp q (by rw [l1] at hq; exact hq)).1
  · match draws, h with
    | [a, b, c], _ =>
      show leftStep (leftStep (leftStep [1, 2, 3, 4, 5] a) b) c ∈ outs
      obtain ⟨p, hp, e1⟩ := leftStep_P [1, 2, 3, 4, 5] a (by decide)
      have l1 := leftP_len _ p hp (n := 4) rfl
      obtain ⟨q, hq, e2⟩ := leftStep_P (leftP [1, 2, 3, 4, 5] p) b (by rw [l1]; decide)
      have l2 := leftP_len _ q hq (n := 3) l1
      obtain ⟨r, hr, e3⟩ := leftStep_P (leftP (leftP [1, 2, 3, 4, 5] p) q) c (by rw [l2]; decide)
      rw [e1, e2, e3]
      exact (outs_dec p hp q (by rw [l1] at hq; exact hq)).2 r (by rw [l2] at hr; exact hr)
/-- where del strikes -/
def cutI (n : Nat) (d : Int) : Int := d.fmod (2 * (n : Int)) - n
theorem cut_at (n : Nat) (d : Int) (h : 0 < n) : seqIndex? (cutI n d) n = some (d.fmod n).toNat := by
  have h1 : 0 ≤ d.fmod (2 * (n : Int)) := Int.fmod_nonneg_of_pos _ (by omega)
  have h2 : d.fmod (2 * (n : Int)) < 2 * (n : Int) := Int.fmod_lt_of_pos _ (by omega)
  have h3 := fm_lo d h
  have h4 := fm_hi d h
  have e1 : d.fmod (2 * (n : Int)) = d % (2 * (n : Int)) := Int.fmod_eq_emod_of_nonneg _ (by omega)
  have e2 : d.fmod n = d % (n : Int) := Int.fmod_eq_emod_of_nonneg _ (by omega)
  have e3 : (d % (2 * (n : Int))) % (n : Int) = d % (n : Int) := Int.emod_emod_of_dvd _ ⟨2, by omega⟩
  unfold cutI
  rw [e1] at h1 h2 ⊢
  rw [e2] at h3 h4 ⊢
  by_cases c : d % (2 * (n : Int)) - n < 0
  · have e4 : d % (2 * (n : Int)) = d % (n : Int) := by
      rw [← e3]; exact (Int.emod_eq_of_lt h1 (by omega)).symm
    rw [seqIndex_neg c (by omega)]
    congr 2
    omega
  · have e4 : d % (2 * (n : Int)) - n = d % (n : Int) := by
      rw [← e3, ← Int.sub_emod_right (d % (2 * (n : Int))) n]
      exact (Int.emod_eq_of_lt (by omega) (by omega)).symm
    rw [seqIndex_of (by omega) (by omega), e4]
theorem erase_ints : ∀ {vs : List Value} {ns : List Int} (k : Nat), IntsAre vs ns → k < ns.length → ∃ q, ki_delL vs k = some q ∧ IntsAre q (ns.take k ++ ns.drop (k + 1))
  | _, _, _, .nil, h => absurd h (Nat.not_lt_zero _)
  | _, _, 0, .cons _ _ h, _ => ⟨_, rfl, h⟩
  | _, _, k + 1, .cons n t h, hk => by
    obtain ⟨q, e, hq⟩ := erase_ints k h (Nat.lt_of_succ_lt_succ hk)
    exact ⟨.int n t :: q, by unfold ki_delL; rw [e], .cons n t hq⟩
section
variable {prog : Program} {w : World} {A : Around} {E : Value → Shared → Prop} {s : Shared} {h₀ : Heap} {L l a b : Addr} {m : Str → Option Value} {news news' : Led} {value slice : PySem.Expr} {vs ws : List Value} {ns ms : List Int} {n n' : Nat} {x : Int} {u : Tok} {Q : Value → Shared → Prop}
theorem sl_up (F : Fr h₀ L s.heap m) (N : News h₀ L s.heap news) (hm : (l, listOf vs.toArray n) ∈ news) (hi : IntsAre vs ns) (hx : 0 ≤ x) (hz : ns.length ≤ 1000)
    (h : ∀ D ws h', Fr h₀ L h' m → News h₀ L h' ((D, listOf (List.toArray ws) 0) :: news) → (∀ p ∈ news, p.1 < D) → IntsAre ws (ns.take x.toNat) → Q (.ref D) { s with heap := h' })
    (hs : subscripted slice false (.ref l) (.ref s.heap.objs.size) = operate [.ref s.heap.objs.size, .ref l] (getItem (.ref l) (.ref s.heap.objs.size)) := by with_unfolding_all rfl)
    (ht : ∀ r, letTemporaryGo value (.ref l) r = pure () := by intro _; with_unfolding_all rfl) :
    wpAny (model prog w) A (subscriptTail value slice (.ref l) (.ref s.heap.objs.size)) Q E { s with heap := s.heap.push { cls := .type "slice", data := .fields #[.none, .int x u, .none] } } :=
  kmk_slice_ints F N (PySem.IsL.isList (n := n) (N _ hm).1) .none (.int _ _) hi (kmk_upto hi hx) rfl (fun D ws h' F' N' l1 hw _ _ => h D ws h' F' N' l1 hw) hs ht (by rw [List.size_toArray, hi.length, sizeLine_eq]; omega)
theorem sl_dn (F : Fr h₀ L s.heap m) (N : News h₀ L s.heap news) (hm : (l, listOf vs.toArray n) ∈ news) (hi : IntsAre vs ns) (hx : 0 ≤ x) (hz : ns.length ≤ 1000)
    (h : ∀ D ws h', Fr h₀ L h' m → News h₀ L h' ((D, listOf (List.toArray ws) 0) :: news) → (∀ p ∈ news, p.1 < D) → IntsAre ws (ns.drop x.toNat) → Q (.ref D) { s with heap := h' })
    (hs : subscripted slice false (.ref l) (.ref s.heap.objs.size) = operate [.ref s.heap.objs.size, .ref l] (getItem (.ref l) (.ref s.heap.objs.size)) := by with_unfolding_all rfl)
    (ht : ∀ r, letTemporaryGo value (.ref l) r = pure () := by intro _; with_unfolding_all rfl) :
    wpAny (model prog w) A (subscriptTail value slice (.ref l) (.ref s.heap.objs.size)) Q E { s with heap := s.heap.push { cls := .type "slice", data := .fields #[.int x u, .none, .none] } } :=
  kmk_slice_ints F N (PySem.IsL.isList (n := n) (N _ hm).1) (.int _ _) .none hi (kmk_from hi hx) rfl (fun D ws h' F' N' l1 hw _ _ => h D ws h' F' N' l1 hw) hs ht (by rw [List.size_toArray, hi.length, sizeLine_eq]; omega)
theorem add_led (F : Fr h₀ L s.heap m) (N : News h₀ L s.heap news) (ha : (a, listOf vs.toArray n) ∈ news) (hb : (b, listOf ws.toArray n') ∈ news) (hi : IntsAre vs ns) (hj : IntsAre ws ms) (hz : ns.length + ms.length ≤ 1000)
    (h : ∀ D us h', Fr h₀ L h' m → News h₀ L h' ((D, listOf (List.toArray us) 0) :: news) → (∀ p ∈ news, p.1 < D) → IntsAre us (ns ++ ms) → Q (.ref D) { s with heap := h' }) :
    wpAny (model prog w) A (binaryOp .Add (.ref a) (.ref b)) Q E s :=
  kmk_add_ints F N (PySem.IsL.isList (n := n) (N _ ha).1) (PySem.IsL.isList (n := n') (N _ hb).1) hi hj h (by rw [sizeLine_eq]; omega)
theorem del_row {D : Addr} {d : Int} {news'' : List Value → Led} {Q : Unit → Shared → Prop} (F : Fr h₀ L s.heap m) (N : News h₀ L s.heap news) (hi : IntsAre vs ns) (hn : 0 < ns.length) (hz : ns.length ≤ 1000)
    (U : ∀ q : List Value, Upd D (listOf vs.toArray n) (listOf q.toArray (n + 1)) news (news'' q)) (h : ∀ q h', Fr h₀ L h' m → News h₀ L h' (news'' q) → IntsAre q (leftStep ns d) → Q () { s with heap := h' }) :
    wpAny (model prog w) A (delItem (.ref D) (.int (cutI ns.length d) u)) Q E s := by
  have h3 := fm_lo d hn
  have h4 := fm_hi d hn
  obtain ⟨q, e, hq⟩ := erase_ints (d.fmod ns.length).toNat hi (by omega)
  have hl : vs.toArray.size = ns.length := by rw [List.size_toArray, hi.length]
  have g1 : 0 ≤ d.fmod (2 * (ns.length : Int)) := Int.fmod_nonneg_of_pos _ (by omega)
  have g2 : d.fmod (2 * (ns.length : Int)) < 2 * (ns.length : Int) := Int.fmod_lt_of_pos _ (by omega)
  refine ki_del (q := q) F N ?_ (by rw [hl]; exact cut_at _ _ hn) e (U q) (by rw [sizeLine_eq]; show vs.length ≤ _; rw [hi.length]; omega) fun h' F' N' => h q h' F' N' ?_
  · unfold Builtin.List.listFitsIndex cutI
    simp only [Bool.and_eq_true, decide_eq_true_eq]
    omega
  · unfold leftStep
    rw [show (d.fmod ns.length + 1).toNat = (d.fmod ns.length).toNat + 1 by omega]
    exact hq
end
end Mine

namespace Mine
set_option maxRecDepth 100000 in
set_option maxHeartbeats 8000000 in
theorem left_c (w : World) (ld : Addr) (draws : List Int) (h3 : draws.length ≤ 3) :
    Fn w 97 1 8 [.ref ld] (fun news => ∃ (dits : List Value) (nd : Nat), (ld, listOf dits.toArray nd) ∈ news ∧ IntsAre dits draws) (NewInts (leftL draws)) := by
  w_top off
  k_with_none
  unfold Fn
  intro mean mg mb dp un gd cn cs a ccd cl outer A₀ base h₀ L m news s Q E B F X N T hk hd hu ha hret
  obtain ⟨dits, nd, hld, hdi⟩ := ha
  revert X; k_fill; intro X
  refine wpAny_call ?_
  walk_at "mine enter"
  k_with_none
  k_with "my pyIter" => (refine stopI ?_)
  k_steps
  unfold Stop
  (rename Fr _ _ _ _ => kF); (rename News _ _ _ _ => kN)
  (rename (∀ p ∈ news, p.1 < _) => kl1)
  refine iter_listS (σ := Addr × List Value × Nat) (news := news) (vs := dits) (fun c => [(c.1, listOf c.2.1.toArray c.2.2)]) (fun c => [(Str.ofString "row", .ref c.1)])
    (fun i c => IntsAre c.2.1 (leftR draws i) ∧ LCg.Off1 c.1 news) [Str.ofString "place"] (_, [_, _, _, _, _], _)
    rfl hld kF (cb_drop kN (by kcf_all)) ⟨.cons 1 _ (.cons 2 _ (.cons 3 _ (.cons 4 _ (.cons 5 _ .nil)))), off1_of kl1⟩ (by kst_all) ?_ ?_
  · rintro i v ⟨R, vs, n1⟩ I oI u h tk hv ⟨hV, hO⟩ off F' N'
    dsimp only at hV hO off F' N'
    simp only [List.cons_append, List.nil_append] at off N'
    obtain ⟨d, td, rfl, hd⟩ := IntsAre.at hdi i v hv
    have hil : i < draws.length := (List.getElem?_eq_some_iff.mp hd).1
    have hlen := leftR_len draws i (by omega) (by omega)
    have hlp : 0 < (leftR draws i).length := by omega
    have h1000 : (leftR draws i).length ≤ 1000 := by omega
    have hfm := fm_lo d hlp
    have hnz : ((leftR draws i).length : Int) ≠ 0 := by omega
    have hap : ((leftR draws i).take (d.fmod (leftR draws i).length).toNat).length + ((leftR draws i).drop (d.fmod (leftR draws i).length + 1).toNat).length ≤ 1000 := by
      rw [List.length_take, List.length_drop]; omega
    k_with_none
    k_with "my len" => (k_dflt (refine len_led (by k_asm) (.tail _ (.head _)) hV.length (by omega) ?_))
    k_with "my item" => ((rename Fr _ _ _ _ => F1); (rename News _ _ _ _ => N1); first
      | (k_dflt (refine sl_up (s := ⟨_, _, _, _, _⟩) F1 N1 (.tail _ (.head _)) hV hfm h1000 ?_); intro D1 ws1 h1 F1' N1' l1' hw1)
      | (k_dflt (refine sl_dn (s := ⟨_, _, _, _, _⟩) F1 N1 (.tail _ (.tail _ (.head _))) hV (Int.le_add_one hfm) h1000 ?_); intro D2 ws2 h2 F2' N2' l2' hw2))
    k_with "my cat" => ((rename Fr _ _ _ _ => F3); (rename News _ _ _ _ => N3); (rename IntsAre _ (List.take _ _) => i1); (rename IntsAre _ (List.drop _ _) => i2); k_dflt (refine add_led F3 N3 (.tail _ (.head _)) (.head _) i1 i2 hap ?_); intro D3 ws3 h3 F3' N3' l3' hw3)
    (try k_unmd); (try k_fold)
    k_steps
    (rename Fr _ _ _ _ => kF5); (rename News _ _ _ _ => kN5)
    (rename (∀ p : Addr × Obj, p ∈ _ → p.1 < _) => kl3); (rename IntsAre _ _ => kI3)
    show StepL _ _ _ _ _ _ _ _
    refine StepL.intro kF5 kN5 [(_, _)] (by kcf_all) (fun p hp => by rw [List.mem_singleton.mp hp]; exact Nat.ne_of_gt (kl3 (I, oI) (.tail _ (.tail _ (.head _))))) ⟨(_, _, _), rfl, ⟨?_, ?_⟩, by kst_all, by walk_at "km same"⟩
    · rw [leftR_succ hd]; exact kI3
    · exact off1_of fun p hp => kl3 p (.tail _ (.tail _ (.tail _ (.tail _ hp))))
  · rintro ⟨R, vs, n1⟩ u h tk ⟨hV, hO⟩ F' N'
    dsimp only at hV hO F' N'
    simp only [List.cons_append, List.nil_append] at N'
    dsimp only
    rw [hdi.length] at hV
    k_with_none
    (try k_unmd); (try k_fold)
    k_steps
    (rename Fr _ _ _ _ => kF6); (rename News _ _ _ _ => kN6)
    exact hret _ _ _ _ kF6 kN6 ⟨_, _, _, rfl, rfl, hV, hO⟩
end Mine

namespace Mine
def DelEnd (R : Addr) (vs : List Value) (n : Nat) (ns : List Int) (d : Int) (L1 : Led) (r : Value) (L2 : Led) : Prop :=
  r = .none ∧ ∃ q : List Value, Upd R (listOf vs.toArray n) (listOf q.toArray (n + 1)) L1 L2 ∧ IntsAre q (leftStep ns d)
set_option maxRecDepth 100000 in
set_option maxHeartbeats 8000000 in
theorem del_c (w : World) (R : Addr) (vs : List Value) (n : Nat) (ns : List Int) (d : Int) (t : Tok) (hi : IntsAre vs ns) (hn : 0 < ns.length) (hz : ns.length ≤ 1000) :
    Fn w 71 1 8 [.ref R, .int (cutI ns.length d) t] (fun L1 => ∃ f : List Value → Led, ∀ q : List Value, Upd R (listOf vs.toArray n) (listOf q.toArray (n + 1)) L1 (f q)) (DelEnd R vs n ns d) := by
  w_top off
  k_with_none
  unfold Fn
  intro mean mg mb dp un gd cn cs a ccd cl outer A₀ base h₀ L m news s Q E B F X N T hk hd hu ha hret
  obtain ⟨f, hU⟩ := ha
  revert X; k_fill; intro X
  refine wpAny_call ?_
  walk_at "mine enter"
  k_with_none
  k_with "my del" => ((rename Fr _ _ _ _ => F3); (rename News _ _ _ _ => N3); k_dflt (refine del_row F3 N3 hi hn hz hU ?_); intro q3 h3 F3' N3' hw3)
  k_steps
  (rename Fr _ _ _ _ => kF6); (rename News _ _ _ _ => kN6)
  (rename IntsAre _ _ => kI3)
  exact hret _ _ _ _ kF6 kN6 ⟨rfl, _, hU _, kI3⟩
end Mine

namespace Mine
theorem off1_ne {D : Addr} : ∀ {l : Led}, LCg.Off1 D l → ∀ p ∈ l, p.1 ≠ D
  | [], _, p, hp => by cases hp
  | q :: r, h, p, hp => by
    rcases List.mem_cons.mp hp with rfl | hp
    · exact h.1
    · exact off1_ne h.2 p hp
theorem upd_two {R : Addr} {o o' : Obj} {p : Addr × Obj} {r L2 : Led} (h : Upd R o o' (p :: (R, o) :: r) L2) (hp : p.1 ≠ R) : L2 = p :: (R, o') :: r := by
  cases h with
  | head _ => exact absurd rfl hp
  | tail _ h2 =>
    cases h2 with
    | head _ => rfl
    | tail h3 _ => exact absurd rfl h3
set_option maxRecDepth 100000 in
set_option maxHeartbeats 8000000 in
theorem cut_c (w : World) (ld : Addr) (draws : List Int) (h3 : draws.length ≤ 3) :
    Fn w 104 2 16 [.ref ld] (fun news => ∃ (dits : List Value) (nd : Nat), (ld, listOf dits.toArray nd) ∈ news ∧ IntsAre dits draws) (NewInts (leftL draws)) := by
  w_top off
  k_with_none
  unfold Fn
  intro mean mg mb dp un gd cn cs a ccd cl outer A₀ base h₀ L m news s Q E B F X N T hk hd hu ha hret
  obtain ⟨dits, nd, hld, hdi0⟩ := ha
  have hdi : True → IntsAre dits draws := fun _ => hdi0
  clear hdi0
  revert X; k_fill; intro X
  refine wpAny_call ?_
  walk_at "mine enter"
  k_with_none
  k_with "my pyIter" => (refine stopI ?_)
  k_steps
  unfold Stop
  (rename Fr _ _ _ _ => kF); (rename News _ _ _ _ => kN)
  (rename (∀ p ∈ news, p.1 < _) => kl1)
  refine iter_listS (σ := Addr × List Value × Nat) (news := news) (vs := dits) (fun c => [(c.1, listOf c.2.1.toArray c.2.2)]) (fun c => [(Str.ofString "row", .ref c.1)])
    (fun i c => IntsAre c.2.1 (leftR draws i) ∧ LCg.Off1 c.1 news) [] (_, [_, _, _, _, _], _)
    rfl hld kF (cb_drop kN (by kcf_all)) ⟨.cons 1 _ (.cons 2 _ (.cons 3 _ (.cons 4 _ (.cons 5 _ .nil)))), off1_of kl1⟩ (by kst_all) ?_ ?_
  · rintro i v ⟨R, vs, n1⟩ I oI u h tk hv ⟨hV, hO⟩ off F' N'
    dsimp only at hV hO off F' N'
    simp only [List.cons_append, List.nil_append] at off N'
    obtain ⟨d, td, rfl, hd⟩ := IntsAre.at (hdi trivial) i v hv
    have hil : i < draws.length := (List.getElem?_eq_some_iff.mp hd).1
    have hlen := leftR_len draws i (by omega) (by omega)
    have hlp : 0 < (leftR draws i).length := by omega
    have h1000 : (leftR draws i).length ≤ 1000 := by omega
    have hnz : 2 * ((leftR draws i).length : Int) ≠ 0 := by omega
    have hRI : R ≠ I := off (R, listOf vs.toArray n1) (.head _)
    have hRn : ∀ p ∈ news, p.1 ≠ R := off1_ne hO
    k_with_none
    k_with "my len" => (k_dflt (refine len_led (by k_asm) (.tail _ (.head _)) hV.length (by omega) ?_))
    k_with "my call" => (refine stopI ?_)
    (try k_unmd); (try k_fold)
    k_steps
    unfold Stop
    refine Fn.use (del_c w R vs n1 (leftR draws i) d _ hV hlp h1000) (by k_asm) (by k_asm) (by k_asm) (by k_asm) (by k_asm) (by first | exact rfl | assumption) (by ktr_room) (by ktr_units)
      ⟨fun q => (I, oI) :: (R, listOf q.toArray (n1 + 1)) :: news, fun q => .tail (Ne.symm hRI) (.head hRn)⟩ ?_
    rintro _ _ hs2 tks2 Fs Ns ⟨rfl, q, hU, hq⟩
    obtain rfl := upd_two hU (Ne.symm hRI)
    (try k_unmd); (try k_fold)
    k_steps
    (rename Fr _ _ _ _ => kF5); (rename News _ _ _ _ => kN5)
    show StepL _ _ _ _ _ _ _ _
    refine StepL.intro kF5 kN5 [(R, _)] (by kcf_all) (fun p hp => by rw [List.mem_singleton.mp hp]; exact hRI) ⟨(R, q, n1 + 1), rfl, ⟨?_, hO⟩, by kst_all, by walk_at "km same"⟩
    rw [leftR_succ hd]; exact hq
  · rintro ⟨R, vs, n1⟩ u h tk ⟨hV, hO⟩ F' N'
    dsimp only at hV hO F' N'
    simp only [List.cons_append, List.nil_append] at N'
    dsimp only
    rw [(hdi trivial).length] at hV
    k_with_none
    (try k_unmd); (try k_fold)
    k_steps
    (rename Fr _ _ _ _ => kF6); (rename News _ _ _ _ => kN6)
    exact hret _ _ _ _ kF6 kN6 ⟨_, _, _, rfl, rfl, hV, hO⟩
end Mine

namespace Mine
open Builtin Builtin.Re
set_option maxRecDepth 100000
section
variable {M : Model} {A : Around} {E : Value → Shared → Prop} {s : Shared}
theorem re_text {b : Array UInt8} {t : Tok} : reTextOf (.bytes b t) = pure (b.map (·.toNat), 1) := by
  have e : asStr? (.bytes b t) = pure none := rfl
  unfold reTextOf
  rw [e, KBy.quiet_eq]
  rfl
def driveN : Nat → Sre.M → Option Sre.M
  | 0, _ => none
  | n + 1, m => if (m.runFor reTurnSteps).outcome.isSome then some (m.runFor reTurnSteps) else driveN n (m.runFor reTurnSteps)
theorem drive_any {Q : Sre.M → Shared → Prop} : ∀ (n N : Nat) (m m' : Sre.M), driveN n m = some m' → n ≤ N → Q m' s → wpAny M A (reDrive N m) Q E s
  | 0, _, _, _, h, _, _ => by cases h
  | n + 1, 0, _, _, _, hN, _ => absurd hN (Nat.not_succ_le_zero n)
  | n + 1, N + 1, m, m', h, hN, hQ => by
    unfold driveN at h
    show wpAny M A (if (m.runFor reTurnSteps).outcome.isSome then pure (m.runFor reTurnSteps) else (do rule "sre.turn"; reDrive N (m.runFor reTurnSteps))) Q E s
    by_cases c : (m.runFor reTurnSteps).outcome.isSome = true
    · rw [if_pos c] at h ⊢
      cases h
      exact wpAny_pure hQ
    · rw [if_neg c] at h ⊢
      exact wpAny_bind (wpAny_rule (drive_any n N _ _ h (Nat.le_of_succ_le_succ hN) hQ))
theorem run_any {m m' : Sre.M} {Q : Option Sre.M → Shared → Prop} (n : Nat) (h : driveN n m = some m') (hn : n ≤ 2 ^ 64)
    (hQ : match m'.outcome with | some .matched => Q (some m') s | some .failed => Q none s | _ => False) : wpAny M A (reRunToEnd m) Q E s := by
  unfold reRunToEnd
  refine wpAny_bind (drive_any n _ m m' h hn ?_)
  refine wpAny_bind (wpAny_forIn_list _ (fun _ _ s' => s' = s) _ ?_ ?_ _ _ rfl)
  · rintro x rest b s' rfl
    by_cases c : m'.seen.has x = true
    · simp only [if_pos c]
      exact wpAny_bind (wpAny_rule (wpAny_pure rfl))
    · simp only [if_neg c]
      exact (wpAny_pure rfl)
  rintro _ s' rfl
  match e : m'.outcome with
  | some .matched => rw [e] at hQ; exact wpAny_pure hQ
  | some .failed => rw [e] at hQ; exact wpAny_pure hQ
  | some (.stuck _) => rw [e] at hQ; exact hQ.elim
  | none => rw [e] at hQ; exact hQ.elim
end
theorem named_match {v : Value} : reNamed "re.Pattern.match" "match" ["string", "pos", "endpos"] 1 [v] [] = pure [some v, none, none] := by kernel_rfl
def MatchEnd (P : Addr) (bv : Value) (lim : Nat) (m : Sre.M) (R : Result → Shared → Prop) (s : Shared) : Prop :=
  match m.outcome with
  | some .failed => R (.ok (.ret .none)) s
  | some .matched => ∃ p e : Nat, m.lastmark = 1 ∧ m.marks.getD 0 none = some p ∧ m.marks.getD 1 none = some e ∧ p ≤ e ∧
      R (.ok (.ret (.ref (s.heap.push { cls := .type "tuple", data := .seq [rawInt m.start, rawInt m.handed, rawInt p, rawInt e].toArray }).objs.size))) { s with heap := (s.heap.push { cls := .type "tuple", data := .seq [rawInt m.start, rawInt m.handed, rawInt p, rawInt e].toArray }).push { cls := .type "re.Match", data := .fields #[bv, .ref P, rawInt 0, rawInt lim, rawInt m.lastindex, .ref s.heap.objs.size] } }
  | _ => False
theorem meets_match {P T : Addr} {fs ws : Array Value} {cd : Array Nat} {n k : Nat} {b : Array UInt8} {t : Tok} {m' : Sre.M} (h2 : reRawNat (fs.getD 2 .none) = 1) (h5 : fs.getD 5 .none = .ref T) (h6 : reRawNat (fs.getD 6 .none) = 1)
    (hw : (ws.map reRawOf).map (·.toNat) = cd) (hb : b.size ≤ 1000) (hd : driveN k (Sre.forMatch cd (b.map (·.toNat)) 1 0 b.size false false) = some m') (hk : k ≤ 2 ^ 64) :
    Meets («re.Pattern.match» ⟨[.ref P, .bytes b t], []⟩) (fun _ R s => (∃ o, s.heap.get? P = some o ∧ o.data = .fields fs) ∧ (∃ o, s.heap.get? T = some o ∧ o.data = .seq ws n) ∧ MatchEnd P (.bytes b t) b.size m' R s) := by
  refine .of_wp fun prog w A R s hS => ?_
  obtain ⟨⟨oP, hP, hPd⟩, ⟨oT, hT, hTd⟩, hR⟩ := hS
  show wpAny _ _ (reTarget "re.Pattern.match" "match" ⟨[.ref P, .bytes b t], []⟩ >>= fun t => _) _ _ s
  refine wpAny_bind ?_
  unfold reTarget
  show wpAny _ _ (reNamed "re.Pattern.match" "match" ["string", "pos", "endpos"] 1 [.bytes b t] [] >>= fun r => _) _ _ s
  refine wpAny_bind (wpAny_of_eq named_match ?_)
  refine wpAny_bind (wpAny_pure (wpAny_bind (wpAny_pure ?_)))
  refine wpAny_bind (wpAny_fieldsOf hP hPd ?_)
  refine wpAny_bind (wpAny_of_eq re_text ?_)
  dsimp only
  rw [h2, h5, h6, if_neg (by decide), if_neg (by decide)]
  unfold reNoCollectionInside
  rw [KBy.isInstance_eq]
  refine wpAny_bind ?_
  show wpAny _ _ (pure () : Sem Unit) _ _ _
  refine wpAny_pure ?_
  unfold reRawItems
  refine wpAny_bind (wpAny_bind (wpAny_seqItems hT hTd (wpAny_pure (wpAny_pure ?_))))
  simp only [Option.getD_some, Array.size_map]
  rw [hw, show min (0 : Int).toNat b.size = 0 by simp, show min (2 ^ 63 - 1 : Int).toNat b.size = b.size from Nat.min_eq_right (Nat.le_trans hb (by decide))]
  unfold reAnswer
  unfold MatchEnd at hR
  refine wpAny_bind (run_any k hd hk ?_)
  split at hR
  · rename_i ho
    rw [ho]
    exact wpAny_pure ⟨_, rfl, hR⟩
  · rename_i ho
    rw [ho]
    obtain ⟨p, e, e1, e2, e3, hpe, hR⟩ := hR
    dsimp only
    unfold reNewMatch
    have l1 : List.range 1 = [0] := rfl
    simp only [l1, List.flatMap_cons, List.flatMap_nil, List.any_cons, List.any_nil, Nat.mul_zero, Nat.zero_add, e1, e2, e3]
    have c1 : ((1 : Nat) : Int) ≤ 1 := by decide
    have c2 : decide (e < p) = false := decide_eq_false (by omega)
    rw [c2, if_pos c1, if_neg (by simp)]
    refine wpAny_bind (wpAny_bind (wpAny_newTuple ?_ (by rw [PySem.sizeLine_eq]; simp)))
    exact wpAny_newObj_type (wpAny_pure ⟨_, rfl, hR⟩)
  · exact hR.elim
theorem plainAttrs_pat : PlainAttrs "re.Pattern" :=
  ⟨⟨"object.__getattribute__", by rw [typeLookup_type, builtinLookup_eq_fast]; kernel_rfl, by decide +kernel⟩, by rw [typeLookup_type, builtinLookup_eq_fast]; kernel_rfl⟩
theorem plainAttrs_mat : PlainAttrs "re.Match" :=
  ⟨⟨"object.__getattribute__", by rw [typeLookup_type, builtinLookup_eq_fast]; kernel_rfl, by decide +kernel⟩, by rw [typeLookup_type, builtinLookup_eq_fast]; kernel_rfl⟩
theorem slot_pat_match : Slot "re.Pattern" "match" "re.Pattern.match" :=
  .of (owner := "re.Pattern") (n := "match") (by rw [typeLookup_type, builtinLookup_eq_fast]; kernel_rfl) (by decide +kernel) (by decide +kernel) (by decide +kernel)
    (by first | exact .inl (by decide +kernel) | exact .inr (by decide +kernel)) (by rw [isSubtype_type]; kernel_rfl)
theorem type_pat_match : typeOf (.builtin "re.Pattern.match") = pure (.type "method_descriptor") := by show builtinType _ = _; rw [builtinType_eq_fast]; kernel_rfl
theorem entry_pat_match : entryFor table "re.Pattern.match" = some Builtin.«re.Pattern.match» := entryFor_of_tree (by kernel_rfl)
theorem owner_pat : Manifest.owners.lookup (String.ofList ['n', 'r', 'e', 't', 't', 'a', 'P', '.', 'e', 'r'].reverse) = some Manifest.sig_re_Pattern := by kernel_rfl
theorem args_pat_match (a b : Value) : argsOk "re.Pattern.match" ⟨[a, b], []⟩ := by
  unfold argsOk; rw [signature?_of (id := "re.Pattern.match") (n := ['h', 'c', 't', 'a', 'm']) (o := ['n', 'r', 'e', 't', 't', 'a', 'P', '.', 'e', 'r']) (by kernel_rfl) owner_pat]; kernel_rfl
theorem slot_mat_group : Slot "re.Match" "group" "re.Match.group" :=
  .of (owner := "re.Match") (n := "group") (by rw [typeLookup_type, builtinLookup_eq_fast]; kernel_rfl) (by decide +kernel) (by decide +kernel) (by decide +kernel)
    (by first | exact .inl (by decide +kernel) | exact .inr (by decide +kernel)) (by rw [isSubtype_type]; kernel_rfl)
theorem type_mat_group : typeOf (.builtin "re.Match.group") = pure (.type "method_descriptor") := by show builtinType _ = _; rw [builtinType_eq_fast]; kernel_rfl
theorem entry_mat_group : entryFor table "re.Match.group" = some Builtin.«re.Match.group» := entryFor_of_tree (by kernel_rfl)
theorem owner_mat : Manifest.owners.lookup (String.ofList ['h', 'c', 't', 'a', 'M', '.', 'e', 'r'].reverse) = some Manifest.sig_re_Match := by kernel_rfl
theorem args_mat_group (a b : Value) : argsOk "re.Match.group" ⟨[a, b], []⟩ := by
  unfold argsOk; rw [signature?_of (id := "re.Match.group") (n := ['p', 'u', 'o', 'r', 'g']) (o := ['h', 'c', 't', 'a', 'M', '.', 'e', 'r']) (by kernel_rfl) owner_mat]; kernel_rfl
theorem look_mat_bool : typeLookup (.type "re.Match") "__bool__" = pure none := by rw [typeLookup_type, builtinLookup_eq_fast]; kernel_rfl
theorem look_mat_len : typeLookup (.type "re.Match") "__len__" = pure none := by rw [typeLookup_type, builtinLookup_eq_fast]; kernel_rfl
theorem look_str_index : typeLookup (.type "str") "__index__" = pure none := by rw [typeLookup_type, builtinLookup_eq_fast]; kernel_rfl
end Mine

namespace Mine
open Builtin Builtin.Re
set_option maxRecDepth 100000
/-- the dict of the pattern's group names -/
theorem flags_map {prog : Program} {w : World} {h : Heap} {D : Addr} {t1 t2 : Tok} {ep : Nat}
    (e : h.get? D = some { cls := .type "dict", data := .dict #[{ hash := PyData.keyHash w.params (Str.ofString "flags"), key := .str (Str.ofString "flags") t1, val := .int 1 t2 }] ep }) :
    h.MapOf (PySem.strKind prog w) D (fun k => if k = Str.ofString "flags" then some (.int 1 t2) else none) := by
  refine ⟨_, _, _, e, ⟨rfl, rfl, rfl⟩, rfl, fun x hx => ?_, fun k => ?_⟩
  · rw [List.mem_toArray, List.mem_singleton] at hx
    subst hx
    exact ⟨Str.ofString "flags", by simp [PySem.strKind, Value.isStrOf], rfl⟩
  · unfold findBy
    have h1 : (PySem.strKind prog w).is k (.str (Str.ofString "flags") t1) = (Str.ofString "flags" == k) := rfl
    rw [List.find?_toArray, List.find?_cons]
    simp only [h1]
    by_cases c : k = Str.ofString "flags"
    · subst c; simp
    · have c2 : (Str.ofString "flags" == k) = false := by simp [Ne.symm c]
      rw [c2, if_neg c]
      rfl
def GroupAt (h : Heap) (w : World) (mo P D T : Addr) (b : Array UInt8) (t : Tok) (st ha p e : Nat) : Prop :=
  (∃ o lim li, h.get? mo = some o ∧ o.data = .fields #[.bytes b t, .ref P, rawInt 0, lim, li, .ref T]) ∧ (∃ o n, h.get? T = some o ∧ o.data = .seq [rawInt st, rawInt ha, rawInt p, rawInt e].toArray n) ∧
  (∃ o fs, h.get? P = some o ∧ o.data = .fields fs ∧ fs.getD 3 .none = .ref D) ∧
  ∃ t1 t2 ep, h.get? D = some { cls := .type "dict", data := .dict #[{ hash := PyData.keyHash w.params (Str.ofString "flags"), key := .str (Str.ofString "flags") t1, val := .int 1 t2 }] ep }
theorem meets_group {w₀ : World} {mo P D T : Addr} {b c : Array UInt8} {t tk : Tok} {st ha p e : Nat} (hc : ((b.map (·.toNat)).extract p e).map (·.toUInt8) = c) (hz : c.size ≤ 1000) :
    ∀ (prog : Program) (A : Around) (R : Result → Shared → Prop) (s : Shared), GroupAt s.heap w₀ mo P D T b t st ha p e → (∀ t' k, R (.ok (.ret (.bytes c t'))) { s with toks := k }) →
      wpAny (model prog w₀) A.in1 («re.Match.group» ⟨[.ref mo, .str (Str.ofString "flags") tk], []⟩) (fun fin s' => ∃ v, fin = .done (.ret v) ∧ R (.ok (.ret v)) s') (fun e s' => R (.error e) s') s := by
  intro prog A R s hG hR
  obtain ⟨⟨oM, lim, li, hM, hMd⟩, ⟨oT, n, hT, hTd⟩, ⟨oP, fs, hP, hPd, h3⟩, t1, t2, ep, hD⟩ := hG
  unfold «re.Match.group»
  refine wpAny_bind (wpAny_pure ?_)
  show wpAny _ _ (reFound (.ref mo) >>= fun x => _) _ _ s
  unfold reFound reRawItems
  refine wpAny_bind (wpAny_bind (wpAny_fieldsOf hM hMd ?_))
  refine wpAny_bind (wpAny_bind (wpAny_seqItems hT hTd (wpAny_pure (wpAny_pure ?_))))
  (try dsimp only [Option.getD_some])
  refine wpAny_bind ?_
  unfold reGroupNumber
  refine wpAny_bind (wpAny_pure ?_)
  (try dsimp only)
  rw [if_neg (by simp)]
  refine wpAny_bind (wpAny_specialOf (typeIs_str _ _ _) look_str_index ?_)
  rw [if_neg (by simp)]
  refine wpAny_bind (wpAny_fieldsOf hP hPd ?_)
  rw [h3]
  (try dsimp only)
  refine wpAny_bind (wpAny_dictGet_of (knd := PySem.strKind prog w₀) (k := Str.ofString "flags") (by simp [PySem.strKind, Value.isStrOf]) (flags_map hD) ?_)
  rw [if_pos rfl]
  (try dsimp only)
  refine wpAny_bind (wpAny_pure ?_)
  (try dsimp only [Option.getD_some])
  refine wpAny_bind (wpAny_pure ?_)
  (try dsimp only)
  rw [if_neg (by simp)]
  refine wpAny_pure (wpAny_bind ?_)
  unfold reGroupText
  have q1 : (#[rawInt st, rawInt ha, rawInt p, rawInt e].map reRawOf).getD (2 * Int.toNat 1) (-1) = (p : Int) := by simp [rawInt, reRawOf]
  have q2 : (#[rawInt st, rawInt ha, rawInt p, rawInt e].map reRawOf).getD (2 * Int.toNat 1 + 1) (-1) = (e : Int) := by simp [rawInt, reRawOf]
  have q3 : (#[Value.bytes b t, Value.ref P, rawInt 0, lim, li, Value.ref T]).getD 0 .none = .bytes b t := rfl
  dsimp only
  rw [q1, q2, q3, if_neg (by simp)]
  refine wpAny_bind (wpAny_of_eq re_text ?_)
  dsimp only
  unfold reSlice
  rw [if_neg (by decide), Int.toNat_natCast, Int.toNat_natCast, hc]
  exact wpAny_mkBytes (wpAny_pure ⟨_, rfl, hR _ _⟩) (by rw [PySem.sizeLine_eq]; omega)
theorem truthy_mat {prog : Program} {w : World} {A : Around} {E : Value → Shared → Prop} {s : Shared} {a : Addr} {Q : Bool → Shared → Prop} (hT : s.TypeIs (.ref a) "re.Match") (h : Q true s) : wpAny (model prog w) A (truthy (.ref a)) Q E s := by
  unfold truthy
  first
    | refine wpAny_bind (wpAny_callSpecial?_none (name := Str.ofString "__bool__") hT look_mat_bool ?_)
    | refine wpAny_bind (wpAny_pure (wpAny_bind (wpAny_callSpecial?_none (name := Str.ofString "__bool__") hT look_mat_bool ?_)))
  first
    | refine wpAny_bind (wpAny_specialOf (name := Str.ofString "__len__") hT look_mat_len ?_)
    | refine wpAny_bind (wpAny_pure (wpAny_bind (wpAny_specialOf (name := Str.ofString "__len__") hT look_mat_len ?_)))
  exact wpAny_pure h
/-- bytes.split() -/
theorem bind_split (id : String) : Bytes.bindOptional id "split" ["sep", "maxsplit"] [] [] = pure [none, none] := by kernel_rfl
section
variable {prog : Program} {w : World} {A : Around} {E : Value → Shared → Prop} {s : Shared} {h₀ : Heap} {L : Addr} {m : Str → Option Value} {news : Led}
theorem match_rule {P T : Addr} {fs ws : Array Value} {sl : Array (Option Value)} {oT : Obj} {cd : Array Nat} {n k : Nat} {b : Array UInt8} {t : Tok} {m' : Sre.M} {Q : Value → Shared → Prop}
    (hP : s.heap.get? P = some { cls := .type "re.Pattern", dict := none, data := .fields fs, slots := sl }) (hT : s.heap.get? T = some oT) (hTd : oT.data = .seq ws n)
    (h2 : reRawNat (fs.getD 2 .none) = 1) (h5 : fs.getD 5 .none = .ref T) (h6 : reRawNat (fs.getD 6 .none) = 1) (hw : (ws.map reRawOf).map (·.toNat) = cd) (hb : b.size ≤ 1000)
    (hd : driveN k (Sre.forMatch cd (b.map (·.toNat)) 1 0 b.size false false) = some m') (hk : k ≤ 2 ^ 64) (h : MatchEnd P (.bytes b t) b.size m' (wants Q E) s) :
    wpAny (model prog w) A (call (.builtin "re.Pattern.match") [.ref P, .bytes b t]) Q E s :=
  call_meets slot_pat_match ⟨_, hP, rfl⟩ entry_pat_match (args_pat_match _ _) (meets_match h2 h5 h6 hw hb hd hk) ⟨⟨_, hP, rfl⟩, ⟨_, hT, hTd⟩, h⟩
theorem match_method {P : Addr} {fs : Array Value} {sl : Array (Option Value)} {pl : Sem Bool} {Q : Value × List Value → Shared → Prop} (hP : s.heap.get? P = some { cls := .type "re.Pattern", dict := none, data := .fields fs, slots := sl })
    (h : Q (.builtin "re.Pattern.match", [.ref P]) s) : wpAny (model prog w) A (getMethod (.ref P) "match" pl) Q E s :=
  getMethod_builtin ⟨_, hP, rfl⟩ plainAttrs_pat slot_pat_match type_pat_match (fun a e => by cases e; exact ⟨_, hP, rfl⟩) h
theorem group_method {mo : Addr} {o : Obj} {pl : Sem Bool} {Q : Value × List Value → Shared → Prop} (N : News h₀ L s.heap news) (hm : (mo, o) ∈ news) (hc : o.cls = .type "re.Match") (hdn : o.dict = none)
    (h : Q (.builtin "re.Match.group", [.ref mo]) s) : wpAny (model prog w) A (getMethod (.ref mo) "group" pl) Q E s :=
  getMethod_builtin ⟨_, (N _ hm).1, hc⟩ plainAttrs_mat slot_mat_group type_mat_group (fun a e => by cases e; exact ⟨_, (N _ hm).1, hdn⟩) h
theorem group_rule {mo P D T : Addr} {b c : Array UInt8} {t tk : Tok} {st ha p e : Nat} {Q : Value → Shared → Prop} (hM : s.TypeIs (.ref mo) "re.Match") (hc : ((b.map (·.toNat)).extract p e).map (·.toUInt8) = c) (hz : c.size ≤ 1000)
    (hG : GroupAt s.heap w mo P D T b t st ha p e) (h : ∀ t' k, Q (.bytes c t') { s with toks := k }) :
    wpAny (model prog w) A (call (.builtin "re.Match.group") [.ref mo, .str (Str.ofString "flags") tk]) Q E s :=
  wpAny_call (codeAny_call_builtin slot_mat_group.plain entry_mat_group (slot_mat_group.check _ _ _ _ _ _ _ _ hM (args_mat_group _ _)
    (wpAny_mono (meets_group hc hz prog A (wants Q E) s hG h) (fun fin s' h' => by obtain ⟨v, rfl, hv⟩ := h'; exact hv) fun _ _ x => x)))
/-- values that are bytes -/
inductive BAre : List Value → List (Array UInt8) → Prop
  | nil : BAre [] []
  | cons (b : Array UInt8) (t : Tok) {vs : List Value} {bs : List (Array UInt8)} : BAre vs bs → BAre (.bytes b t :: vs) (b :: bs)
theorem BAre.length : ∀ {vs bs}, BAre vs bs → vs.length = bs.length
  | _, _, .nil => rfl
  | _, _, .cons _ _ h => congrArg Nat.succ h.length
theorem mapM_new : ∀ (ws : List (List UInt8)) (s : Shared) (Q : List Value → Shared → Prop), (∀ x ∈ ws, x.length ≤ 1000) → (∀ vs k, BAre vs (ws.map List.toArray) → Q vs { s with toks := k }) →
    wpAny (model prog w) A (ws.mapM fun x => Bytes.Kind.bytes.new x.toArray) Q E s
  | [], s, Q, _, h => by rw [List.mapM_nil]; exact wpAny_pure (h [] s.toks .nil)
  | x :: r, s, Q, hz, h => by
    rw [List.mapM_cons]
    refine wpAny_bind ?_
    show wpAny _ _ (mkBytes x.toArray) _ _ _
    refine wpAny_mkBytes ?_ (by rw [PySem.sizeLine_eq, List.size_toArray]; have := hz x (.head _); omega)
    refine wpAny_bind (mapM_new r _ _ (fun y hy => hz y (.tail _ hy)) fun vs k hv => ?_)
    exact wpAny_pure (h _ k (.cons _ _ hv))
theorem payload_eq {b : Array UInt8} {t : Tok} : Bytes.payload (.bytes b t) = pure b := by kernel_rfl
theorem meets_split {b : Array UInt8} {t : Tok} {ws : List (List UInt8)} (hs : b.any Bytes.isSpace = true) (hw : Bytes.words (b.size + 1) (b.size + 1) b.toList = ws) (hz : ∀ x ∈ ws, x.length ≤ 1000) (hl : ws.length ≤ 1000) :
    Meets («bytes.split» ⟨[.bytes b t], []⟩) (fun _ R s => ∀ vs k, BAre vs (ws.map List.toArray) → R (.ok (.ret (.ref s.heap.objs.size))) { s with heap := s.heap.push { cls := .type "list", data := .seq vs.toArray }, toks := k }) := by
  refine .of_wp fun prog w A R s hS => ?_
  unfold «bytes.split» Bytes.splitM
  show wpAny _ _ (Bytes.bindOptional _ "split" ["sep", "maxsplit"] [] [] >>= fun r => _) _ _ s
  refine wpAny_bind (wpAny_of_eq (bind_split _) ?_)
  refine wpAny_bind (wpAny_pure ?_)
  refine wpAny_bind (wpAny_of_eq payload_eq ?_)
  refine wpAny_bind (wpAny_rule ?_)
  rw [hs, if_neg (by simp)]
  have e1 : (if (-1 : Int) < 0 then b.size + 1 else (-1 : Int).toNat) = b.size + 1 := rfl
  dsimp only
  rw [if_neg Bool.false_ne_true, e1, hw]
  refine wpAny_bind (mapM_new ws s _ hz fun vs k hv => ?_)
  refine wpAny_bind (wpAny_newList ?_ (by rw [PySem.sizeLine_eq, hv.length, List.length_map]; omega))
  exact wpAny_pure ⟨_, rfl, hS vs k hv⟩
end
theorem slot_bsplit : Slot "bytes" "split" "bytes.split" :=
  .of (owner := "bytes") (n := "split") (by rw [typeLookup_type, builtinLookup_eq_fast]; kernel_rfl) (by decide +kernel) (by decide +kernel) (by decide +kernel)
    (by first | exact .inl (by decide +kernel) | exact .inr (by decide +kernel)) (by rw [isSubtype_type]; kernel_rfl)
theorem type_bsplit : typeOf (.builtin "bytes.split") = pure (.type "method_descriptor") := by show builtinType _ = _; rw [builtinType_eq_fast]; kernel_rfl
theorem entry_bsplit : entryFor table "bytes.split" = some Builtin.«bytes.split» := entryFor_of_tree (by kernel_rfl)
theorem args_bsplit (a : Value) : argsOk "bytes.split" ⟨[a], []⟩ := by
  unfold argsOk; rw [signature?_of (id := "bytes.split") (n := ['t', 'i', 'l', 'p', 's']) (o := ['s', 'e', 't', 'y', 'b']) (by kernel_rfl) FB.owner_bytes]; kernel_rfl
theorem slot_bjoin : Slot "bytes" "join" "bytes.join" :=
  .of (owner := "bytes") (n := "join") (by rw [typeLookup_type, builtinLookup_eq_fast]; kernel_rfl) (by decide +kernel) (by decide +kernel) (by decide +kernel)
    (by first | exact .inl (by decide +kernel) | exact .inr (by decide +kernel)) (by rw [isSubtype_type]; kernel_rfl)
theorem type_bjoin : typeOf (.builtin "bytes.join") = pure (.type "method_descriptor") := by show builtinType _ = _; rw [builtinType_eq_fast]; kernel_rfl
theorem entry_bjoin : entryFor table "bytes.join" = some Builtin.«bytes.join» := entryFor_of_tree (by kernel_rfl)
theorem args_bjoin (a b : Value) : argsOk "bytes.join" ⟨[a, b], []⟩ := by
  unfold argsOk; rw [signature?_of (id := "bytes.join") (n := ['n', 'i', 'o', 'j']) (o := ['s', 'e', 't', 'y', 'b']) (by kernel_rfl) FB.owner_bytes]; kernel_rfl
section
variable {prog : Program} {w : World} {A : Around} {E : Value → Shared → Prop} {s : Shared} {h₀ : Heap} {L : Addr} {m : Str → Option Value} {news : Led}
theorem split_method {b : Array UInt8} {t : Tok} {pl : Sem Bool} {Q : Value × List Value → Shared → Prop} (h : Q (.builtin "bytes.split", [.bytes b t]) s) : wpAny (model prog w) A (getMethod (.bytes b t) "split" pl) Q E s :=
  KBd.method_of (.bytes b t) (typeIs_bytes _ _ _) slot_bsplit type_bsplit KBd.noRef h
theorem join_method {b : Array UInt8} {t : Tok} {pl : Sem Bool} {Q : Value × List Value → Shared → Prop} (h : Q (.builtin "bytes.join", [.bytes b t]) s) : wpAny (model prog w) A (getMethod (.bytes b t) "join" pl) Q E s :=
  KBd.method_of (.bytes b t) (typeIs_bytes _ _ _) slot_bjoin type_bjoin KBd.noRef h
theorem split_rule {b : Array UInt8} {t : Tok} {ws : List (List UInt8)} {Q : Value → Shared → Prop} (F : Fr h₀ L s.heap m) (N : News h₀ L s.heap news) (hs : b.any Bytes.isSpace = true) (hw : Bytes.words (b.size + 1) (b.size + 1) b.toList = ws) (hz : ∀ x ∈ ws, x.length ≤ 1000) (hl : ws.length ≤ 1000)
    (h : ∀ D vs h' k, Fr h₀ L h' m → News h₀ L h' ((D, listOf vs.toArray 0) :: news) → BAre vs (ws.map List.toArray) → Q (.ref D) { s with heap := h', toks := k }) :
    wpAny (model prog w) A (call (.builtin "bytes.split") [.bytes b t]) Q E s :=
  call_meets slot_bsplit (typeIs_bytes _ _ _) entry_bsplit (args_bsplit _) (meets_split hs hw hz hl) fun vs k hv =>
    h _ vs _ k (F.push _) (N.push F _) hv
end
end Mine

namespace Mine
open Builtin
set_option maxRecDepth 100000
theorem take_eq {id : String} {b : Array UInt8} {t : Tok} : Bytes.takeBufferQuiet? id (.bytes b t) 0 = pure (some (b, none)) := by
  unfold Bytes.takeBufferQuiet? Bytes.takeBuffer?
  rw [KBy.special_eq KBy.look_buffer, KBy.own_buffer]
  kernel_rfl
theorem BAre.at : ∀ {vs : List Value} {bs : List (Array UInt8)}, BAre vs bs → ∀ i, i < bs.length → ∃ b t, vs[i]? = some (.bytes b t) ∧ bs[i]? = some b
  | _, _, .nil, i, h => absurd h (Nat.not_lt_zero i)
  | _, _, .cons b t _, 0, _ => ⟨b, t, rfl, rfl⟩
  | _, _, .cons _ _ r, i + 1, h => r.at i (Nat.lt_of_succ_lt_succ h)
theorem BAre.low : ∀ {vs : List Value} {bs : List (Array UInt8)}, BAre vs bs → ∀ v ∈ vs, v.onHeap = false
  | _, _, .cons b t r, v, h => by
    rcases List.mem_cons.mp h with rfl | h
    · rfl
    · exact r.low v h
theorem joinLet_any {M : Model} {A : Around} {E : Value → Shared → Prop} {s : Shared} {keep : List Value} {Q : Unit → Shared → Prop} : ∀ {vs : List Value}, Q () s → wpAny M A (Bytes.joinLetGo (vs.map fun v => (v, none)) keep) Q E s
  | [], h => wpAny_pure h
  | v :: r, h => by
    show wpAny _ _ (Bytes.joinLetGo ((v, none) :: r.map fun v => (v, none)) keep) _ _ _
    unfold Bytes.joinLetGo
    exact wpAny_bind (wpAny_letGo (joinLet_any h))
theorem meets_join {sep : Array UInt8} {t : Tok} {l : Addr} {n : Nat} {vs : List Value} {bs : List (Array UInt8)} {c : Array UInt8} (hv : BAre vs bs) (h2 : 2 ≤ bs.length) (h9 : bs.length ≤ 1000)
    (hc : Bytes.joined sep bs = c) (hz : c.size ≤ 1000) (hz2 : (bs.toArray.foldl (· + ·.size) (sep.size * (bs.toArray.size - 1))) ≤ 1000) :
    Meets («bytes.join» ⟨[.bytes sep t, .ref l], []⟩) (fun _ R s => (∃ o, s.heap.get? l = some o ∧ o.cls = .type "list" ∧ o.data = .seq vs.toArray n) ∧ ∀ t' k, R (.ok (.ret (.bytes c t'))) { s with toks := k }) := by
  refine .of_wp fun prog w A R s hS => ?_
  obtain ⟨⟨o, ho, hcl, hod⟩, hR⟩ := hS
  unfold «bytes.join» Bytes.joinM
  refine wpAny_bind (wpAny_pure ?_)
  dsimp only
  rw [if_pos (by decide)]
  unfold Bytes.joinItems
  refine wpAny_bind (wpAny_bind (wpAny_typeOf ⟨o, ho, hcl⟩ ?_))
  rw [if_pos (by decide)]
  refine wpAny_pure ?_
  refine wpAny_bind (wpAny_seqItems ho hod ?_)
  dsimp only
  rw [if_pos (by decide)]
  have hvl : vs.length = bs.length := hv.length
  obtain ⟨v1, v2, r, hvs⟩ : ∃ v1 v2 r, vs = v1 :: v2 :: r := by
    match vs, hvl with
    | [], e => simp at e; omega
    | [_], e => simp at e; omega
    | v1 :: v2 :: r, _ => exact ⟨_, _, _, rfl⟩
  subst hvs
  with_unfolding_all refine wpAny_bind (m := forIn [:(v1 :: v2 :: r).toArray.size] _ _) ?_
  generalize v1 :: v2 :: r = vs at *
  rw [Std.Legacy.Range.forIn_eq_forIn_range']
  refine (wpAny_forIn_list _ (fun rest acc s' => s' = s ∧ ∃ i, i ≤ vs.length ∧ rest = List.range' i (vs.length - i) ∧ acc = ((bs.take i).toArray, (vs.take i).map fun v => (v, none))) _ ?_ ?_ _ _ ?_)
  · rintro x rest acc s' ⟨rfl, i, hi, hr, rfl⟩
    obtain ⟨j, hj⟩ : ∃ j, vs.length - i = j + 1 := ⟨vs.length - i - 1, by
      have : (x :: rest).length = vs.length - i := by rw [hr, List.length_range']
      rw [List.length_cons] at this
      omega⟩
    rw [hj, List.range'_succ] at hr
    obtain ⟨rfl, rfl⟩ := List.cons.inj hr
    have hlt : x < vs.length := by omega
    obtain ⟨b, u, e1, e2⟩ := hv.at x (by omega)
    have e3 : vs.toArray.getD x .none = .bytes b u := by simp [e1]
    refine wpAny_bind (wpAny_seqItems ho hod ?_)
    dsimp only
    have e4 : ((vs.take x).map fun v => (v, (none : Option Value))).any (fun p => p.1.onHeap) = false := by
      rw [List.any_map, List.any_eq_false]
      intro v hv2
      show ¬ v.onHeap = true
      rw [hv.low v (List.mem_of_mem_take hv2)]
      exact Bool.false_ne_true
    rw [e3, e4, if_neg (by decide)]
    refine wpAny_bind (wpAny_holding (wpAny_of_eq take_eq ?_))
    dsimp only
    refine wpAny_bind (wpAny_seqItems ho hod ?_)
    dsimp only
    rw [if_neg (by simp)]
    refine wpAny_pure ⟨rfl, x + 1, by omega, ?_, ?_⟩
    · rw [show vs.length - (x + 1) = j by omega]
    · rw [List.take_add_one, List.take_add_one, e1, e2]
      simp
  · rintro acc s' ⟨rfl, i, hi, hr, rfl⟩
    have hi' : i = vs.length := by
      have : ([] : List Nat).length = vs.length - i := by rw [hr, List.length_range']
      simp at this
      omega
    subst hi'
    rw [List.take_length, hvl, List.take_length]
    refine wpAny_bind (wpAny_of_eq payload_eq ?_)
    rw [if_neg (by unfold Bytes.tooLong; rw [PySem.sizeLine_eq]; simp only [decide_eq_true_eq]; omega)]
    dsimp only
    rw [hc]
    refine wpAny_bind (wpAny_mkBytes ?_ (by rw [PySem.sizeLine_eq]; omega))
    refine wpAny_bind (wpAny_holding (wpAny_point ?_))
    exact wpAny_bind (joinLet_any (wpAny_pure ⟨_, rfl, hR _ _⟩))
  · exact ⟨rfl, 0, Nat.zero_le _, by simp, by simp⟩
theorem join_rule {prog : Program} {w : World} {A : Around} {E : Value → Shared → Prop} {s : Shared} {h₀ : Heap} {L : Addr} {news : Led} {sep : Array UInt8} {t : Tok} {l : Addr} {n : Nat} {vs : List Value} {bs : List (Array UInt8)} {c : Array UInt8} {Q : Value → Shared → Prop}
    (N : News h₀ L s.heap news) (hm : (l, listOf vs.toArray n) ∈ news) (hv : BAre vs bs) (h2 : 2 ≤ bs.length) (h9 : bs.length ≤ 1000)
    (hc : Bytes.joined sep bs = c) (hz : c.size ≤ 1000) (hz2 : (bs.toArray.foldl (· + ·.size) (sep.size * (bs.toArray.size - 1))) ≤ 1000) (h : ∀ t' k, Q (.bytes c t') { s with toks := k }) :
    wpAny (model prog w) A (call (.builtin "bytes.join") [.bytes sep t, .ref l]) Q E s :=
  call_meets slot_bjoin (typeIs_bytes _ _ _) entry_bjoin (args_bjoin _ _) (meets_join hv h2 h9 hc hz hz2) ⟨⟨_, (N _ hm).1, rfl, rfl⟩, h⟩
end Mine

namespace Mine
open Builtin
set_option maxRecDepth 100000
def reCode : Array Nat := #[14, 4, 0, 8, 4294967295, 24, 5, 0, 4294967295, 2, 1, 16, 70, 16, 76, 16, 65, 16, 71, 16, 83, 16, 32, 16, 40, 17, 0, 24, 6, 0, 4294967295, 20, 41, 1, 17, 1, 16, 41, 1]
def headB : Array UInt8 := #[42, 32, 51, 32, 70, 69, 84, 67, 72, 32, 40, 79, 76, 68, 70, 76, 65, 71, 83, 32, 40, 66, 32, 67, 67, 41, 32, 70, 76, 65, 71, 83, 32, 40]
def wordsB (spots : List Int) : List (Array UInt8) := spots.map fun x => wordB x.toNat
def tailB (spots : List Int) : Array UInt8 := Bytes.joined #[32] (wordsB spots) ++ #[41, 41]
def replyB (spots : List Int) : Array UInt8 := headB ++ tailB spots
def flagsB (spots : List Int) : Array UInt8 := Bytes.joined #[32] (wordsB spots)
def reM (b : Array UInt8) : Sre.M := Sre.forMatch reCode (b.map (·.toNat)) 1 0 b.size false false
def reS (b : Array UInt8) : Option (Option Bool × Int × Option Nat × Option Nat) :=
  (driveN 100 (reM b)).map fun m => ((match m.outcome with | some .matched => some true | some .failed => some false | _ => none), m.lastmark, m.marks.getD 0 none, m.marks.getD 1 none)
theorem re_yes : ∀ spots ∈ outs, reS (replyB spots) = some (some true, 1, some 34, some ((replyB spots).size - 2)) := by
  unfold outs
  repeat' (first | exact List.forall_mem_nil _ | refine List.forall_mem_cons.mpr ⟨?_, ?_⟩)
  all_goals decide +kernel
theorem re_no : ∀ spots ∈ outs, ((driveN 100 (reM (tailB spots))).map fun m => match m.outcome with | some .matched => some true | some .failed => some false | _ => none) = some (some false) := by
  unfold outs
  repeat' (first | exact List.forall_mem_nil _ | refine List.forall_mem_cons.mpr ⟨?_, ?_⟩)
  all_goals decide +kernel
theorem fl_cut : ∀ spots ∈ outs, (((replyB spots).map (·.toNat)).extract 34 ((replyB spots).size - 2)).map (·.toUInt8) = flagsB spots := by
  unfold outs
  repeat' (first | exact List.forall_mem_nil _ | refine List.forall_mem_cons.mpr ⟨?_, ?_⟩)
  all_goals decide +kernel
theorem fl_sz : ∀ spots ∈ outs, (flagsB spots).size ≤ 1000 ∧ (replyB spots).size ≤ 1000 ∧ (tailB spots).size ≤ 1000 ∧ 34 ≤ (replyB spots).size - 2 := by decide +kernel
theorem fl_space : ∀ spots ∈ outs, (flagsB spots).any Bytes.isSpace = true := by decide +kernel
theorem fl_words : ∀ spots ∈ outs, Bytes.words ((flagsB spots).size + 1) ((flagsB spots).size + 1) (flagsB spots).toList = (wordsB spots).map (·.toList) := by decide +kernel
theorem fl_wz : ∀ spots ∈ outs, (∀ x ∈ (wordsB spots).map (·.toList), x.length ≤ 1000) ∧ ((wordsB spots).map (·.toList)).length ≤ 1000 := by decide +kernel
theorem fl_len : ∀ spots ∈ outs, (wordsB spots).length ≤ 3 := by decide +kernel
theorem outs_mem : ∀ spots ∈ outs, ∀ x ∈ spots, 1 ≤ x ∧ x ≤ 5 := by decide +kernel
theorem fl_join : ∀ spots ∈ outs, 2 ≤ (wordsB spots).length ∧ (wordsB spots).length ≤ 1000 ∧ (flagsB spots).size ≤ 1000 ∧ ((wordsB spots).toArray.foldl (· + ·.size) ((#[32] : Array UInt8).size * ((wordsB spots).toArray.size - 1))) ≤ 1000 := by decide +kernel
theorem cat_tail : ∀ spots ∈ outs, (flagsB spots).size + (#[41, 41] : Array UInt8).size ≤ 16777216 := by decide +kernel
theorem cat_reply : ∀ spots ∈ outs, headB.size + (tailB spots).size ≤ 16777216 := by decide +kernel
end Mine

namespace Mine
open Builtin Builtin.Re
set_option maxRecDepth 100000
def patO (fs : Array Value) (sl : Array (Option Value)) : Obj := { cls := .type "re.Pattern", dict := none, data := .fields fs, slots := sl }
structure PatAt (h : Heap) (w : World) (fs : Array Value) (sl : Array (Option Value)) : Prop where
  p : h.get? 36 = some (patO fs sl)
  f2 : reRawNat (fs.getD 2 .none) = 1
  f3 : fs.getD 3 .none = .ref 33
  f5 : fs.getD 5 .none = .ref 35
  f6 : reRawNat (fs.getD 6 .none) = 1
  c : ∃ o ws n, h.get? 35 = some o ∧ o.data = .seq ws n ∧ (ws.map reRawOf).map (·.toNat) = reCode
  d : ∃ t1 t2 ep, h.get? 33 = some { cls := .type "dict", data := .dict #[{ hash := PyData.keyHash w.params (Str.ofString "flags"), key := .str (Str.ofString "flags") t1, val := .int 1 t2 }] ep }
theorem patAt {w : World} {h : Heap} (X : (hd.heap_39 w.params).In h) : ∃ fs sl, PatAt h w fs sl :=
  ⟨_, _, X 36 _ rfl, rfl, rfl, rfl, rfl, ⟨_, _, _, X 35 _ rfl, rfl, by decide +kernel⟩, _, _, _, X 33 _ rfl⟩
theorem PatAt.keeps {w : World} {h h' : Heap} {fs : Array Value} {sl : Array (Option Value)} (x : PatAt h w fs sl) (k : ∀ b o, h.get? b = some o → h'.get? b = some o) : PatAt h' w fs sl :=
  ⟨k _ _ x.p, x.f2, x.f3, x.f5, x.f6, let ⟨o, ws, n, e, r⟩ := x.c; ⟨o, ws, n, k _ _ e, r⟩, let ⟨t1, t2, ep, e⟩ := x.d; ⟨t1, t2, ep, k _ _ e⟩⟩
section
variable {prog : Program} {w : World} {A : Around} {E : Value → Shared → Prop} {s : Shared} {h₀ : Heap} {L : Addr} {m : Str → Option Value} {news : Led} {fs : Array Value} {sl : Array (Option Value)}
def matO (b : Array UInt8) (t : Tok) (lim li : Value) (T : Addr) : Obj := { cls := .type "re.Match", data := .fields #[.bytes b t, .ref 36, rawInt 0, lim, li, .ref T] }
def spanO (st ha p e : Nat) : Obj := { cls := .type "tuple", data := .seq [rawInt st, rawInt ha, rawInt p, rawInt e].toArray }
theorem match_yes {spots : List Int} {t : Tok} {Q : Value → Shared → Prop} (ho : spots ∈ outs) (P : PatAt h₀ w fs sl) (F : Fr h₀ L s.heap m) (N : News h₀ L s.heap news)
    (h : ∀ mo T lim li st ha h', Fr h₀ L h' m → News h₀ L h' ((mo, matO (replyB spots) t lim li T) :: (T, spanO st ha 34 ((replyB spots).size - 2)) :: news) → Q (.ref mo) { s with heap := h' }) :
    wpAny (model prog w) A (call (.builtin "re.Pattern.match") [.ref 36, .bytes (replyB spots) t]) Q E s := by
  have P' := P.keeps F.keep
  obtain ⟨oT, ws, n, hT, hTd, hw⟩ := P'.c
  have hr := re_yes spots ho
  have hz := fl_sz spots ho
  unfold reS at hr
  obtain ⟨m', hm, he⟩ := Option.map_eq_some_iff.mp hr
  simp only [Prod.mk.injEq] at he
  obtain ⟨e0, e1, e2, e3⟩ := he
  refine match_rule P'.p hT hTd P'.f2 P'.f5 P'.f6 hw hz.2.1 hm (by decide) ?_
  unfold MatchEnd
  split
  · rename_i ho'; rw [ho'] at e0; cases e0
  · refine ⟨_, _, e1, e2, e3, hz.2.2.2, ?_⟩
    have F1 := F.push (spanO m'.start m'.handed 34 ((replyB spots).size - 2))
    have N1 := N.push F (spanO m'.start m'.handed 34 ((replyB spots).size - 2))
    have N2 := N1.push F1 (matO (replyB spots) t (rawInt (replyB spots).size) (rawInt m'.lastindex) s.heap.objs.size)
    exact h _ _ _ _ m'.start m'.handed _ (F1.push _) N2
  · rename_i x y
    match e : m'.outcome with
    | some .matched => exact absurd e y
    | some .failed => exact absurd e x
    | some (.stuck _) => rw [e] at e0; cases e0
    | none => rw [e] at e0; cases e0
theorem match_no {spots : List Int} {t : Tok} {Q : Value → Shared → Prop} (ho : spots ∈ outs) (P : PatAt h₀ w fs sl) (F : Fr h₀ L s.heap m)
    (h : Q .none s) :
    wpAny (model prog w) A (call (.builtin "re.Pattern.match") [.ref 36, .bytes (tailB spots) t]) Q E s := by
  have P' := P.keeps F.keep
  obtain ⟨oT, ws, n, hT, hTd, hw⟩ := P'.c
  have hr := re_no spots ho
  have hz := fl_sz spots ho
  obtain ⟨m', hm, e0⟩ := Option.map_eq_some_iff.mp hr
  refine match_rule P'.p hT hTd P'.f2 P'.f5 P'.f6 hw hz.2.2.1 hm (by decide) ?_
  unfold MatchEnd
  split
  · exact h
  · rename_i ho'; rw [ho'] at e0; cases e0
  · rename_i x y
    match e : m'.outcome with
    | some .matched => exact absurd e y
    | some .failed => exact absurd e x
    | some (.stuck _) => rw [e] at e0; cases e0
    | none => rw [e] at e0; cases e0
theorem pat_method {pl : Sem Bool} {Q : Value × List Value → Shared → Prop} (P : PatAt h₀ w fs sl) (F : Fr h₀ L s.heap m) (h : Q (.builtin "re.Pattern.match", [.ref 36]) s) : wpAny (model prog w) A (getMethod (.ref 36) "match" pl) Q E s :=
  match_method (P.keeps F.keep).p h
theorem mat_method {mo T : Addr} {b : Array UInt8} {t : Tok} {lim li : Value} {pl : Sem Bool} {Q : Value × List Value → Shared → Prop} (N : News h₀ L s.heap news) (hm : (mo, matO b t lim li T) ∈ news)
    (h : Q (.builtin "re.Match.group", [.ref mo]) s) : wpAny (model prog w) A (getMethod (.ref mo) "group" pl) Q E s := group_method N hm rfl rfl h
theorem mat_truthy {mo T : Addr} {b : Array UInt8} {t : Tok} {lim li : Value} {Q : Bool → Shared → Prop} (N : News h₀ L s.heap news) (hm : (mo, matO b t lim li T) ∈ news) (h : Q true s) : wpAny (model prog w) A (truthy (.ref mo)) Q E s :=
  truthy_mat ⟨_, (N _ hm).1, rfl⟩ h
theorem mat_group {spots : List Int} {mo T : Addr} {t tk : Tok} {lim li : Value} {st ha : Nat} {Q : Value → Shared → Prop} (ho : spots ∈ outs) (P : PatAt h₀ w fs sl) (F : Fr h₀ L s.heap m) (N : News h₀ L s.heap news)
    (hm : (mo, matO (replyB spots) t lim li T) ∈ news) (hT : (T, spanO st ha 34 ((replyB spots).size - 2)) ∈ news) (h : ∀ t' k, Q (.bytes (flagsB spots) t') { s with toks := k }) :
    wpAny (model prog w) A (call (.builtin "re.Match.group") [.ref mo, .str (Str.ofString "flags") tk]) Q E s := by
  have P' := P.keeps F.keep
  obtain ⟨t1, t2, ep, hD⟩ := P'.d
  exact group_rule (P := 36) (D := 33) (T := T) (st := st) (ha := ha) ⟨_, (N _ hm).1, rfl⟩ (fl_cut spots ho) (fl_sz spots ho).1 ⟨⟨_, _, _, (N _ hm).1, rfl⟩, ⟨_, _, (N _ hT).1, rfl⟩, ⟨_, _, P'.p, rfl, P'.f3⟩, t1, t2, ep, hD⟩ h
theorem flags_split {spots : List Int} {t : Tok} {Q : Value → Shared → Prop} (ho : spots ∈ outs) (F : Fr h₀ L s.heap m) (N : News h₀ L s.heap news)
    (h : ∀ D vs h' k, Fr h₀ L h' m → News h₀ L h' ((D, listOf (List.toArray vs) 0) :: news) → BAre vs (wordsB spots) → Q (.ref D) { s with heap := h', toks := k }) :
    wpAny (model prog w) A (call (.builtin "bytes.split") [.bytes (flagsB spots) t]) Q E s := by
  refine split_rule F N (fl_space spots ho) (fl_words spots ho) (fl_wz spots ho).1 (fl_wz spots ho).2 fun D vs h' k F' N' hv => h D vs h' k F' N' ?_
  have e : ((wordsB spots).map (·.toList)).map List.toArray = wordsB spots := by
    rw [List.map_map]
    exact (List.map_congr_left fun x _ => Array.toArray_toList).trans (List.map_id _)
  rw [e] at hv
  exact hv
end
end Mine

namespace Mine
/-- a new tuple of bytes -/
def tupO (vs : List Value) : Obj := { cls := .type "tuple", data := .seq vs.toArray }
def NewBT (bs : List (Array UInt8)) (news : Led) (r : Value) (news' : Led) : Prop :=
  ∃ (T : Addr) (vs : List Value), r = .ref T ∧ news' = (T, tupO vs) :: news ∧ BAre vs bs ∧ LCg.Off1 T news
set_option maxRecDepth 100000 in
set_option maxHeartbeats 8000000 in
theorem parse_c (w : World) (spots : List Int) (ho : spots ∈ outs) (t1 : Tok) :
    Fn w 50 1 16 [.bytes (replyB spots) t1] (fun _ => True) (NewBT (wordsB spots)) := by
  w_top off
  k_with_none
  unfold Fn
  intro mean mg mb dp un gd cn cs a ccd cl outer A₀ base h₀ L m news s Q E B F X N T hk hd hu ha hret
  revert X; k_fill; intro X
  refine wpAny_call ?_
  walk_at "mine enter"
  (rename Frag.In _ _ => X1); obtain ⟨fs, sl, PA⟩ := patAt X1
  k_with_none
  k_with "my getMethod" => (first
    | (k_dflt (refine pat_method PA (by k_asm) ?_))
    | (k_dflt (refine mat_method (by k_asm) (.head _) ?_))
    | (k_dflt (refine split_method ?_)))
  k_with "my match" => (k_dflt (refine match_yes ho PA (by k_asm) (by k_asm) ?_); intro mo T9 lim li st ha9 h9 F9 N9)
  k_with "my group" => (k_dflt (refine mat_group ho PA (by k_asm) (by k_asm) (.head _) (.tail _ (.head _)) ?_); intro t9 k9)
  k_with "my split" => (k_dflt (refine flags_split ho (by k_asm) (by k_asm) ?_); intro D8 vs8 h8 k8 F8 N8 hv8)
  k_with "my truthy" => (k_dflt (refine mat_truthy (by k_asm) (.head _) ?_))
  k_with "my tuple" => (k_dflt (refine kde_tupleOf (items := vs8.toArray) (by k_asm) (by k_asm) (PySem.IsL.isList (n := 0) (N8 _ (.head _)).1) (by rw [List.size_toArray, hv8.length]; exact Nat.le_trans (fl_len spots ho) (by decide)) rfl ?_); intro D7 h7 F7 N7 l7)
  k_steps
  (rename Fr _ _ _ _ => kF6); (rename News _ _ _ _ => kN6)
  exact hret _ _ _ _ kF6 (cb_drop kN6 (by kcf_all)) ⟨_, vs8, rfl, rfl, hv8, off1_of fun p hp => l7 p (.tail _ (.tail _ (.tail _ hp)))⟩
set_option maxRecDepth 100000 in
set_option maxHeartbeats 8000000 in
theorem parse_n (w : World) (spots : List Int) (ho : spots ∈ outs) (t1 : Tok) :
    Fn w 50 1 16 [.bytes (tailB spots) t1] (fun _ => True) (NewBT []) := by
  w_top off
  k_with_none
  unfold Fn
  intro mean mg mb dp un gd cn cs a ccd cl outer A₀ base h₀ L m news s Q E B F X N T hk hd hu ha hret
  revert X; k_fill; intro X
  refine wpAny_call ?_
  walk_at "mine enter"
  (rename Frag.In _ _ => X1); obtain ⟨fs, sl, PA⟩ := patAt X1
  k_with_none
  k_with "my getMethod" => (k_dflt (refine pat_method PA (by k_asm) ?_))
  k_with "my match" => (k_dflt (refine match_no ho PA (by k_asm) ?_))
  k_steps
  (rename Fr _ _ _ _ => kF6); (rename News _ _ _ _ => kN6); (rename (∀ p ∈ news, p.1 < _) => kl1)
  exact hret _ _ _ _ kF6 kN6 ⟨_, [], rfl, rfl, .nil, off1_of kl1⟩
end Mine

namespace Mine
def DrawsEnd (news : Led) (r : Value) (news' : Led) : Prop := ∃ res : List Int, (res.length = 2 ∨ res.length = 3) ∧ NewInts res news r news'
/-- a call that reads a list of the ground's -/
def FnL (w : World) (f : Addr) (d u : Nat) (ls : Addr) (items : List Value) (R : Led → Value → Led → Prop) : Prop :=
  ∀ (mean : ExcName → Option Value) (mg mb : Str → Option Value) (dp un : Nat) (gd : Option (List Code)) (cn : Str) (cs : Scope) (a : Addr) (ccd : Value) (cl : List (Str × Addr)) (outer : List Env) (A₀ : Around) (base h₀ : Heap) (L : Addr) (m : Str → Option Value) (news : Led) (s : Shared) (Q E : Value → Shared → Prop),
    Below A₀ base outer h₀ → Fr h₀ L s.heap m → (hd.heap_39 w.params).In h₀ → News h₀ L s.heap news → Top hd.view_39 (looseW hd.view_39 [Str.ofString "Flags"]) mean mg mb h₀ → cs.kind = .function →
    dp + d < recursionLimit → un + u < cLine → h₀.IsList ls items.toArray →
    (∀ r news' h' tk', Fr h₀ L h' m → News h₀ L h' news' → R news r news' → Q r { s with heap := h', toks := tk' }) →
    wpAny (model PySem.Challenge.rw_wn0046_01.row.prog w) (ktrTop dp un gd cn cs L a ccd cl outer) (call (.ref f) [.ref ls]) Q E s
theorem draws_len (f : Int → Int) (y : Int) : (List.take (3 - y.fmod 2).toNat (List.map f (rangeKs 0 (3 - 0 : Int).toNat))).length = 2 ∨ (List.take (3 - y.fmod 2).toNat (List.map f (rangeKs 0 (3 - 0 : Int).toNat))).length = 3 := by
  have h1 : 0 ≤ y.fmod 2 := Int.fmod_nonneg_of_pos _ (by omega)
  have h2 : y.fmod 2 < 2 := Int.fmod_lt_of_pos _ (by omega)
  rw [List.length_take, List.length_map, rangeKs_length]
  have h3 : (3 - 0 : Int).toNat = 3 := rfl
  omega
set_option maxRecDepth 100000 in
set_option maxHeartbeats 8000000 in
theorem draws_c (w : World) (ls : Addr) (items : List Value) (ns : List Int) (hi : IntsAre items ns) (hn : ns.length ≤ 63) : FnL w 90 1 16 ls items DrawsEnd := by
  w_top off
  k_with_none
  unfold FnL
  intro mean mg mb dp un gd cn cs a ccd cl outer A₀ base h₀ L m news s Q E B F X N T hk hd hu ha hret
  revert X; k_fill; intro X
  refine wpAny_call ?_
  walk_at "mine enter"
  (rename Fr h₀ L _ m => FG1)
  have hag := lstKept ha FG1.keep
  k_with_none
  k_steps
  (rename Fr h₀ L _ m => kF6); (rename News h₀ L _ _ => kN6); (rename IntsAre _ _ => kI6); (rename (_ ∧ _ ∧ AllLt _ news) => kl6)
  exact hret _ _ _ _ kF6 (cb_drop kN6 (by kcf_all)) ⟨_, draws_len _ _, _, _, _, rfl, rfl, kI6, off1_of (ktn_ltOf kl6.2.2)⟩
end Mine

namespace Mine
/-- the values that the turns give -/
inductive AllEl {α : Type} (El : α → Value → Prop) : List α → List Value → Prop
  | nil : AllEl El [] []
  | cons {a : α} {v : Value} {as : List α} {vs : List Value} : El a v → AllEl El as vs → AllEl El (a :: as) (v :: vs)
theorem AllEl.snoc {α : Type} {El : α → Value → Prop} {a : α} {v : Value} (h : El a v) : ∀ {as : List α} {vs : List Value}, AllEl El as vs → AllEl El (as ++ [a]) (vs ++ [v])
  | _, _, .nil => .cons h .nil
  | _, _, .cons x r => .cons x (r.snoc h)
theorem AllEl.length {α : Type} {El : α → Value → Prop} : ∀ {as : List α} {vs : List Value}, AllEl El as vs → vs.length = as.length
  | _, _, .nil => rfl
  | _, _, .cons _ r => congrArg Nat.succ r.length
theorem AllEl.at {α : Type} {El : α → Value → Prop} : ∀ {as : List α} {vs : List Value}, AllEl El as vs → ∀ (i : Nat) (v : Value), vs[i]? = some v → ∃ a, as[i]? = some a ∧ El a v
  | _, _, .nil, i, v, h => by simp at h
  | _, _, .cons x _, 0, v, h => by simp at h; subst h; exact ⟨_, rfl, x⟩
  | _, _, .cons _ r, i + 1, v, h => r.at i v (by simpa using h)
theorem AllEl.imp {α : Type} {El El' : α → Value → Prop} (h : ∀ a v, El a v → El' a v) : ∀ {as : List α} {vs : List Value}, AllEl El as vs → AllEl El' as vs
  | _, _, .nil => .nil
  | _, _, .cons x r => .cons (h _ _ x) (r.imp h)
theorem IntsAre.all {vs : List Value} {ns : List Int} (h : IntsAre vs ns) : AllEl (fun (k : Int) v => ∃ t, v = .int k t) ns vs := by
  induction h with
  | nil => exact .nil
  | cons n t _ ih => exact .cons ⟨t, rfl⟩ ih
theorem bare_all : ∀ {vs : List Value} {bs : List (Array UInt8)}, BAre vs bs → AllEl (fun (b : Array UInt8) v => ∃ t, v = .bytes b t) bs vs
  | _, _, .nil => .nil
  | _, _, .cons _ t r => .cons ⟨t, rfl⟩ (bare_all r)
theorem all_bare {α : Type} (f : α → Array UInt8) : ∀ {as : List α} {vs : List Value}, AllEl (fun a v => ∃ t, v = .bytes (f a) t) as vs → BAre vs (as.map f)
  | _, _, .nil => .nil
  | _, _, .cons ⟨t, e⟩ r => by subst e; exact .cons _ t (all_bare f r)
section
variable {prog : Program} {w : World} {A : Around} {h₀ : Heap} {L : Addr} {m : Str → Option Value} {env : Env} {elt : Expr} {x : Str} {scope : Scope} {cl : List (Str × Addr)} {s : Shared} {S : Led → Prop} {P : Nat → Value → Prop} {Fin : List Value → Led → Prop} {news : Led}
theorem comp_rest {α : Type} {n : Nat} {as : List α} (Src El : α → Value → Prop) (hn : as.length = n) (hP : ∀ i v, P i v → ∃ a, as[i]? = some a ∧ Src a v)
    (turn : ∀ a v I oI C oC D m₂ ys h tk (E' : Value → Shared → Prop), a ∈ as → Src a v → LCg.NsObj oC m₂ → m₂ x = some v → Fr h₀ L h m → News h₀ L h ((I, oI) :: (C, oC) :: (D, LCg.lst ys) :: news) → LCg.Off3 I C D news → ((@Ne Nat I C) ∧ (@Ne Nat I D) ∧ (@Ne Nat C D)) →
      wpAny (model prog w) A (eval elt (compEnvC scope cl C env)) (LCg.CompEnd h₀ L m { s with heap := h, toks := tk } I oI C oC D (LCg.lst ys) S (fun y news' => news' = news ∧ El a y)) E' { s with heap := h, toks := tk })
    (fin : ∀ ys, AllEl El as ys → Fin ys news) : LCg.CompRest prog w A h₀ L m env elt x scope cl s S P Fin n 0 [] news := by
  subst hn
  have key : ∀ (j i : Nat) (ys : List Value), i + j = as.length → AllEl El (as.take i) ys → LCg.CompRest prog w A h₀ L m env elt x scope cl s S P Fin j i ys news := by
    intro j
    induction j with
    | zero =>
      intro i ys hi hy
      have e : i = as.length := by omega
      subst e
      rw [List.take_length] at hy
      exact LCg.CompRest.zero (fin ys hy)
    | succ j ih =>
      intro i ys hi hy
      refine LCg.CompRest.succ ?_
      intro v I oI C oC D m₂ h tk E' hv hC hx F N off ne
      obtain ⟨a, ha, hs⟩ := hP i v hv
      refine wpAny_mono (turn a v I oI C oC D m₂ ys h tk E' (List.mem_of_getElem? ha) hs hC hx F N off ne) (fun y s₂ hq => ?_) fun _ _ e => e
      obtain ⟨h', tk', nw, e, F', N', off', hS, hnw, hy'⟩ := hq
      subst hnw
      refine ⟨h', tk', nw, e, F', N', off', hS, ?_⟩
      refine ih (i + 1) _ (by omega) ?_
      rw [List.take_add_one, ha]
      exact hy.snoc hy'
  exact key as.length 0 [] (by omega) (by rw [List.take_zero]; exact .nil)
theorem comp_list {α : Type} {as : List α} {vs : List Value} (Src El : α → Value → Prop) (hv : AllEl Src as vs)
    (turn : ∀ a v I oI C oC D m₂ ys h tk (E' : Value → Shared → Prop), a ∈ as → Src a v → LCg.NsObj oC m₂ → m₂ x = some v → Fr h₀ L h m → News h₀ L h ((I, oI) :: (C, oC) :: (D, LCg.lst ys) :: news) → LCg.Off3 I C D news → ((@Ne Nat I C) ∧ (@Ne Nat I D) ∧ (@Ne Nat C D)) →
      wpAny (model prog w) A (eval elt (compEnvC scope cl C env)) (LCg.CompEnd h₀ L m { s with heap := h, toks := tk } I oI C oC D (LCg.lst ys) S (fun y news' => news' = news ∧ El a y)) E' { s with heap := h, toks := tk })
    (fin : ∀ ys, AllEl El as ys → Fin ys news) : LCg.CompRest prog w A h₀ L m env elt x scope cl s S (fun i v => vs.toArray[i]? = some v) Fin vs.toArray.size 0 [] news :=
  comp_rest Src El (by rw [List.size_toArray]; exact hv.length.symm) (fun i v h => hv.at i v (by simpa using h)) turn fin
end
end Mine

namespace Mine
structure Texts (spots : List Int) (fb tb rb : Array UInt8) : Prop where
  f : fb = flagsB spots
  t : tb = tailB spots
  r : rb = replyB spots
section
variable {prog : Program} {w : World} {A : Around} {E : Value → Shared → Prop} {s : Shared} {h₀ : Heap} {L : Addr} {m : Str → Option Value} {news : Led} {t u : Tok} {Q : Value → Shared → Prop} {spots : List Int} {fb tb rb hb : Array UInt8}
theorem cat_tail_r (ho : spots ∈ outs) (T : Texts spots fb tb rb) (h : ∀ t' k, Q (.bytes tb t') { s with toks := k }) : wpAny (model prog w) A (binaryOp .Add (.bytes fb t) (.bytes #[41, 41] u)) Q E s := by
  obtain ⟨rfl, rfl, rfl⟩ := T
  exact b_cat rfl (cat_tail spots ho) h
theorem cat_reply_r (ho : spots ∈ outs) (T : Texts spots fb tb rb) (e : hb = headB) (h : ∀ t' k, Q (.bytes rb t') { s with toks := k }) : wpAny (model prog w) A (binaryOp .Add (.bytes hb t) (.bytes tb u)) Q E s := by
  obtain ⟨rfl, rfl, rfl⟩ := T
  subst e
  exact b_cat rfl (cat_reply spots ho) h
theorem join_flags {l : Addr} {n : Nat} {vs : List Value} (ho : spots ∈ outs) (T : Texts spots fb tb rb) (N : News h₀ L s.heap news) (hm : (l, listOf vs.toArray n) ∈ news) (hv : BAre vs (spots.map fun k => wordB k.toNat)) (h : ∀ t' k, Q (.bytes fb t') { s with toks := k }) :
    wpAny (model prog w) A (call (.builtin "bytes.join") [.bytes #[32] t, .ref l]) Q E s := by
  obtain ⟨rfl, rfl, rfl⟩ := T
  have hz := fl_join spots ho
  exact join_rule N hm hv hz.1 hz.2.1 rfl hz.2.2.1 hz.2.2.2 h
end
theorem parse_c' {w : World} {spots : List Int} {fb tb rb : Array UInt8} (T : Texts spots fb tb rb) (ho : spots ∈ outs) (t1 : Tok) : Fn w 50 1 16 [.bytes rb t1] (fun _ => True) (NewBT (wordsB spots)) := T.r ▸ parse_c w spots ho t1
theorem parse_n' {w : World} {spots : List Int} {fb tb rb : Array UInt8} (T : Texts spots fb tb rb) (ho : spots ∈ outs) (t1 : Tok) : Fn w 50 1 16 [.bytes tb t1] (fun _ => True) (NewBT []) := T.t ▸ parse_n w spots ho t1
end Mine

namespace Mine
section
variable {prog : Program} {w : World} {A : Around} {E : Value → Shared → Prop} {s : Shared} {h₀ : Heap} {L : Addr} {m : Str → Option Value} {env : Env}
/-- the source of a comprehension: a tuple of the ledger -/
def SrcTup (prog : Program) (w : World) (A : Around) (h₀ : Heap) (L : Addr) (m : Str → Option Value) (env : Env) (elt : Expr) (x : Str) (scope : Scope) (cl : List (Str × Addr)) (Fin : Shared → List Value → Led → Prop) (xv : Value) (s₁ : Shared) : Prop :=
  ∃ ax vs news, xv = .ref ax ∧ A.handled = none ∧ Fr h₀ L s₁.heap m ∧ News h₀ L s₁.heap news ∧ (ax, tupO vs) ∈ news ∧ vs.length ≤ 1000 ∧
    ∀ s₂ : Shared, (∃ h, s₂ = { s₁ with heap := h }) → LCg.CompRest prog w A h₀ L m env elt x scope cl s₂ (fun nw => (ax, tupO vs) ∈ nw) (fun i v => vs.toArray[i]? = some v) (Fin s₂) vs.toArray.size 0 [] news
theorem ListComp_T {elt iter : Expr} {x : Str} {px : Pos} {scope : Scope} {cl : List (Str × Addr)} {pos : Pos} {Q : Value → Shared → Prop} (_F₀ : Fr h₀ L s.heap m)
    (hclos : closureFor scope env = pure cl) (hcell : ∀ y ∈ scope.names, y.2 ≠ .cell) (hkind : scope.kind = .function)
    (hnames : ∀ y ∈ scope.names, y.2 = .local → scope.names.lookup y.1 = some .local) (hx : scope.names.lookup x = some .local)
    (h : wpAny (model prog w) A (eval iter env) (SrcTup prog w A h₀ L m env elt x scope cl (fun s₂ => LCg.FinE h₀ L m s₂ Q)) E s)
    (hs : ∀ x, foldedSetIterable iter env x = pure x := by intro _; rfl) :
    wpAny (model prog w) A (eval (.ListComp elt [⟨.Name x px, iter, [], 0⟩] scope pos) env) Q E s := by
  rw [eval_ListComp]
  refine wpAny_comprehension_free (use := none) rfl hs hclos hkind hnames (wpAny_mono h (fun xv s₁ h₁ => ?_) fun _ _ e => e)
  obtain ⟨ax, vs, news, rfl, hh, F, N, hm, hsz, R⟩ := h₁
  have hl : s₁.heap.IsTuple ax vs.toArray := ⟨_, (N _ hm).1, rfl, _, rfl⟩
  have hlt : ax < s₁.heap.objs.size := by obtain ⟨_, e, _⟩ := hl; exact Heap.lt_size e
  refine wpAny_pyIter_tuple hl ?_
  have up : ∀ b o, s₁.heap.get? b = some o → (s₁.heap.push { cls := .type "tuple_iterator", data := .fields #[.ref ax, .int 0 0] }).get? b = some o := fun b o e => Heap.get?_push_of_some _ e
  refine LCg.block_U (Walks.tuple hh s₁.heap.objs.size ax (Nat.ne_of_lt hlt) vs.toArray) (by rw [PySem.sizeLine_eq, List.size_toArray]; omega) (fun i h st => by obtain ⟨o, e, _⟩ := st.1; exact ⟨o, e⟩)
    (fun i h h' o nw st e e' k N S => ⟨by obtain ⟨o', q, r⟩ := st.1; rw [e] at q; cases q; exact ⟨o, e', r⟩, ⟨_, (N _ S).1, rfl, _, rfl⟩⟩)
    hcell hkind hx ⟨⟨_, Heap.get?_push_size _ rfl, rfl, rfl⟩, hl.push _⟩ (fun b hb => ?_)
    (F.keeps up) (N.grown up) (Nat.ne_of_lt F.ns.lt) (next_is_new F) (fun p hp => Nat.ne_of_lt (Heap.lt_size (N p hp).1)) hm (R _ ⟨_, rfl⟩) ?_
  · show b < (s₁.heap.push _).objs.size
    rw [Heap.size_push]
    rcases List.mem_cons.mp hb with rfl | hb
    · exact Nat.lt_succ_self _
    · rw [List.mem_singleton.mp hb]; exact Nat.lt_succ_of_lt hlt
  · intro D C h tk m' ys news' F' N' o1 hn hC₀ hD₀ hCL hDL hCD offC fin
    refine ⟨m', hn, fun h'' hs'' => fin D h'' tk (F'.change hs'' hCL hC₀) (fun p hp => ?_) o1⟩
    refine ⟨hs''.extBut _ _ ?_ (N' p hp).1, (N' p hp).2⟩
    rcases List.mem_cons.mp hp with rfl | hp
    · exact Ne.symm hCD
    · exact offC p hp
end
end Mine

namespace Mine
set_option maxRecDepth 100000
theorem wordB_eq : wordB 1 = (66 :: [67, 67, 67, 67]).toArray ∧ wordB 2 = (66 :: [66, 67, 67, 67]).toArray ∧ wordB 3 = (66 :: [66, 66, 67, 67]).toArray ∧ wordB 4 = (66 :: [66, 66, 66, 67]).toArray ∧ wordB 5 = (66 :: [66, 66, 66, 66]).toArray := by decide +kernel
theorem decode_word {prog : Program} {w : World} {A : Around} {E : Value → Shared → Prop} {s : Shared} {t : Tok} {sp : Nat} {wb : Array UInt8} {Q : Value → Shared → Prop} (e : wb = wordB sp) (h1 : 1 ≤ sp) (h5 : sp ≤ 5) (h : ∀ t' k, Q (.str (strW sp) t') { s with toks := k }) :
    wpAny (model prog w) A (call (.builtin "bytes.decode") [.bytes wb t]) Q E s := by
  subst e
  obtain ⟨e1, e2, e3, e4, e5⟩ := wordB_eq
  have hz : ∀ k, k ≤ 5 → (strW k).length ≤ 16777216 := fun k hk => by unfold strW; rw [strBC_len]; omega
  rcases (by omega : sp = 1 ∨ sp = 2 ∨ sp = 3 ∨ sp = 4 ∨ sp = 5) with rfl | rfl | rfl | rfl | rfl
  · rw [e1]; exact KBd.decode (x := strW 1) (n := 5) (by intro _; kernel_rfl) (hz _ (by omega)) h
  · rw [e2]; exact KBd.decode (x := strW 2) (n := 5) (by intro _; kernel_rfl) (hz _ (by omega)) h
  · rw [e3]; exact KBd.decode (x := strW 3) (n := 5) (by intro _; kernel_rfl) (hz _ (by omega)) h
  · rw [e4]; exact KBd.decode (x := strW 4) (n := 5) (by intro _; kernel_rfl) (hz _ (by omega)) h
  · rw [e5]; exact KBd.decode (x := strW 5) (n := 5) (by intro _; kernel_rfl) (hz _ (by omega)) h
/-- words of the spots, as values -/
theorem bare_spots : ∀ {spots : List Int} {vs : List Value}, BAre vs (wordsB spots) → AllEl (fun (k : Int) v => ∃ t, v = .bytes (wordB k.toNat) t) spots vs
  | [], _, h => by cases h; exact .nil
  | k :: r, _, h => by
    cases h with
    | cons b t r' => exact .cons ⟨t, rfl⟩ (bare_spots r')
end Mine

namespace Mine
section
variable {M : Model} {A : Around} {E : Value → Shared → Prop} {s : Shared} {h₀ : Heap} {L c : Addr} {m : Str → Option Value} {env : Env} {x : Str} {v : Value} {own : Led} {o : Obj} {v₀ : Option Value}
theorem store_C {Q : Unit → Shared → Prop} (F : Fr h₀ L s.heap m) (N : News h₀ L s.heap (own ++ [(c, o)])) (hk : env.scope.kind = .function) (hx : env.kindOf x = some .cell) (hc : env.cells.lookup x = some c) (hd : o.data = .cell v₀) (ho : ∀ p ∈ own, p.1 ≠ c)
    (h : ∀ h' o', Fr h₀ L h' m → News h₀ L h' (own ++ [(c, o')]) → o'.data = .cell (some v) → Q () { s with heap := h' }) : wpAny M A (storeName env x v) Q E s := by
  have hmem := N (c, o) (List.mem_append_right _ (.head _))
  refine wpAny_storeName_cell hk hx hc ⟨o, hmem.1, hd⟩ fun h' hv hs => ?_
  obtain ⟨o', ho', hd'⟩ := hv
  refine h h' o' ⟨F.ns.sameBut hs (Ne.symm hmem.2.1), fun b ob e => (hs.2 b (fun q => ?_)).trans (F.keep b ob e), F.above⟩ ?_ hd'
  · rw [q, hmem.2.2] at e; cases e
  · exact N.setAt ho (fun p hp => by cases hp) hs ho'
end
end Mine

namespace Mine
open PyProof.Rows PyProof.V PySem.Spec
set_option maxRecDepth 100000
theorem st_canLayAll0 : ∀ ns : List PySem.Str, (∀ x ∈ ns, PyData.strOk x = true) → PyData.canLayAll0 (ns.map PyData.str) = true
  | [], _ => rfl
  | x :: r, h => by simp [PyData.canLayAll0, PyData.canLay0, st_canLayAll0 r fun y hy => h y (.tail _ hy), h x (.head _)]
theorem st_depthAll : ∀ ns : List PySem.Str, PyData.depthAll (ns.map PyData.str) = 0
  | [] => rfl
  | _ :: r => by simp [PyData.depthAll, PyData.depth, st_depthAll r]
theorem st_shaped (ns : List PySem.Str) (h : ∀ x ∈ ns, PyData.strOk x = true) : SeqAt.shaped (.list (ns.map PyData.str)) = true := by
  simp [SeqAt.shaped, PyData.canLay0, PyData.depth, st_canLayAll0 ns h, st_depthAll]
theorem st_sameAll : ∀ ns : List PySem.Str, PySem.Spec.sameAll (ns.map PyData.str) (ns.map PyData.str) = true
  | [] => by simp [PySem.Spec.sameAll]
  | a :: r => by simp only [List.map_cons, PySem.Spec.sameAll, PySem.Spec.same, st_sameAll r]; simp
theorem st_carried {α : Type} (f : α → PySem.Str) : ∀ {as : List α} {vs : List Value}, AllEl (fun a v => ∃ t, v = .str (f a) t) as vs → CarriedAll vs ((as.map f).map PyData.str)
  | _, _, .nil => .nil
  | _, _, .cons ⟨t, e⟩ r => by subst e; exact .cons (.str _ t) (st_carried f r)
section
variable {prog : Program} {w : World} {A : Around} {E : Value → Shared → Prop} {s : Shared} {h₀ : Heap} {L a b : Addr} {m : Str → Option Value} {news : Led} {xs ys : List Value} {n k : Nat} {t u : Tok} {Q : Value → Shared → Prop}
theorem ne_words {α : Type} {as : List α} (f : α → PySem.Str) (N : News h₀ L s.heap news) (ha : (a, listOf xs.toArray n) ∈ news) (hb : (b, listOf ys.toArray k) ∈ news) (hi : AllEl (fun x v => ∃ t, v = .str (f x) t) as xs) (hj : AllEl (fun x v => ∃ t, v = .str (f x) t) as ys)
    (hs : ∀ x ∈ as, PyData.strOk (f x) = true) (hu : A.units + 64 < cLine) (h : Q (.bool false) s) : wpAny (model prog w) A (compareOp .NotEq (.ref a) (.ref b)) Q E s :=
  have hs' : ∀ x ∈ as.map f, PyData.strOk x = true := fun x hx => by obtain ⟨y, hy, rfl⟩ := List.mem_map.mp hx; exact hs y hy
  ne_dataH_same (reads_newData (PySem.IsL.isList (n := n) (N _ ha).1) (st_carried f hi)) (reads_newData (PySem.IsL.isList (n := k) (N _ hb).1) (st_carried f hj)) (st_shaped _ hs') (st_shaped _ hs') hu
    (SeqAt.noMix_of_shape (.list .str) rfl _ _ (list_map_has fun _ => rfl) (list_map_has fun _ => rfl)) (by simp only [PySem.Spec.same]; rw [st_sameAll]; exact h)
theorem ne_ints0 {ns : List Int} (N : News h₀ L s.heap news) (ha : (a, listOf xs.toArray n) ∈ news) (hb : (b, listOf ys.toArray k) ∈ news) (hi : IntsAre xs ns) (hj : IntsAre ys ns)
    (hu : A.units + 64 < cLine) (h : Q (.bool false) s) : wpAny (model prog w) A (compareOp .NotEq (.ref a) (.ref b)) Q E s :=
  ke_ne_ints (PySem.IsL.isList (n := n) (N _ ha).1) (PySem.IsL.isList (n := k) (N _ hb).1) hi hj hu (by rw [decide_eq_true rfl]; exact h)
theorem ne_tup0 {o o' : Obj} (N : News h₀ L s.heap news) (ha : (a, o) ∈ news) (hb : (b, o') ∈ news) (hc : o.cls = .type "tuple") (hc' : o'.cls = .type "tuple") (hd : o.data = .seq #[] n) (hd' : o'.data = .seq #[] k)
    (hu : A.units + 64 < cLine) (h : Q (.bool false) s) : wpAny (model prog w) A (compareOp .NotEq (.ref a) (.ref b)) Q E s :=
  have e : PyData.eqv (.tuple []) (.tuple []) = true := by decide
  ne_dataH (reads_tuple_at (N _ ha).1 hc hd .nil) (reads_tuple_at (N _ hb).1 hc' hd' .nil) (by decide) (by decide) hu (by rw [e]; exact h)
theorem strW_ok : ∀ k, k < 6 → PyData.strOk (strW k) = true := by decide +kernel
theorem mul_B {sp : Nat} (h1 : 1 ≤ sp) (h5 : sp ≤ 5) (h : ∀ t' k, Q (.str (strBC sp 0) t') { s with toks := k }) : wpAny (model prog w) A (binaryOp .Mult (.str (Str.ofString "B") t) (.int (sp : Int) u)) Q E s := by
  have e : ∀ k : Nat, k < 6 → 1 ≤ k → Txt.mul (Str.ofString "B") (k : Int) = strBC k 0 := by decide +kernel
  have ok : ∀ k : Nat, k < 6 → 1 ≤ k → (decide ((k : Int) < -(2 ^ 63 : Int)) || decide ((k : Int) ≥ 2 ^ 63)) = false ∧ (¬ (k : Int) < 1 → ((k : Int) == 1 || (Str.ofString "B").length == 0) = false → ¬ (((Str.ofString "B").length : Int) > (2 ^ 63 - 1) / (k : Int))) ∧
      (¬ (k : Int) < 1 → ((k : Int) == 1 || (Str.ofString "B").length == 0) = false → Builtin.Str.tooLong ((Str.ofString "B").length * (k : Int).toNat) = false) := by decide +kernel
  refine SB.mul (ok sp (by omega) h1) fun t' k => ?_
  rw [e sp (by omega) h1]
  exact h t' k
theorem mul_C {c : Nat} {n : Int} (en : n = (c : Int)) (h5 : c ≤ 4) (h : ∀ t' k, Q (.str (strBC 0 c) t') { s with toks := k }) : wpAny (model prog w) A (binaryOp .Mult (.str (Str.ofString "C") t) (.int n u)) Q E s := by
  subst en
  have e : ∀ k : Nat, k < 5 → Txt.mul (Str.ofString "C") (k : Int) = strBC 0 k := by decide +kernel
  have ok : ∀ k : Nat, k < 5 → (decide ((k : Int) < -(2 ^ 63 : Int)) || decide ((k : Int) ≥ 2 ^ 63)) = false ∧ (¬ (k : Int) < 1 → ((k : Int) == 1 || (Str.ofString "C").length == 0) = false → ¬ (((Str.ofString "C").length : Int) > (2 ^ 63 - 1) / (k : Int))) ∧
      (¬ (k : Int) < 1 → ((k : Int) == 1 || (Str.ofString "C").length == 0) = false → Builtin.Str.tooLong ((Str.ofString "C").length * (k : Int).toNat) = false) := by decide +kernel
  refine SB.mul (ok c (by omega)) fun t' k => ?_
  rw [e c (by omega)]
  exact h t' k
theorem add_BC {sp c : Nat} (h5 : sp ≤ 5) (h4 : c ≤ 5) (h : ∀ t' k, Q (.str (strBC sp c) t') { s with toks := k }) : wpAny (model prog w) A (binaryOp .Add (.str (strBC sp 0) t) (.str (strBC 0 c) u)) Q E s := by
  have e : ∀ k : Nat, k < 6 → ∀ j : Nat, j < 6 → strBC k 0 ++ strBC 0 j = strBC k j := by decide +kernel
  refine SB.add (fun t' k => ?_) (by rw [PySem.sizeLine_eq, strBC_len, strBC_len]; omega)
  rw [e sp (by omega) c (by omega)]
  exact h t' k
end
end Mine

namespace Mine
set_option maxRecDepth 100000
def levG (spots : List Int) (k : Int) : Int := if k = spots.getD 0 0 then 0 else 2
theorem outs_first : ∀ spots ∈ outs, (∀ k ∈ spots, spots.getD 0 0 ≤ k) ∧ 1 ≤ spots.getD 0 0 ∧ spots.map (levG spots) = ([0, 2, 2] : List Int).take spots.length := by decide +kernel
theorem lev_first {w : World} {spots : List Int} (ho : spots ∈ outs) {k : Int} (hk : k ∈ spots) {w0 wv : PySem.Str} (e0 : w0 = strW (spots.getD 0 0).toNat) (e1 : wv = strW k.toNat) (t1 t2 t3 : Tok) :
    Fn w 85 3 24 [.str w0 t1, .str wv t2, .int 1 t3] (fun _ => True) (RetInt (levG spots k)) := by
  subst e0 e1
  obtain ⟨h1, h2, _⟩ := outs_first spots ho
  have h3 := h1 k hk
  have h5 := outs_mem spots ho k hk
  unfold levG
  by_cases c : k = spots.getD 0 0
  · rw [if_pos c, c]
    exact lev_eq w _ 1 t1 t2 t3
  · rw [if_neg c]
    have e : levV (spots.getD 0 0).toNat k.toNat 1 = 2 := by
      unfold levV
      rw [if_neg (by omega)]
      rfl
    rw [← e]
    exact lev_lt w _ _ 1 t1 t2 t3 (by omega) (by omega) (by omega) (by omega) (by omega)
theorem word_at {spots : List Int} {ys : List Value} (h : AllEl (fun (k : Int) v => ∃ t, v = .str (strW k.toNat) t) spots ys) : ∀ j, j < spots.length → ∃ t, ys[j]? = some (.str (strW (spots.getD j 0).toNat) t) := by
  intro j hj
  have hv : ys[j]? = some (ys[j]'(by rw [h.length]; exact hj)) := List.getElem?_eq_getElem _
  obtain ⟨a, ha, t, e⟩ := h.at j _ hv
  refine ⟨t, ?_⟩
  rw [hv, e]
  have : spots.getD j 0 = a := by rw [List.getD_eq_getElem?_getD, ha]; rfl
  rw [this]
theorem item_0 {prog : Program} {w : World} {A : Around} {E : Value → Shared → Prop} {s : Shared} {h₀ : Heap} {L : Addr} {news : Led} {value slice : PySem.Expr} {l : Addr} {vs : List Value} {n : Nat} {v : Value} {u : Tok} {Q : Value → Shared → Prop}
    (N : News h₀ L s.heap news) (hm : (l, listOf vs.toArray n) ∈ news) (e : vs[0]? = some v) (h : Q v s)
    (hs : subscripted slice false (.ref l) (.int 0 u) = operate [.ref l, .int 0 u] (getItem (.ref l) (.int 0 u)) := by with_unfolding_all rfl) :
    wpAny (model prog w) A (subscriptTail value slice (.ref l) (.int 0 u)) Q E s := by
  have hl : s.heap.IsList l vs.toArray := PySem.IsL.isList (n := n) (N _ hm).1
  exact tail_any hl.typeIs slot_list_getitem.lookup (wpAny_getItem_list hl (by omega) (by omega) (x := v) (by simpa using e) h) hs
theorem all_ints (f : Int → Int) : ∀ {as : List Int} {vs : List Value}, AllEl (fun k v => ∃ t, v = .int (f k) t) as vs → IntsAre vs (as.map f)
  | _, _, .nil => .nil
  | _, _, .cons ⟨t, e⟩ r => by subst e; exact .cons _ t (all_ints f r)
section
variable {prog : Program} {w : World} {A : Around} {E : Value → Shared → Prop} {s : Shared} {h₀ : Heap} {L l : Addr} {m : PySem.Str → Option Value} {news : Led} {value slice : PySem.Expr} {vs : List Value} {ns : List Int} {n : Nat} {x : Int} {u : Tok} {Q : Value → Shared → Prop}
theorem tail_opsT {o i : Value} {T id : String} {ops : List Value} (hT : s.TypeIs o T)
    (hl : typeLookup (.type T) "__getitem__" = pure (some (.builtin id))) (h : wpAny (model prog w) A (getItem o i) Q E s)
    (hs : subscripted slice false o i = operate ops (getItem o i)) : wpAny (model prog w) A (subscriptTail value slice o i) Q E s := by
  unfold subscriptTail
  refine wpAny_bind ?_
  rw [getitemInPython_of_ne hT.not_modules]
  refine wpAny_bind (wpAny_specialOf hT hl ?_)
  have fin : wpAny (model prog w) A (subscripted slice false o i) (fun r s₃ => wpAny (model prog w) A (letTemporaryGo value o r >>= fun _ => pure r) Q E s₃) E s := by
    rw [hs]
    exact wpAny_operating (wpAny_mono h (fun r s₃ h₃ => wpAny_bind (wpAny_letTemporaryGo (wpAny_pure h₃))) fun _ _ x => x)
  first
    | exact wpAny_pure (wpAny_bind fin)
    | exact wpAny_bind (wpAny_pure (wpAny_bind fin))
    | exact wpAny_bind fin
/-- the head of a list display -/
theorem sl_upT (F : Fr h₀ L s.heap m) (N : News h₀ L s.heap news) (hm : (l, listOf vs.toArray n) ∈ news) (hi : IntsAre vs ns) (hx : 0 ≤ x) (hz : ns.length ≤ 1000)
    (h : ∀ D ws h', Fr h₀ L h' m → News h₀ L h' ((D, listOf (List.toArray ws) 0) :: news) → (∀ p ∈ news, p.1 < D) → IntsAre ws (ns.take x.toNat) → Q (.ref D) { s with heap := h' })
    (hs : subscripted slice false (.ref l) (.ref s.heap.objs.size) = operate [.ref s.heap.objs.size, .ref l] (getItem (.ref l) (.ref s.heap.objs.size))) :
    wpAny (model prog w) A (subscriptTail value slice (.ref l) (.ref s.heap.objs.size)) Q E { s with heap := s.heap.push { cls := .type "slice", data := .fields #[.none, .int x u, .none] } } := by
  have hl : s.heap.IsList l vs.toArray := PySem.IsL.isList (n := n) (N _ hm).1
  refine tail_opsT (Heap.IsList.typeIs (s := { s with heap := s.heap.push { cls := .type "slice", data := .fields #[.none, .int x u, .none] } }) (hl.push _)) list_getitem_lookup
    (wpAny_getItem_list_slice (hl.push _) (Heap.IsSliceOf.new ..) .none (.int x u) .none (by simp) ?_ (by rw [List.size_toArray, hi.length, sizeLine_eq]; omega)) hs
  have N1 := News.push (F.push { cls := .type "slice", data := .fields #[.none, .int x u, .none] }) (N.grown fun _ _ e => Heap.get?_push_of_some _ e) { cls := .type "list", data := .seq (slicePick vs.toArray none (some x) none) }
  have e : slicePick vs.toArray none (some x) none = (slicePick vs.toArray none (some x) none).toList.toArray := by rw [Array.toArray_toList]
  refine h _ (slicePick vs.toArray none (some x) none).toList _ ((F.push _).push _) ?_ (fun p hp => ?_) (kmk_upto hi hx)
  · rw [Array.toArray_toList]
    exact N1
  · show p.1 < (s.heap.push _).objs.size
    rw [Heap.size_push]
    exact Nat.lt_succ_of_lt (Heap.lt_size (N p hp).1)
end
end Mine

namespace Mine
set_option maxRecDepth 100000
theorem fin_bounds : ∀ spots ∈ outs, (-(2 ^ 40) ≤ prodL spots ∧ prodL spots ≤ 2 ^ 40) ∧ (-(2 ^ 40) ≤ domL spots ∧ domL spots ≤ 2 ^ 40) ∧ (-(2 ^ 40) ≤ lozL spots ∧ lozL spots ≤ 2 ^ 40) ∧ (-(2 ^ 40) ≤ 2 * lozL spots ∧ 2 * lozL spots ≤ 2 ^ 40) := by decide +kernel
theorem fin_2 : ∀ spots ∈ outs, spots.length = 2 → prodL spots * 2 ^ 2 = 1 * domL spots ∧ prodL spots = (1 * lozL spots) * 2 ^ 1 := by decide +kernel
theorem fin_3 : ∀ spots ∈ outs, spots.length = 3 → prodL spots * 2 ^ 3 = 2 * domL spots ∧ prodL spots = (2 * lozL spots) * 2 ^ 3 := by decide +kernel
theorem fin_dom : ∀ spots ∈ outs, ∀ i, i < 3 → (domD spots i).length ≤ 1024 := by decide +kernel
theorem shl_c' {w : World} {x y z : Int} {k : Nat} {t1 t2 : Tok} (e : y = (k : Int)) (hx : -(2 ^ 40) ≤ x ∧ x ≤ 2 ^ 40) (hk4 : k ≤ 4) (ez : x * 2 ^ k = z) : Fn w 57 1 8 [.int x t1, .int y t2] (fun _ => True) (RetInt z) := by
  subst e ez
  exact shl_c w x k t1 t2 hx hk4
theorem mul_c' {w : World} {x y z : Int} {t1 t2 : Tok} (hx : -(2 ^ 40) ≤ x ∧ x ≤ 2 ^ 40) (hy : -(2 ^ 40) ≤ y ∧ y ≤ 2 ^ 40) (ez : x * y = z) : Fn w 64 1 8 [.int x t1, .int y t2] (fun _ => True) (RetInt z) := by
  subst ez
  exact mul_c w x y t1 t2 hx hy
/-- the numbers of the two fields -/
structure Nums (spots : List Int) (st : Int) (k k2 : Nat) (P X D Z Y : Int) : Prop where
  p : prodL spots = P
  d : domL spots = D
  z : lozL spots = Z
  x : P * 2 ^ k = X
  m : st * D = X
  y : st * Z = Y
  l : Y * 2 ^ k2 = P
  bp : -(2 ^ 40) ≤ P ∧ P ≤ 2 ^ 40
  bd : -(2 ^ 40) ≤ D ∧ D ≤ 2 ^ 40
  bz : -(2 ^ 40) ≤ Z ∧ Z ≤ 2 ^ 40
  by_ : -(2 ^ 40) ≤ Y ∧ Y ≤ 2 ^ 40
theorem nums2 {spots : List Int} (ho : spots ∈ outs) (h : spots.length = 2) : ∃ P X D Z Y, Nums spots 1 2 1 P X D Z Y := by
  obtain ⟨b1, b2, b3, b4⟩ := fin_bounds spots ho
  obtain ⟨e1, e2⟩ := fin_2 spots ho h
  exact ⟨_, _, _, _, _, rfl, rfl, rfl, rfl, e1.symm, rfl, e2.symm, b1, b2, b3, by omega⟩
theorem nums3 {spots : List Int} (ho : spots ∈ outs) (h : spots.length = 3) : ∃ P X D Z Y, Nums spots 2 3 3 P X D Z Y := by
  obtain ⟨b1, b2, b3, b4⟩ := fin_bounds spots ho
  obtain ⟨e1, e2⟩ := fin_3 spots ho h
  exact ⟨_, _, _, _, _, rfl, rfl, rfl, rfl, e1.symm, rfl, e2.symm, b1, b2, b3, b4⟩
end Mine

namespace Mine
set_option maxRecDepth 100000 in
set_option maxHeartbeats 1200000 in
theorem law_holds : PySem.Challenge.rw_wn0046_01.Holds := hd (by
  w_top off
  k_with_none
  k_go0
  all_goals (try k_fold)
  k_with "my call" => (refine stopI ?_)
  k_steps
  unfold Stop
  (rename Heap.IsList _ _ _ => hls)
  (rename IntsAre _ _ => hi0)
  (rename (¬ ((63 : Nat) : Int) < _) => h63)
  refine draws_c _ _ _ _ hi0 (by omega) _ _ _ _ _ _ _ _ _ _ _ _ _ _ _ _ _ _ _ _ _ (by k_asm) (by k_asm) (by k_asm) (by k_asm) (by k_asm) (by first | exact rfl | assumption) (by ktr_room) (by ktr_units) (by first | assumption | k_asm) ?_
  rintro _ _ hd1 tkd1 Fd1 Nd1 ⟨draws, hdl, ld, dits, nd, rfl, rfl, hdi, offd⟩
  (try k_unmd); (try k_fold)
  k_steps
  unfold Stop
  refine Fn.use (left_c _ ld draws (by omega)) (by k_asm) (by k_asm) (by k_asm) (by k_asm) (by k_asm) (by first | exact rfl | assumption) (by ktr_room) (by ktr_units) ⟨dits, nd, .head _, hdi⟩ ?_
  rintro _ _ hd2 tkd2 Fd2 Nd2 ⟨ls, sits, n2, rfl, rfl, hsi, offs⟩
  have hout := leftL_outs draws hdl
  obtain ⟨spots, hspots⟩ : ∃ spots, spots = leftL draws := ⟨_, rfl⟩
  rw [← hspots] at hsi hout
  (try k_unmd); (try k_fold)
  k_with "my comp" => (k_dflt (refine LCg.ListComp_U (F₀ := by k_asm) (by with_unfolding_all rfl) (by decide) (by rfl) (by decide) (by rfl) ?_))
  k_with "my CompSrc" => (refine stopI ?_)
  k_with "my getMethod" => (k_dflt (refine join_method ?_))
  k_steps
  unfold Stop
  refine Fn.use (cut_c _ ld draws (by omega)) (by k_asm) (by k_asm) (by k_asm) (by k_asm) (by k_asm) (by first | exact rfl | assumption) (by ktr_room) (by ktr_units) ⟨dits, nd, .tail _ (.head _), hdi⟩ ?_
  rintro _ _ hd3 tkd3 Fd3 Nd3 ⟨lc, cits, n3, rfl, rfl, hci, offc⟩
  rw [← hspots] at hci
  clear hspots
  (try k_unmd); (try k_fold)
  k_steps
  unfold Stop
  (refine LCg.CompSrc.ledger (by rfl) (by k_asm) (by k_asm) (.head _) (by rw [PySem.sizeLine_eq, List.size_toArray, hci.length]; have := outs_len spots hout; omega) ?_)
  intro g'
  refine' comp_list (fun (k : Int) v => ∃ t, v = .int k t) (fun (k : Int) v => ∃ t, v = .bytes (wordB k.toNat) t) (Mine.IntsAre.all hci) (fun k' v' I' oI' C' oC' D' m' ys' h' tk' E' hk' hv' hC' hx' F' N' off' ne' => ?_) ?_
  · obtain ⟨t', rfl⟩ := hv'
    obtain ⟨hb1, hb2⟩ := outs_mem spots hout k' hk'
    obtain ⟨sp, rfl⟩ : ∃ sp : Nat, k' = (sp : Int) := ⟨k'.toNat, by omega⟩
    (try k_unmd); (try k_fold)
    k_with "my CompEnd" => (refine stopI ?_)
    k_steps
    unfold Stop
    refine Fn.use (word_c _ sp (by omega) (by omega) _) (by k_asm) (by k_asm) (by k_asm) (by k_asm) (by k_asm) (by first | exact rfl | assumption) (by ktr_room) (by ktr_units) trivial ?_
    rintro _ _ hs2 tks2 Fs Ns ⟨⟨ts, rfl⟩, rfl⟩
    (try k_unmd); (try k_fold)
    k_steps
    unfold Stop
    exact LCg.CompEnd.intro (by assumption) (by assumption) _ (by kcf_all) (by assumption) (Or.inr ⟨_, .head _, rfl, _, rfl⟩) ⟨rfl, _, rfl⟩
  intro ys4 hys4 D4 h4 tk4 F4 N4 off4
  (try dsimp only at F4 N4)
  have hb4 := all_bare (fun k : Int => wordB k.toNat) hys4
  obtain ⟨fb, tb, rb, HT⟩ : ∃ fb tb rb, Texts spots fb tb rb := ⟨_, _, _, rfl, rfl, rfl⟩
  k_with "my join" => (k_dflt (refine join_flags hout HT (by k_asm) (.head _) hb4 ?_); intro tj kj)
  k_with "my cat" => ((first | with_reducible refine cat_tail_r hout HT ?_ | ((with_reducible refine cat_reply_r hout HT ?e1 ?_); (case e1 => exact rfl))); intro tc kc)
  k_with "my assigncomp" => (fail "x")
  k_with "my comp" => (k_dflt (refine ListComp_T (by k_asm) (by with_unfolding_all rfl) (by decide) (by rfl) (by decide) (by rfl) ?_))
  k_with "my getMethod" => (fail "x")
  (try k_unmd); (try k_fold)
  k_steps
  unfold Stop
  refine Fn.use (parse_c' HT hout _) (by k_asm) (by k_asm) (by k_asm) (by k_asm) (by k_asm) (by first | exact rfl | assumption) (by ktr_room) (by ktr_units) trivial ?_
  rintro _ _ hd5 tkd5 Fd5 Nd5 ⟨T5, vs5, rfl, rfl, hv5, off5⟩
  have ha5 := bare_spots hv5
  refine ⟨T5, vs5, _, rfl, rfl, Fd5, Nd5, .head _, by rw [ha5.length]; have := outs_len spots hout; omega, ?_⟩
  rintro s5 ⟨g5, rfl⟩
  refine' comp_list (fun (k : Int) v => ∃ t, v = .bytes (wordB k.toNat) t) (fun (k : Int) v => ∃ t, v = .str (strW k.toNat) t) ha5 (fun k' v' I' oI' C' oC' D' m' ys' h' tk' E' hk' hv' hC' hx' F' N' off' ne' => ?_) ?_
  · obtain ⟨t', rfl⟩ := hv'
    obtain ⟨hb1, hb2⟩ := outs_mem spots hout k' hk'
    (try k_unmd); (try k_fold)
    k_with "my CompEnd" => (refine stopI ?_)
    obtain ⟨wb, hwb⟩ : ∃ wb, wb = wordB k'.toNat := ⟨_, rfl⟩
    rw [← hwb] at hx'
    k_with "my getMethod" => (with_reducible refine KBd.method ?_)
    k_with "my decode" => ((with_reducible refine decode_word hwb ?e1 ?e2 ?_); (case e1 => omega); (case e2 => omega); intro td kd)
    k_steps
    unfold Stop
    exact LCg.CompEnd.intro (by assumption) (by assumption) _ (by kcf_all) (by assumption) (.head _) ⟨rfl, _, rfl⟩
  intro ys6 hys6 D6 h6 tk6 F6 N6 off6
  (try dsimp only at F6 N6)
  (try k_unmd); (try k_fold)
  k_steps
  refine store_C (own := [(D6, _), (T5, _), (D4, _), (lc, _), (ls, _), (ld, _)]) F6 N6 rfl rfl rfl (by assumption) ?_ ?_
  · exact List.forall_mem_cons.mpr ⟨Ne.symm (off1_ne off6 _ (.tail _ (.tail _ (.tail _ (.tail _ (.tail _ (.head _))))))), List.forall_mem_cons.mpr ⟨Ne.symm (off1_ne off5 _ (.tail _ (.tail _ (.tail _ (.tail _ (.head _)))))),
      List.forall_mem_cons.mpr ⟨Ne.symm (off1_ne off4 _ (.tail _ (.tail _ (.tail _ (.head _))))), List.forall_mem_cons.mpr ⟨Ne.symm (off1_ne offc _ (.tail _ (.tail _ (.head _)))),
      List.forall_mem_cons.mpr ⟨Ne.symm (off1_ne offs _ (.tail _ (.head _))), List.forall_mem_cons.mpr ⟨Ne.symm (off1_ne offd _ (.head _)), List.forall_mem_nil _⟩⟩⟩⟩⟩⟩
  intro h7 o7 F7 N7 hc7
  replace N7 : News _ _ h7 [(D6, listOf ys6.toArray ys6.length), (ls, listOf sits.toArray n2), (_, o7)] := cb_drop N7 (by kcf_all)
  (try k_unmd); (try k_fold)
  k_with "my comp" => (k_dflt (refine LCg.ListComp_U (F₀ := by k_asm) (by with_unfolding_all rfl) (by decide) (by rfl) (by decide) (by rfl) ?_))
  k_steps
  unfold Stop
  (refine LCg.CompSrc.ledger (by rfl) (by k_asm) (by k_asm) (.tail _ (.head _)) (by rw [PySem.sizeLine_eq, List.size_toArray, hsi.length]; have := outs_len spots hout; omega) ?_)
  intro g8
  refine' comp_list (fun (k : Int) v => ∃ t, v = .int k t) (fun (k : Int) v => ∃ t, v = .str (strW k.toNat) t) (Mine.IntsAre.all hsi) (fun k' v' I' oI' C' oC' D' m' ys' h' tk' E' hk' hv' hC' hx' F' N' off' ne' => ?_) ?_
  · obtain ⟨t', rfl⟩ := hv'
    obtain ⟨hb1, hb2⟩ := outs_mem spots hout k' hk'
    obtain ⟨sp, rfl⟩ : ∃ sp : Nat, k' = (sp : Int) := ⟨k'.toNat, by omega⟩
    (try k_unmd); (try k_fold)
    k_with "my CompEnd" => (refine stopI ?_)
    k_with "my smul" => ((first
      | ((with_reducible refine mul_B ?e1 ?e2 ?_); (case e1 => omega); (case e2 => omega))
      | ((with_reducible refine mul_C (c := 5 - sp) ?e1 ?e2 ?_); (case e1 => omega); (case e2 => omega))); intro tm km)
    k_with "my sadd" => ((with_reducible refine add_BC ?e1 ?e2 ?_); (case e1 => omega); (case e2 => omega); intro ta ka)
    k_steps
    unfold Stop
    exact LCg.CompEnd.intro (by assumption) (by assumption) _ (by kcf_all) (by assumption) (Or.inr ⟨_, .tail _ (.head _), rfl, _, rfl⟩) ⟨rfl, ta, by rw [Int.toNat_natCast]; rfl⟩
  intro ys9 hys9 D9 h9 tk9 F9 N9 off9
  (try dsimp only at F9 N9)
  (try k_unmd); (try k_fold)
  k_with "my ne" => (k_dflt ((with_reducible refine' ne_words (fun k : Int => strW k.toNat) ?e1 ?e2 ?e3 hys6 hys9 ?e4 ?e5 ?_); (case e1 => k_asm); (case e2 => exact .tail _ (.head _)); (case e3 => exact .head _); (case e4 => exact fun x hx => strW_ok _ (by have := outs_mem spots hout x hx; omega)); (case e5 => units_room)))
  k_steps
  unfold Stop
  refine Fn.use (parse_n' HT hout _) (by k_asm) (by k_asm) (by k_asm) (by k_asm) (by k_asm) (by first | exact rfl | assumption) (by ktr_room) (by ktr_units) trivial ?_
  rintro _ _ hd10 tkd10 Fd10 Nd10 ⟨T10, vs10, rfl, rfl, hv10, off10⟩
  cases hv10
  (try k_unmd); (try k_fold)
  k_with "my ne" => (k_dflt ((with_reducible refine' ne_tup0 ?e1 ?e2 ?e3 ?e4 ?e5 ?e6 ?e7 ?e8 ?_); (case e1 => k_asm); (case e2 => first | exact .head _ | exact .tail _ (.head _)); (case e3 => first | exact .head _ | exact .tail _ (.head _)); (case e4 => exact rfl); (case e5 => exact rfl); (case e6 => exact rfl); (case e7 => exact rfl); (case e8 => units_room)))
  k_steps
  unfold Stop
  (rename Fr _ _ _ _ => kF11); (rename News _ _ _ _ => kN11)
  have kN12 : News _ _ _ [(D6, listOf ys6.toArray ys6.length), (ls, listOf sits.toArray n2), (_, o7)] := cb_drop kN11 (by kcf_all)
  clear kN11
  (refine LCg.CompSrc.ledger (by rfl) kF11 kN12 (.head _) (by rw [PySem.sizeLine_eq, List.size_toArray, hys6.length]; have := outs_len spots hout; omega) ?_)
  intro g11
  obtain ⟨tw0, hw0⟩ := word_at hys6 0 (by have := outs_len spots hout; omega)
  obtain ⟨w0, ew0⟩ : ∃ w0, w0 = strW (spots.getD 0 0).toNat := ⟨_, rfl⟩
  rw [← ew0] at hw0
  refine' comp_list (fun (k : Int) v => ∃ t, v = .str (strW k.toNat) t) (fun (k : Int) v => ∃ t, v = .int (levG spots k) t) hys6 (fun k' v' I' oI' C' oC' D' m' ys' h' tk' E' hk' hv' hC' hx' F' N' off' ne' => ?_) ?_
  · obtain ⟨t', rfl⟩ := hv'
    obtain ⟨wv, hwv⟩ : ∃ wv, wv = strW k'.toNat := ⟨_, rfl⟩
    rw [← hwv] at hx'
    (try k_unmd); (try k_fold)
    k_with "my item" => (k_dflt ((with_reducible refine' item_0 ?e1 ?e2 hw0 ?_ ?e3); (case e1 => k_asm); (case e2 => exact .tail _ (.tail _ (.tail _ (.head _)))); (case e3 => with_unfolding_all rfl)))
    k_with "my CompEnd" => (refine stopI ?_)
    k_steps
    unfold Stop
    refine Fn.use (lev_first hout hk' ew0 hwv _ _ _) (by k_asm) (by k_asm) (by k_asm) (by k_asm) (by k_asm) (by first | exact rfl | assumption) (by ktr_room) (by ktr_units) trivial ?_
    rintro _ _ hs2 tks2 Fs Ns ⟨⟨ts, rfl⟩, rfl⟩
    (try k_unmd); (try k_fold)
    k_steps
    unfold Stop
    exact LCg.CompEnd.intro (by assumption) (by assumption) _ (by kcf_all) (by assumption) (Or.inr ⟨_, .head _, rfl, _, rfl⟩) ⟨rfl, _, rfl⟩
  intro ys12 hys12 D12 h12 tk12 F12 N12 off12
  (try dsimp only at F12 N12)
  have hI12 := all_ints (levG spots) hys12
  (try k_unmd); (try k_fold)
  k_with "my ne" => (fail "x")
  k_with "my item" => (fail "x")
  have hl3 : spots.length = 2 ∨ spots.length = 3 := outs_len spots hout
  k_with "my len" => (k_dflt (refine len_led (by k_asm) (by first | exact .tail _ (.tail _ (.head _)) | exact .tail _ (.head _) | exact .head _ | exact .tail _ (.tail _ (.tail _ (.head _)))) hys6.length (by omega) ?_))
  have hI13 : IntsAre ys12 (([0, 2, 2] : List Int).take (spots.length : Int).toNat) := by rw [Int.toNat_natCast, ← (outs_first spots hout).2.2]; exact hI12
  k_with "my item" => (k_dflt ((with_reducible rename Fr _ _ _ _ => F1); (with_reducible rename News _ _ _ _ => N1); (refine' sl_upT (s := ⟨_, _, _, _, _⟩) F1 N1 (.head _) (.cons 0 _ (.cons 2 _ (.cons 2 _ .nil))) (Int.natCast_nonneg _) (by decide) ?_ ?e9); (case e9 => with_unfolding_all rfl); intro D13 ws13 h13 F13 N13 l13 hw13))
  k_with "my ne" => (k_dflt ((with_reducible refine' ne_ints0 ?e1 ?e2 ?e3 hI13 ?e4 ?e5 ?_); (case e1 => k_asm); (case e2 => first | exact .tail _ (.tail _ (.head _)) | exact .tail _ (.head _)); (case e3 => exact .head _); (case e4 => assumption); (case e5 => units_room)))
  k_steps
  unfold Stop
  (rename Fr _ _ _ _ => kF13); (rename News _ _ _ _ => kN13)
  have kN14 : News _ _ _ [(D6, listOf ys6.toArray ys6.length), (ls, listOf sits.toArray n2), (_, o7)] := cb_drop kN13 (by kcf_all)
  clear kN13
  refine Fn.use (prod_c _ D6 ls spots hout) (by k_asm) kF13 (by k_asm) kN14 (by k_asm) (by first | exact rfl | assumption) (by ktr_room) (by ktr_units) ⟨ys6, sits, ys6.length, n2, .head _, .tail _ (.head _), hsi, hys6.length, word_at hys6⟩ ?_
  rintro r14 _ hd14 tkd14 Fd14 Nd14 ⟨⟨ts14, er14⟩, rfl⟩
  k_with "my ne" => (fail "x")
  k_with "my item" => (fail "x")
  rcases hl3 with hA | hA
  · obtain ⟨P, X, D, Z, Y, HN⟩ := nums2 hout hA
    rw [HN.p] at er14; subst er14
    (try k_unmd); (try k_fold)
    k_with "my len" => (k_dflt (refine len_led (by k_asm) (.tail _ (.head _)) (hsi.length.trans hA) (by omega) ?_))
    k_steps
    unfold Stop
    refine Fn.use (shl_c' (k := 2) rfl HN.bp (by decide) HN.x) (by k_asm) (by k_asm) (by k_asm) (by k_asm) (by k_asm) (by first | exact rfl | assumption) (by ktr_room) (by ktr_units) trivial ?_
    rintro _ _ hd15 tkd15 Fd15 Nd15 ⟨⟨ts15, rfl⟩, rfl⟩
    (try k_unmd); (try k_fold)
    k_steps
    unfold Stop
    refine Fn.use (dom_c _ ls spots (by omega) (outs_mem spots hout) (fun i hi => fin_dom spots hout i (by omega))) (by k_asm) (by k_asm) (by k_asm) (by k_asm) (by k_asm) (by first | exact rfl | assumption) (by ktr_room) (by ktr_units) ⟨sits, n2, .tail _ (.head _), hsi⟩ ?_
    rintro r16 _ hd16 tkd16 Fd16 Nd16 ⟨⟨ts16, er16⟩, rfl⟩
    rw [HN.d] at er16; subst er16
    (try k_unmd); (try k_fold)
    k_steps
    unfold Stop
    refine Fn.use (mul_c' (x := 1) (by decide) HN.bd HN.m) (by k_asm) (by k_asm) (by k_asm) (by k_asm) (by k_asm) (by first | exact rfl | assumption) (by ktr_room) (by ktr_units) trivial ?_
    rintro _ _ hd17 tkd17 Fd17 Nd17 ⟨⟨ts17, rfl⟩, rfl⟩
    (try k_unmd); (try k_fold)
    k_steps
    unfold Stop
    refine Fn.use (loz_c _ ls spots (by omega) (outs_mem spots hout)) (by k_asm) (by k_asm) (by k_asm) (by k_asm) (by k_asm) (by first | exact rfl | assumption) (by ktr_room) (by ktr_units) ⟨sits, n2, .tail _ (.head _), hsi⟩ ?_
    rintro r18 _ hd18 tkd18 Fd18 Nd18 ⟨⟨ts18, er18⟩, rfl⟩
    rw [HN.z] at er18; subst er18
    (try k_unmd); (try k_fold)
    k_steps
    unfold Stop
    refine Fn.use (mul_c' (x := 1) (by decide) HN.bz HN.y) (by k_asm) (by k_asm) (by k_asm) (by k_asm) (by k_asm) (by first | exact rfl | assumption) (by ktr_room) (by ktr_units) trivial ?_
    rintro _ _ hd19 tkd19 Fd19 Nd19 ⟨⟨ts19, rfl⟩, rfl⟩
    (try k_unmd); (try k_fold)
    k_steps
    unfold Stop
    refine Fn.use (shl_c' (k := 1) (by decide) HN.by_ (by decide) HN.l) (by k_asm) (by k_asm) (by k_asm) (by k_asm) (by k_asm) (by first | exact rfl | assumption) (by ktr_room) (by ktr_units) trivial ?_
    rintro _ _ hd20 tkd20 Fd20 Nd20 ⟨⟨ts20, rfl⟩, rfl⟩
    (try k_unmd); (try k_fold)
    k_steps
  · obtain ⟨P, X, D, Z, Y, HN⟩ := nums3 hout hA
    rw [HN.p] at er14; subst er14
    (try k_unmd); (try k_fold)
    k_with "my len" => (k_dflt (refine len_led (by k_asm) (.tail _ (.head _)) (hsi.length.trans hA) (by omega) ?_))
    k_steps
    unfold Stop
    refine Fn.use (shl_c' (k := 3) rfl HN.bp (by decide) HN.x) (by k_asm) (by k_asm) (by k_asm) (by k_asm) (by k_asm) (by first | exact rfl | assumption) (by ktr_room) (by ktr_units) trivial ?_
    rintro _ _ hd15 tkd15 Fd15 Nd15 ⟨⟨ts15, rfl⟩, rfl⟩
    (try k_unmd); (try k_fold)
    k_steps
    unfold Stop
    refine Fn.use (dom_c _ ls spots (by omega) (outs_mem spots hout) (fun i hi => fin_dom spots hout i (by omega))) (by k_asm) (by k_asm) (by k_asm) (by k_asm) (by k_asm) (by first | exact rfl | assumption) (by ktr_room) (by ktr_units) ⟨sits, n2, .tail _ (.head _), hsi⟩ ?_
    rintro r16 _ hd16 tkd16 Fd16 Nd16 ⟨⟨ts16, er16⟩, rfl⟩
    rw [HN.d] at er16; subst er16
    (try k_unmd); (try k_fold)
    k_steps
    unfold Stop
    refine Fn.use (mul_c' (x := 2) (by decide) HN.bd HN.m) (by k_asm) (by k_asm) (by k_asm) (by k_asm) (by k_asm) (by first | exact rfl | assumption) (by ktr_room) (by ktr_units) trivial ?_
    rintro _ _ hd17 tkd17 Fd17 Nd17 ⟨⟨ts17, rfl⟩, rfl⟩
    (try k_unmd); (try k_fold)
    k_steps
    unfold Stop
    refine Fn.use (loz_c _ ls spots (by omega) (outs_mem spots hout)) (by k_asm) (by k_asm) (by k_asm) (by k_asm) (by k_asm) (by first | exact rfl | assumption) (by ktr_room) (by ktr_units) ⟨sits, n2, .tail _ (.head _), hsi⟩ ?_
    rintro r18 _ hd18 tkd18 Fd18 Nd18 ⟨⟨ts18, er18⟩, rfl⟩
    rw [HN.z] at er18; subst er18
    (try k_unmd); (try k_fold)
    k_steps
    unfold Stop
    refine Fn.use (mul_c' (x := 2) (by decide) HN.bz HN.y) (by k_asm) (by k_asm) (by k_asm) (by k_asm) (by k_asm) (by first | exact rfl | assumption) (by ktr_room) (by ktr_units) trivial ?_
    rintro _ _ hd19 tkd19 Fd19 Nd19 ⟨⟨ts19, rfl⟩, rfl⟩
    (try k_unmd); (try k_fold)
    k_steps
    unfold Stop
    refine Fn.use (shl_c' (k := 3) (by decide) HN.by_ (by decide) HN.l) (by k_asm) (by k_asm) (by k_asm) (by k_asm) (by k_asm) (by first | exact rfl | assumption) (by ktr_room) (by ktr_units) trivial ?_
    rintro _ _ hd20 tkd20 Fd20 Nd20 ⟨⟨ts20, rfl⟩, rfl⟩
    (try k_unmd); (try k_fold)
    k_steps
    done)
end Mine

theorem PySem.Challenge.cw_wn0046_01_holds : PySem.Challenge.rw_wn0046_01.Holds := by
  exact Mine.law_holds
