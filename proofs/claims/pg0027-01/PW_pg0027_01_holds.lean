import PyProof.Rows.All
import Wide.All
import OpenK.AllK
import Wide.FinOn
import PySem.Challenge.RW_pg0027_01
set_option Elab.async false
set_option maxRecDepth 100000
set_option maxHeartbeats 8000000
namespace Mine
open PySem PySem.W PyProof.Rows
open_top hd for PySem.Challenge.rw_pg0027_01
end Mine
namespace Mine
open PySem PySem.W PyProof.Rows
theorem kc_nine {cm : Str → Option Value} {n₁ n₂ n₃ n₄ n₅ n₆ n₇ n₈ n₉ : Str} {c₁ c₂ c₃ c₄ c₅ c₆ c₇ c₈ c₉ : Addr} {cells : List (Addr × Obj)} (x : CellsAre cm [(n₁, c₁), (n₂, c₂), (n₃, c₃), (n₄, c₄), (n₅, c₅), (n₆, c₆), (n₇, c₇), (n₈, c₈), (n₉, c₉)] cells) :
    ∃ o₁ o₂ o₃ o₄ o₅ o₆ o₇ o₈ o₉, cells = [(c₁, o₁), (c₂, o₂), (c₃, o₃), (c₄, o₄), (c₅, o₅), (c₆, o₆), (c₇, o₇), (c₈, o₈), (c₉, o₉)] ∧ o₁.data = .cell (cm n₁) ∧ o₂.data = .cell (cm n₂) ∧ o₃.data = .cell (cm n₃) ∧ o₄.data = .cell (cm n₄) ∧ o₅.data = .cell (cm n₅) ∧ o₆.data = .cell (cm n₆) ∧ o₇.data = .cell (cm n₇) ∧ o₈.data = .cell (cm n₈) ∧ o₉.data = .cell (cm n₉) := by
  cases x with | cons h r => obtain ⟨o₂, o₃, o₄, o₅, o₆, o₇, o₈, o₉, rfl, h₂, h₃, h₄, h₅, h₆, h₇, h₈, h₉⟩ := kc_eight r; exact ⟨_, o₂, o₃, o₄, o₅, o₆, o₇, o₈, o₉, rfl, h, h₂, h₃, h₄, h₅, h₆, h₇, h₈, h₉⟩
theorem kc_ten {cm : Str → Option Value} {n₀ n₁ n₂ n₃ n₄ n₅ n₆ n₇ n₈ n₉ : Str} {c₀ c₁ c₂ c₃ c₄ c₅ c₆ c₇ c₈ c₉ : Addr} {cells : List (Addr × Obj)} (x : CellsAre cm [(n₀, c₀), (n₁, c₁), (n₂, c₂), (n₃, c₃), (n₄, c₄), (n₅, c₅), (n₆, c₆), (n₇, c₇), (n₈, c₈), (n₉, c₉)] cells) :
    ∃ o₀ o₁ o₂ o₃ o₄ o₅ o₆ o₇ o₈ o₉, cells = [(c₀, o₀), (c₁, o₁), (c₂, o₂), (c₃, o₃), (c₄, o₄), (c₅, o₅), (c₆, o₆), (c₇, o₇), (c₈, o₈), (c₉, o₉)] ∧ o₀.data = .cell (cm n₀) ∧ o₁.data = .cell (cm n₁) ∧ o₂.data = .cell (cm n₂) ∧ o₃.data = .cell (cm n₃) ∧ o₄.data = .cell (cm n₄) ∧ o₅.data = .cell (cm n₅) ∧ o₆.data = .cell (cm n₆) ∧ o₇.data = .cell (cm n₇) ∧ o₈.data = .cell (cm n₈) ∧ o₉.data = .cell (cm n₉) := by
  cases x with | cons h r => obtain ⟨o₁, o₂, o₃, o₄, o₅, o₆, o₇, o₈, o₉, rfl, h₁, h₂, h₃, h₄, h₅, h₆, h₇, h₈, h₉⟩ := kc_nine r; exact ⟨_, o₁, o₂, o₃, o₄, o₅, o₆, o₇, o₈, o₉, rfl, h, h₁, h₂, h₃, h₄, h₅, h₆, h₇, h₈, h₉⟩
end Mine
namespace Mine
open PySem PySem.W PyProof.Rows
/-- a goal that the walk leaves alone -/
def Hold (P : Prop) : Prop := P
theorem Hold.mk {P : Prop} (h : P) : Hold P := h
theorem Hold.out {P : Prop} (h : Hold P) : P := h
abbrev NoE : Value → Shared → Prop := fun _ _ => False
theorem hold_fun {α : Type} {M : Model} {A : Around} {t : Sem α} {Q : α → Shared → Prop} {E : Value → Shared → Prop} {s : Shared} (h : wpAny M A t (fun a s' => Hold (Q a s')) E s) : wpAny M A t Q E s := h
theorem noE {α : Type} {M : Model} {A : Around} {t : Sem α} {Q : α → Shared → Prop} {E : Value → Shared → Prop} {s : Shared} (h : wpAny M A t Q NoE s) : wpAny M A t Q E s :=
  wpAny_mono h (fun _ _ x => x) fun _ _ x => x.elim
theorem execs_hold {M : Model} {A : Around} {env : Env} {st : Stmt} {rest : List Stmt} {Q : Flow → Shared → Prop} {E : Value → Shared → Prop} {s : Shared}
    (h : wpAny M A (exec st env) (fun f s' => match f with | .next => Hold (wpAny M A (execs rest env) Q E s') | f => Q f s') E s) : wpAny M A (execs (st :: rest) env) Q E s :=
  wpAny_execs_cons h
/-- what a call leaves of the state beyond the heap -/
structure Rest (s s' : Shared) : Prop where
  os : s'.os = s.os
  bare : AllBare s'.gens
theorem Rest.trans {a b c : Shared} (x : Rest a b) (y : Rest b c) : Rest a c := ⟨y.os.trans x.os, y.bare⟩
theorem Rest.heap {a b : Shared} (x : Rest a b) {h : Heap} {tk : Nat} : Rest a { b with heap := h, toks := tk } := ⟨x.os, x.bare⟩
section
variable {prog : Program} {w : World} {A : Around} {E : Value → Shared → Prop} {env : Env} {h₀ : Heap} {L : Addr}
theorem fr_but1 {h h' : Heap} {I : Addr} {m : Str → Option Value} (F : Fr h₀ L h m) (hk : ∀ b o, b ∉ [I] → h.get? b = some o → h'.get? b = some o) (hL : L ≠ I) (hI : h₀.get? I = none) : Fr h₀ L h' m := LCg.fr_but F hk hL hI
theorem loop_walk {target : Expr} {body : List Stmt} {I : Addr} {fp : List Addr} {n : Nat} {P : Nat → Value → Prop} {St : Nat → Heap → Prop} {R : Result → Shared → Prop} {s s₀ : Shared}
    {m : Str → Option Value} {news : List (Addr × Obj)} (J : Nat → (Str → Option Value) → List (Addr × Obj) → Prop)
    (W : Walks prog w A I fp [I] n P St) (hIL : L ≠ I) (hI₀ : h₀.get? I = none)
    (hIo : ∀ i h, St i h → ∃ o, h.get? I = some o)
    (hkeep : ∀ i m₁ news₁ h h', J i m₁ news₁ → News h₀ L h' news₁ → St i h → h'.get? I = h.get? I → St i h')
    (hst : St 0 s.heap) (F : Fr h₀ L s.heap m) (N : News h₀ L s.heap news) (off : ∀ p ∈ news, p.1 ≠ I) (hR0 : Rest s₀ s) (h0 : J 0 m news)
    (turn : ∀ i v oI m₁ news₁ (s₁ : Shared), i < n → P i v → J i m₁ news₁ → Fr h₀ L s₁.heap m₁ → News h₀ L s₁.heap ((I, oI) :: news₁) → (∀ p ∈ news₁, p.1 ≠ I) → Rest s₀ s₁ →
      wpAny (model prog w) A (assign target env v) (fun _ s₂ => wpAny (model prog w) A (execs body env) (fun f s₃ => f = .next ∧ ∃ m₂ news₂, Fr h₀ L s₃.heap m₂ ∧ News h₀ L s₃.heap ((I, oI) :: news₂) ∧ (∀ p ∈ news₂, p.1 ≠ I) ∧ J (i + 1) m₂ news₂ ∧ Rest s₀ s₃) NoE s₂) NoE s₁)
    (hR : ∀ m₁ news₁ (s₁ : Shared), J n m₁ news₁ → Fr h₀ L s₁.heap m₁ → News h₀ L s₁.heap news₁ → Rest s₀ s₁ → R (.ok .next) s₁)
    (ht : ∀ v, letOwnedTupleGo target (.ref I) v = pure () := by intro _; rfl) :
    codeAny (model prog w) A (.forLoop target (.ref I) body [] env) R s := by
  refine codeAny_forLoop (fun k s' => ∃ i m₁ news₁, k = n + 1 - i ∧ i ≤ n ∧ St i s'.heap ∧ Fr h₀ L s'.heap m₁ ∧ News h₀ L s'.heap news₁ ∧ (∀ p ∈ news₁, p.1 ≠ I) ∧ J i m₁ news₁ ∧ Rest s₀ s') ?_ (n + 1)
    ⟨0, m, news, rfl, Nat.zero_le _, hst, F, N, off, h0, hR0⟩ ht
  rintro k s' ⟨i, m₁, news₁, rfl, hi, hst', F', N', off', hJ, hr⟩
  by_cases hlt : i < n
  · refine W.item i _ _ _ hlt hst' fun v h₂ tk₂ hPv hst₂ hk₂ => ?_
    have F₂ := LCg.fr_but F' hk₂ hIL hI₀
    have N₂ := LCg.news_but N' hk₂ off'
    obtain ⟨oI, heI⟩ := hIo _ _ hst₂
    have N₃ : News h₀ L h₂ ((I, oI) :: news₁) := fun p hp => by
      rcases List.mem_cons.mp hp with rfl | hp
      · exact ⟨heI, Ne.symm hIL, hI₀⟩
      · exact N₂ p hp
    refine wpAny_mono (turn i v oI m₁ news₁ _ hlt hPv hJ F₂ N₃ off' hr.heap) (fun _ s₂ h₂ => ?_) (fun _ _ e => e.elim)
    refine wpAny_mono h₂ (fun f s₃ h₃ => ?_) (fun _ _ e => e.elim)
    obtain ⟨rfl, m₂, news₂, F₃, N₄, off₃, hJ₃, hr₃⟩ := h₃
    refine ⟨n + 1 - (i + 1), by omega, i + 1, m₂, news₂, rfl, hlt, ?_, F₃, fun p hp => N₄ p (List.mem_cons_of_mem _ hp), off₃, hJ₃, hr₃⟩
    have e3 := (N₄ (I, oI) List.mem_cons_self).1
    exact hkeep _ _ _ _ _ hJ₃ (fun p hp => N₄ p (List.mem_cons_of_mem _ hp)) hst₂ (e3.trans heI.symm)
  · obtain rfl : i = n := Nat.le_antisymm hi (Nat.not_lt.mp hlt)
    refine W.done _ _ _ hst' fun h₂ tk₂ hk₂ => wpAny_execs_nil ?_
    exact hR m₁ news₁ _ hJ (LCg.fr_but F' hk₂ hIL hI₀) (LCg.news_but N' hk₂ off') hr.heap
abbrev LoopR (M : Model) (A : Around) (env : Env) (Q : Flow → Shared → Prop) (E : Value → Shared → Prop) : Result → Shared → Prop := fun r s' => match r with | .ok f => Q f s' | .error e => cameBackBy M A env E e s'
theorem for_hold {M : Model} {s : Shared} {target iter : Expr} {body : List Stmt} {pos : Pos} {Q : Flow → Shared → Prop}
    (h : wpAny M A (eval iter env) (fun x s₁ => Hold (wpAny M A (pyIter x) (fun it s₂ => codeAny M A (.forLoop target it body [] env) (LoopR M A env Q E) s₂) E s₁)) E s)
    (hs : ∀ x, foldedSetIterable iter env x = pure x := by intro _; rfl) : wpAny M A (exec (.For target iter body [] pos) env) Q E s := wpAny_For h hs
theorem range_loop {target : Expr} {body : List Stmt} {r : Addr} {a b : Int} {t u v : Tok} {n : Nat} {Q : Flow → Shared → Prop} {s s₀ : Shared} {m : Str → Option Value} {news : List (Addr × Obj)}
    (J : Nat → (Str → Option Value) → List (Addr × Obj) → Prop)
    (hh : A.handled = none) (hr : IsRange s.heap r a b 1 t u v) (hsm : Builtin.Range.small a b 1 = true) (hn : Builtin.Range.rangeSize a b 1 = ((n : Nat) : Int))
    (F : Fr h₀ L s.heap m) (N : News h₀ L s.heap news) (hR0 : Rest s₀ s) (h0 : J 0 m news)
    (turn : ∀ i t I oI m₁ news₁ (s₁ : Shared), i < n → J i m₁ news₁ → Fr h₀ L s₁.heap m₁ → News h₀ L s₁.heap ((I, oI) :: news₁) → (∀ p ∈ news₁, p.1 ≠ I) → Rest s₀ s₁ →
      wpAny (model prog w) A (assign target env (.int (a + (i : Int)) t)) (fun _ s₂ => wpAny (model prog w) A (execs body env) (fun f s₃ => f = .next ∧ ∃ m₂ news₂, Fr h₀ L s₃.heap m₂ ∧ News h₀ L s₃.heap ((I, oI) :: news₂) ∧ (∀ p ∈ news₂, p.1 ≠ I) ∧ J (i + 1) m₂ news₂ ∧ Rest s₀ s₃) NoE s₂) NoE s₁)
    (done : ∀ m₁ news₁ (s₁ : Shared), J n m₁ news₁ → Fr h₀ L s₁.heap m₁ → News h₀ L s₁.heap news₁ → Rest s₀ s₁ → Q .next s₁)
    (ht : ∀ I v, letOwnedTupleGo target (.ref I) v = pure () := by intro _ _; rfl) :
    wpAny (model prog w) A (pyIter (.ref r)) (fun it s₂ => codeAny (model prog w) A (.forLoop target it body [] env) (LoopR (model prog w) A env Q E) s₂) E s := by
  refine wpAny_pyIter_range hr hsm ?_
  have up : ∀ b o, s.heap.get? b = some o → (s.heap.push { cls := .type "range_iterator", data := .fields #[rawInt a, rawInt (Builtin.Range.rangeSize a b 1), rawInt 1] }).get? b = some o := fun _ _ e => Heap.get?_push_of_some _ e
  refine loop_walk (h₀ := h₀) (L := L) (s₀ := s₀) (m := m) (news := news) J (LCg.range_walks hh a n) (Nat.ne_of_lt F.ns.lt) (next_is_new F) (fun i h st => ⟨_, st⟩) (fun i m₁ news₁ h h' _ _ st e => ?_)
    (by show IsRangeIter _ _ _ _ _; rw [hn]; simpa using Heap.get?_push_size _ rfl) (F.keeps fun _ _ e => Heap.get?_push_of_some _ e) (N.grown fun _ _ e => Heap.get?_push_of_some _ e) (fun p hp => Nat.ne_of_lt (Heap.lt_size (N p hp).1)) hR0.heap h0
    (fun i v oI m₁ news₁ s₁ hi hP hJ F₁ N₁ off₁ r₁ => ?_) (fun m₁ news₁ s₁ hJ F₁ N₁ r₁ => done m₁ news₁ s₁ hJ F₁ N₁ r₁) (ht _)
  · have st' : h.get? _ = some _ := st
    show h'.get? _ = some _
    rw [e]; exact st'
  · obtain ⟨t, rfl⟩ := hP
    exact turn i t _ oI m₁ news₁ s₁ hi hJ F₁ N₁ off₁ r₁
theorem list_loop {target : Expr} {body : List Stmt} {ax : Addr} {its : Array Value} {ox : Obj} {Q : Flow → Shared → Prop} {s s₀ : Shared} {m : Str → Option Value} {news : List (Addr × Obj)}
    (J : Nat → (Str → Option Value) → List (Addr × Obj) → Prop)
    (hh : A.handled = none) (hx : ox.cls = .type "list" ∧ ∃ k, ox.data = .seq its k) (hin : ∀ i m₁ news₁, J i m₁ news₁ → (ax, ox) ∈ news₁)
    (F : Fr h₀ L s.heap m) (N : News h₀ L s.heap news) (hR0 : Rest s₀ s) (h0 : J 0 m news)
    (turn : ∀ i v I oI m₁ news₁ (s₁ : Shared), its[i]? = some v → J i m₁ news₁ → Fr h₀ L s₁.heap m₁ → News h₀ L s₁.heap ((I, oI) :: news₁) → (∀ p ∈ news₁, p.1 ≠ I) → Rest s₀ s₁ →
      wpAny (model prog w) A (assign target env v) (fun _ s₂ => wpAny (model prog w) A (execs body env) (fun f s₃ => f = .next ∧ ∃ m₂ news₂, Fr h₀ L s₃.heap m₂ ∧ News h₀ L s₃.heap ((I, oI) :: news₂) ∧ (∀ p ∈ news₂, p.1 ≠ I) ∧ J (i + 1) m₂ news₂ ∧ Rest s₀ s₃) NoE s₂) NoE s₁)
    (done : ∀ m₁ news₁ (s₁ : Shared), J its.size m₁ news₁ → Fr h₀ L s₁.heap m₁ → News h₀ L s₁.heap news₁ → Rest s₀ s₁ → Q .next s₁)
    (ht : ∀ I v, letOwnedTupleGo target (.ref I) v = pure () := by intro _ _; rfl) :
    wpAny (model prog w) A (pyIter (.ref ax)) (fun it s₂ => codeAny (model prog w) A (.forLoop target it body [] env) (LoopR (model prog w) A env Q E) s₂) E s := by
  have hl : s.heap.IsList ax its := ⟨ox, (N _ (hin _ _ _ h0)).1, hx.1, hx.2⟩
  have hlt : ax < s.heap.objs.size := by obtain ⟨_, e, _⟩ := hl; exact Heap.lt_size e
  refine wpAny_pyIter_list hl ?_
  refine loop_walk (h₀ := h₀) (L := L) (s₀ := s₀) (m := m) (news := news) J (Walks.list hh s.heap.objs.size ax (Nat.ne_of_lt hlt) its) (Nat.ne_of_lt F.ns.lt) (next_is_new F) (fun i h st => by obtain ⟨o, e, _⟩ := st.1; exact ⟨o, e⟩) (fun i m₁ news₁ h h' hJ N' st e => ?_)
    ⟨⟨_, Heap.get?_push_size _ rfl, rfl, rfl⟩, hl.push _⟩ (F.keeps fun _ _ e => Heap.get?_push_of_some _ e) (N.grown fun _ _ e => Heap.get?_push_of_some _ e) (fun p hp => Nat.ne_of_lt (Heap.lt_size (N p hp).1)) hR0.heap h0
    (fun i v oI m₁ news₁ s₁ hi hP hJ F₁ N₁ off₁ r₁ => turn i v _ oI m₁ news₁ s₁ hP hJ F₁ N₁ off₁ r₁) (fun m₁ news₁ s₁ hJ F₁ N₁ r₁ => done m₁ news₁ s₁ hJ F₁ N₁ r₁) (ht _)
  · refine ⟨?_, ox, (N' _ (hin _ _ _ hJ)).1, hx.1, hx.2⟩
    obtain ⟨o, q, r⟩ := st.1
    exact ⟨o, e.trans q, r⟩
end
end Mine
namespace Mine
open PySem PySem.W PyProof.Rows
theorem Fr.congr' {h₀ h : Heap} {L : Addr} {m m' : Str → Option Value} (F : Fr h₀ L h m) (e : ∀ y, m y = m' y) : Fr h₀ L h m' := (funext e : m = m') ▸ F
theorem Fr.exp' {h₀ h : Heap} {L : Addr} {m : Str → Option Value} {a : Str} {v : Option Value} (F : Fr h₀ L h m) (e : m a = v) : Fr h₀ L h (fun y => if y = a then v else m y) :=
  Fr.congr' F fun y => by
    by_cases q : y = a
    · subst q; simp [e]
    · simp [q]
theorem Fr.exp2' {h₀ h : Heap} {L : Addr} {m : Str → Option Value} {a b : Str} {v u : Option Value} (F : Fr h₀ L h m) (e1 : m a = v) (e2 : m b = u) : Fr h₀ L h (fun y => if y = a then v else if y = b then u else m y) :=
  Fr.exp' (Fr.exp' F e2) (by (try dsimp only); split; (rename_i q; subst q; exact e2.symm.trans e1); exact e1)
theorem Fr.exp3' {h₀ h : Heap} {L : Addr} {m : Str → Option Value} {a b c : Str} {v u t : Option Value} (F : Fr h₀ L h m) (e1 : m a = v) (e2 : m b = u) (e3 : m c = t) :
    Fr h₀ L h (fun y => if y = a then v else if y = b then u else if y = c then t else m y) :=
  Fr.exp' (Fr.exp2' F e2 e3) (by (try dsimp only); split; (rename_i q; subst q; exact e2.symm.trans e1); split; (rename_i q; subst q; exact e3.symm.trans e1); exact e1)
theorem Fr.exp4' {h₀ h : Heap} {L : Addr} {m : Str → Option Value} {a b c d : Str} {v u t r : Option Value} (F : Fr h₀ L h m) (e1 : m a = v) (e2 : m b = u) (e3 : m c = t) (e4 : m d = r) :
    Fr h₀ L h (fun y => if y = a then v else if y = b then u else if y = c then t else if y = d then r else m y) :=
  Fr.exp' (Fr.exp3' F e2 e3 e4) (by (try dsimp only); split; (rename_i q; subst q; exact e2.symm.trans e1); split; (rename_i q; subst q; exact e3.symm.trans e1); split; (rename_i q; subst q; exact e4.symm.trans e1); exact e1)
theorem cell_to {o : Obj} {a b : Int} {t : Tok} (h : o.data = .cell (some (.int a t))) (e : a = b) : ∃ t, o.data = .cell (some (.int b t)) := ⟨t, e ▸ h⟩
theorem News.sub' {h₀ h : Heap} {L : Addr} {news news' : List (Addr × Obj)} (N : News h₀ L h news) (hs : ∀ p ∈ news', p ∈ news) : News h₀ L h news' := fun p hp => N p (hs p hp)
theorem allLt_mem {d : Nat} {l : List (Addr × Obj)} (h : AllLt d l) : ∀ p ∈ l, p.1 < d := by
  induction l with
  | nil => intro p hp; cases hp
  | cons q r ih =>
    intro p hp
    rcases List.mem_cons.mp hp with rfl | hp
    · exact h.1
    · exact ih h.2 p hp
theorem off1_mem {d : Addr} {l : List (Addr × Obj)} (h : LCg.Off1 d l) : ∀ p ∈ l, p.1 ≠ d := by
  induction l with
  | nil => intro p hp; cases hp
  | cons q r ih =>
    intro p hp
    rcases List.mem_cons.mp hp with rfl | hp
    · exact h.1
    · exact ih h.2 p hp
theorem lookup1 {y a : Str} {v : Value} : List.lookup y [(a, v)] = if y = a then some v else none := by
  simp only [List.lookup]
  split <;> simp_all
theorem lookup2 {y a b : Str} {v u : Value} : List.lookup y [(a, v), (b, u)] = if y = a then some v else if y = b then some u else none := by
  simp only [List.lookup]
  split
  · simp_all
  · split <;> simp_all
/-- what a call of a def of the text's gives back: Post of the value and of the ledger behind it -/
def SpecN (dn uN : Nat) (w : World) (f : Addr) (vs : List Value) (news : List (Addr × Obj)) (Post : Value → List (Addr × Obj) → Prop) : Prop :=
  ∀ (p : Program) (loose : List Str) (mean : ExcName → Option Value) (mg mb : Str → Option Value) (A A₀ : Around) (env : Env) (outer : List Env) (base h₀ : Heap) (L : Addr) (m : Str → Option Value) (s : Shared) (Q E : Value → Shared → Prop),
    Below A₀ base outer h₀ → Fr h₀ L s.heap m → (hd.heap_39 w.params).In h₀ → News h₀ L s.heap news → Top p loose mean mg mb h₀ →
    A.frames = some (env :: outer) → A.handled = none → env.frame = some L → env.scope.kind = .function → A.depth + dn < recursionLimit → A.units + uN < cLine → AllBare s.gens →
    (∀ r (s' : Shared) news', Fr h₀ L s'.heap m → News h₀ L s'.heap news' → Rest s s' → Post r news' → Q r s') →
    wpAny (model PySem.Challenge.rw_pg0027_01.row.prog w) A (call (.ref f) vs) Q E s
/-- a def that calls no other of the text's -/
abbrev Spec := SpecN 5 60
abbrev Ar (dp : Nat) (gd : Option (List Code)) (un : Nat) (fr : List Env) : Around := { handled := none, depth := dp, frames := some fr, guards := gd, units := un }
theorem leaveK_back {h₀ g : Heap} {L L' : Addr} {m m' : Str → Option Value} {R : Result → Shared → Prop} {v : Value} {s' : Shared} {news' : List (Addr × Obj)} (F : Fr g L' s'.heap m') (N : News g L' s'.heap news')
    (k : Fr h₀ L s'.heap m → News h₀ L s'.heap news' → R (.ok (.ret v)) s') : LeaveK h₀ L m g R v s' := ⟨L', m', news', F, N, k⟩
theorem spec_intro {dn uN : Nat} {w : World} {f : Addr} {vs : List Value} {news : List (Addr × Obj)} {Post : Value → List (Addr × Obj) → Prop}
    {name qual : Str} {params : Arguments} {body : List Stmt} {scope : Scope} {dV kV doc pm cdv ct oc : Value} {an od : Option Addr} {osl : Array (Option Value)} {binds : List (Str × Value)} (mm : Str → Option Value)
    (ho : (hd.heap_39 w.params).lookup f = some ⟨oc, od, .func (fnOf name qual params body scope dV kV doc pm an cdv ct), osl⟩) (hcd : codeIn (hd.heap_39 w.params) cdv qual = true)
    (hbind : ∀ s, BindsTo s (fnOf name qual params body scope dV kV doc pm an cdv ct) ⟨vs, []⟩ binds) (hloc : ∀ y ∈ binds, scope.names.lookup y.1 = some .local)
    (hco : scope.isCoroutine = false) (hgen : scope.isGenerator = false) (hk : scope.kind = .function) (hcell : ∀ x ∈ scope.names, x.2 ≠ .cell) (hmm : ∀ y, binds.reverse.lookup y = mm y)
    (h : ∀ (p : Program) (loose : List Str) (mean : ExcName → Option Value) (mg mb : Str → Option Value) (A₀ : Around) (dp : Nat) (gd : Option (List Code)) (un : Nat) (outer : List Env) (base g : Heap) (L : Addr) (s : Shared),
      Below A₀ base outer g → Fr g L s.heap mm → (hd.heap_39 w.params).In g → News g L s.heap news → Top p loose mean mg mb g → (∀ q ∈ news, q.1 < L) → dp + dn < recursionLimit → un + uN < cLine → AllBare s.gens →
      wpAny (model PySem.Challenge.rw_pg0027_01.row.prog w) (Ar dp gd un (envOf qual scope L f cdv :: outer)) (execs body (envOf qual scope L f cdv))
        (fun fl s' => ∃ v m' news', fl = .ret v ∧ Fr g L s'.heap m' ∧ News g L s'.heap news' ∧ Rest s s' ∧ Post v news') NoE s) : SpecN (dn + 1) (uN + 3) w f vs news Post := by
  intro p loose mean mg mb A A₀ env outer base h₀ L m s Q E B F X N T hA hh hf hke hdp hun hb ret
  obtain ⟨hd', dp, fr, gd, un⟩ := A
  simp only at hA hh hdp hun
  subst hA hh
  refine wpAny_call ?_
  refine callX_plain (cl := []) (env := env) B F N T.nolimit rfl hf hke ((X.keeps F.keep) _ _ ho) rfl (codeRec_of (X.keeps F.keep) hcd) (by simp only; omega) (hbind s) hloc (fun g L' h₁ FG F' N' B' st lt => ?_) hcell hco hgen hk
  have F₁ : Fr g L' h₁ mm := Fr.congr' F' hmm
  refine wpAny_mono (h p loose mean mg mb _ (dp + 1) gd (un + 3) (env :: outer) base g L' { s with heap := h₁, toks := s.toks + binds.length } B' F₁ (X.keeps st) N' (T.keeps st) lt (by omega) (by omega) hb) (fun fl s' hl => ?_) fun _ _ x => x.elim
  obtain ⟨v, m', news', rfl, F₂, N₂, r, ps⟩ := hl
  exact leaveK_back F₂ N₂ fun F₃ N₃ => ret v s' news' F₃ N₃ ⟨r.os, r.bare⟩ ps
theorem spec_introC {dn uN : Nat} {w : World} {f : Addr} {vs : List Value} {news : List (Addr × Obj)} {Post : Value → List (Addr × Obj) → Prop}
    {name qual : Str} {params : Arguments} {body : List Stmt} {scope : Scope} {dV kV doc pm cdv ct oc : Value} {an od : Option Addr} {osl : Array (Option Value)} {binds : List (Str × Value)}
    (mm mc : Str → Option Value)
    (ho : (hd.heap_39 w.params).lookup f = some ⟨oc, od, .func (fnOf name qual params body scope dV kV doc pm an cdv ct), osl⟩) (hcd : codeIn (hd.heap_39 w.params) cdv qual = true)
    (hbind : ∀ s, BindsTo s (fnOf name qual params body scope dV kV doc pm an cdv ct) ⟨vs, []⟩ binds) (hkind : (binds.all fun y => scope.names.lookup y.1 == some .local || scope.names.lookup y.1 == some .cell) = true)
    (hnd : ((cellsFrom 0 scope.names []).map (·.1)).Nodup)
    (hco : scope.isCoroutine = false) (hgen : scope.isGenerator = false) (hk : scope.kind = .function)
    (hmm : ∀ L y, bindL (envOfC qual scope L f cdv).kindOf binds (fun _ => none) y = mm y) (hmc : ∀ L y, bindC (envOfC qual scope L f cdv).kindOf binds (fun _ => none) y = mc y)
    (h : ∀ (p : Program) (loose : List Str) (mean : ExcName → Option Value) (mg mb : Str → Option Value) (A₀ : Around) (dp : Nat) (gd : Option (List Code)) (un : Nat) (outer : List Env) (base g : Heap) (L : Addr) (s : Shared) (cells : List (Addr × Obj)),
      Below A₀ base outer g → Fr g L s.heap mm → (hd.heap_39 w.params).In g → News g L s.heap (cells ++ news) → CellsAre mc (cellsFrom (L + 1) scope.names []) cells → Top p loose mean mg mb g → (∀ q ∈ news, q.1 < L) → dp + dn < recursionLimit → un + uN < cLine → AllBare s.gens →
      wpAny (model PySem.Challenge.rw_pg0027_01.row.prog w) (Ar dp gd un (envOfC qual scope L f cdv :: outer)) (execs body (envOfC qual scope L f cdv))
        (fun fl s' => ∃ v m' news', fl = .ret v ∧ Fr g L s'.heap m' ∧ News g L s'.heap news' ∧ Rest s s' ∧ Post v news') NoE s) : SpecN (dn + 1) (uN + 3) w f vs news Post := by
  intro p loose mean mg mb A A₀ env outer base h₀ L m s Q E B F X N T hA hh hf hke hdp hun hb ret
  obtain ⟨hd', dp, fr, gd, un⟩ := A
  simp only at hA hh hdp hun
  subst hA hh
  refine wpAny_call ?_
  refine callX_cells (env := env) B F N T.nolimit rfl hf hke ((X.keeps F.keep) _ _ ho) rfl (codeRec_of (X.keeps F.keep) hcd) (by simp only; omega) (hbind s) (kindsX hkind) hnd (fun g L' h₁ tk cells FG F' N' Y B' st lt => ?_) hco hgen hk
  have F₁ : Fr g L' h₁ mm := Fr.congr' F' (hmm L')
  have Y₁ : CellsAre mc (cellsFrom (L' + 1) scope.names []) cells := (funext (hmc L') : _ = mc) ▸ Y
  refine wpAny_mono (h p loose mean mg mb _ (dp + 1) gd (un + 3) (env :: outer) base g L' { s with heap := h₁, toks := tk } cells B' F₁ (X.keeps st) N' Y₁ (T.keeps st) lt (by omega) (by omega) hb) (fun fl s' hl => ?_) fun _ _ x => x.elim
  obtain ⟨v, m', news', rfl, F₂, N₂, r, ps⟩ := hl
  exact leaveK_back F₂ N₂ fun F₃ N₃ => ret v s' news' F₃ N₃ ⟨r.os, r.bare⟩ ps
end Mine
namespace Mine
open PySem PySem.W PyProof.Rows
def crcStep (c : Int) : Int := if Builtin.bitAnd c 1 = 0 then c.fdiv (2 ^ Int.toNat 1) else Builtin.bitXor (c.fdiv (2 ^ Int.toNat 1)) 3988292384
def crcN : Nat → Int → Int
  | 0, x => x
  | n + 1, x => crcStep (crcN n x)
theorem genCrc_spec (w : World) (x : Int) (t₀ : Tok) (news : List (Addr × Obj)) : Spec w 21 [.int x t₀] news (fun r news' => (∃ t, r = .int (crcN 8 x) t) ∧ news' = news) := by
  refine spec_intro (fun y => if y = Str.ofString "crc" then some (.int x t₀) else none) (by rfl) (by rfl) (fun _ => BindsTo.of_eq rfl) (locs rfl) rfl rfl rfl (by decide) (fun y => lookup1) ?_
  w_top off
  k_fill
  intro p loose mean mg mb A₀ dp gd un outer base g L s B F X N T lt hdp hun hb
  refine execs_hold ?_
  refine for_hold ?_
  k_steps
  refine Hold.mk ?_
  refine range_loop (n := 8) (h₀ := g) (L := L) (s₀ := s) (m := fun y => if y = Str.ofString "crc" then some (.int x t₀) else none) (news := news) (fun i m' news' => news' = news ∧ ∃ t, m' (Str.ofString "crc") = some (.int (crcN i x) t)) rfl (by assumption) (by decide) (by decide) (by assumption) (by assumption) ⟨rfl, hb⟩ ⟨rfl, t₀, rfl⟩ ?_ ?_
  · intro i t I oI m₁ news₁ s₁ hi hJ F₁ N₁ off₁ r₁
    obtain ⟨rfl, t, hm⟩ := hJ
    have F₁ := Fr.exp' F₁ hm
    refine hold_fun ?_
    k_steps
    refine Hold.mk ?_
    refine hold_fun ?_
    k_steps
    all_goals
      refine ⟨rfl, _, news₁, by assumption, by assumption, off₁, ⟨rfl, ?_⟩, r₁.os, r₁.bare⟩
      rw [show crcN (i + 1) x = crcStep (crcN i x) from rfl, crcStep]
    · (rename Builtin.bitAnd _ _ ≠ 0 => hc); rw [if_neg hc]; exact ⟨_, rfl⟩
    · (rename Builtin.bitAnd _ _ = 0 => hc); rw [if_pos hc]; exact ⟨_, rfl⟩
  · intro m₁ news₁ s₁ hJ F₁ N₁ r₁
    obtain ⟨rfl, t, hm⟩ := hJ
    have F₁ := Fr.exp' F₁ hm
    refine Hold.mk ?_
    refine hold_fun ?_
    k_steps
    exact ⟨_, _, _, rfl, by assumption, by assumption, ⟨r₁.os, r₁.bare⟩, ⟨_, rfl⟩, rfl⟩
end Mine
namespace Mine
open PySem PySem.W PyProof.Rows
theorem bit1 (x : Int) : Builtin.bitAnd x 1 = x % 2 := by
  have h := kbt_mask x 1
  simpa using h
theorem bit01 (x : Int) : 0 ≤ Builtin.bitAnd x 1 ∧ Builtin.bitAnd x 1 ≤ 1 := by rw [bit1]; omega
section
variable {prog : Program} {w : World} {A : Around} {E : Value → Shared → Prop} {s : Shared} {Q : Value → Shared → Prop}
theorem mul_flip {x b : Int} {t u : Tok} (h : Q (.int ((1 - Builtin.bitAnd x 1) * b) s.toks) { s with toks := s.toks + 1 }) : wpAny (model prog w) A (binaryOp .Mult (.int (1 - Builtin.bitAnd x 1) t) (.int b u)) Q E s :=
  mul_int h (IntMulOk.of_left (intBits_le_64 (by have := bit01 x; omega) (by have := bit01 x; omega)))
theorem mul_left {a b : Int} {t u : Tok} (h1 : -(2 ^ 64) < a) (h2 : a < 2 ^ 64) (h : Q (.int (a * b) s.toks) { s with toks := s.toks + 1 }) : wpAny (model prog w) A (binaryOp .Mult (.int a t) (.int b u)) Q E s :=
  mul_int h (IntMulOk.of_left (intBits_le_64 h1 h2))
theorem pow_small {a k : Int} {t u : Tok} (hk : 0 ≤ k) (hk' : k < 1000) (ha : a.natAbs < 2 ^ 64) (h : Q (.int (a ^ k.toNat) s.toks) { s with toks := s.toks + 1 }) : wpAny (model prog w) A (binaryOp .Pow (.int a t) (.int k u)) Q E s :=
  pow_int_small hk (by omega) ha h
end
end Mine
namespace Mine
open PySem PySem.W PyProof.Rows
local macro_rules | `(tactic| walk_at "binaryOp Mult int int") => `(tactic| (with_reducible refine mul_flip ?_))
local macro_rules | `(tactic| walk_at "binaryOp Pow int int") => `(tactic| (with_reducible refine pow_small ?_ ?_ ?_ ?_; omega; omega; decide))
local macro_rules | `(tactic| k_all) => `(tactic| assumption)
def restIn (x : Int) (i : Nat) : Int := if 0 + (i : Int) < 32 then 1 - Builtin.bitAnd (x.fdiv (2 ^ (0 + (i : Int)).toNat)) 1 else 0
def red (r : Int) : Int := if 2 ^ Int.toNat 32 ≤ r then Builtin.bitXor r 4374732215 else r
def restN (x : Int) : Nat → Int
  | 0 => 0
  | i + 1 => red (2 * restN x i + restIn x i)
theorem restN_a {x : Int} {i : Nat} (h : 0 + (i : Int) < 32) (h2 : 2 ^ Int.toNat 32 ≤ 2 * restN x i + (1 - Builtin.bitAnd (x.fdiv (2 ^ (0 + (i : Int)).toNat)) 1)) :
    Builtin.bitXor (2 * restN x i + (1 - Builtin.bitAnd (x.fdiv (2 ^ (0 + (i : Int)).toNat)) 1)) 4374732215 = restN x (i + 1) := by
  simp only [restN, restIn, red, if_pos h, if_pos h2]
theorem restN_b {x : Int} {i : Nat} (h : 0 + (i : Int) < 32) (h2 : ¬ 2 ^ Int.toNat 32 ≤ 2 * restN x i + (1 - Builtin.bitAnd (x.fdiv (2 ^ (0 + (i : Int)).toNat)) 1)) :
    2 * restN x i + (1 - Builtin.bitAnd (x.fdiv (2 ^ (0 + (i : Int)).toNat)) 1) = restN x (i + 1) := by
  simp only [restN, restIn, red, if_pos h, if_neg h2]
theorem restN_c {x : Int} {i : Nat} (h : ¬ 0 + (i : Int) < 32) (h2 : 2 ^ Int.toNat 32 ≤ 2 * restN x i + 0) : Builtin.bitXor (2 * restN x i + 0) 4374732215 = restN x (i + 1) := by
  simp only [restN, restIn, red, if_neg h, if_pos h2]
theorem restN_d {x : Int} {i : Nat} (h : ¬ 0 + (i : Int) < 32) (h2 : ¬ 2 ^ Int.toNat 32 ≤ 2 * restN x i + 0) : 2 * restN x i + 0 = restN x (i + 1) := by
  simp only [restN, restIn, red, if_neg h, if_neg h2]
theorem six_off {I c : Addr} {o o' : Obj} {news : List (Addr × Obj)} (hne : c ≠ I) (off : ∀ p ∈ (c, o) :: news, p.1 ≠ I) : ∀ p ∈ (c, o') :: news, p.1 ≠ I := fun p hp => by
  rcases List.mem_cons.mp hp with rfl | hp
  · exact hne
  · exact off p (.tail _ hp)
def sixVal (R : Int) : Int := (List.map (fun k' => (1 - Builtin.bitAnd (R.fdiv (2 ^ (31 - k').toNat)) 1) * 2 ^ k'.toNat) (rangeKs 0 (6 - 0 : Int).toNat)).sum
def lawSix (x : Int) : Int := sixVal (restN x 64)
theorem six_spec (w : World) (x : Int) (t₀ : Tok) (news : List (Addr × Obj)) : Spec w 47 [.int x t₀] news (fun r news' => (∃ t, r = .int (lawSix x) t) ∧ news' = news) := by
  refine spec_introC (fun y => if y = Str.ofString "word" then some (.int x t₀) else none) (fun _ => none) (by rfl) (by rfl) (fun _ => BindsTo.of_eq rfl) (by rfl) (by decide) rfl rfl rfl (fun L y => ?_) (fun L y => ?_) ?_
  · show bindL _ [(Str.ofString "word", Value.int x t₀)] (fun _ => none) y = _
    rfl
  · show bindC _ [(Str.ofString "word", Value.int x t₀)] (fun _ => none) y = _
    rfl
  w_top off
  k_fill
  intro p loose mean mg mb A₀ dp gd un outer base g L s cells B F X N Y T lt hdp hun hb
  obtain ⟨o, rfl, ho⟩ := CellsAre.one Y
  have hoff : ∀ p ∈ news, p.1 ≠ L + 1 := fun p hp => Nat.ne_of_lt (Nat.lt_succ_of_lt (lt p hp))
  simp only [List.cons_append, List.nil_append] at N
  refine execs_hold ?_
  k_steps
  refine Hold.mk ?_
  refine execs_hold ?_
  refine for_hold ?_
  k_steps
  refine Hold.mk ?_
  refine range_loop (n := 64) (h₀ := g) (L := L) (s₀ := s) (fun i m' news' => ∃ o t, news' = (L + 1, o) :: news ∧ o.data = .cell (some (.int (restN x i) t)) ∧ m' (Str.ofString "word") = some (.int x t₀)) rfl (by assumption) (by decide) (by decide) (by assumption) (by assumption) ⟨rfl, hb⟩ ⟨_, _, rfl, by assumption, rfl⟩ ?_ ?_
  · intro i t I oI m₁ news₁ s₁ hi hJ F₁ N₁ off₁ r₁
    obtain ⟨o, t, rfl, hd, hm⟩ := hJ
    have F₁ := Fr.exp' F₁ hm
    have hne := neN (off₁ _ (.head _))
    refine hold_fun ?_
    k_steps
    refine Hold.mk ?_
    refine hold_fun ?_
    k_steps
    · (rename (0 + (i : Int) < 32) => c1); (rename (2 ^ Int.toNat 32 ≤ _) => c2); (rename (Obj.data _ = _) => dd)
      obtain ⟨t', hd'⟩ := cell_to dd (restN_a c1 c2)
      exact ⟨rfl, _, _, by assumption, by assumption, six_off hne off₁, ⟨_, _, rfl, hd', rfl⟩, r₁.os, r₁.bare⟩
    · (rename (0 + (i : Int) < 32) => c1); (rename (¬ 2 ^ Int.toNat 32 ≤ _) => c2); (rename (Obj.data _ = _) => dd)
      obtain ⟨t', hd'⟩ := cell_to dd (restN_b c1 c2)
      exact ⟨rfl, _, _, by assumption, by assumption, six_off hne off₁, ⟨_, _, rfl, hd', rfl⟩, r₁.os, r₁.bare⟩
    · (rename (¬ 0 + (i : Int) < 32) => c1); (rename (2 ^ Int.toNat 32 ≤ _) => c2); (rename (Obj.data _ = _) => dd)
      obtain ⟨t', hd'⟩ := cell_to dd (restN_c c1 c2)
      exact ⟨rfl, _, _, by assumption, by assumption, six_off hne off₁, ⟨_, _, rfl, hd', rfl⟩, r₁.os, r₁.bare⟩
    · (rename (¬ 0 + (i : Int) < 32) => c1); (rename (¬ 2 ^ Int.toNat 32 ≤ _) => c2); (rename (Obj.data _ = _) => dd)
      obtain ⟨t', hd'⟩ := cell_to dd (restN_d c1 c2)
      exact ⟨rfl, _, _, by assumption, by assumption, six_off hne off₁, ⟨_, _, rfl, hd', rfl⟩, r₁.os, r₁.bare⟩
  · intro m₁ news₁ s₁ hJ F₁ N₁ r₁
    obtain ⟨o, t, rfl, hd, hm⟩ := hJ
    have F₁ := Fr.exp' F₁ hm
    generalize hR : restN x 64 = R at hd
    refine Hold.mk ?_
    refine hold_fun ?_
    k_steps
    refine ⟨_, _, news, rfl, by assumption, News.sub' (by assumption) (fun p hp => .tail _ (.tail _ hp)), ⟨r₁.os, r₁.bare⟩, ?_, rfl⟩
    rw [lawSix, hR]
    exact ⟨_, rfl⟩
end Mine
namespace Mine
open PySem PySem.W PyProof.Rows
open LCg
section
variable {prog : Program} {w : World} {A : Around} {E : Value → Shared → Prop} {s : Shared} {h₀ : Heap} {L : Addr} {m : Str → Option Value} {env : Env}
theorem fr_wr {h h' : Heap} {wr : List Addr} (F : Fr h₀ L h m) (hk : ∀ b o, b ∉ wr → h.get? b = some o → h'.get? b = some o) (hL : L ∉ wr) (hw : ∀ b ∈ wr, h₀.get? b = none) : Fr h₀ L h' m :=
  ⟨F.ns.at' fun o e => hk L o hL e, fun b o e => hk b o (fun hm => by rw [hw b hm] at e; cases e) (F.keep b o e), F.above⟩
theorem news_wr {h h' : Heap} {wr : List Addr} {news : List (Addr × Obj)} (N : News h₀ L h news) (hk : ∀ b o, b ∉ wr → h.get? b = some o → h'.get? b = some o) (off : ∀ p ∈ news, p.1 ∉ wr) : News h₀ L h' news :=
  fun p hp => ⟨hk _ _ (off p hp) (N p hp).1, (N p hp).2⟩
/-- a list comprehension that unpacks the pairs of an iterator; its element makes nothing -/
theorem block_pairs {elt iter : Expr} {x x₂ : Str} {px px₂ tp : Pos} {tk} {scope : Scope} {cl : List (Str × Addr)} {pos : Pos} {s₂ : Shared} {I : Addr} {fp wr : List Addr} {n : Nat} {Pt : Nat → Array Value → Prop} {St : Nat → Heap → Prop}
    {Mid : Nat → Addr → Heap → Prop} {news : List (Addr × Obj)} {RR : Value → Addr → Result → Shared → Prop} (G : Nat → Value → Prop)
    (W : WalksU prog w A I fp wr n Pt St Mid) (hsz2 : ∀ i vals, Pt i vals → ∃ va vb, vals = #[va, vb]) (hsz : n ≤ sizeLine)
    (hcell : ∀ y ∈ scope.names, y.2 ≠ .cell) (hkind : scope.kind = .function) (hx : scope.names.lookup x = some .local) (hx₂ : scope.names.lookup x₂ = some .local) (hxx : x ≠ x₂) (hh : A.handled = none) (hst : St 0 s₂.heap) (hfp : ∀ b ∈ fp, b < s₂.heap.objs.size)
    (F : Fr h₀ L s₂.heap m) (N : News h₀ L s₂.heap news) (hLw : L ∉ wr) (hw₀ : ∀ b ∈ wr, h₀.get? b = none) (off : ∀ p ∈ news, p.1 ∉ wr)
    (el : ∀ i va vb C (u : Shared) m₂ E', Pt i #[va, vb] → u.heap.Ns C m₂ → m₂ x = some va → m₂ x₂ = some vb → Fr h₀ L u.heap m → News h₀ L u.heap news →
      wpAny (model prog w) A (eval elt (compEnvC scope cl C env)) (fun y s₃ => G i y ∧ Keeps u s₃) E' u)
    (hRR : ∀ D C h tk m' ys, Fr h₀ L h m → News h₀ L h ((D, lst ys) :: news) → (∀ p ∈ news, p.1 ≠ D) → h.Ns C m' → h₀.get? C = none → h₀.get? D = none → C ≠ L → D ≠ L → C ≠ D → (∀ p ∈ news, p.1 ≠ C) → ys.length = n → (∀ i y, ys[i]? = some y → G i y) →
      RR (.ref D) C (.ok .next) { s₂ with heap := h, toks := tk }) :
    wpAny (model prog w) A (newList []) (fun acc s₃ => wpAny (model prog w) A (newFunctionEnv scope env.globals cl [] env.qual none .none (some env)) (fun cenv s₄ =>
      codeAny (model prog w) A (.compStart (.ListComp elt [⟨.Tuple [.Name x px, .Name x₂ px₂] tk tp, iter, [], 0⟩] scope pos) 0 (.ref I) acc { cenv with scope := relabel scope env }) (RR acc cenv.locals) s₄) E s₃) E s₂ := by
  refine wpAny_newObj_type (wpAny_newFunctionEnv hcell (by intro y hy; simp at hy) (fun h₁ hns₁ hsb₁ => ?_) hkind)
  dsimp only at hns₁ hsb₁ ⊢
  generalize hH2 : s₂.heap.push { cls := .type "list", dict := none, data := .seq ([] : List Value).toArray } = H2 at hns₁ hsb₁ ⊢
  generalize hZ : s₂.heap.objs.size = Z at *
  have hC : H2.objs.size = Z + 1 := by rw [← hH2, Heap.size_push, hZ]
  generalize hY : H2.objs.size = Y at *
  subst hC
  have hDC : Z ≠ Z + 1 := Nat.ne_of_lt (Nat.lt_succ_self _)
  have below : ∀ b, b < Z → b ≠ Z + 1 ∧ b ≠ Z := fun b hb => ⟨Nat.ne_of_lt (Nat.lt_succ_of_lt hb), Nat.ne_of_lt hb⟩
  have hDf : Z ∉ fp := fun hm => Nat.lt_irrefl _ (hfp _ hm)
  have hCf : Z + 1 ∉ fp := fun hm => Nat.lt_irrefl _ (Nat.lt_of_succ_lt (hfp _ hm))
  have hCw : Z + 1 ∉ wr := fun hm => hCf (W.sub _ hm)
  have hDw : Z ∉ wr := fun hm => hDf (W.sub _ hm)
  have hlt₂ : ∀ {b o}, s₂.heap.get? b = some o → b < Z := fun e => hZ ▸ Heap.lt_size e
  have old : ∀ b o, s₂.heap.get? b = some o → h₁.get? b = some o := fun b o e => hsb₁.extBut b o (below b (hlt₂ e)).1 (Heap.get?_push_of_some _ (hH2 ▸ Heap.get?_push_of_some _ e))
  have hacc : h₁.get? Z = some (lst []) := hsb₁.extBut _ _ hDC (Heap.get?_push_of_some _ (hH2 ▸ hZ ▸ Heap.get?_push_size _ rfl))
  have hst₁ : St 0 h₁ := W.frame _ _ _ hst fun b _ o e => old b o e
  have fresh₀ : ∀ a, Z ≤ a → h₀.get? a = none := fun a ha => by
    cases e : h₀.get? a with
    | none => rfl
    | some o' => exact absurd (hlt₂ (F.keep a o' e)) (Nat.not_lt.mpr ha)
  have hD₀ : h₀.get? Z = none := fresh₀ _ (Nat.le_refl _)
  have hC₀ : h₀.get? (Z + 1) = none := fresh₀ _ (Nat.le_succ _)
  have hLlt : L < Z := hZ ▸ F.ns.lt
  have hDL : Z ≠ L := Ne.symm (below L hLlt).2
  have hCL : Z + 1 ≠ L := Ne.symm (below L hLlt).1
  have offD : ∀ p ∈ news, p.1 ≠ Z := fun p hp => (below _ (hlt₂ (N p hp).1)).2
  have offC : ∀ p ∈ news, p.1 ≠ Z + 1 := fun p hp => (below _ (hlt₂ (N p hp).1)).1
  have loop : ∀ s₃ : Shared, s₃ = { s₂ with heap := h₁, toks := s₂.toks + ([] : List (Str × Value)).length } →
      codeAny (model prog w) A (.compLoop (.ListComp elt [⟨.Tuple [.Name x px, .Name x₂ px₂] tk tp, iter, [], 0⟩] scope pos) 0 (.ref I) (.ref Z) (compEnvC scope cl (Z + 1) env)) (RR (.ref Z) (Z + 1)) s₃ := by
    rintro s₃ rfl
    refine LCp.codeAny_compLoop_pair
      (fun k s' => ∃ h' tk i ys m', s' = { s₂ with heap := h', toks := tk } ∧ i ≤ n ∧ k = n + 1 - i ∧ ys.length = i ∧ (∀ j y, ys[j]? = some y → G j y) ∧ St i h' ∧ Fr h₀ L h' m ∧ h'.Ns (Z + 1) m' ∧ News h₀ L h' ((Z, lst ys) :: news)) ?_ (n + 1)
      ⟨h₁, _, 0, [], _, rfl, Nat.zero_le _, rfl, rfl, (by intro j y h; simp at h), hst₁, F.keeps old, hns₁, fun p hp => ?_⟩
    · rintro k s' ⟨h', tk, i, ys, m', rfl, hi, rfl, hyl, hG, hst', F', hn', N'⟩
      have offA : ∀ p ∈ ((Z, lst ys) :: news), p.1 ∉ wr := fun p hp => by
        rcases List.mem_cons.mp hp with rfl | hp
        · exact hDw
        · exact off p hp
      by_cases hlt : i < n
      · refine W.item i _ _ _ hlt hst' fun T vals h₂ tk₂ hPt hT hmid hk₂ => ?_
        obtain ⟨va, vb, rfl⟩ := hsz2 i vals hPt
        refine W.go _ _ _ i T _ _ _ hmid fun h₃ hst₃ hk₃ => ?_
        have hT₃ : h₃.IsTuple T #[va, vb] := let ⟨o, e, r⟩ := hT; ⟨o, hk₃ _ o (W.apart i T _ hmid) e, r⟩
        have k23 : ∀ b o, b ∉ wr → h'.get? b = some o → h₃.get? b = some o := fun b o hb e => hk₃ b o hb (hk₂ b o hb e)
        have F₃ := fr_wr F' k23 hLw hw₀
        have N₃ := news_wr N' k23 offA
        refine wpAny_assign_Tuple hh hT₃ rfl rfl fun h₄ he => ?_
        replace he : Heap.ExtBut h₃.objs.size h₃ h₄ := he
        have he' : ∀ b o, h₃.get? b = some o → h₄.get? b = some o := fun b o e => he b o (Nat.ne_of_lt (Heap.lt_size e)) e
        refine assignInOrder_cons (wpAny_assign_Name (wpAny_storeName_local (lookup_relabel_local hx) ((hn'.at' fun o e => k23 _ o hCw e).at' fun o e => he' _ o e) (fun h₅ hn₅ hs₅ => ?_) (by simp [compEnvC, relabel, hkind])))
        refine assignInOrder_cons (wpAny_assign_Name (wpAny_storeName_local (lookup_relabel_local hx₂) hn₅ (fun h₆ hn₆ hs₆ => ?_) (by simp [compEnvC, relabel, hkind])))
        refine assignInOrder_nil ?_
        replace hs₅ : Heap.SameBut (Z + 1) h₄ h₅ := hs₅
        replace hs₆ : Heap.SameBut (Z + 1) h₅ h₆ := hs₆
        have old6 : ∀ b o, b ≠ Z + 1 → h₃.get? b = some o → h₆.get? b = some o := fun b o hb e => hs₆.extBut b o hb (hs₅.extBut b o hb (he' b o e))
        have hst₆ : St (i + 1) h₆ := W.frame _ _ _ hst₃ fun b hb o e => old6 b o (fun q => hCf (q ▸ hb)) e
        have F₆ : Fr h₀ L h₆ m := ((F₃.keeps he').change hs₅ hCL hC₀).change hs₆ hCL hC₀
        have N₆ : News h₀ L h₆ ((Z, lst ys) :: news) := fun p hp => ⟨old6 _ _ (by
          rcases List.mem_cons.mp hp with rfl | hp
          · exact hDC
          · exact offC p hp) (N₃ p hp).1, (N₃ p hp).2⟩
        refine wpAny_mono (el i va vb (Z + 1) _ _ _ hPt hn₆ (by simp [hxx]) (by simp) F₆ (fun p hp => N₆ p (List.mem_cons_of_mem _ hp))) (fun y s₄ h₄' => ?_) fun _ _ e => e
        obtain ⟨hy, h₇, tk₇, rfl, hk₇⟩ := h₄'
        have zD := hk₇ _ _ (N₆ (Z, lst ys) List.mem_cons_self).1
        refine append_at (hsz := by show ys.toArray.size ≤ sizeLine; rw [List.size_toArray, hyl]; exact Nat.le_trans hi hsz) zD fun h₈ hs₈ hD₈ => ?_
        refine ⟨n + 1 - (i + 1), by omega, h₈, tk₇, i + 1, ys ++ [y], _, rfl, hlt, rfl, by rw [List.length_append, List.length_singleton, hyl], ?_, W.frame _ _ _ (W.frame _ _ _ hst₆ fun b _ o e => hk₇ b o e) fun b hb o e => hs₈.extBut b o (fun q => hDf (q ▸ hb)) e, (F₆.keeps hk₇).change hs₈ hDL hD₀,
          (hn₆.keeps hk₇).sameBut hs₈ (Ne.symm hDC), fun p hp => ?_⟩
        · intro j z hz
          by_cases hj : j < ys.length
          · rw [List.getElem?_append_left hj] at hz; exact hG j z hz
          · rw [List.getElem?_append_right (Nat.not_lt.mp hj)] at hz
            have hj0 : j - ys.length = 0 := by
              cases hq : j - ys.length with
              | zero => rfl
              | succ q => rw [hq] at hz; simp at hz
            have hji : j = i := by omega
            rw [hj0] at hz
            simp at hz
            subst hz hji
            exact hy
        · rcases List.mem_cons.mp hp with rfl | hp
          · exact ⟨hD₈.trans (congrArg some (lst_snoc ys y)), hDL, hD₀⟩
          · exact ⟨hs₈.extBut _ _ (offD p hp) (hk₇ _ _ (N₆ p (List.mem_cons_of_mem _ hp)).1), (N₆ p (List.mem_cons_of_mem _ hp)).2⟩
      · obtain rfl : i = n := Nat.le_antisymm hi (Nat.not_lt.mp hlt)
        refine W.done _ _ _ hst' fun h₂ tk₂ hk₂ => ?_
        exact hRR _ _ h₂ tk₂ _ ys (fr_wr F' hk₂ hLw hw₀) (news_wr N' hk₂ offA) offD (hn'.at' fun o e => hk₂ _ o hCw e) hC₀ hD₀ hCL hDL (Ne.symm hDC) offC hyl hG
    · rcases List.mem_cons.mp hp with rfl | hp
      · exact ⟨hacc, hDL, hD₀⟩
      · exact ⟨old _ _ (N p hp).1, (N p hp).2⟩
  exact codeAny_compStart_list (loop _ rfl) (W.self 0 _ _ _ hst₁ (loop _ rfl))
/-- y = [elt for x, x₂ in zip(l1, l2)], l1 and l2 lists of the ledger's or of the ground's -/
theorem assign_zip {elt iter : Expr} {x x₂ y : Str} {px px₂ tp py : Pos} {tk} {scope : Scope} {cl : List (Str × Addr)} {pos spos : Pos} {Q : Flow → Shared → Prop} (F₀ : Fr h₀ L s.heap m) (hLe : env.locals = L)
    (hsw : swapsWith (.ListComp elt [⟨.Tuple [.Name x px, .Name x₂ px₂] tk tp, iter, [], 0⟩] scope pos) (some (.Name y py)) spos.line env = pure true)
    (hclos : closureFor scope env = pure cl) (hcell : ∀ z ∈ scope.names, z.2 ≠ .cell) (hkind : scope.kind = .function)
    (hnames : ∀ z ∈ scope.names, z.2 = .local → scope.names.lookup z.1 = some .local) (hx : scope.names.lookup x = some .local) (hx₂ : scope.names.lookup x₂ = some .local) (hxx : x ≠ x₂)
    (hy : env.kindOf y = some .local) (hp : (env.scope.kind == .class || (env.scope.kind == .module && env.locals != env.globals)) = false) (hh : A.handled = none)
    (h : wpAny (model prog w) A (eval iter env) (fun xv s₁ => ∃ z TI TO i1 i2 l1 l2 xs ys news, xv = .ref z ∧ ZipApart z TI TO i1 i2 l1 l2 ∧
        (IsZip s₁.heap z TI TO .none ∧ IsPair s₁.heap TI (.ref i1) (.ref i2) ∧ (∃ a b, IsPair s₁.heap TO a b) ∧ s₁.heap.IsListIter i1 l1 0 ∧ s₁.heap.IsListIter i2 l2 0 ∧ s₁.heap.IsList l1 xs ∧ s₁.heap.IsList l2 ys) ∧
        Fr h₀ L s₁.heap m ∧ News h₀ L s₁.heap news ∧ (∀ b ∈ [z, TO, i1, i2], h₀.get? b = none ∧ b ≠ L) ∧ (∀ p ∈ news, p.1 ∉ [z, TO, i1, i2]) ∧ min xs.size ys.size ≤ sizeLine ∧ ∃ G : Nat → Value → Prop,
        (∀ i va vb C (u : Shared) m₂ E', xs[i]? = some va → ys[i]? = some vb → u.heap.Ns C m₂ → m₂ x = some va → m₂ x₂ = some vb → Fr h₀ L u.heap m → News h₀ L u.heap news →
          wpAny (model prog w) A (eval elt (compEnvC scope cl C env)) (fun y s₃ => G i y ∧ Keeps u s₃) E' u) ∧
        ∀ D h tk zs, Fr h₀ L h (fun z => if z = y then some (.ref D) else m z) → News h₀ L h ((D, lst zs) :: news) → (∀ p ∈ news, p.1 ≠ D) → zs.length = min xs.size ys.size → (∀ i y, zs[i]? = some y → G i y) → Q .next { s₁ with heap := h, toks := tk }) E s)
    (hs : ∀ x, foldedSetIterable iter env x = pure x := by intro _; rfl) :
    wpAny (model prog w) A (exec (.Assign [.Name y py] (.ListComp elt [⟨.Tuple [.Name x px, .Name x₂ px₂] tk tp, iter, [], 0⟩] scope pos) spos) env) Q E s := by
  subst hLe
  rw [exec_Assign_Name_used _ _ _ _ hsw]
  refine wpAny_bind (wpAny_standAt (wpAny_bind ?_))
  show wpAny _ A (do let _ ← comprehension (.ListComp elt [⟨.Tuple [.Name x px, .Name x₂ px₂] tk tp, iter, [], 0⟩] scope pos) scope env _ (newList []) false (eval iter env) (some (assign (.Name y py) env))) _ _ s
  refine wpAny_bind (wpAny_mono (wpAny_comprehension_free (use := some (assign (.Name y py) env)) (Q := fun _ s' => Q .next s') rfl hs hclos hkind hnames
    (wpAny_mono h (fun xv s₁ h₁ => ?_) fun _ _ e => e)) (fun _ s' hq => wpAny_pure (wpAny_pure hq)) fun _ _ e => e)
  obtain ⟨z, TI, TO, i1, i2, l1, l2, xs, ys, news, rfl, D, hst, F, N, hw, off, hsz, G, el, fin⟩ := h₁
  have W := (WalksT.zip2 (prog := prog) (w := w) hh z TI TO i1 i2 l1 l2 D xs ys).toU
  refine W.self 0 _ _ _ hst ?_
  refine block_pairs G W (fun i vals hv => by obtain ⟨x, y, _, _, e⟩ := hv; exact ⟨x, y, e⟩) hsz hcell hkind hx hx₂ hxx hh hst ?_ F N (fun hm => (hw _ hm).2 rfl) (fun b hb => (hw b hb).1) off (fun i va vb C u m₂ E' hP hn h1 h2 F' N' => ?_) ?_
  · obtain ⟨hz, hTI, ⟨ta, tb, hTO⟩, ⟨o1, h1, c1, _⟩, ⟨o2, h2, c2, _⟩, ⟨ol1, hl1, cl1, _⟩, ⟨ol2, hl2, cl2, _⟩⟩ := hst
    intro b hb
    simp only [List.mem_cons, List.not_mem_nil, or_false] at hb
    rcases hb with rfl | rfl | rfl | rfl | rfl | rfl | rfl
    · exact Heap.lt_size hz
    · exact Heap.lt_size hTI
    · exact Heap.lt_size hTO
    · exact Heap.lt_size h1
    · exact Heap.lt_size h2
    · exact Heap.lt_size hl1
    · exact Heap.lt_size hl2
  · obtain ⟨a, b, ha, hb, e⟩ := hP
    obtain ⟨e1, e2⟩ : va = a ∧ vb = b := by simpa using congrArg Array.toList e
    subst e1 e2
    exact el i va vb C u m₂ E' ha hb hn h1 h2 F' N'
  · intro D' C h' tk m' zs F' N' offD hn hC₀ hD₀ hCL hDL hCD offC hl hG
    show wpAny _ A (assign (.Name y py) env (.ref D')) _ _ _
    refine wpAny_assign_Name (wpAny_storeName_local hy F'.ns (fun h₂ hn₂ hs₂ => ?_) hp)
    have hL₀ : h₀.get? env.locals = none := Heap.get?_none_of_le F'.above
    have F₂ : Fr h₀ env.locals h₂ (fun z => if z = y then some (.ref D') else m z) := ⟨hn₂, fun b o e => hs₂.extBut b o (fun q => by rw [q, hL₀] at e; cases e) (F'.keep b o e), F'.above⟩
    refine ⟨m', hn.sameBut hs₂ hCL, fun h'' hs'' => fin D' h'' _ zs (F₂.change hs'' hCL hC₀) (fun p hp => ?_) offD hl hG⟩
    have z : h₂.get? p.1 = some p.2 := hs₂.extBut _ _ (N' p hp).2.1 (N' p hp).1
    refine ⟨hs''.extBut _ _ ?_ z, (N' p hp).2⟩
    rcases List.mem_cons.mp hp with rfl | hp
    · exact Ne.symm hCD
    · exact offC p hp
/-- zip of two lists -/
theorem zip_new {l1 l2 : Addr} {xs ys : Array Value} {news : List (Addr × Obj)} {Q : Value → Shared → Prop} (F : Fr h₀ L s.heap m) (N : News h₀ L s.heap news) (hl1 : s.heap.IsList l1 xs) (hl2 : s.heap.IsList l2 ys)
    (k : ∀ h' z TI TO i1 i2, ZipApart z TI TO i1 i2 l1 l2 →
      (IsZip h' z TI TO .none ∧ IsPair h' TI (.ref i1) (.ref i2) ∧ (∃ a b, IsPair h' TO a b) ∧ h'.IsListIter i1 l1 0 ∧ h'.IsListIter i2 l2 0 ∧ h'.IsList l1 xs ∧ h'.IsList l2 ys) →
      Fr h₀ L h' m → News h₀ L h' news → (∀ b ∈ [z, TO, i1, i2], h₀.get? b = none ∧ b ≠ L) → (∀ p ∈ news, p.1 ∉ [z, TO, i1, i2]) → Q (.ref z) { s with heap := h' }) :
    wpAny (model prog w) A (call (.type "zip") [.ref l1, .ref l2]) Q E s := by
  refine zip_rows F hl1 hl2 fun h' z TI TO i1 i2 D hst F' hk a1 a2 a3 a4 a5 => ?_
  have hn : ∀ b ∈ [z, TO, i1, i2], s.heap.objs.size ≤ b := fun b hb => by
    simp only [List.mem_cons, List.not_mem_nil, or_false] at hb
    rcases hb with rfl | rfl | rfl | rfl <;> assumption
  refine k h' z TI TO i1 i2 D hst F' (N.grown hk) (fun b hb => ⟨?_, ?_⟩) fun p hp hm => ?_
  · cases e : h₀.get? b with
    | none => rfl
    | some o => exact absurd (Heap.lt_size (F.keep _ _ e)) (Nat.not_lt.mpr (hn b hb))
  · exact Nat.ne_of_gt (Nat.lt_of_lt_of_le F.ns.lt (hn b hb))
  · exact absurd (Heap.lt_size (N p hp).1) (Nat.not_lt.mpr (hn _ hm))
theorem add_led {l b : Addr} {vs ws : List Value} {k1 k2 : Nat} {news : List (Addr × Obj)} {Q : Value → Shared → Prop} (F : Fr h₀ L s.heap m) (N : News h₀ L s.heap news) (m1 : (l, W.listOf vs.toArray k1) ∈ news) (m2 : (b, W.listOf ws.toArray k2) ∈ news)
    (hsz : vs.length + ws.length ≤ 10000) (h : ∀ l' h', Fr h₀ L h' m → News h₀ L h' ((l', W.listOf (vs ++ ws).toArray 0) :: news) → (∀ p ∈ news, p.1 < l') → Q (.ref l') { s with heap := h' }) :
    wpAny (model prog w) A (binaryOp .Add (.ref l) (.ref b)) Q E s :=
  add_lists F N ⟨_, (N _ m1).1, rfl, _, rfl⟩ ⟨_, (N _ m2).1, rfl, _, rfl⟩ (fun h' F' N' => h _ h' F' N' fun p hp => Heap.lt_size (N p hp).1) (by rw [sizeLine_eq]; omega)
theorem cname_local {scope : Scope} {cl : List (Str × Addr)} {C : Addr} {x : Str} {pos : Pos} {m₂ : Str → Option Value} {v : Value} {Q : Value → Shared → Prop} (hn : s.heap.Ns C m₂) (hv : m₂ x = some v) (h : Q v s)
    (hk : (relabel scope env).kind = .function := by rfl) (hl : (compEnvC scope cl C env).kindOf x = some .local := by rfl) (hd : (x == ("__debug__" : Str)) = false := by decide) :
    wpAny (model prog w) A (eval (.Name x pos) (compEnvC scope cl C env)) Q E s := wpAny_Name (wpAny_loadName_local hk hl hn hv h) hd
theorem cname_cell {scope : Scope} {cl : List (Str × Addr)} {C c : Addr} {x : Str} {pos : Pos} {o : Obj} {news : List (Addr × Obj)} {v : Value} {Q : Value → Shared → Prop} (N : News h₀ L s.heap news) (hm : (c, o) ∈ news) (hc : o.data = .cell (some v)) (h : Q v s)
    (hlk : cl.lookup x = some c := by rfl)
    (hk : (relabel scope env).kind = .function := by rfl) (hl : (compEnvC scope cl C env).kindOf x = some .cell := by rfl) (hd : (x == ("__debug__" : Str)) = false := by decide) :
    wpAny (model prog w) A (eval (.Name x pos) (compEnvC scope cl C env)) Q E s := wpAny_Name (wpAny_loadName_cell hk hl hlk ⟨o, (N _ hm).1, hc⟩ h) hd
end
end Mine
namespace Mine
open PySem PySem.W PyProof.Rows
local macro_rules | `(tactic| walk_at "no such key") => `(tactic| skip)
local macro_rules | `(tactic| k_all) => `(tactic| assumption)
local macro_rules | `(tactic| walk_at "call type:zip") => `(tactic| refine Hold.out ?_)
local macro_rules | `(tactic| walk_at "binaryOp Add ref ref") => `(tactic| refine Hold.out ?_)
def sgn (j i : Nat) : Int := if j < i then -1 else 1
def polyNext (c : Int) (p : List Int) : List Int := List.zipWith (fun a b => a + c * b) (p ++ [0]) (0 :: p)
def poly (i : Nat) : Nat → List Int
  | 0 => [1]
  | k + 1 => polyNext (sgn k i) (poly i k)
theorem poly_length (i : Nat) : ∀ k, (poly i k).length = k + 1
  | 0 => rfl
  | k + 1 => by simp only [poly, polyNext, List.length_zipWith, List.length_append, List.length_cons, List.length_nil, poly_length i k]; omega
theorem sgn_or (j i : Nat) : sgn j i = -1 ∨ sgn j i = 1 := by unfold sgn; split <;> simp
theorem ints_get {ys : List Value} {ns : List Int} (h : IntsAre ys ns) {q : Nat} {v : Value} (e : ys[q]? = some v) : ∃ t, v = .int (ns.getD q 0) t := by
  have hq : q < ns.length := by rw [← h.length]; exact (List.getElem?_eq_some_iff.mp e).1
  obtain ⟨t, ht⟩ := h.get q ns[q] (by simp [hq])
  rw [ht] at e
  refine ⟨t, (Option.some.inj e).symm.trans ?_⟩
  simp [hq]
theorem ints_of_get {zs : List Value} {ns : List Int} (hl : zs.length = ns.length) (h : ∀ (i : Nat) (y : Value), zs[i]? = some y → ∃ t, y = Value.int (ns.getD i 0) t) : IntsAre zs ns := by
  induction zs generalizing ns with
  | nil =>
    cases ns with
    | nil => exact .nil
    | cons a r => simp at hl
  | cons z r ih =>
    cases ns with
    | nil => simp at hl
    | cons a q =>
      obtain ⟨t, e⟩ := h 0 z rfl
      have e' : z = .int a t := e
      subst e'
      exact .cons a t (ih (by simpa using hl) fun i y hy => h (i + 1) y (by simpa using hy))
theorem poly_items {ys : List Value} {ns : List Int} {t1 t2 : Tok} {q : Nat} {va vb : Value} (h : IntsAre ys ns) (h1 : (ys ++ [Value.int 0 t1])[q]? = some va) (h2 : (Value.int 0 t2 :: ys)[q]? = some vb) :
    ∃ ta tb, va = .int ((ns ++ [0]).getD q 0) ta ∧ vb = .int ((0 :: ns).getD q 0) tb := by
  obtain ⟨ta, ea⟩ := ints_get (h.append (.cons 0 t1 .nil)) h1
  obtain ⟨tb, eb⟩ := ints_get (.cons 0 t2 h) h2
  exact ⟨ta, tb, ea, eb⟩
theorem poly_next {ys : List Value} {i j q : Nat} {t1 : Tok} {va : Value} (h : IntsAre ys (poly i j)) (h1 : (ys ++ [Value.int 0 t1])[q]? = some va) :
    (poly i (j + 1)).getD q 0 = (poly i j ++ [0]).getD q 0 + sgn j i * (0 :: poly i j).getD q 0 := by
  have hq : q < (poly i j ++ [0]).length := by
    have := (List.getElem?_eq_some_iff.mp h1).1
    simp only [List.length_append, List.length_cons, List.length_nil, h.length] at this ⊢
    exact this
  have hq2 : q < (0 :: poly i j).length := by simp only [List.length_append, List.length_cons, List.length_nil] at hq ⊢; exact hq
  simp only [poly, polyNext]
  rw [List.getD_eq_getElem?_getD, List.getD_eq_getElem?_getD, List.getD_eq_getElem?_getD, List.getElem?_zipWith, List.getElem?_eq_getElem hq, List.getElem?_eq_getElem hq2]
  rfl
abbrev rowsL (rs : List (Addr × List Value × Nat)) : List (Addr × Obj) := rs.map fun p => (p.1, W.listOf p.2.1.toArray p.2.2)
abbrev refsL (rs : List (Addr × List Value × Nat)) : List Value := rs.map fun p => Value.ref p.1
theorem steps_spec (w : World) (news : List (Addr × Obj)) : Spec w 52 [] news (fun r news' => ∃ S k rs, r = .ref S ∧ news' = (S, W.listOf (refsL rs).toArray k) :: (rowsL rs ++ news) ∧ rs.length = 7 ∧ (∀ j p, rs[j]? = some p → IntsAre p.2.1 (poly j 6)) ∧
    (∀ q ∈ news, q.1 ≠ S) ∧ ∀ p ∈ rs, p.1 ≠ S ∧ ∀ q ∈ news, q.1 ≠ p.1) := by
  refine spec_introC (fun _ => none) (fun _ => none) (by rfl) (by rfl) (fun _ => BindsTo.of_eq rfl) (by rfl) (by decide) rfl rfl rfl (fun L y => rfl) (fun L y => rfl) ?_
  w_top off
  k_fill
  intro p loose mean mg mb A₀ dp gd un outer base g L s cells B F X N Y T lt hdp hun hb
  obtain ⟨o, rfl, ho⟩ := CellsAre.one Y
  have hoff : ∀ p ∈ news, p.1 ≠ L + 1 := fun p hp => Nat.ne_of_lt (Nat.lt_succ_of_lt (lt p hp))
  simp only [List.cons_append, List.nil_append] at N
  refine execs_hold ?_
  k_steps
  refine Hold.mk ?_
  refine execs_hold ?_
  refine for_hold ?_
  k_steps
  with_reducible (rename _ ∧ AllLt _ _ => l1; rename IsRange _ _ _ _ _ _ _ _ => hr2; rename Fr _ _ _ _ => F2; rename News _ _ _ _ => N2)
  have hS1 := allLt_mem l1.2
  refine Hold.mk ?_
  refine range_loop (n := 7) (h₀ := g) (L := L) (s₀ := s) (fun i m' news' => ∃ (o : Obj) (v : Option Value) (S : Addr) (k : Nat) (rs : List (Addr × List Value × Nat)), news' = (S, W.listOf (refsL rs).toArray k) :: (L + 1, o) :: (rowsL rs ++ news) ∧ o.data = .cell v ∧
      m' (Str.ofString "steps") = some (.ref S) ∧ rs.length = i ∧ (∀ j p, rs[j]? = some p → IntsAre p.2.1 (poly j 6)) ∧ @Ne Nat S (L + 1) ∧ (∀ q ∈ news, q.1 ≠ S) ∧ ∀ p ∈ rs, p.1 ≠ L + 1 ∧ p.1 ≠ S ∧ ∀ q ∈ news, q.1 ≠ p.1) rfl hr2 (by decide) (by decide) F2 N2 ⟨rfl, hb⟩
      ⟨o, none, _, 0, [], rfl, ho, rfl, rfl, (by intro j p h; simp at h), Nat.ne_of_gt l1.1, fun q hq => Nat.ne_of_lt (hS1 q hq), (by intro p h; cases h)⟩ ?_ ?_
  · intro i t I oI m₁ news₁ s₁ hi hJ F₁ N₁ off₁ r₁
    obtain ⟨o, v, S, k, rs, rfl, ho, hm, hlen, hrow, hSL, hSn, hrs⟩ := hJ
    have F₁ := Fr.exp' F₁ hm
    have hne1 := neN (off₁ _ (.head _))
    have hne2 := neN (off₁ _ (.tail _ (.head _)))
    have offT : ∀ p ∈ rowsL rs ++ news, p.1 ≠ I := fun p hp => off₁ p (.tail _ (.tail _ hp))
    have htlL : ∀ p ∈ rowsL rs ++ news, p.1 ≠ L + 1 := fun p hp => by
      rcases List.mem_append.mp hp with hp | hp
      · obtain ⟨q, hq, rfl⟩ := List.mem_map.mp hp
        exact (hrs q hq).1
      · exact hoff p hp
    generalize htl : rowsL rs ++ news = tl at *
    refine hold_fun ?_
    k_steps
    refine Hold.mk ?_
    refine execs_hold ?_
    k_steps
    refine Hold.mk ?_
    refine execs_hold ?_
    refine for_hold ?_
    k_steps
    with_reducible (rename _ ∧ _ ∧ _ ∧ AllLt _ _ => l2; rename IsRange _ _ _ _ _ _ _ _ => hr3; rename Fr _ _ _ _ => F3; rename News _ _ _ _ => N3)
    have hM1 := allLt_mem l2.2.2.2
    refine Hold.mk ?_
    refine range_loop (n := 6) (h₀ := g) (L := L) (s₀ := s) (fun j m' news' => ∃ (o : Obj) (v : Option Value) (M : Addr) (ys : List Value) (k2 : Nat), news' = (M, W.listOf ys.toArray k2) :: (I, oI) :: (S, W.listOf (refsL rs).toArray k) :: (L + 1, o) :: tl ∧ o.data = .cell v ∧
        m' (Str.ofString "made") = some (.ref M) ∧ m' (Str.ofString "many") = some (.int (0 + (i : Int)) t) ∧ m' (Str.ofString "steps") = some (.ref S) ∧ IntsAre ys (poly i j) ∧ @Ne Nat M I ∧ @Ne Nat M S ∧ @Ne Nat M (L + 1) ∧ ∀ p ∈ tl, p.1 ≠ M) rfl hr3 (by decide) (by decide) F3 N3 r₁.heap
        ⟨o, v, _, _, 0, rfl, ho, rfl, rfl, rfl, .cons _ _ .nil, Nat.ne_of_gt l2.1, Nat.ne_of_gt l2.2.1, Nat.ne_of_gt l2.2.2.1, fun q hq => Nat.ne_of_lt (hM1 q hq)⟩ ?_ ?_
    · intro j t3 I3 oI3 m₃ news₃ s₃ hj hJ F₃ N₃ off₃ r₃
      obtain ⟨o, v, M, ys, k2, rfl, ho, hm1, hm2, hm3, hys, hMI, hMS, hML, hMt⟩ := hJ
      have F₃ := Fr.exp3' F₃ hm1 hm2 hm3
      have hyl : ys.length = j + 1 := by rw [hys.length, poly_length]
      have g1 := neN (off₃ _ (.head _))
      have g2 := neN (off₃ _ (.tail _ (.head _)))
      have g3 := neN (off₃ _ (.tail _ (.tail _ (.head _))))
      have g4 := neN (off₃ _ (.tail _ (.tail _ (.tail _ (.head _)))))
      have offT3 : ∀ p ∈ tl, p.1 ≠ I3 := fun p hp => off₃ p (.tail _ (.tail _ (.tail _ (.tail _ hp))))
      have offL : ∀ p ∈ tl, p.1 ≠ L + 1 := htlL
      refine hold_fun ?_
      k_steps
      refine Hold.mk ?_
      refine execs_hold ?_
      k_steps
      all_goals
        with_reducible (rename (Obj.data _ = _) => dd; rename Fr _ _ _ _ => F4; rename News _ _ _ _ => N4)
        obtain ⟨t4, d4⟩ := cell_to (b := sgn j i) dd (by first | rw [sgn, if_pos (by omega)] | rw [sgn, if_neg (by omega)])
        show Hold _
        refine Hold.mk ?_
        refine execs_hold ?_
        refine assign_zip F4 rfl (by with_unfolding_all rfl) (by with_unfolding_all rfl) (by decide) rfl (by decide) rfl rfl (by decide) rfl rfl rfl ?_
        refine hold_fun ?_
        k_steps
        refine add_led (vs := ys) (ws := [_]) (by assumption) (by assumption) (.tail _ (.tail _ (.head _))) (.head _) (by simp only [List.length_cons, List.length_nil]; omega) ?_
        intro l5 h5 F5 N5 l5lt
        k_steps
        with_reducible (rename News _ _ _ _ => N6; rename Fr _ _ _ _ => F6)
        refine add_led (vs := [_]) (ws := ys) F6 N6 (.head _) (.tail _ (.tail _ (.tail _ (.tail _ (.head _))))) (by simp only [List.length_cons, List.length_nil]; omega) ?_
        intro l7 h7 F7 N7 l7lt
        k_steps
        refine Hold.mk ?_
        refine zip_new F7 N7 (xs := (ys ++ [_]).toArray) (ys := ([_] ++ ys).toArray) ⟨_, (N7 _ (.tail _ (.tail _ (.head _)))).1, rfl, _, rfl⟩ ⟨_, (N7 _ (.head _)).1, rfl, _, rfl⟩ ?_
        intro h8 z TI TO i1 i2 Za Zst F8 N8 hw8 off8
        refine ⟨z, TI, TO, i1, i2, l5, l7, _, _, (I3, oI3) :: (M, W.listOf ys.toArray k2) :: (I, oI) :: (S, W.listOf (refsL rs).toArray k) :: (L + 1, _) :: tl, rfl, Za, Zst, F8, News.sub' N8 (fun p hp => .tail _ (.tail _ (.tail _ (.tail _ hp)))), hw8, fun p hp => off8 p (.tail _ (.tail _ (.tail _ (.tail _ hp)))), ?_,
          fun q y => ∃ t, y = .int ((poly i (j + 1)).getD q 0) t, ?_, ?_⟩
        · rw [sizeLine_eq]
          simp only [List.size_toArray, List.length_append, List.length_cons, List.length_nil]
          omega
        · intro q va vb C u m₂ E' hva hvb hns ha hb' Fu Nu
          obtain ⟨ta, tb, rfl, rfl⟩ := poly_items hys (by simpa using hva) (by simpa using hvb)
          refine wpAny_BinOp (cname_local hns ha (wpAny_BinOp (cname_cell Nu (.tail _ (.tail _ (.tail _ (.tail _ (.head _))))) d4 (cname_local hns hb' ?_))))
          refine mul_left (by rcases sgn_or j i with e | e <;> rw [e] <;> decide) (by rcases sgn_or j i with e | e <;> rw [e] <;> decide) (add_int ?_)
          dsimp only
          rw [poly_next hys (by simpa using hva)]
          exact ⟨⟨_, rfl⟩, _, _, rfl, fun _ _ e => e⟩
        · intro D h9 tk9 zs F9 N9 offD hzl hzG
          refine Hold.mk (wpAny_execs_nil ⟨rfl, _, (D, W.listOf zs.toArray zs.length) :: (I, oI) :: (S, W.listOf (refsL rs).toArray k) :: (L + 1, _) :: tl, F9, News.sub' N9 ?_, ?_, ⟨_, _, D, zs, zs.length, rfl, d4, rfl, rfl, rfl, ?_, ?_, ?_, ?_, ?_⟩, r₃.os, r₃.bare⟩)
          · intro p hp
            simp only [List.mem_cons] at hp ⊢
            rcases hp with h | h | h | h | h | h <;> simp [h]
          · intro p hp
            simp only [List.mem_cons] at hp
            rcases hp with h | h | h | h | h
            · rw [h]; exact Ne.symm (offD (I3, oI3) (.head _))
            · rw [h]; exact g2
            · rw [h]; exact g3
            · rw [h]; exact g4
            · exact offT3 p h
          · exact ints_of_get (by rw [hzl, poly_length]; simp only [List.size_toArray, List.length_append, List.length_cons, List.length_nil]; omega) hzG
          · exact Ne.symm (offD (I, oI) (.tail _ (.tail _ (.head _))))
          · exact Ne.symm (offD _ (.tail _ (.tail _ (.tail _ (.head _)))))
          · exact Ne.symm (offD _ (.tail _ (.tail _ (.tail _ (.tail _ (.head _))))))
          · exact fun p hp => offD p (.tail _ (.tail _ (.tail _ (.tail _ (.tail _ hp)))))
    · intro m₃ news₃ s₃ hJ F₃ N₃ r₃
      obtain ⟨o, v, M, ys, k2, rfl, ho, hm1, hm2, hm3, hys, hMI, hMS, hML, hMt⟩ := hJ
      have F₃ := Fr.exp3' F₃ hm1 hm2 hm3
      refine Hold.mk ?_
      refine execs_hold ?_
      k_steps
      have hS := N₃ _ (.tail _ (.tail _ (.head _)))
      refine append_at (its := (refsL rs).toArray) (n := k) hS.1 ?_ (by rw [sizeLine_eq, List.size_toArray, List.length_map]; omega)
      intro h5 hs5 hS5
      have F5 := F₃.change hs5 hS.2.1 hS.2.2
      subst htl
      refine Hold.mk (wpAny_execs_nil ⟨rfl, _, (S, W.listOf (refsL (rs ++ [(M, ys, k2)])).toArray (k + 1)) :: (L + 1, o) :: (rowsL (rs ++ [(M, ys, k2)]) ++ news), F5, ?_, ?_, ⟨o, v, S, k + 1, rs ++ [(M, ys, k2)], rfl, ho, rfl, ?_, ?_, hSL, hSn, ?_⟩, r₃.os, r₃.bare⟩)
      · have up : ∀ p ∈ (M, W.listOf ys.toArray k2) :: (I, oI) :: (S, W.listOf (refsL rs).toArray k) :: (L + 1, o) :: (rowsL rs ++ news), p.1 ≠ S → h5.get? p.1 = some p.2 ∧ p.1 ≠ L ∧ g.get? p.1 = none := fun p hp hne => ⟨hs5.extBut _ _ hne (N₃ p hp).1, (N₃ p hp).2⟩
        intro p hp
        simp only [List.mem_cons, List.mem_append, rowsL, List.map_append, List.map_cons, List.map_nil, List.not_mem_nil, or_false] at hp
        rcases hp with h | h | h | (h | h) | h
        · rw [h]; exact up (I, oI) (.tail _ (.head _)) (Ne.symm hne1)
        · rw [h]; exact ⟨hS5.trans (by simp), hS.2⟩
        · rw [h]; exact up (L + 1, o) (.tail _ (.tail _ (.tail _ (.head _)))) (Ne.symm hSL)
        · refine up p (.tail _ (.tail _ (.tail _ (.tail _ (List.mem_append_left _ h))))) ?_
          obtain ⟨q, hq, rfl⟩ := List.mem_map.mp h
          exact (hrs q hq).2.1
        · rw [h]; exact up (M, W.listOf ys.toArray k2) (.head _) hMS
        · exact up p (.tail _ (.tail _ (.tail _ (.tail _ (List.mem_append_right _ h))))) (hSn p h)
      · intro p hp
        simp only [List.mem_cons, List.mem_append, rowsL, List.map_append, List.map_cons, List.map_nil, List.not_mem_nil, or_false] at hp
        rcases hp with h | h | (h | h) | h
        · rw [h]; exact hne1
        · rw [h]; exact hne2
        · exact offT p (List.mem_append_left _ h)
        · rw [h]; exact hMI
        · exact offT p (List.mem_append_right _ h)
      · simp [hlen]
      · intro j p hj
        by_cases hlt : j < rs.length
        · rw [List.getElem?_append_left hlt] at hj; exact hrow j p hj
        · rw [List.getElem?_append_right (Nat.not_lt.mp hlt)] at hj
          have hj0 : j - rs.length = 0 := by
            cases hq : j - rs.length with
            | zero => rfl
            | succ q => rw [hq] at hj; simp at hj
          rw [hj0] at hj
          have hp : p = (M, ys, k2) := (Option.some.inj hj).symm
          have hji : j = i := by omega
          rw [hp, hji]; exact hys
      · intro p hp
        rcases List.mem_append.mp hp with hp | hp
        · exact hrs p hp
        · rw [List.mem_singleton.mp hp]
          exact ⟨hML, hMS, fun q hq => hMt q (List.mem_append_right _ hq)⟩
  · intro m₁ news₁ s₁ hJ F₁ N₁ r₁
    obtain ⟨o, v, S, k, rs, rfl, ho, hm, hlen, hrow, hSL, hSn, hrs⟩ := hJ
    have F₁ := Fr.exp' F₁ hm
    refine Hold.mk ?_
    refine hold_fun ?_
    k_steps
    refine ⟨_, _, _, rfl, F₁, News.sub' N₁ (fun p hp => ?_), r₁, ⟨S, k, rs, rfl, rfl, hlen, hrow, hSn, fun p hp => ⟨(hrs p hp).2.1, (hrs p hp).2.2⟩⟩⟩
    rcases List.mem_cons.mp hp with h | h
    · rw [h]; exact .head _
    · exact .tail _ (.tail _ h)
end Mine
namespace Mine
open PySem PySem.W PyProof.Rows
theorem Fr.under2 {h₀ h : Heap} {L : Addr} {m : Str → Option Value} {a b c d : Str} {va vb vc vd : Option Value} (F : Fr h₀ L h (fun y => if y = a then va else if y = b then vb else m y)) (e1 : m c = vc) (e2 : m d = vd) :
    Fr h₀ L h (fun y => if y = a then va else if y = b then vb else if y = c then vc else if y = d then vd else m y) := Fr.congr' F fun y => by
  by_cases h1 : y = a
  · simp [h1]
  by_cases h2 : y = b
  · simp [h1, h2]
  by_cases h3 : y = c
  · subst h3; simp [h1, h2, e1]
  by_cases h4 : y = d
  · subst h4; simp [h1, h2, h3, e2]
  simp [h1, h2, h3, h4]
section
variable {prog : Program} {w : World} {K : Type} [DecidableEq K] {knd : KeyKind prog w K} {A : Around} {E : Value → Shared → Prop} {env : Env} {h₀ : Heap} {L : Addr}
theorem isDictAt {h : Heap} {news : List (Addr × Obj)} {d : Addr} {od : Obj} {kvs : List (K × Value)} (N : News h₀ L h news) (hm : (d, od) ∈ news) (hd : od.IsDictOf knd kvs) : h.DictOf knd d kvs := Heap.dictOf_iff.mpr ⟨od, (N _ hm).1, hd⟩
theorem call_values {s : Shared} {m : Str → Option Value} {news : List (Addr × Obj)} {d : Addr} {od : Obj} {kvs : List (K × Value)} {Q : Value → Shared → Prop} (F : Fr h₀ L s.heap m) (N : News h₀ L s.heap news) (hm : (d, od) ∈ news) (hd : od.IsDictOf knd kvs) (lo : (d == sysModules) = false)
    (h : ∀ v h', h'.IsValuesView v d → Fr h₀ L h' m → News h₀ L h' news → Q (.ref v) { s with heap := h' }) : wpAny (model prog w) A (call (.builtin "dict.values") [.ref d]) Q E s := by
  have hD := isDictAt N hm hd
  exact call_meetsIn PySem.F.slot_dict_values hD.typeIs PySem.F.entry_dict_values (PySem.F.args_dict_values_1 _) (meets_dict_values knd d lo)
    ⟨⟨kvs, hD⟩, h _ _ ⟨_, Heap.get?_push_size _ rfl, rfl, rfl⟩ (F.push _) (N.grown fun _ _ e => Heap.get?_push_of_some _ e)⟩
theorem call_items {s : Shared} {m : Str → Option Value} {news : List (Addr × Obj)} {d : Addr} {od : Obj} {kvs : List (K × Value)} {Q : Value → Shared → Prop} (F : Fr h₀ L s.heap m) (N : News h₀ L s.heap news) (hm : (d, od) ∈ news) (hd : od.IsDictOf knd kvs) (lo : (d == sysModules) = false)
    (h : ∀ v h', h'.IsItemsView v d → Fr h₀ L h' m → News h₀ L h' news → Q (.ref v) { s with heap := h' }) : wpAny (model prog w) A (call (.builtin "dict.items") [.ref d]) Q E s := by
  have hD := isDictAt N hm hd
  exact call_meetsIn PySem.F.slot_dict_items hD.typeIs PySem.F.entry_dict_items (PySem.F.args_dict_items_1 _) (meets_dict_items knd d lo)
    ⟨⟨kvs, hD⟩, h _ _ ⟨_, Heap.get?_push_size _ rfl, rfl, rfl⟩ (F.push _) (N.grown fun _ _ e => Heap.get?_push_of_some _ e)⟩
theorem values_loop {target : Expr} {body : List Stmt} {vw d : Addr} {od : Obj} {kvs : List (K × Value)} {Q : Flow → Shared → Prop} {s s₀ : Shared} {m : Str → Option Value} {news : List (Addr × Obj)}
    (J : Nat → (Str → Option Value) → List (Addr × Obj) → Prop)
    (hh : A.handled = none) (hv : s.heap.IsValuesView vw d) (hd : od.IsDictOf knd kvs) (hin : ∀ i m₁ news₁, J i m₁ news₁ → (d, od) ∈ news₁)
    (F : Fr h₀ L s.heap m) (N : News h₀ L s.heap news) (hR0 : Rest s₀ s) (h0 : J 0 m news)
    (turn : ∀ i k v I oI m₁ news₁ (s₁ : Shared), kvs[i]? = some (k, v) → J i m₁ news₁ → Fr h₀ L s₁.heap m₁ → News h₀ L s₁.heap ((I, oI) :: news₁) → (∀ p ∈ news₁, p.1 ≠ I) → Rest s₀ s₁ →
      wpAny (model prog w) A (assign target env v) (fun _ s₂ => wpAny (model prog w) A (execs body env) (fun f s₃ => f = .next ∧ ∃ m₂ news₂, Fr h₀ L s₃.heap m₂ ∧ News h₀ L s₃.heap ((I, oI) :: news₂) ∧ (∀ p ∈ news₂, p.1 ≠ I) ∧ J (i + 1) m₂ news₂ ∧ Rest s₀ s₃) NoE s₂) NoE s₁)
    (done : ∀ m₁ news₁ (s₁ : Shared), J kvs.length m₁ news₁ → Fr h₀ L s₁.heap m₁ → News h₀ L s₁.heap news₁ → Rest s₀ s₁ → Q .next s₁)
    (ht : ∀ I v, letOwnedTupleGo target (.ref I) v = pure () := by intro _ _; rfl) :
    wpAny (model prog w) A (pyIter (.ref vw)) (fun it s₂ => codeAny (model prog w) A (.forLoop target it body [] env) (LoopR (model prog w) A env Q E) s₂) E s := by
  obtain ⟨ep, ha⟩ := KdkAt.of hd
  have hat := ha.dictAt (N _ (hin _ _ _ h0)).1
  refine wpAny_pyIter_values hv hat ?_
  refine loop_walk (h₀ := h₀) (L := L) (s₀ := s₀) (m := m) (news := news) J (Walks.dictValues hh s.heap.objs.size d (Nat.ne_of_lt hat.lt_size) kvs ep) (Nat.ne_of_lt F.ns.lt) (next_is_new F) (fun i h st => by obtain ⟨o, e, _⟩ := st.1; exact ⟨o, e⟩) (fun i m₁ news₁ h h' hJ N' st e => ?_)
    ⟨⟨_, Heap.get?_push_size _ rfl, rfl, rfl⟩, hat.push _⟩ (F.keeps fun _ _ e => Heap.get?_push_of_some _ e) (N.grown fun _ _ e => Heap.get?_push_of_some _ e) (fun p hp => Nat.ne_of_lt (Heap.lt_size (N p hp).1)) hR0.heap h0
    (fun i v oI m₁ news₁ s₁ hi hP hJ F₁ N₁ off₁ r₁ => ?_) (fun m₁ news₁ s₁ hJ F₁ N₁ r₁ => done m₁ news₁ s₁ hJ F₁ N₁ r₁) (ht _)
  · refine ⟨?_, ha.dictAt (N' _ (hin _ _ _ hJ)).1⟩
    obtain ⟨o, q, r⟩ := st.1
    exact ⟨o, e.trans q, r⟩
  · obtain ⟨k, hk⟩ := hP
    exact turn i k v _ oI m₁ news₁ s₁ hk hJ F₁ N₁ off₁ r₁
theorem items_loop {xk xv : Str} {pk pv pt : Pos} {x1} {body : List Stmt} {vw d : Addr} {od : Obj} {kvs : List (K × Value)} {Q : Flow → Shared → Prop} {s s₀ : Shared} {m : Str → Option Value} {news : List (Addr × Obj)}
    (J : Nat → (Str → Option Value) → List (Addr × Obj) → Prop)
    (hh : A.handled = none) (hxk : env.kindOf xk = some .local) (hxv : env.kindOf xv = some .local)
    (hp : (env.scope.kind == .class || (env.scope.kind == .module && env.locals != env.globals)) = false) (hL : env.locals = L)
    (hv : s.heap.IsItemsView vw d) (hd : od.IsDictOf knd kvs) (hin : ∀ i m₁ news₁, J i m₁ news₁ → (d, od) ∈ news₁)
    (F : Fr h₀ L s.heap m) (N : News h₀ L s.heap news) (hR0 : Rest s₀ s) (h0 : J 0 m news)
    (turn : ∀ i k v key I oI m₁ news₁ (s₁ : Shared), kvs[i]? = some (k, v) → knd.is k key = true → J i m₁ news₁ → Fr h₀ L s₁.heap (fun y => if y = xv then some v else if y = xk then some key else m₁ y) → News h₀ L s₁.heap ((I, oI) :: news₁) → (∀ p ∈ news₁, p.1 ≠ I) → Rest s₀ s₁ →
      wpAny (model prog w) A (execs body env) (fun f s₃ => f = .next ∧ ∃ m₂ news₂, Fr h₀ L s₃.heap m₂ ∧ News h₀ L s₃.heap ((I, oI) :: news₂) ∧ (∀ p ∈ news₂, p.1 ≠ I) ∧ J (i + 1) m₂ news₂ ∧ Rest s₀ s₃) NoE s₁)
    (done : ∀ m₁ news₁ (s₁ : Shared), J kvs.length m₁ news₁ → Fr h₀ L s₁.heap m₁ → News h₀ L s₁.heap news₁ → Rest s₀ s₁ → Q .next s₁) :
    wpAny (model prog w) A (pyIter (.ref vw)) (fun it s₂ => codeAny (model prog w) A (.forLoop (.Tuple [.Name xk pk, .Name xv pv] x1 pt) it body [] env) (LoopR (model prog w) A env Q E) s₂) E s := by
  subst hL
  obtain ⟨ep, ha⟩ := KdkAt.of hd
  have hat := ha.dictAt (N _ (hin _ _ _ h0)).1
  refine wpAny_pyIter_items hv hat ?_
  have hI₀ := next_is_new F
  have hIL : s.heap.objs.size ≠ env.locals := Nat.ne_of_gt F.ns.lt
  have hdI : d ≠ s.heap.objs.size := Nat.ne_of_lt hat.lt_size
  have hnI : ∀ p ∈ news, p.1 ≠ s.heap.objs.size := fun p hp => Nat.ne_of_lt (Heap.lt_size (N p hp).1)
  have F1 : Fr h₀ env.locals (s.heap.push { cls := .type "dict_itemiterator", data := .fields #[.none, .bool false, .ref d, .int 0 0, .int kvs.length 0, .int ep 0, .none, .none] }) m := F.push _
  have N1 := N.grown (h' := s.heap.push { cls := .type "dict_itemiterator", data := .fields #[.none, .bool false, .ref d, .int 0 0, .int kvs.length 0, .int ep 0, .none, .none] }) fun _ _ e => Heap.get?_push_of_some _ e
  have I1 : IsItemIter (s.heap.push { cls := .type "dict_itemiterator", data := .fields #[.none, .bool false, .ref d, .int 0 0, .int kvs.length 0, .int ep 0, .none, .none] }) s.heap.objs.size d 0 kvs.length ep .none .none := Heap.get?_push_size _ rfl
  generalize s.heap.objs.size = I at *
  refine codeAny_forLoop_any
    (fun n s' => ∃ m₁ news₁ i ok ov, IsItemIter s'.heap I d i kvs.length ep ok ov ∧ Fr h₀ env.locals s'.heap m₁ ∧ News h₀ env.locals s'.heap news₁ ∧
      (∀ p ∈ news₁, p.1 ≠ I) ∧ J i m₁ news₁ ∧ i ≤ kvs.length ∧ n = kvs.length + 1 - i ∧ Rest s₀ s') ?_ (kvs.length + 1)
    ⟨m, news, 0, .none, .none, I1, F1, N1, hnI, h0, Nat.zero_le _, rfl, hR0.heap⟩
  rintro n s' ⟨m₁, news₁, i, ok, ov, hit', F', N', hnw', hJ, hi, rfl, hr⟩
  have hm' := ha.dictAt (N' _ (hin _ _ _ hJ)).1
  have oldNe : ∀ b o, h₀.get? b = some o → b ≠ I := fun b o e q => by rw [q, hI₀] at e; cases e
  cases hv : kvs[i]? with
  | none =>
    have hsz : i = kvs.length := Nat.le_antisymm hi (by simpa using hv)
    refine wpAny_pyNext_items_end hh hit' hm' hv fun h₁ he₁ => wpAny_execs_nil ?_
    exact done m₁ news₁ _ (hsz ▸ hJ) ⟨F'.ns.extBut he₁ (Ne.symm hIL), fun b o e => he₁ b o (oldNe b o e) (F'.keep b o e), F'.above⟩
      (fun p hp => ⟨he₁ _ _ (hnw' p hp) (N' p hp).1, (N' p hp).2⟩) hr.heap
  | some kv =>
    obtain ⟨k, v⟩ := kv
    have hlt : i < kvs.length := (List.getElem?_eq_some_iff.mp hv).1
    have hiH : I < s'.heap.objs.size := Heap.lt_size hit'
    refine wpAny_pyNext_items_item hit' hm' hv fun key h₁ hkey heo ht₁ hz₁ hk₁ => ?_
    refine wpAny_letOwnedTupleGo_items heo fun h₂ he₂ hs₂ => ?_
    replace hs₂ : Heap.SameBut I h₁ h₂ := hs₂
    have ht₂ : h₂.IsTuple s'.heap.objs.size #[key, v] := ⟨_, (hs₂.2 _ (Nat.ne_of_gt hiH)).trans ht₁, rfl, _, rfl⟩
    have hz₂ : h₂.objs.size = s'.heap.objs.size + 1 := hs₂.1.trans hz₁
    refine wpAny_assign_Tuple hh ht₂ rfl rfl fun h₃ hx₃ => ?_
    replace hx₃ : Heap.ExtBut h₂.objs.size h₂ h₃ := hx₃
    have old₃ : ∀ b o, b < s'.heap.objs.size → h₂.get? b = some o → h₃.get? b = some o := fun b o hb x => hx₃ b o (by rw [hz₂]; exact Nat.ne_of_lt (Nat.lt_succ_of_lt hb)) x
    have up₃ : ∀ b o, b ≠ I → s'.heap.get? b = some o → h₃.get? b = some o := fun b o hb x => old₃ b o (Heap.lt_size x) (hs₂.extBut b o hb (hk₁ b o hb x))
    have F₃ : Fr h₀ env.locals h₃ m₁ := ⟨F'.ns.at fun o x => up₃ _ o (Ne.symm hIL) x, fun b o e => up₃ b o (oldNe b o e) (F'.keep b o e), F'.above⟩
    have N₃ : News h₀ env.locals h₃ news₁ := fun p hp => ⟨up₃ _ _ (hnw' p hp) (N' p hp).1, (N' p hp).2⟩
    show wpAny _ _ (do holding [v] (assign (.Name xk pk) env key); do holding [] (assign (.Name xv pv) env v); pure ()) _ _ _
    refine wpAny_bind (wpAny_holding (wpAny_assign_Name (wpAny_storeName_local hxk F₃.ns (fun h₄ hn₄ hs₄ => ?_) hp)))
    replace hs₄ : Heap.SameBut env.locals h₃ h₄ := hs₄
    have F₄ := F₃.set hn₄ hs₄
    refine wpAny_bind (wpAny_holding (wpAny_assign_Name (wpAny_storeName_local hxv F₄.ns (fun h₅ hn₅ hs₅ => wpAny_pure ?_) hp)))
    replace hs₅ : Heap.SameBut env.locals h₄ h₅ := hs₅
    have F₅ := F₄.set hn₅ hs₅
    have N₅ : News h₀ env.locals h₅ news₁ := (N₃.set hs₄).set hs₅
    have hit₅ : IsItemIter h₅ I d (i + 1) kvs.length ep key v := hs₅.extBut _ _ hIL (hs₄.extBut _ _ hIL (old₃ _ _ hiH he₂))
    have N₆ : News h₀ env.locals h₅ ((I, _) :: news₁) := fun p hp => by
      rcases List.mem_cons.mp hp with rfl | hp
      · exact ⟨hit₅, hIL, hI₀⟩
      · exact N₅ p hp
    refine wpAny_mono (turn i k v key I _ m₁ news₁ _ hv hkey hJ F₅ N₆ hnw' hr.heap) (fun f s₃ h₆ => ?_) fun _ _ x => x.elim
    obtain ⟨rfl, m₂, news₂, F₆, N₇, off₆, hJ₆, r₆⟩ := h₆
    exact ⟨kvs.length + 1 - (i + 1), by omega, m₂, news₂, i + 1, key, v, (N₇ _ (.head _)).1, F₆, fun p hp => N₇ p (.tail _ hp), off₆, hJ₆, hlt, rfl, r₆⟩
theorem meth_values {s : Shared} {news : List (Addr × Obj)} {d : Addr} {od : Obj} {kvs : List (K × Value)} {pl : Sem Bool} {Q : Value × List Value → Shared → Prop} (N : News h₀ L s.heap news) (hm : (d, od) ∈ news) (hd : od.IsDictOf knd kvs) (h : Q (.builtin "dict.values", [.ref d]) s) :
    wpAny (model prog w) A (getMethod (.ref d) "values" pl) Q E s :=
  have hD := isDictAt N hm hd
  getMethod_builtin hD.typeIs PySem.F.plainAttrs_dict PySem.F.slot_dict_values PySem.F.type_dict_values hD.mapOf.noDict h
theorem meth_items {s : Shared} {news : List (Addr × Obj)} {d : Addr} {od : Obj} {kvs : List (K × Value)} {pl : Sem Bool} {Q : Value × List Value → Shared → Prop} (N : News h₀ L s.heap news) (hm : (d, od) ∈ news) (hd : od.IsDictOf knd kvs) (h : Q (.builtin "dict.items", [.ref d]) s) :
    wpAny (model prog w) A (getMethod (.ref d) "items" pl) Q E s :=
  have hD := isDictAt N hm hd
  getMethod_builtin hD.typeIs PySem.F.plainAttrs_dict PySem.F.slot_dict_items PySem.F.type_dict_items hD.mapOf.noDict h
end
end Mine
namespace Mine
open PySem PySem.W PyProof.Rows
local macro_rules | `(tactic| walk_at "getMethod ref") => `(tactic| refine Hold.out ?_)
local macro_rules | `(tactic| walk_at "call builtin:dict.values") => `(tactic| refine Hold.out ?_)
theorem count_spec (w : World) (news : List (Addr × Obj)) (d : Addr) (od : Obj) (kvs : List (Int × Value)) (cs : List Int) (hm : (d, od) ∈ news) (hd : od.IsDictOf (PySem.intKind PySem.Challenge.rw_pg0027_01.row.prog w) kvs) (lo : (d == sysModules) = false) (hv : IntsAre (kvs.map (·.2)) cs) :
    Spec w 42 [.ref d] news (fun r news' => (∃ t, r = .int cs.sum t) ∧ news' = news) := by
  refine spec_intro (fun y => if y = Str.ofString "callers" then some (.ref d) else none) (by rfl) (by rfl) (fun _ => BindsTo.of_eq rfl) (locs rfl) rfl rfl rfl (by decide) (fun y => lookup1) ?_
  w_top off
  k_fill
  intro p loose mean mg mb A₀ dp gd un outer base g L s B F X N T lt hdp hun hb
  refine execs_hold ?_
  k_steps
  refine Hold.mk ?_
  refine execs_hold ?_
  refine for_hold ?_
  k_steps
  with_reducible (rename News _ _ _ _ => N1; rename Fr _ _ _ _ => F1)
  refine Hold.mk (meth_values N1 hm hd ?_)
  k_steps
  refine Hold.mk (call_values F1 N1 hm hd lo ?_)
  intro vw h2 hvw F2 N2
  refine Hold.mk ?_
  refine values_loop (h₀ := g) (L := L) (s₀ := s) (knd := PySem.intKind PySem.Challenge.rw_pg0027_01.row.prog w) (fun i m' news' => news' = news ∧ ∃ t, m' (Str.ofString "nc") = some (.int (cs.take i).sum t)) rfl hvw hd (fun i m₁ news₁ hJ => hJ.1 ▸ hm) F2 N2 ⟨rfl, hb⟩ ⟨rfl, _, rfl⟩ ?_ ?_
  · intro i k v I oI m₁ news₁ s₁ hkv hJ F₁ N₁ off₁ r₁
    obtain ⟨rfl, t, hm1⟩ := hJ
    have F₁ := Fr.exp' F₁ hm1
    have hi : i < cs.length := by rw [← hv.length, List.length_map]; exact (List.getElem?_eq_some_iff.mp hkv).1
    obtain ⟨tv, htv⟩ := hv.get i cs[i] (by simp [hi])
    have hvv : v = .int cs[i] tv := by
      rw [List.getElem?_map, hkv] at htv
      exact Option.some.inj htv
    subst hvv
    refine hold_fun ?_
    k_steps
    refine Hold.mk ?_
    refine hold_fun ?_
    k_steps
    with_reducible (rename News _ _ _ _ => N3; rename Fr _ _ _ _ => F3)
    refine ⟨rfl, _, news₁, F3, N3, off₁, ⟨rfl, ?_⟩, r₁.os, r₁.bare⟩
    have e : (cs.take (i + 1)).sum = (cs.take i).sum + cs[i] := by rw [List.take_succ_eq_append_getElem hi, List.sum_append, List.sum_cons, List.sum_nil, Int.add_zero]
    rw [e]
    exact ⟨_, rfl⟩
  · intro m₁ news₁ s₁ hJ F₁ N₁ r₁
    obtain ⟨rfl, t, hm1⟩ := hJ
    have F₁ := Fr.exp' F₁ hm1
    have e : cs.take kvs.length = cs := by rw [show kvs.length = cs.length by rw [← hv.length, List.length_map], List.take_length]
    rw [e] at F₁
    refine Hold.mk ?_
    refine hold_fun ?_
    k_steps
    exact ⟨_, _, _, rfl, F₁, N₁, r₁, ⟨_, rfl⟩, rfl⟩
end Mine
namespace Mine
open PySem PySem.W PyProof.Rows
/-- an iterator's next, told by what it stands upon -/
structure Nexts (prog : Program) (w : World) (it : Addr) (fp : List Addr) (xs : Array Value) (St : Nat → Heap → Prop) : Prop where
  frame : ∀ k (h h' : Heap), St k h → (∀ b, b = it ∨ b ∈ fp → ∀ o, h.get? b = some o → h'.get? b = some o) → St k h'
  lives : ∀ k (h : Heap), St k h → ∃ o, h.get? it = some o
  item : ∀ (A : Around) k (s : Shared) (Q : Value → Shared → Prop) (E : Value → Shared → Prop) x, St k s.heap → xs[k]? = some x →
    (∀ h', St (k + 1) h' → Heap.SameBut it s.heap h' → Q x { s with heap := h' }) → wpAny (model prog w) A (Builtin.SmallTypes.nextOf (.ref it)) Q E s
  done : ∀ (A : Around) k (s : Shared) (Q : Value → Shared → Prop) (E : Value → Shared → Prop), A.handled = none → St k s.heap → xs[k]? = none →
    (∀ h' e, Heap.ExtBut it s.heap h' → (∃ o, h'.get? e = some o ∧ o.cls = .type "StopIteration") → E (.ref e) { s with heap := h' }) → wpAny (model prog w) A (Builtin.SmallTypes.nextOf (.ref it)) Q E s
section
variable {prog : Program} {w : World}
theorem nexts_tuple (it t : Addr) (hne : t ≠ it) (items : Array Value) : Nexts prog w it [t] items (fun k h => h.IsTupleIter it t k ∧ h.IsTuple t items) where
  frame := fun k h h' st hk => ⟨let ⟨o, ho, r⟩ := st.1; ⟨o, hk it (.inl rfl) o ho, r⟩, let ⟨o, ho, r⟩ := st.2; ⟨o, hk t (.inr (.head _)) o ho, r⟩⟩
  lives := fun k h st => let ⟨o, ho, _⟩ := st.1; ⟨o, ho⟩
  item := fun A k s Q E x st hx hQ => by
    obtain ⟨⟨o, ho, hc, hd⟩, ⟨ol, hol, hcl, nl, hdl⟩⟩ := id st
    unfold Builtin.SmallTypes.nextOf
    refine wpAny_bind (wpAny_callSpecial?_slot (name := Str.ofString "__next__") st.1.typeIs PySem.F.slot_tuple_iterator_next
      (wpAny_call_entry PySem.F.slot_tuple_iterator_next st.1.typeIs PySem.F.entry_tuple_iterator_next ?_ (PySem.F.args_tuple_iterator_next_1 _)))
    show wpAny _ _ (field (.ref it) 0 >>= _) _ _ s
    refine wpAny_bind (wpAny_field ho hd (x := .ref t) rfl ?_)
    show wpAny _ _ (if (Value.ref t == Value.none) = true then _ else _) _ _ s
    rw [if_neg (show ¬ ((Value.ref t == Value.none) = true) from Bool.false_ne_true)]
    show wpAny _ _ (field (.ref it) 1 >>= _) _ _ s
    refine wpAny_bind (wpAny_field ho hd (x := .int k 0) rfl (wpAny_bind (wpAny_seqItems hol hdl ?_)))
    simp only [Int.toNat_natCast, hx]
    refine wpAny_bind (wpAny_setField ho hd (by simp) (wpAny_pure ⟨x, rfl, wpAny_pure (hQ _ ⟨⟨_, Heap.get?_update_self _ ho (Obj.isFreed_of_fields (Obj.data_mapFields hd _)), (Obj.cls_mapFields ..).trans hc, ?_⟩, ?_⟩ (Heap.SameBut.update ..))⟩))
    · rw [Obj.data_mapFields hd]; simp [rawInt]
    · exact ⟨ol, (Heap.SameBut.update ..).extBut _ _ hne hol, hcl, nl, hdl⟩
  done := fun A k s Q E hh st hx hE => by
    obtain ⟨⟨o, ho, hc, hd⟩, ⟨ol, hol, hcl, nl, hdl⟩⟩ := id st
    unfold Builtin.SmallTypes.nextOf
    refine wpAny_bind (wpAny_callSpecial?_slot (name := Str.ofString "__next__") st.1.typeIs PySem.F.slot_tuple_iterator_next
      (wpAny_call_entry PySem.F.slot_tuple_iterator_next st.1.typeIs PySem.F.entry_tuple_iterator_next ?_ (PySem.F.args_tuple_iterator_next_1 _)))
    show wpAny _ _ (field (.ref it) 0 >>= _) _ _ s
    refine wpAny_bind (wpAny_field ho hd (x := .ref t) rfl ?_)
    show wpAny _ _ (if (Value.ref t == Value.none) = true then _ else _) _ _ s
    rw [if_neg (show ¬ ((Value.ref t == Value.none) = true) from Bool.false_ne_true)]
    show wpAny _ _ (field (.ref it) 1 >>= _) _ _ s
    refine wpAny_bind (wpAny_field ho hd (x := .int k 0) rfl (wpAny_bind (wpAny_seqItems hol hdl ?_)))
    simp only [Int.toNat_natCast, hx]
    refine wpAny_bind (wpAny_rule (wpAny_bind (wpAny_setField ho hd (by simp) ?_)))
    show wpAny _ _ (newExc (.type "StopIteration") [] >>= _) _ _ _
    refine wpAny_bind ?_
    simp only [newExc, newTuple]
    refine wpAny_bind (wpAny_newObj_type ?_ (by size_fits))
    refine wpAny_bind (m := firstArgMember _ _) (wpAny_of_eq (a := Value.none) (by first | rfl | (simp only [firstArgMember]; rfl)) ?_)
    refine wpAny_newObj_type ?_ (by size_fits)
    simp only [raiseNew]
    refine wpAny_bind (wpAny_handled ?_)
    first | rw [show A.in1.handled = none from hh] | rw [hh]
    refine wpAny_bind (wpAny_pure (wpAny_throw ?_))
    exact hE _ _ (((Heap.SameBut.update ..).extBut.push _).push _) ⟨_, Heap.get?_push_size _ rfl, rfl⟩
structure ZOff (z TI TO i1 i2 : Addr) (fp : List Addr) : Prop where
  zTO : z ≠ TO
  zi1 : z ≠ i1
  zi2 : z ≠ i2
  TOi1 : TO ≠ i1
  TOi2 : TO ≠ i2
  i12 : i1 ≠ i2
  TIz : TI ≠ z
  TITO : TI ≠ TO
  TIi1 : TI ≠ i1
  TIi2 : TI ≠ i2
  fz : ∀ b ∈ fp, b ≠ z
  fTO : ∀ b ∈ fp, b ≠ TO
  f1 : ∀ b ∈ fp, b ≠ i1
  f2 : ∀ b ∈ fp, b ≠ i2
/-- one address changed: what stands off it stays -/
theorem Nexts.over {it c : Addr} {fp : List Addr} {xs : Array Value} {St : Nat → Heap → Prop} (X : Nexts prog w it fp xs St) {k : Nat} {h h' : Heap} (st : St k h) (hx : Heap.ExtBut c h h') (h1 : it ≠ c) (h2 : ∀ b ∈ fp, b ≠ c) : St k h' :=
  X.frame k h h' st fun b hb o e => hx b o (hb.elim (fun q => q ▸ h1) (h2 b)) e
variable {z TI TO i1 i2 : Addr} {fp : List Addr} {xs ys : Array Value} {S1 S2 : Nat → Heap → Prop}
theorem zipN_item {A : Around} {E : Value → Shared → Prop} {s : Shared} {k : Nat} {x y a b : Value} {Q : Value → Shared → Prop} (D : ZOff z TI TO i1 i2 fp) (X1 : Nexts prog w i1 fp xs S1) (X2 : Nexts prog w i2 fp ys S2)
    (hz : IsZip s.heap z TI TO .none) (hTI : IsPair s.heap TI (.ref i1) (.ref i2)) (hTO : IsPair s.heap TO a b) (h1 : S1 k s.heap) (h2 : S2 k s.heap) (hx : xs[k]? = some x) (hy : ys[k]? = some y)
    (hQ : ∀ h', IsZip h' z TI TO (rawInt s.heap.objs.size) → IsPair h' TO x y → S1 (k + 1) h' → S2 (k + 1) h' → IsPair h' s.heap.objs.size x y → h'.objs.size = s.heap.objs.size + 1 →
      (∀ c o, c ≠ z → c ≠ TO → c ≠ i1 → c ≠ i2 → s.heap.get? c = some o → h'.get? c = some o) → Q (.ref s.heap.objs.size) { s with heap := h' }) :
    wpAny (model prog w) A (Builtin.«zip.__next__» ⟨[.ref z], []⟩) (fun fin s' => ∃ v, fin = .done (.ret v) ∧ Q v s') E s := by
  show wpAny _ _ (field (.ref z) 2 >>= _) _ _ _
  refine wpAny_bind (wpAny_field hz rfl (x := .bool false) rfl ?_)
  show wpAny _ _ (field (.ref z) 3 >>= _) _ _ _
  refine wpAny_bind (wpAny_field hz rfl (x := .ref TI) rfl (wpAny_bind (wpAny_seqItems hTI rfl ?_)))
  show wpAny _ _ (Builtin.SmallTypes.ownedTupleIsFree (.ref z) >>= _) _ _ _
  refine wpAny_bind ?_
  unfold Builtin.SmallTypes.ownedTupleIsFree
  refine wpAny_bind (wpAny_field hz rfl (x := .none) rfl (wpAny_pure ?_))
  simp only [if_true]
  refine wpAny_bind (wpAny_rule (wpAny_bind (wpAny_field hz rfl (x := .ref TO) rfl ?_)))
  refine wpAny_bind (wpAny_setField_rec hz (by simp) fun ha hza hsa => ?_)
  replace hza : IsZip ha z TI TO .ellipsis := hza
  refine wpAny_bind ?_
  simp only [List.zipIdx_cons, List.zipIdx_nil, List.forIn_cons, List.forIn_nil]
  refine wpAny_bind (wpAny_bind (wpAny_onRaise ?_))
  show wpAny _ _ (Builtin.SmallTypes.nextOf (.ref i1) >>= _) _ _ _
  refine wpAny_bind (X1.item _ k _ _ _ x (X1.over h1 hsa.extBut D.zi1.symm D.fz) hx fun hb sb hsb => wpAny_pure ?_)
  have TOb : IsPair hb TO a b := hsb.extBut _ _ D.TOi1 (hsa.extBut _ _ D.zTO.symm hTO)
  refine wpAny_bind (wpAny_seqItems TOb rfl (wpAny_bind (wpAny_updateSeq_pair TOb fun hc TOc hsc => ?_)))
  replace TOc : IsPair hc TO x b := TOc
  refine wpAny_bind (wpAny_letGo (wpAny_pure ?_))
  refine wpAny_bind (wpAny_bind (wpAny_onRaise ?_))
  show wpAny _ _ (Builtin.SmallTypes.nextOf (.ref i2) >>= _) _ _ _
  have s2c : S2 k hc := X2.over (X2.over (X2.over h2 hsa.extBut D.zi2.symm D.fz) hsb.extBut D.i12.symm D.f1) hsc.extBut D.TOi2.symm D.fTO
  have s1c : S1 (k + 1) hc := X1.over sb hsc.extBut D.TOi1.symm D.fTO
  refine wpAny_bind (X2.item _ k _ _ _ y s2c hy fun hd sd hsd => wpAny_pure ?_)
  have TOd : IsPair hd TO x b := hsd.extBut _ _ D.TOi2 TOc
  refine wpAny_bind (wpAny_seqItems TOd rfl (wpAny_bind (wpAny_updateSeq_pair TOd fun he TOe hse => ?_)))
  replace TOe : IsPair he TO x y := TOe
  refine wpAny_bind (wpAny_letGo (wpAny_pure (wpAny_pure ?_)))
  refine wpAny_bind (wpAny_seqItems TOe rfl (wpAny_bind (wpAny_newTuple ?_)))
  have hsz : he.objs.size = s.heap.objs.size := by rw [hse.1, hsd.1, hsc.1, hsb.1, hsa.1]
  have ze : IsZip he z TI TO .ellipsis := hse.extBut _ _ D.zTO (hsd.extBut _ _ D.zi2 (hsc.extBut _ _ D.zTO (hsb.extBut _ _ D.zi1 hza)))
  have ke : ∀ c o, c ≠ z → c ≠ TO → c ≠ i1 → c ≠ i2 → s.heap.get? c = some o → he.get? c = some o := fun c o c1 c2 c3 c4 e =>
    hse.extBut _ _ c2 (hsd.extBut _ _ c4 (hsc.extBut _ _ c2 (hsb.extBut _ _ c3 (hsa.extBut _ _ c1 e))))
  have s1e : S1 (k + 1) he := X1.over (X1.over s1c hsd.extBut D.i12 D.f2) hse.extBut D.TOi1.symm D.fTO
  have s2e : S2 (k + 1) he := X2.over sd hse.extBut D.TOi2.symm D.fTO
  have zlt : z < he.objs.size := Heap.lt_size ze
  show wpAny _ _ (Builtin.SmallTypes.ownedTupleHandOut (.ref z) (.ref he.objs.size) >>= _) _ _ _
  refine wpAny_bind ?_
  unfold Builtin.SmallTypes.ownedTupleHandOut
  have zf : IsZip (he.push { cls := .type "tuple", data := .seq #[x, y] }) z TI TO .ellipsis := Heap.get?_push_of_some _ ze
  refine wpAny_bind (wpAny_setField_rec zf (by simp) fun hg zg hsg => ?_)
  replace zg : IsZip hg z TI TO (rawInt he.objs.size) := zg
  refine wpAny_setField_rec zg (by simp) fun hi zi hsi => ?_
  replace zi : IsZip hi z TI TO (rawInt he.objs.size) := zi
  have up : ∀ c o, c ≠ z → he.get? c = some o → hi.get? c = some o := fun c o c1 e => hsi.extBut _ _ c1 (hsg.extBut _ _ c1 (Heap.get?_push_of_some _ e))
  have Ti : IsPair hi he.objs.size x y := hsi.extBut _ _ (Nat.ne_of_gt zlt) (hsg.extBut _ _ (Nat.ne_of_gt zlt) (Heap.get?_push_size _ rfl))
  have szi : hi.objs.size = he.objs.size + 1 := by rw [hsi.1, hsg.1, Heap.size_push]
  rw [hsz] at zi Ti szi
  refine wpAny_pure ⟨_, rfl, ?_⟩
  show Q (.ref he.objs.size) _
  rw [hsz]
  exact hQ hi zi (up _ _ D.zTO.symm TOe) (X1.frame _ _ _ s1e fun b hb o e => up b o (hb.elim (fun q => q ▸ D.zi1.symm) (D.fz b)) e) (X2.frame _ _ _ s2e fun b hb o e => up b o (hb.elim (fun q => q ▸ D.zi2.symm) (D.fz b)) e) Ti szi
    fun c o c1 c2 c3 c4 e => up c o c1 (ke c o c1 c2 c3 c4 e)
theorem zipN_end {A : Around} {E : Value → Shared → Prop} {s : Shared} {k : Nat} {a b : Value} {Q : Fin → Shared → Prop} (hh : A.handled = none) (D : ZOff z TI TO i1 i2 fp) (X1 : Nexts prog w i1 fp xs S1)
    (hz : IsZip s.heap z TI TO .none) (hTI : IsPair s.heap TI (.ref i1) (.ref i2)) (hTO : IsPair s.heap TO a b) (h1 : S1 k s.heap) (hx : xs[k]? = none)
    (hE : ∀ h' e, (∀ c o, c ≠ z → c ≠ TO → c ≠ i1 → c ≠ i2 → s.heap.get? c = some o → h'.get? c = some o) → (∃ o, h'.get? e = some o ∧ o.cls = .type "StopIteration") → E (.ref e) { s with heap := h' }) :
    wpAny (model prog w) A (Builtin.«zip.__next__» ⟨[.ref z], []⟩) Q E s := by
  show wpAny _ _ (field (.ref z) 2 >>= _) _ _ _
  refine wpAny_bind (wpAny_field hz rfl (x := .bool false) rfl ?_)
  show wpAny _ _ (field (.ref z) 3 >>= _) _ _ _
  refine wpAny_bind (wpAny_field hz rfl (x := .ref TI) rfl (wpAny_bind (wpAny_seqItems hTI rfl ?_)))
  show wpAny _ _ (Builtin.SmallTypes.ownedTupleIsFree (.ref z) >>= _) _ _ _
  refine wpAny_bind ?_
  unfold Builtin.SmallTypes.ownedTupleIsFree
  refine wpAny_bind (wpAny_field hz rfl (x := .none) rfl (wpAny_pure ?_))
  simp only [if_true]
  refine wpAny_bind (wpAny_rule (wpAny_bind (wpAny_field hz rfl (x := .ref TO) rfl ?_)))
  refine wpAny_bind (wpAny_setField_rec hz (by simp) fun ha hza hsa => ?_)
  replace hza : IsZip ha z TI TO .ellipsis := hza
  refine wpAny_bind ?_
  simp only [List.zipIdx_cons, List.zipIdx_nil, List.forIn_cons, List.forIn_nil]
  refine wpAny_bind (wpAny_bind (wpAny_onRaise ?_))
  show wpAny _ _ (Builtin.SmallTypes.nextOf (.ref i1) >>= _) _ _ _
  refine wpAny_bind (X1.done _ k _ _ _ hh (X1.over h1 hsa.extBut D.zi1.symm D.fz) hx fun hb e hsb he => ?_)
  obtain ⟨oe, hoe, hce⟩ := he
  have zb : IsZip hb z TI TO .ellipsis := hsb _ _ D.zi1 hza
  have hez : e ≠ z := fun q => by subst q; rw [zb] at hoe; cases hoe; simp at hce
  exact wpAny_setField_rec zb (by simp) fun hc _ hsc => hE hc e (fun c o c1 _ c3 _ q => hsc.extBut _ _ c1 (hsb _ _ c3 (hsa.extBut _ _ c1 q))) ⟨oe, hsc.extBut _ _ hez hoe, hce⟩
/-- zip of two iterators as the walk of pairs -/
theorem walks_zip {A : Around} (hh : A.handled = none) (D : ZOff z TI TO i1 i2 fp) (X1 : Nexts prog w i1 fp xs S1) (X2 : Nexts prog w i2 fp ys S2) (hsz : xs.size = ys.size) :
    WalksU prog w A z (z :: TI :: TO :: i1 :: i2 :: fp) [z, TO, i1, i2] xs.size (fun i vals => ∃ x y, xs[i]? = some x ∧ ys[i]? = some y ∧ vals = #[x, y])
      (fun i h => IsZip h z TI TO .none ∧ IsPair h TI (.ref i1) (.ref i2) ∧ (∃ a b, IsPair h TO a b) ∧ S1 i h ∧ S2 i h)
      (fun i T h => IsZip h z TI TO (rawInt T) ∧ IsPair h TI (.ref i1) (.ref i2) ∧ (∃ a b, IsPair h TO a b) ∧ S1 (i + 1) h ∧ S2 (i + 1) h ∧ T ≠ z ∧ T ≠ TO ∧ T ≠ i1 ∧ T ≠ i2) where
  sub := fun c hc => by simp only [List.mem_cons, List.not_mem_nil, or_false] at hc ⊢; rcases hc with rfl | rfl | rfl | rfl <;> simp
  frame := fun i h h' hst hk => by
    obtain ⟨hz, hTI, ⟨a, b, hTO⟩, h1, h2⟩ := hst
    refine ⟨hk z (by simp) _ hz, hk TI (by simp) _ hTI, ⟨a, b, hk TO (by simp) _ hTO⟩, X1.frame _ _ _ h1 fun b hb o e => hk b ?_ o e, X2.frame _ _ _ h2 fun b hb o e => hk b ?_ o e⟩ <;>
      (rcases hb with rfl | hb <;> simp [*])
  item := fun i s Q E hi hst hQ => by
    obtain ⟨hz, hTI, ⟨a, b, hTO⟩, h1, h2⟩ := hst
    have hiy : i < ys.size := hsz ▸ hi
    have hT : s.TypeIs (.ref z) "zip" := ⟨_, hz, rfl⟩
    obtain ⟨o1, e1⟩ := X1.lives _ _ h1
    obtain ⟨o2, e2⟩ := X2.lives _ _ h2
    have lt : ∀ {c o}, s.heap.get? c = some o → s.heap.objs.size ≠ c := fun e => Nat.ne_of_gt (Heap.lt_size e)
    unfold pyNext
    refine wpAny_bind (wpAny_attempt (wpAny_callSpecial?_slot (name := Str.ofString "__next__") hT PySem.F.slot_zip_next
      (wpAny_call_entry PySem.F.slot_zip_next hT PySem.F.entry_zip_next
        (zipN_item D X1 X2 hz hTI hTO h1 h2 (Array.getElem?_eq_getElem hi) (Array.getElem?_eq_getElem hiy) fun h' a1 a2 a3 a4 a5 a6 hk => wpAny_pure ?_) (PySem.F.args_zip_next_1 _))))
    exact hQ s.heap.objs.size #[xs[i], ys[i]] h' s.toks ⟨_, _, Array.getElem?_eq_getElem hi, Array.getElem?_eq_getElem hiy, rfl⟩ ⟨_, a5, rfl, _, rfl⟩
      ⟨a1, hk _ _ D.TIz D.TITO D.TIi1 D.TIi2 hTI, ⟨_, _, a2⟩, a3, a4, lt hz, lt hTO, lt e1, lt e2⟩
      fun c o hc e => hk c o (fun q => hc (by simp [q])) (fun q => hc (by simp [q])) (fun q => hc (by simp [q])) (fun q => hc (by simp [q])) e
  go := fun elts k pos i T s Q E hm hQ => by
    obtain ⟨hz, hTI, ⟨a, b, hTO⟩, h1, h2, _⟩ := hm
    refine wpAny_letOwnedTupleGo_zip hz fun h' hz' hs' => hQ h' ⟨hz', hs'.extBut _ _ D.TIz hTI, ⟨a, b, hs'.extBut _ _ D.zTO.symm hTO⟩, X1.over h1 hs'.extBut D.zi1.symm D.fz, X2.over h2 hs'.extBut D.zi2.symm D.fz⟩
      fun c o hc e => hs'.extBut _ _ (fun q => hc (by simp [q])) e
  apart := fun i T h hm hT => by
    obtain ⟨_, _, _, _, _, t1, t2, t3, t4⟩ := hm
    simp only [List.mem_cons, List.not_mem_nil, or_false] at hT
    rcases hT with rfl | rfl | rfl | rfl
    · exact t1 rfl
    · exact t2 rfl
    · exact t3 rfl
    · exact t4 rfl
  done := fun s Q E hst hQ => by
    obtain ⟨hz, hTI, ⟨a, b, hTO⟩, h1, h2⟩ := hst
    have hT : s.TypeIs (.ref z) "zip" := ⟨_, hz, rfl⟩
    unfold pyNext
    refine wpAny_bind (wpAny_attempt (wpAny_callSpecial?_slot (name := Str.ofString "__next__") hT PySem.F.slot_zip_next
      (wpAny_call_entry PySem.F.slot_zip_next hT PySem.F.entry_zip_next (zipN_end hh D X1 hz hTI hTO h1 (Array.getElem?_eq_none (Nat.le_refl _)) fun h' e hk he => ?_) (PySem.F.args_zip_next_1 _))))
    obtain ⟨o, ho, hc⟩ := he
    refine wpAny_bind (wpAny_isInstance (T := "StopIteration") (b := true) ⟨o, ho, hc⟩ isSubtype_stop ?_)
    exact wpAny_pure (hQ h' s.toks fun c o hc e => hk c o (fun q => hc (by simp [q])) (fun q => hc (by simp [q])) (fun q => hc (by simp [q])) (fun q => hc (by simp [q])) e)
  self := fun i s Q E hst hQ => wpAny_pyIter_zip hst.1 hQ
end
end Mine
namespace Mine
open PySem PySem.W PyProof.Rows
abbrev zt1 (h : Heap) (a : Addr) : Heap := h.push { cls := .type "tuple_iterator", data := .fields #[.ref a, .int 0 0] }
abbrev zt2 (h : Heap) (a b : Addr) : Heap := (zt1 h a).push { cls := .type "tuple_iterator", data := .fields #[.ref b, .int 0 0] }
abbrev zt3 (h : Heap) (a b : Addr) : Heap := (zt2 h a b).push { cls := .type "tuple", data := .seq #[.ref h.objs.size, .ref (zt1 h a).objs.size] }
abbrev zt4 (h : Heap) (a b : Addr) : Heap := (zt3 h a b).push { cls := .type "tuple", data := .seq #[.none, .none] }
abbrev zt5 (h : Heap) (a b : Addr) : Heap := (zt4 h a b).push { cls := .type "zip", data := .fields #[.none, .bool false, .bool false, .ref (zt2 h a b).objs.size, .ref (zt3 h a b).objs.size] }
theorem meets_zipT (a b : Addr) (xs ys : Array Value) :
    Meets (Builtin.«zip.__new__» ⟨[.type "zip", .ref a, .ref b], []⟩) (fun _ R s => s.heap.IsTuple a xs ∧ s.heap.IsTuple b ys ∧ R (.ok (.ret (.ref (zt4 s.heap a b).objs.size))) { s with heap := zt5 s.heap a b }) :=
  .of_wp fun prog w A R s h => by
    obtain ⟨hp, g, d, tk, os⟩ := s; obtain ⟨hl1, hl2, h⟩ := h
    have hsub := sub_zip
    have hL1 : Heap.IsTuple (Shared.heap ⟨hp, g, d, tk, os⟩) a xs := hl1
    have hL2 : Heap.IsTuple (Shared.heap ⟨hp.push { cls := .type "tuple_iterator", data := .fields #[.ref a, .int 0 0] }, g, d, tk, os⟩) b ys := Heap.IsTuple.push hl2 _
    wp_walk using wpAny_pyIter_tuple hL1, wpAny_pyIter_tuple hL2
    exact ⟨_, rfl, h⟩
section
variable {prog : Program} {w : World} {A : Around} {E : Value → Shared → Prop} {s : Shared}
theorem zip_tuples {a b : Addr} {xs ys : Array Value} {Q : Value → Shared → Prop} (ha : s.heap.IsTuple a xs) (hb : s.heap.IsTuple b ys)
    (h : ∀ h' z TI TO i1 i2, ZOff z TI TO i1 i2 [a, b] →
      (IsZip h' z TI TO .none ∧ IsPair h' TI (.ref i1) (.ref i2) ∧ (∃ p q, IsPair h' TO p q) ∧ (h'.IsTupleIter i1 a 0 ∧ h'.IsTuple a xs) ∧ (h'.IsTupleIter i2 b 0 ∧ h'.IsTuple b ys)) →
      (∀ c o, s.heap.get? c = some o → h'.get? c = some o) → (∀ c ∈ [z, TO, i1, i2], s.heap.objs.size ≤ c) → (∀ c ∈ z :: TI :: TO :: i1 :: i2 :: [a, b], c < h'.objs.size) → Q (.ref z) { s with heap := h' }) :
    wpAny (model prog w) A (call (.type "zip") [.ref a, .ref b]) Q E s := by
  refine callType_new PySem.F.called_zip (by decide) (PySem.F.typeCall_zip_2 _ _) (PySem.F.newCall_zip_2 _ _) (fun obj => PySem.F.args_object_init_3 obj _ _) PySem.F.entry_zip_new (meets_zipT a b xs ys) ⟨ha, hb, ?_⟩
  have la : a < s.heap.objs.size := by obtain ⟨_, e, _⟩ := ha; exact Heap.lt_size e
  have lb : b < s.heap.objs.size := by obtain ⟨_, e, _⟩ := hb; exact Heap.lt_size e
  have z1 : (zt1 s.heap a).objs.size = s.heap.objs.size + 1 := Heap.size_push ..
  have z2 : (zt2 s.heap a b).objs.size = s.heap.objs.size + 2 := by rw [Heap.size_push, z1]
  have z3 : (zt3 s.heap a b).objs.size = s.heap.objs.size + 3 := by rw [Heap.size_push, z2]
  have z4 : (zt4 s.heap a b).objs.size = s.heap.objs.size + 4 := by rw [Heap.size_push, z3]
  have z5 : (zt5 s.heap a b).objs.size = s.heap.objs.size + 5 := by rw [Heap.size_push, z4]
  have g5 : (zt5 s.heap a b).get? (zt4 s.heap a b).objs.size = some _ := Heap.get?_push_size _ rfl
  have g4 : (zt5 s.heap a b).get? (zt3 s.heap a b).objs.size = some _ := Heap.get?_push_of_some _ (Heap.get?_push_size _ rfl)
  have g3 : (zt5 s.heap a b).get? (zt2 s.heap a b).objs.size = some _ := Heap.get?_push_of_some _ (Heap.get?_push_of_some _ (Heap.get?_push_size _ rfl))
  have g2 : (zt5 s.heap a b).get? (zt1 s.heap a).objs.size = some _ := Heap.get?_push_of_some _ (Heap.get?_push_of_some _ (Heap.get?_push_of_some _ (Heap.get?_push_size _ rfl)))
  have g1 : (zt5 s.heap a b).get? s.heap.objs.size = some _ := Heap.get?_push_of_some _ (Heap.get?_push_of_some _ (Heap.get?_push_of_some _ (Heap.get?_push_of_some _ (Heap.get?_push_size _ rfl))))
  have up : ∀ c o, s.heap.get? c = some o → (zt5 s.heap a b).get? c = some o := fun c o e => Heap.get?_push_of_some _ (Heap.get?_push_of_some _ (Heap.get?_push_of_some _ (Heap.get?_push_of_some _ (Heap.get?_push_of_some _ e))))
  show _ ∧ _
  rw [z2, z3, z4] at g5
  rw [z1, z2] at g3
  rw [z3] at g4
  rw [z1] at g2
  rw [z4]
  refine ⟨⟨_, g5, rfl⟩, ?_⟩
  have up2 := up
  generalize zt5 s.heap a b = H at *
  generalize hZ : s.heap.objs.size = Z at *
  refine h H (Z + 4) (Z + 2) (Z + 3) Z (Z + 1) ⟨by simp, by simp, by simp, by simp, by simp, by simp, by simp, by simp, by simp, by simp, ?_, ?_, ?_, ?_⟩
    ⟨g5, g3, ⟨_, _, g4⟩, ⟨⟨_, g1, rfl, rfl⟩, let ⟨o, e, r⟩ := ha; ⟨o, up2 _ _ e, r⟩⟩, ⟨⟨_, g2, rfl, rfl⟩, let ⟨o, e, r⟩ := hb; ⟨o, up2 _ _ e, r⟩⟩⟩ up2 ?_ ?_
  all_goals
    intro c hc
    simp only [List.mem_cons, List.not_mem_nil, or_false] at hc
  · rcases hc with rfl | rfl <;> exact Nat.ne_of_lt (Nat.lt_of_lt_of_le (by assumption) (Nat.le_add_right _ _))
  · rcases hc with rfl | rfl <;> exact Nat.ne_of_lt (Nat.lt_of_lt_of_le (by assumption) (Nat.le_add_right _ _))
  · rcases hc with rfl | rfl <;> exact Nat.ne_of_lt (by assumption)
  · rcases hc with rfl | rfl <;> exact Nat.ne_of_lt (Nat.lt_of_lt_of_le (by assumption) (Nat.le_add_right _ _))
  · rcases hc with rfl | rfl | rfl | rfl <;> simp
  · rw [z5]
    rcases hc with rfl | rfl | rfl | rfl | rfl | rfl | rfl
    · simp
    · simp
    · simp
    · simp
    · simp
    · exact Nat.lt_of_lt_of_le la (Nat.le_add_right _ _)
    · exact Nat.lt_of_lt_of_le lb (Nat.le_add_right _ _)
end
end Mine
namespace Mine
open PySem PySem.W PyProof.Rows
section
variable {prog : Program} {w : World} {A : Around} {E : Value → Shared → Prop} {s : Shared} {h₀ : Heap} {L c P : Addr} {m mg : Str → Option Value} {bm : Addr} {ob : Obj}
theorem add_names {env : Env} {xa xb : Str} {q1 q2 bp : Pos} {m₂ : Str → Option Value} {a b : Int} {ta tb : Tok} {Q : Value → Shared → Prop} (hk : env.scope.kind = .function) (ha : env.kindOf xa = some .local) (hb : env.kindOf xb = some .local)
    (hn : s.heap.Ns env.locals m₂) (va : m₂ xa = some (.int a ta)) (vb : m₂ xb = some (.int b tb)) (h : Q (.int (a + b) s.toks) { s with toks := s.toks + 1 })
    (da : (xa == ("__debug__" : Str)) = false) (db : (xb == ("__debug__" : Str)) = false) : wpAny (model prog w) A (eval (.BinOp (.Name xa q1) .Add (.Name xb q2) bp) env) Q E s :=
  wpAny_BinOp (wpAny_Name (wpAny_loadName_local hk ha hn va (wpAny_Name (wpAny_loadName_local hk hb hn vb (add_int h)) db)) da)
/-- what the two places of a pair of pairs sum to -/
def sum2 (a1 a2 b1 b2 : Int) (j : Nat) : Int := if j = 0 then a1 + b1 else a2 + b2
theorem gen_add {env : Env} {iter : Expr} {xa xb : Str} {pa pb pt q1 q2 bp : Pos} {kt : Nat} {scope : Scope} {cl : List (Str × Addr)} {pos : Pos} {Q : Value → Shared → Prop} {t1 t2 : Addr} {a1 a2 b1 b2 : Int} {k1 k2 k3 k4 : Tok}
    (_F₀ : Fr h₀ L s.heap m) (hh : A.handled = none) (hco : scope.isCoroutine = false) (hclos : closureFor scope env = pure cl) (hcell : ∀ y ∈ scope.names, y.2 ≠ .cell) (h0 : scope.names.lookup (".0" : Str) = some NameKind.local)
    (hxa : scope.names.lookup xa = some .local) (hxb : scope.names.lookup xb = some .local) (hab : xa ≠ xb) (hkind : scope.kind = .function) (hroom : A.depth < recursionLimit)
    (da : (xa == ("__debug__" : Str)) = false) (db : (xb == ("__debug__" : Str)) = false) (hcode : env.code = .ref c) (C : CodeHd h₀ c P) (M : BMod h₀ env.globals mg bm ob) (hlim : h₀.NoLimit)
    (h : wpAny (model prog w) A (eval iter env) (fun xv s₁ => ∃ z TI TO i1 i2 ps news Kb, xv = .ref z ∧ ZOff z TI TO i1 i2 [t1, t2] ∧
        (IsZip s₁.heap z TI TO .none ∧ IsPair s₁.heap TI (.ref i1) (.ref i2) ∧ (∃ p q, IsPair s₁.heap TO p q) ∧ (s₁.heap.IsTupleIter i1 t1 0 ∧ s₁.heap.IsTuple t1 #[.int a1 k1, .int a2 k2]) ∧ (s₁.heap.IsTupleIter i2 t2 0 ∧ s₁.heap.IsTuple t2 #[.int b1 k3, .int b2 k4])) ∧
        (∀ b ∈ z :: TI :: TO :: i1 :: i2 :: [t1, t2], b < s₁.heap.objs.size) ∧ Fr h₀ L s₁.heap m ∧ News h₀ L s₁.heap ((P, tabObj ps) :: news) ∧ (∀ p ∈ news, p.1 ≠ P) ∧ TriplesOk ps.toList ∧ AllBare s₁.gens ∧
        L ≤ Kb ∧ (∀ p ∈ (P, tabObj ps) :: news, p.1 ≤ Kb) ∧ (∀ b ∈ [z, TO, i1, i2], Kb < b) ∧ Kb < s₁.heap.objs.size ∧
        ∀ a ps' (s₅ : Shared), Fr h₀ L s₅.heap m → News h₀ L s₅.heap ((P, tabObj ps') :: news) → TriplesOk ps'.toList → AllBare s₅.gens → s₅.os = s₁.os → Gen prog w A Kb a 2 (fun j y => ∃ t, y = .int (sum2 a1 a2 b1 b2 j) t) s₅ → Q (.ref a) s₅) E s)
    (hs : ∀ x, genFold iter env x = pure x) :
    wpAny (model prog w) A (eval (.GeneratorExp (.BinOp (.Name xa q1) .Add (.Name xb q2) bp) [⟨.Tuple [.Name xa pa, .Name xb pb] kt pt, iter, [], 0⟩] scope pos) env) Q E s := by
  refine wpAny_GeneratorExp_walksQT hh hco hclos hcell h0 hxa hxb hab hkind hroom (wpAny_mono h (fun xv s₁ h₁ => ?_) fun _ _ e => e) hs
  obtain ⟨z, TI, TO, i1, i2, ps, news, Kb, rfl, D, hst, hfp, F, N, offP, htr, hbare, hLK, hK, hwr, hKs, fin⟩ := h₁
  have ne1 : t1 ≠ i1 := D.f1 t1 (.head _)
  have ne2 : t2 ≠ i2 := D.f2 t2 (.tail _ (.head _))
  have X1 : Nexts prog w i1 [t1, t2] #[.int a1 k1, .int a2 k2] (fun k h => h.IsTupleIter i1 t1 k ∧ h.IsTuple t1 #[.int a1 k1, .int a2 k2]) :=
    let X := nexts_tuple (prog := prog) (w := w) i1 t1 ne1 #[.int a1 k1, .int a2 k2]
    ⟨fun k h h' st hk => X.frame k h h' st fun b hb => hk b (hb.imp id fun q => by rw [List.mem_singleton.mp q]; exact .head _), X.lives, X.item, X.done⟩
  have X2 : Nexts prog w i2 [t1, t2] #[.int b1 k3, .int b2 k4] (fun k h => h.IsTupleIter i2 t2 k ∧ h.IsTuple t2 #[.int b1 k3, .int b2 k4]) :=
    let X := nexts_tuple (prog := prog) (w := w) i2 t2 ne2 #[.int b1 k3, .int b2 k4]
    ⟨fun k h h' st hk => X.frame k h h' st fun b hb => hk b (hb.imp id fun q => by rw [List.mem_singleton.mp q]; exact .tail _ (.head _)), X.lives, X.item, X.done⟩
  have W := fun (A' : Around) (hA : A'.handled = none) => walks_zip (prog := prog) (w := w) hA D X1 X2 rfl
  refine (W A hh).self 0 _ _ _ hst ?_
  have hlim1 : s₁.heap.NoLimit := hlim.keeps F.keep
  have C1 := C.keeps F.keep
  have hP := (N (P, tabObj ps) (.head _)).1
  have hclt : cStatics ≤ Kb := Nat.le_trans (Nat.le_of_lt (Nat.lt_of_lt_of_le (let ⟨_, hn, _⟩ := hlim; hn.lt) F.above)) hLK
  have hPf : ∀ b ∈ z :: TI :: TO :: i1 :: i2 :: [t1, t2], b ≠ P := by
    obtain ⟨hz, hTI, ⟨p, q, hTO⟩, ⟨⟨o1, e1, c1, _⟩, ⟨o3, e3, c3, _⟩⟩, ⟨⟨o2, e2, c2, _⟩, ⟨o4, e4, c4, _⟩⟩⟩ := hst
    intro b hb q
    subst q
    simp only [List.mem_cons, List.not_mem_nil, or_false] at hb
    rcases hb with rfl | rfl | rfl | rfl | rfl | rfl | rfl
    · rw [hz] at hP; cases hP
    · rw [hTI] at hP; cases hP
    · rw [hTO] at hP; cases hP
    · rw [e1] at hP; cases hP; cases c1
    · rw [e2] at hP; cases hP; cases c2
    · rw [e3] at hP; cases hP; cases c3
    · rw [e4] at hP; cases hP; cases c4
  have tail : ∀ (s₄ : Shared) (code : Value) (ps' : Array Value), (∀ b o, b ≠ P → s₁.heap.get? b = some o → s₄.heap.get? b = some o) → s₁.heap.objs.size ≤ s₄.heap.objs.size → s₄.heap.get? P = some (tabObj ps') → TriplesOk ps'.toList → s₄.gens = s₁.gens → s₄.os = s₁.os → s₄.heap.NoLimit → BMod s₄.heap env.globals mg bm ob →
      wpAny (model prog w) A (builtinsFor env.globals env.builtins) (fun bi s₄ =>
        ∃ I fp wr n₀ Pt St₀ Mid pz F, Value.ref z = .ref I ∧ (∀ A' : Around, A'.handled = none → WalksU prog w A' I fp wr n₀ Pt St₀ Mid) ∧ (∀ i vals, Pt i vals → ∃ va vb, vals = #[va, vb]) ∧ St₀ 0 s₄.heap ∧ (∀ b ∈ fp, b < s₄.heap.objs.size) ∧ s₄.heap.NoLimit ∧ cStatics ∉ wr ∧
          (∀ href : Heap, (∀ b o, s₄.heap.get? b = some o → href.get? b = some o) →
            QuietGenT prog w (genEnv scope cl s₄.heap.objs.size code bi env) xa xb [] (.BinOp (.Name xa q1) .Add (.Name xb q2) bp) (List.range s₄.heap.objs.size) wr Pt pz F href) ∧
          (∀ a h₅ tk gs, gs.bare = true → s₄.heap.objs.size < a → h₅.objs.size = a + 1 → (∀ b o, s₄.heap.get? b = some o → h₅.get? b = some o) →
            WalksS prog w A.in4 a (a :: s₄.heap.objs.size :: List.range s₄.heap.objs.size) (s₄.heap.objs.size :: wr) (GenOnlyQ s₄.gens.size) (passing pz n₀ 0).length
              (fun j y => ∃ i, (passing pz n₀ 0)[j]? = some i ∧ F i y) (GenAt prog w A.in4 a s₄.gens.size s₄.heap.objs.size (List.range s₄.heap.objs.size) wr pz n₀ F) →
            GenAt prog w A.in4 a s₄.gens.size s₄.heap.objs.size (List.range s₄.heap.objs.size) wr pz n₀ F 0 { s₄ with gens := s₄.gens.push gs, toks := tk, heap := h₅ } →
            Q (.ref a) { s₄ with gens := s₄.gens.push gs, toks := tk, heap := h₅ })) E s₄ := by
    intro s₄ code ps' hk4 hsz4 hP4 htr4 hg4 ho4 hl4 M4
    refine wpAny_builtinsFor M4.ns M4.name M4.ne M4.obj M4.cls M4.dict M4.data ?_
    have N4 : News h₀ L s₄.heap ((P, tabObj ps') :: news) := fun p hp => by
      rcases List.mem_cons.mp hp with rfl | hp
      · exact ⟨hP4, (N (P, tabObj ps) (.head _)).2⟩
      · exact ⟨hk4 _ _ (offP p hp) (N p (.tail _ hp)).1, (N p (.tail _ hp)).2⟩
    have oldP : ∀ b o, h₀.get? b = some o → b ≠ P := fun b o e q => by rw [q, (N (P, tabObj ps) (.head _)).2.2] at e; cases e
    have F4 : Fr h₀ L s₄.heap m := ⟨F.ns.at' fun o e => hk4 L o (Ne.symm (N (P, tabObj ps) (.head _)).2.1) e, fun b o e => hk4 b o (oldP b o e) (F.keep b o e), F.above⟩
    refine ⟨z, _, _, _, _, _, _, (fun _ => true), (fun i y => ∃ t, y = .int (sum2 a1 a2 b1 b2 i) t), rfl, W, (fun i vals hv => by obtain ⟨x, y, _, _, e⟩ := hv; exact ⟨x, y, e⟩), (W A hh).frame _ _ _ hst fun b hb o e => hk4 b o (hPf b hb) e,
      (fun b hb => Nat.lt_of_lt_of_le (hfp b hb) hsz4), hl4, (fun hm => Nat.lt_irrefl _ (Nat.lt_of_le_of_lt hclt (hwr _ hm))), ?_, ?_⟩
    · intro href hhref
      refine ⟨fun A' E' i va vb s₂ m₂ _ _ _ _ _ _ => ?_, fun A' E' i va vb s₂ m₂ _ hPt _ hn hva hvb _ => ?_⟩
      · show wpAny _ _ (pure true) _ _ _
        exact wpAny_pure ⟨rfl, _, _, rfl, fun _ _ e => e⟩
      · obtain ⟨x, y, hx, hy, e⟩ := hPt
        obtain ⟨e1, e2⟩ : va = x ∧ vb = y := by simpa using congrArg Array.toList e
        subst e1 e2
        have two : ∃ ta tb, va = .int (if i = 0 then a1 else a2) ta ∧ vb = .int (if i = 0 then b1 else b2) tb := by
          match i, hx, hy with
          | 0, hx, hy => exact ⟨k1, k3, (Option.some.inj hx).symm, (Option.some.inj hy).symm⟩
          | 1, hx, hy => exact ⟨k2, k4, (Option.some.inj hx).symm, (Option.some.inj hy).symm⟩
          | i + 2, hx, hy => simp at hx
        obtain ⟨ta, tb, rfl, rfl⟩ := two
        have e9 : (if i = 0 then a1 else a2) + (if i = 0 then b1 else b2) = sum2 a1 a2 b1 b2 i := by unfold sum2; split <;> rfl
        exact add_names hkind hxa hxb hn hva hvb ⟨⟨s₂.toks, by rw [e9]⟩, _, _, rfl, fun _ _ e => e⟩ da db
    · intro a h₅ tk gs hgb hag hsz₅ hk₅ W' hat
      refine fin a ps' _ (F4.keeps hk₅) (N4.grown hk₅) htr4 (by show AllBare (s₄.gens.push gs); rw [hg4]; exact hbare.push hgb) ho4 ?_
      refine Gen.imp (n := 2) (F := fun j y => ∃ i, (passing (fun _ => true) 2 0)[j]? = some i ∧ ∃ t, y = .int (sum2 a1 a2 b1 b2 i) t) ⟨_, _, _, _, W', hat, (fun i s' st => st.1.typeIs), List.mem_cons_self, ?_, ?_⟩ fun j y hv => ?_
      · intro b hb
        show b < h₅.objs.size
        rw [hsz₅]
        rcases List.mem_cons.mp hb with rfl | hb
        · exact Nat.lt_succ_self _
        · rcases List.mem_cons.mp hb with rfl | hb
          · exact Nat.lt_succ_of_lt hag
          · exact Nat.lt_succ_of_lt (Nat.lt_trans (List.mem_range.mp hb) hag)
      · intro b hb
        rcases List.mem_cons.mp hb with rfl | hb
        · exact Nat.lt_of_lt_of_le hKs hsz4
        · exact hwr b hb
      · obtain ⟨i', hi', t, e⟩ := hv
        have : i' = j := by
          match j, hi' with
          | 0, hi' => exact (Option.some.inj hi').symm
          | 1, hi' => exact (Option.some.inj hi').symm
          | j + 2, hi' =>
            rw [show passing (fun _ => true) 2 0 = [0, 1] from rfl] at hi'
            simp at hi'
        exact ⟨t, this ▸ e⟩
  refine ⟨hlim1, ?_⟩
  cases hf : codeAmong pos ps.toList with
  | some cv => exact wpAny_genexprCode_hit hcode (C1.code hP htr) hf (tail _ cv ps (fun _ _ _ e => e) (Nat.le_refl _) hP htr rfl rfl hlim1 (M.keeps F.keep))
  | none =>
    refine wpAny_genexprCodeX hcode (C1.code hP htr) (C1.tab hP) hf fun c' h₃ tk₃ hx₃ hge hlt hcode₃ _ htab₃ _ => ?_
    have hcP : cStatics ≠ P := fun e => by
      obtain ⟨_, hns, _⟩ := hlim
      obtain ⟨o, _, _, ho, _⟩ := hns
      rw [e, (N (P, tabObj ps) (.head _)).2.2] at ho
      cases ho
    refine tail _ _ _ (fun b o hb e => hx₃ b o hb e) (Nat.le_trans hge (Nat.le_of_lt hlt)) htab₃.2 (let ⟨_, _, _, _, _, _, _, _, _, _, _, _, _, _, _, _, _, _, _, h, _⟩ := hcode₃; h) rfl rfl (hlim1.extBut hx₃ hcP) ((M.keeps F.keep).extBut (C1.tab hP) hx₃)
theorem tuple_gen {a Kb : Addr} {a1 a2 b1 b2 : Int} {news : List (Addr × Obj)} {Q : Value → Shared → Prop} (F : Fr h₀ L s.heap m) (N : News h₀ L s.heap news) (hb : AllBare s.gens) (X : Gen prog w A Kb a 2 (fun j y => ∃ t, y = .int (sum2 a1 a2 b1 b2 j) t) s) (hLK : L ≤ Kb) (hK : ∀ p ∈ news, p.1 ≤ Kb)
    (h : ∀ T t u (s' : Shared), Fr h₀ L s'.heap m → News h₀ L s'.heap ((T, { cls := .type "tuple", data := .seq #[.int (a1 + b1) t, .int (a2 + b2) u] }) :: news) → AllBare s'.gens → s'.os = s.os → (∀ p ∈ news, p.1 < T) → Q (.ref T) s') :
    wpAny (model prog w) A (call (.type "tuple") [.ref a]) Q E s := by
  obtain ⟨fp, wr, g, St, W, hst, hT, hI, hfp, hwr⟩ := X
  refine call_tuple_gen (hsz := by rw [sizeLine_eq]; decide) W.in4_3 hT hst hfp hI fun s' acc hm hacc => ?_
  have F₁ : Fr h₀ L s'.heap m := F.moved hm fun b hb => Nat.lt_of_le_of_lt hLK (hwr b hb)
  have N₁ : News h₀ L s'.heap news := fun p hp => ⟨hm.heap _ _ (fun q => Nat.lt_irrefl _ (Nat.lt_of_lt_of_le (hwr _ q) (hK p hp))) (N p hp).1, (N p hp).2⟩
  obtain ⟨hs2, hj⟩ := hacc
  have e0 : ∃ t, acc[0]? = some (.int (a1 + b1) t) := by
    obtain ⟨t, e⟩ := hj 0 acc[0] (Array.getElem?_eq_getElem (by omega))
    exact ⟨t, by rw [Array.getElem?_eq_getElem (by omega), e]; rfl⟩
  have e1 : ∃ t, acc[1]? = some (.int (a2 + b2) t) := by
    obtain ⟨t, e⟩ := hj 1 acc[1] (Array.getElem?_eq_getElem (by omega))
    exact ⟨t, by rw [Array.getElem?_eq_getElem (by omega), e]; rfl⟩
  obtain ⟨t, e0⟩ := e0
  obtain ⟨u, e1⟩ := e1
  have hacc : acc = #[.int (a1 + b1) t, .int (a2 + b2) u] := by
    apply Array.ext_getElem?
    intro i
    match i with
    | 0 => rw [e0]; rfl
    | 1 => rw [e1]; rfl
    | i + 2 => rw [Array.getElem?_eq_none (by omega), Array.getElem?_eq_none (by simp)]
  subst hacc
  have hb' : AllBare s'.gens := hb.movedS hm
  exact h _ t u _ (F₁.push _) (News.push F₁ N₁ _) hb' hm.os fun p hp => Heap.lt_size (N₁ p hp).1
end
end Mine
namespace Mine
open PySem PySem.W PyProof.Rows
abbrev tup2 (x y : Int) (t u : Tok) (n : Nat) : Obj := { cls := .type "tuple", data := .seq #[.int x t, .int y u] n }
/-- how a count c under the key k stands: an int, or the pair (c, k * c) -/
def CVal (news : List (Addr × Obj)) (odd : Bool) (k c : Int) (v : Value) : Prop := match odd with
  | false => ∃ t, v = .int c t
  | true => ∃ a t u n, v = .ref a ∧ (a, tup2 c (k * c) t u n) ∈ news
theorem CVal.mono {news news' : List (Addr × Obj)} {odd : Bool} {k c : Int} {v : Value} (h : CVal news odd k c v) (hs : ∀ p ∈ news, p ∈ news') : CVal news' odd k c v := by
  cases odd with
  | false => exact h
  | true => obtain ⟨a, t, u, n, e, hm⟩ := h; exact ⟨a, t, u, n, e, hs _ hm⟩
inductive CEnt (news : List (Addr × Obj)) (odd : Bool) : List (Int × Value) → List (Int × Int) → Prop
  | nil : CEnt news odd [] []
  | cons {k c : Int} {v : Value} {kvs : List (Int × Value)} {cs : List (Int × Int)} : CVal news odd k c v → CEnt news odd kvs cs → CEnt news odd ((k, v) :: kvs) ((k, c) :: cs)
theorem CEnt.mono {news news' : List (Addr × Obj)} {odd : Bool} {kvs : List (Int × Value)} {cs : List (Int × Int)} (h : CEnt news odd kvs cs) (hs : ∀ p ∈ news, p ∈ news') : CEnt news' odd kvs cs := by
  induction h with
  | nil => exact .nil
  | cons hv _ ih => exact .cons (hv.mono hs) ih
def bump : List (Int × Int) → Int → List (Int × Int)
  | [], k => [(k, 1)]
  | (a, c) :: r, k => if a = k then (a, c + 1) :: r else (a, c) :: bump r k
theorem valueAt_cons {k a : Int} {v : Value} {r : List (Int × Value)} : valueAt ((a, v) :: r) k = if a = k then some v else valueAt r k := by
  simp only [valueAt, List.find?_cons]
  by_cases h : a = k
  · simp [h]
  · simp [h]
theorem valueAt_none {k : Int} {kvs : List (Int × Value)} : valueAt kvs k = none ↔ k ∉ kvs.map (·.1) := by
  induction kvs with
  | nil => simp [valueAt]
  | cons q r ih =>
    obtain ⟨a, v⟩ := q
    rw [valueAt_cons]
    by_cases h : a = k
    · simp [h]
    · simp only [if_neg h, ih, List.map_cons, List.mem_cons, not_or]
      exact ⟨fun x => ⟨fun e => h e.symm, x⟩, fun x => x.2⟩
theorem stored_new {k : Int} {v : Value} {kvs : List (Int × Value)} (h : valueAt kvs k = none) : stored kvs k v = kvs ++ [(k, v)] := by
  have hn := valueAt_none.mp h
  unfold stored
  rw [if_neg]
  intro q
  obtain ⟨x, hx, hk⟩ := List.any_eq_true.mp q
  exact hn (List.mem_map.mpr ⟨x, hx, by simpa using hk⟩)
theorem stored_cons_hit {k : Int} {v u : Value} {r : List (Int × Value)} (hn : k ∉ r.map (·.1)) : stored ((k, u) :: r) k v = (k, v) :: r := by
  unfold stored
  rw [if_pos (by simp)]
  simp only [List.map_cons, if_true]
  congr 1
  refine (List.map_congr_left fun q hq => ?_).trans (List.map_id _)
  rw [if_neg (fun e => hn (List.mem_map.mpr ⟨q, hq, e⟩))]
  rfl
theorem stored_cons_miss {k a : Int} {v u : Value} {r : List (Int × Value)} (h : a ≠ k) : stored ((a, u) :: r) k v = (a, u) :: stored r k v := by
  unfold stored
  by_cases q : (r.any fun kv => decide (kv.1 = k)) = true
  · rw [if_pos (by rw [List.any_cons, q, Bool.or_true]), if_pos q, List.map_cons, if_neg h]
  · rw [if_neg (by rw [List.any_cons]; simpa [h] using q), if_neg q]; rfl
theorem CEnt.keys {news : List (Addr × Obj)} {odd : Bool} {kvs : List (Int × Value)} {cs : List (Int × Int)} (h : CEnt news odd kvs cs) : kvs.map (·.1) = cs.map (·.1) := by
  induction h with
  | nil => rfl
  | cons _ _ ih => simp [ih]
/-- a new key -/
theorem CEnt.snoc {news : List (Addr × Obj)} {odd : Bool} {kvs : List (Int × Value)} {cs : List (Int × Int)} {k : Int} {v : Value} (h : CEnt news odd kvs cs) (hv : CVal news odd k 1 v) (hn : valueAt kvs k = none) :
    CEnt news odd (stored kvs k v) (bump cs k) := by
  rw [stored_new hn]
  have hk := valueAt_none.mp hn
  induction h with
  | nil => exact .cons hv .nil
  | @cons a c u r q hu _ ih =>
    have ha : a ≠ k := fun e => hk (by simp [e])
    simp only [bump, if_neg ha]
    exact .cons hu (ih (by rw [valueAt_cons, if_neg ha] at hn; exact hn) (fun e => hk (by simp [e])))
/-- a key that stands already -/
theorem CEnt.hit {news : List (Addr × Obj)} {odd : Bool} {kvs : List (Int × Value)} {cs : List (Int × Int)} {k : Int} {u : Value} (h : CEnt news odd kvs cs) (hs : valueAt kvs k = some u) (hnd : (kvs.map (·.1)).Nodup) :
    ∃ c, CVal news odd k c u ∧ ∀ news' v, (∀ p ∈ news, p ∈ news') → CVal news' odd k (c + 1) v → CEnt news' odd (stored kvs k v) (bump cs k) := by
  induction h with
  | nil => simp [valueAt] at hs
  | @cons a c x r q hx hr ih =>
    rw [valueAt_cons] at hs
    simp only [List.map_cons, List.nodup_cons] at hnd
    by_cases ha : a = k
    · subst ha
      rw [if_pos rfl] at hs
      cases hs
      refine ⟨c, hx, fun news' v hsub hv => ?_⟩
      rw [stored_cons_hit hnd.1]
      simp only [bump, if_true]
      exact .cons hv (hr.mono hsub)
    · rw [if_neg ha] at hs
      obtain ⟨c', hc', hall⟩ := ih hs hnd.2
      refine ⟨c', hc', fun news' v hsub hv => ?_⟩
      rw [stored_cons_miss ha]
      simp only [bump, if_neg ha]
      exact .cons (hx.mono hsub) (hall news' v hsub hv)
theorem take_stored {kvs : List (Int × Value)} {i : Nat} {k : Int} {v : Value} (hnd : (kvs.map (·.1)).Nodup) (h : kvs[i]? = some (k, v)) : stored (kvs.take i) k v = kvs.take (i + 1) := by
  have hi := (List.getElem?_eq_some_iff.mp h)
  have hk : valueAt (kvs.take i) k = none := by
    rw [valueAt_none]
    intro hm
    obtain ⟨q, hq, e⟩ := List.mem_map.mp hm
    obtain ⟨j, hj, hj2⟩ := List.getElem_of_mem hq
    have hlen : (kvs.take i).length = i := by rw [List.length_take]; have := hi.1; omega
    have hji : j < i := by omega
    have hjk : j < kvs.length := by have := hi.1; omega
    have e1 : (kvs.map (·.1))[j]? = some k := by
      rw [List.getElem?_map]
      have : kvs[j]? = some q := by
        rw [List.getElem_take] at hj2
        rw [List.getElem?_eq_getElem hjk, hj2]
      rw [this]; simp [e]
    have e2 : (kvs.map (·.1))[i]? = some k := by rw [List.getElem?_map, h]; rfl
    have hjl : j < (kvs.map (·.1)).length := (List.getElem?_eq_some_iff.mp e1).1
    have := (List.getElem?_inj hjl hnd).mp (e1.trans e2.symm)
    omega
  rw [stored_new hk, List.take_succ_eq_append_getElem hi.1, hi.2]
end Mine
namespace Mine
open PySem PySem.W PyProof.Rows
local macro_rules | `(tactic| k_all) => `(tactic| assumption)
local macro_rules | `(tactic| walk_at "getMethod ref") => `(tactic| refine Hold.out ?_)
local macro_rules | `(tactic| walk_at "call builtin:dict.items") => `(tactic| refine Hold.out ?_)
local macro_rules | `(tactic| walk_at "getItem ref int") => `(tactic| refine Hold.out ?_)
local macro_rules | `(tactic| walk_at "call builtin:isinstance") => `(tactic| ((with_reducible show wpAny _ _ (call (Value.builtin "isinstance") [Value.ref _, _]) _ _ _); refine Hold.out ?_))
local macro_rules | `(tactic| walk_at "eval GeneratorExp") => `(tactic| refine Hold.out ?_)
local macro_rules | `(tactic| walk_at "call type:tuple") => `(tactic| refine Hold.out ?_)
local macro_rules | `(tactic| walk_at "subscriptTail") => `(tactic| refine Hold.out ?_)
local macro_rules | `(tactic| walk_at "call type:zip") => `(tactic| refine Hold.out ?_)
local macro_rules | `(tactic| walk_at "setItem ref int") => `(tactic| refine Hold.out ?_)
local macro_rules | `(tactic| walk_at "compareOp In int ref") => `(tactic| refine Hold.out ?_)
theorem callers_spec (w : World) (tl : List (Addr × Obj)) (ps : Array Value) (d e : Addr) (od oe : Obj) (kvs : List (Int × Value)) (cs : List (Int × Int)) (odd : Bool) (wt : Int) (v : Value) (hm : (d, od) ∈ tl) (he : (e, oe) ∈ tl)
    (hd : od.IsDictOf (PySem.intKind PySem.Challenge.rw_pg0027_01.row.prog w) kvs) (hoe : oe.IsDictOf (PySem.intKind PySem.Challenge.rw_pg0027_01.row.prog w) [(wt, v)]) (lod : (d == sysModules) = false) (loe : (e == sysModules) = false)
    (hP : ∀ p ∈ tl, p.1 ≠ 30) (htr : TriplesOk ps.toList) (hC : CEnt tl odd kvs cs) (hv : CVal tl odd wt 1 v) (hlen : kvs.length ≤ 100) :
    Spec w 35 [.ref d, .ref e] ((30, tabObj ps) :: tl) (fun r news' => ∃ D oD kvs' ps' added, r = .ref D ∧ news' = (D, oD) :: (30, tabObj ps') :: (added ++ tl) ∧ oD.IsDictOf (PySem.intKind PySem.Challenge.rw_pg0027_01.row.prog w) kvs' ∧ CEnt (added ++ tl) odd kvs' (bump cs wt) ∧
      TriplesOk ps'.toList ∧ (D == sysModules) = false ∧ (∀ q ∈ (30, tabObj ps) :: tl, q.1 ≠ D) ∧ ∀ p ∈ added, p.1 ≠ D ∧ ∀ q ∈ (30, tabObj ps) :: tl, q.1 ≠ p.1) := by
  refine spec_intro (fun y => if y = Str.ofString "source" then some (.ref e) else if y = Str.ofString "target" then some (.ref d) else none) (by rfl) (by rfl) (fun _ => BindsTo.of_eq rfl) (locs rfl) rfl rfl rfl (by decide) (fun y => lookup2) ?_
  w_top off
  k_fill
  intro p loose mean mg mb A₀ dp gd un outer base g L s B F X N T lt hdp hun hb
  refine execs_hold ?_
  k_steps
  with_reducible (rename Obj.IsDictOf (PySem.intKind _ _) _ _ => hi1; rename (_ == sysModules) = false => loD; rename News _ _ _ _ => N1; rename Fr _ _ _ _ => F1; rename _ ∧ AllLt _ _ => l1)
  rename_i D hh1 o1 c1 c2 c3 hh2
  clear c1 c2 c3
  have hDtl : ∀ q ∈ (30, tabObj ps) :: tl, q.1 ≠ D := fun q hq => by
    rcases List.mem_cons.mp hq with rfl | hq
    · exact Nat.ne_of_lt l1.1
    · exact Nat.ne_of_lt (allLt_mem l1.2 q hq)
  have hDt : ∀ q ∈ tl, q.1 ≠ D := fun q hq => hDtl q (.tail _ hq)
  have hPD := neN (hDtl _ (.head _))
  have hDtl' := hDtl
  refine Hold.mk ?_
  refine execs_hold ?_
  refine for_hold ?_
  k_steps
  refine Hold.mk (meth_items N1 (.tail _ (.tail _ hm)) hd ?_)
  k_steps
  refine Hold.mk (call_items F1 N1 (.tail _ (.tail _ hm)) hd lod ?_)
  intro vw h2 hvw F2 N2
  refine Hold.mk ?_
  obtain ⟨es0, ep0, _, _, _, _, hnd⟩ := id hd
  refine items_loop (h₀ := g) (L := L) (s₀ := s) (knd := PySem.intKind PySem.Challenge.rw_pg0027_01.row.prog w) (fun i m' news' => ∃ o1, news' = (D, o1) :: (30, tabObj ps) :: tl ∧ o1.IsDictOf (PySem.intKind PySem.Challenge.rw_pg0027_01.row.prog w) (kvs.take i) ∧ m' (Str.ofString "new_callers") = some (.ref D) ∧ m' (Str.ofString "source") = some (.ref e))
    rfl rfl rfl rfl rfl hvw hd (fun i m₁ news₁ hJ => by obtain ⟨o1, rfl, _⟩ := hJ; exact .tail _ (.tail _ hm)) F2 N2 ⟨rfl, hb⟩ ⟨o1, rfl, hi1, rfl, rfl⟩ ?_ ?_
  · intro i k v key I oI m₁ news₁ s₁ hkv hkey hJ F₁ N₁ off₁ r₁
    obtain ⟨o1, rfl, ho1, hm1, hm2⟩ := hJ
    obtain ⟨t, rfl⟩ := Value.isInt_shape hkey
    have F₁ := Fr.under2 F₁ hm1 hm2
    have hDI := neN (off₁ _ (.head _))
    have hPI := neN (off₁ _ (.tail _ (.head _)))
    refine execs_hold ?_
    k_steps
    have hlt := (List.getElem?_eq_some_iff.mp hkv).1
    refine Hold.mk (kda_set (knd := PySem.intKind PySem.Challenge.rw_pg0027_01.row.prog w) F₁ N₁ (UpdF.tail (Ne.symm hDI) (UpdF.head hDtl')) ho1 hkey (by rw [sizeLine_eq, List.length_take]; omega) ?_)
    intro h3 o3 F3 N3 ho3
    rw [take_stored hnd hkv] at ho3
    refine Hold.mk (wpAny_execs_nil ⟨rfl, _, (D, o3) :: (30, tabObj ps) :: tl, F3, N3, ?_, ⟨o3, rfl, ho3, rfl, rfl⟩, r₁.os, r₁.bare⟩)
    intro p hp
    rcases List.mem_cons.mp hp with rfl | hp
    · exact hDI
    · exact off₁ p (.tail _ hp)
  · intro m₁ news₁ s₁ hJ F₁ N₁ r₁
    obtain ⟨o1, rfl, ho1, hm1, hm2⟩ := hJ
    rw [List.take_length] at ho1
    have F₁ := Fr.exp2' F₁ hm1 hm2
    refine Hold.mk ?_
    refine execs_hold ?_
    refine for_hold ?_
    k_steps
    refine Hold.mk (meth_items N₁ (.tail _ (.tail _ he)) hoe ?_)
    k_steps
    refine Hold.mk (call_items F₁ N₁ (.tail _ (.tail _ he)) hoe loe ?_)
    intro vw3 h3 hvw3 F3 N3
    refine Hold.mk ?_
    refine items_loop (h₀ := g) (L := L) (s₀ := s) (knd := PySem.intKind PySem.Challenge.rw_pg0027_01.row.prog w) (fun i m' news' => (i = 0 ∧ news' = (D, o1) :: (30, tabObj ps) :: tl ∧ m' (Str.ofString "new_callers") = some (.ref D)) ∨
        (i = 1 ∧ ∃ oD kvs' ps' added, news' = (D, oD) :: (30, tabObj ps') :: (added ++ tl) ∧ m' (Str.ofString "new_callers") = some (.ref D) ∧ oD.IsDictOf (PySem.intKind PySem.Challenge.rw_pg0027_01.row.prog w) kvs' ∧ CEnt (added ++ tl) odd kvs' (bump cs wt) ∧
          TriplesOk ps'.toList ∧ ∀ p ∈ added, p.1 ≠ D ∧ ∀ q ∈ (30, tabObj ps) :: tl, q.1 ≠ p.1))
      rfl rfl rfl rfl rfl hvw3 hoe (fun i m₁ news₁ hJ => by
        rcases hJ with ⟨_, rfl, _⟩ | ⟨_, _, _, _, added, rfl, _⟩
        · exact .tail _ (.tail _ he)
        · exact .tail _ (.tail _ (List.mem_append_right _ he))) F3 N3 ⟨r₁.os, r₁.bare⟩ (.inl ⟨rfl, rfl, rfl⟩) ?_ ?_
    · intro i k v' key I oI m₃ news₃ s₃ hkv hkey hJ F₃ N₃ off₃ r₃
      have hi0 : i = 0 := by have := (List.getElem?_eq_some_iff.mp hkv).1; simp at this; exact this
      subst hi0
      have hkv' : wt = k ∧ v = v' := by simpa using hkv
      obtain ⟨rfl, rfl⟩ := hkv'
      obtain ⟨t, rfl⟩ := Value.isInt_shape hkey
      rcases hJ with ⟨_, rfl, hm1⟩ | ⟨h01, _⟩
      · have F₃ := Fr.under2 F₃ hm1 hm1
        have hDI := neN (off₃ _ (.head _))
        have hPI := neN (off₃ _ (.tail _ (.head _)))
        refine execs_hold ?_
        k_steps
        cases hval : valueAt kvs wt with
        | none =>
          refine Hold.mk (kda_in (knd := PySem.intKind PySem.Challenge.rw_pg0027_01.row.prog w) N₃ (.tail _ (.head _)) ho1 loD hkey false (by rw [hval]; rfl) ?_)
          k_steps
          refine Hold.mk (kda_set (knd := PySem.intKind PySem.Challenge.rw_pg0027_01.row.prog w) F₃ N₃ (UpdF.tail (Ne.symm hDI) (UpdF.head hDtl')) ho1 hkey (by rw [sizeLine_eq]; omega) ?_)
          intro h4 o4 F4 N4 ho4
          k_steps
          refine Hold.mk (wpAny_execs_nil ⟨rfl, _, (D, o4) :: (30, tabObj ps) :: ([] ++ tl), F4, N4, ?_, .inr ⟨by first | rfl | trivial, o4, _, ps, [], rfl, rfl, ho4, hC.snoc hv hval, htr, (by intro p hp; cases hp)⟩, r₃.os, r₃.bare⟩)
          intro p hp
          rcases List.mem_cons.mp hp with rfl | hp
          · exact hDI
          · exact off₃ p (.tail _ hp)
        | some u =>
          obtain ⟨c, hcu, hnext⟩ := hC.hit hval hnd
          refine Hold.mk (kda_in (knd := PySem.intKind PySem.Challenge.rw_pg0027_01.row.prog w) N₃ (.tail _ (.head _)) ho1 loD hkey true (by rw [hval]; rfl) ?_)
          cases odd with
          | false =>
            obtain ⟨t1, rfl⟩ := hv
            obtain ⟨t2, rfl⟩ := hcu
            k_steps
            refine Hold.mk (wpAny_getItem_of (knd := PySem.intKind PySem.Challenge.rw_pg0027_01.row.prog w) hkey (isDictAt N₃ (.tail _ (.head _)) ho1).mapOf hval ?_)
            k_steps
            refine Hold.mk (kda_set (knd := PySem.intKind PySem.Challenge.rw_pg0027_01.row.prog w) F₃ N₃ (UpdF.tail (Ne.symm hDI) (UpdF.head hDtl')) ho1 hkey (by rw [sizeLine_eq]; omega) ?_)
            intro h4 o4 F4 N4 ho4
            k_steps
            refine Hold.mk (wpAny_execs_nil ⟨rfl, _, (D, o4) :: (30, tabObj ps) :: ([] ++ tl), F4, N4, ?_, .inr ⟨by first | rfl | trivial, o4, _, ps, [], rfl, rfl, ho4, hnext _ _ (fun _ h => h) ⟨_, rfl⟩, htr, (by intro p hp; cases hp)⟩, r₃.os, r₃.bare⟩)
            intro p hp
            rcases List.mem_cons.mp hp with rfl | hp
            · exact hDI
            · exact off₃ p (.tail _ hp)
          | true =>
            obtain ⟨a, t1, t2, n1, rfl, ha⟩ := hv
            obtain ⟨b, t3, t4, n2, rfl, hb2⟩ := hcu
            k_steps
            refine Hold.mk (PySem.IsiPair.tuple_tuple (N₃ _ (.tail _ (.tail _ (.tail _ ha)))).1 rfl ?_)
            k_steps
            obtain ⟨bm, ob, hM⟩ := bmod_of_top T
            refine Hold.mk (gen_add (t1 := a) (t2 := b) (a1 := 1) (a2 := wt * 1) (b1 := c) (b2 := wt * c) (k1 := t1) (k2 := t2) (k3 := t3) (k4 := t4) F₃ rfl rfl (by with_unfolding_all rfl) (by decide) rfl rfl rfl (by decide) rfl (by simp only; omega) (by decide) (by decide) rfl (codeHd_of_K (P := 30) X (by rfl)) hM T.nolimit ?_ (by intro _; with_unfolding_all rfl))
            k_steps
            refine Hold.mk (kda_item (knd := PySem.intKind PySem.Challenge.rw_pg0027_01.row.prog w) N₃ (.tail _ (.head _)) ho1 hkey hval ?_)
            k_steps
            refine Hold.mk (zip_tuples (xs := #[.int 1 t1, .int (wt * 1) t2]) (ys := #[.int c t3, .int (wt * c) t4]) ⟨_, (N₃ _ (.tail _ (.tail _ (.tail _ ha)))).1, rfl, _, rfl⟩ ⟨_, (N₃ _ (.tail _ (.tail _ (.tail _ hb2)))).1, rfl, _, rfl⟩ ?_)
            intro h5 z TI TO i1 i2 Zo Zst up5 ge5 lt5
            have hZ : 0 < s₃.heap.objs.size := Nat.lt_of_le_of_lt (Nat.zero_le _) F₃.ns.lt
            have hLK : L ≤ s₃.heap.objs.size - 1 := Nat.le_sub_one_of_lt F₃.ns.lt
            have hNK : ∀ q ∈ (I, oI) :: (D, o1) :: (30, tabObj ps) :: tl, q.1 ≤ s₃.heap.objs.size - 1 := fun q hq => Nat.le_sub_one_of_lt (Heap.lt_size (N₃ q hq).1)
            refine ⟨z, TI, TO, i1, i2, ps, (I, oI) :: (D, o1) :: tl, s₃.heap.objs.size - 1, rfl, Zo, Zst, lt5, F₃.keeps up5, News.sub' (N₃.grown up5) ?_, ?_, htr, r₃.bare, hLK, ?_, ?_, ?_, ?_⟩
            · intro q hq
              simp only [List.mem_cons] at hq ⊢
              rcases hq with h | h | h | h <;> simp [h]
            · intro q hq
              simp only [List.mem_cons] at hq
              rcases hq with h | h | h
              · rw [h]; exact Ne.symm hPI
              · rw [h]; exact Ne.symm hPD
              · exact hP q h
            · intro q hq
              refine hNK q ?_
              simp only [List.mem_cons] at hq ⊢
              rcases hq with h | h | h | h <;> simp [h]
            · intro q hq
              exact Nat.lt_of_lt_of_le (Nat.sub_lt hZ Nat.one_pos) (ge5 q hq)
            · exact Nat.lt_trans (Nat.lt_of_lt_of_le (Nat.sub_lt hZ Nat.one_pos) (ge5 z (.head _))) (lt5 z (.head _))
            intro ag ps6 s6 F6 N6 htr6 hb6 hos6 G6
            k_steps
            refine Hold.mk (tuple_gen F6 N6 hb6 G6 hLK ?_ ?_)
            · intro q hq
              simp only [List.mem_cons] at hq
              rcases hq with h | h | h | h
              · rw [h]; exact hNK (30, tabObj ps) (.tail _ (.tail _ (.head _)))
              · rw [h]; exact hNK _ (.head _)
              · rw [h]; exact hNK _ (.tail _ (.head _))
              · exact hNK _ (.tail _ (.tail _ (.tail _ h)))
            intro T7 t5 t6 s7 F7 N7 hb7 hos7 hT7
            rw [show (1 : Int) + c = c + 1 by omega, show wt * 1 + wt * c = wt * (c + 1) by rw [Int.mul_add]; omega] at N7
            k_steps
            refine Hold.mk (kda_set (knd := PySem.intKind PySem.Challenge.rw_pg0027_01.row.prog w) F7 N7 (UpdF.tail (Nat.ne_of_gt (hT7 (D, o1) (.tail _ (.tail _ (.head _))))) (UpdF.tail hPD (UpdF.tail (Ne.symm hDI) (UpdF.head hDt)))) ho1 hkey (by rw [sizeLine_eq]; omega) ?_)
            intro h8 o8 F8 N8 ho8
            k_steps
            refine Hold.mk (wpAny_execs_nil ⟨rfl, _, (D, o8) :: (30, tabObj ps6) :: ([(T7, _)] ++ tl), F8, News.sub' N8 ?_, ?_, .inr ⟨by first | rfl | trivial, o8, _, ps6, [(T7, _)], rfl, rfl, ho8, hnext _ _ (fun q hq => List.mem_append_right _ hq) ⟨T7, t5, t6, 0, rfl, .head _⟩, htr6, ?_⟩, ?_, ?_⟩)
            · intro q hq
              simp only [List.mem_cons, List.mem_append, List.not_mem_nil, or_false] at hq ⊢
              rcases hq with h | h | h | h | h <;> simp [h]
            · intro q hq
              simp only [List.mem_cons, List.mem_append, List.not_mem_nil, or_false] at hq
              rcases hq with h | h | h | h
              · rw [h]; exact hDI
              · rw [h]; exact hPI
              · rw [h]; exact Nat.ne_of_gt (hT7 (I, oI) (.tail _ (.head _)))
              · exact off₃ q (.tail _ (.tail _ h))
            · intro q hq
              rw [List.mem_singleton.mp hq]
              refine ⟨Nat.ne_of_gt (hT7 (D, o1) (.tail _ (.tail _ (.head _)))), fun r hr => ?_⟩
              rcases List.mem_cons.mp hr with rfl | hr
              · exact Nat.ne_of_lt (hT7 (30, tabObj ps6) (.head _))
              · exact Nat.ne_of_lt (hT7 r (.tail _ (.tail _ (.tail _ hr))))
            · show s7.os = s.os
              rw [hos7, hos6]
              exact r₃.os
            · exact hb7
      · cases h01
    · intro m₃ news₃ s₃ hJ F₃ N₃ r₃
      rcases hJ with ⟨h01, _⟩ | ⟨_, oD, kvs', ps', added, rfl, hm1, hoD, hCE, htr', hadd⟩
      · cases h01
      have F₃ := Fr.exp' F₃ hm1
      refine Hold.mk ?_
      refine hold_fun ?_
      k_steps
      exact ⟨_, _, _, rfl, F₃, N₃, r₃, D, oD, kvs', ps', added, rfl, rfl, hoD, hCE, htr', loD, hDtl, hadd⟩
end Mine
namespace Mine
open PySem PySem.W PyProof.Rows
section
variable {prog : Program} {w : World} {A : Around} {E : Value → Shared → Prop} {s : Shared} {h₀ : Heap} {L : Addr} {m : Str → Option Value} {env : Env} {news : List (Addr × Obj)}
/-- one name of an unpacking -/
theorem put_name {x : Str} {px : Pos} {v : Value} {vs : List Value} {Q : Unit → Shared → Prop} {rest : List (Value → Sem Unit)} (hx : env.kindOf x = some .local) (hp : (env.scope.kind == .class || (env.scope.kind == .module && env.locals != env.globals)) = false) (hL : env.locals = L)
    (F : Fr h₀ L s.heap m) (N : News h₀ L s.heap news)
    (h : ∀ h' tk, Fr h₀ L h' (fun y => if y = x then some v else m y) → News h₀ L h' news → wpAny (model prog w) A (assignInOrder rest vs) Q E { s with heap := h', toks := tk }) :
    wpAny (model prog w) A (assignInOrder (assign (.Name x px) env :: rest) (v :: vs)) Q E s := by
  subst hL
  exact assignInOrder_cons (wpAny_assign_Name (wpAny_storeName_local hx F.ns (fun h' hn hs => h h' _ (F.set hn hs) (N.set hs)) hp))
theorem unpack5 {x1 x2 x3 x4 x5 : Str} {p1 p2 p3 p4 p5 pos : Pos} {k : Nat} {t : Addr} {v1 v2 v3 v4 v5 : Value} {n : Nat} {Q : Unit → Shared → Prop} (hh : A.handled = none)
    (hx1 : env.kindOf x1 = some .local) (hx2 : env.kindOf x2 = some .local) (hx3 : env.kindOf x3 = some .local) (hx4 : env.kindOf x4 = some .local) (hx5 : env.kindOf x5 = some .local)
    (hp : (env.scope.kind == .class || (env.scope.kind == .module && env.locals != env.globals)) = false) (hL : env.locals = L) (F : Fr h₀ L s.heap m) (N : News h₀ L s.heap news)
    (ht : (t, ({ cls := .type "tuple", data := .seq #[v1, v2, v3, v4, v5] n } : Obj)) ∈ news)
    (h : ∀ h' tk, Fr h₀ L h' (fun y => if y = x5 then some v5 else if y = x4 then some v4 else if y = x3 then some v3 else if y = x2 then some v2 else if y = x1 then some v1 else m y) → News h₀ L h' news → Q () { s with heap := h', toks := tk }) :
    wpAny (model prog w) A (assign (.Tuple [.Name x1 p1, .Name x2 p2, .Name x3 p3, .Name x4 p4, .Name x5 p5] k pos) env (.ref t)) Q E s := by
  refine wpAny_assign_Tuple hh ⟨_, (N _ ht).1, rfl, n, rfl⟩ rfl rfl fun h' hx => ?_
  replace hx : Heap.ExtBut s.heap.objs.size s.heap h' := hx
  have up : ∀ b o, s.heap.get? b = some o → h'.get? b = some o := fun b o e => hx b o (Nat.ne_of_lt (Heap.lt_size e)) e
  refine put_name hx1 hp hL (F.keeps up) (N.grown up) fun ha ta Fa Na => ?_
  refine put_name hx2 hp hL Fa Na fun hb tb Fb Nb => ?_
  refine put_name hx3 hp hL Fb Nb fun hc tc Fc Nc => ?_
  refine put_name hx4 hp hL Fc Nc fun hd td Fd Nd => ?_
  refine put_name hx5 hp hL Fd Nd fun he te Fe Ne => ?_
  exact assignInOrder_nil (h he te Fe Ne)
end
end Mine
namespace Mine
open PySem PySem.W PyProof.Rows
abbrev tup5 (a b c d : Int) (t1 t2 t3 t4 : Tok) (r : Addr) (n : Nat) : Obj := { cls := .type "tuple", data := .seq #[.int a t1, .int b t2, .int c t3, .int d t4, .ref r] n }
local macro_rules | `(tactic| k_all) => `(tactic| assumption)
local macro_rules | `(tactic| walk_at "assign Tuple") => `(tactic| refine Hold.out ?_)
local macro_rules | `(tactic| walk_at "call ref") => `(tactic| refine Hold.out ?_)
theorem stats_spec (w : World) (tl : List (Addr × Obj)) (ps : Array Value) (tb sb d e : Addr) (od oe : Obj) (a1 a2 a3 a4 b1 b2 b3 b4 : Int) (u1 u2 u3 u4 v1 v2 v3 v4 : Tok) (n1 n2 : Nat) (kvs : List (Int × Value)) (cs : List (Int × Int)) (odd : Bool) (wt : Int) (v : Value)
    (htb : (tb, tup5 a1 a2 a3 a4 u1 u2 u3 u4 d n1) ∈ tl) (hsb : (sb, tup5 b1 b2 b3 b4 v1 v2 v3 v4 e n2) ∈ tl) (hm : (d, od) ∈ tl) (he : (e, oe) ∈ tl)
    (hd : od.IsDictOf (PySem.intKind PySem.Challenge.rw_pg0027_01.row.prog w) kvs) (hoe : oe.IsDictOf (PySem.intKind PySem.Challenge.rw_pg0027_01.row.prog w) [(wt, v)]) (lod : (d == sysModules) = false) (loe : (e == sysModules) = false)
    (hP : ∀ p ∈ tl, p.1 ≠ 30) (htr : TriplesOk ps.toList) (hC : CEnt tl odd kvs cs) (hv : CVal tl odd wt 1 v) (hlen : kvs.length ≤ 100) :
    SpecN 10 120 w 28 [.ref tb, .ref sb] ((30, tabObj ps) :: tl) (fun r news' => ∃ R D oD kvs' ps' added w1 w2 w3 w4 n, r = .ref R ∧ news' = (R, tup5 (b1 + a1) (b2 + a2) (b3 + a3) (b4 + a4) w1 w2 w3 w4 D n) :: (D, oD) :: (30, tabObj ps') :: (added ++ tl) ∧ oD.IsDictOf (PySem.intKind PySem.Challenge.rw_pg0027_01.row.prog w) kvs' ∧
      CEnt (added ++ tl) odd kvs' (bump cs wt) ∧ TriplesOk ps'.toList ∧ (D == sysModules) = false ∧ @Ne Nat R D ∧ @Ne Nat R 30 ∧ (∀ p ∈ added ++ tl, p.1 ≠ R) ∧ (∀ q ∈ (30, tabObj ps) :: tl, q.1 ≠ D) ∧ ∀ p ∈ added, p.1 ≠ D ∧ ∀ q ∈ (30, tabObj ps) :: tl, q.1 ≠ p.1) := by
  refine spec_intro (fun y => if y = Str.ofString "source" then some (.ref sb) else if y = Str.ofString "target" then some (.ref tb) else none) (by rfl) (by rfl) (fun _ => BindsTo.of_eq rfl) (locs rfl) rfl rfl rfl (by decide) (fun y => lookup2) ?_
  w_top off
  k_fill
  intro p loose mean mg mb A₀ dp gd un outer base g L s B F X N T lt hdp hun hb
  refine execs_hold ?_
  k_steps
  refine unpack5 rfl rfl rfl rfl rfl rfl rfl rfl F N (.tail _ hsb) ?_
  intro h1 tk1 F1 N1
  refine Hold.mk ?_
  refine execs_hold ?_
  k_steps
  refine unpack5 rfl rfl rfl rfl rfl rfl rfl rfl F1 N1 (.tail _ htb) ?_
  intro h2 tk2 F2 N2
  refine Hold.mk ?_
  refine hold_fun ?_
  k_steps
  refine Hold.mk (callers_spec w tl ps d e od oe kvs cs odd wt v hm he hd hoe lod loe hP htr hC hv hlen _ _ _ _ _ _ _ _ _ _ _ _ _ _ _ _ B F2 X N2 T rfl rfl rfl rfl (by simp only; omega) (by simp only; omega) hb ?_)
  intro r s3 news3 F3 N3 r3 ps3
  obtain ⟨D, oD, kvs', ps', added, rfl, rfl, hoD, hCE, htr', loD, hDtl, hadd⟩ := ps3
  k_steps
  with_reducible (rename _ ∧ _ ∧ AllLt _ _ => l1; rename News _ _ _ _ => N4; rename Fr _ _ _ _ => F4)
  have hR := allLt_mem l1.2.2
  exact ⟨_, _, _, rfl, F4, N4, ⟨r3.os, r3.bare⟩, _, D, oD, kvs', ps', added, _, _, _, _, _, rfl, rfl, hoD, hCE, htr', loD, Nat.ne_of_gt l1.1, Nat.ne_of_gt l1.2.1, fun q hq => Nat.ne_of_lt (hR q hq), hDtl, hadd⟩
end Mine
namespace Mine
open PySem PySem.W PyProof.Rows
/-- the def `law` as the written part holds it -/
def LawAt (w : World) (body : List Stmt) (scope : Scope) (cdv : Value) (qual : Str) : Prop :=
  ∃ name params dV kV doc pm an ct oc od osl, (hd.heap_39 w.params).lookup 57 = some ⟨oc, od, .func (fnOf name qual params body scope dV kV doc pm an cdv ct), osl⟩
end Mine
namespace Mine
open PySem PySem.W PyProof.Rows PySem.Spec PySem.Calls
open PyProof.Rows.LCg
section
variable {prog : Program} {w : World} {A : Around} {E : Value → Shared → Prop} {s : Shared} {h₀ : Heap} {L : Addr} {m : Str → Option Value} {env : Env}
/-- a list comprehension over a list of the ledger's, whose element calls: the state behind it is only known by Rest -/
theorem block_calls {elt iter : Expr} {x : Str} {px : Pos} {scope : Scope} {cl : List (Str × Addr)} {pos : Pos} {s₂ : Shared} {I ax : Addr} {its : Array Value} {oax : Obj} {news : List (Addr × Obj)}
    {RR : Value → Addr → Result → Shared → Prop} (G : Nat → Value → Prop)
    (hh : A.handled = none) (hIax : ax ≠ I) (hsz : its.size ≤ sizeLine) (hma : (ax, oax) ∈ news) (hax : oax.cls = .type "list" ∧ ∃ k, oax.data = .seq its k)
    (hcell : ∀ y ∈ scope.names, y.2 ≠ .cell) (hkind : scope.kind = .function) (hx : scope.names.lookup x = some .local) (hst : s₂.heap.IsListIter I ax 0 ∧ s₂.heap.IsList ax its)
    (F : Fr h₀ L s₂.heap m) (N : News h₀ L s₂.heap news) (hIL : L ≠ I) (hI₀ : h₀.get? I = none) (off : ∀ p ∈ news, p.1 ≠ I) (hb : AllBare s₂.gens)
    (el : ∀ i v oI C oC D oD (u : Shared) m₂ E', its[i]? = some v → NsObj oC m₂ → m₂ x = some v → Fr h₀ L u.heap m → News h₀ L u.heap ((I, oI) :: (C, oC) :: (D, oD) :: news) → AllBare u.gens →
      wpAny (model prog w) A (eval elt (compEnvC scope cl C env)) (fun y s₃ => G i y ∧ Fr h₀ L s₃.heap m ∧ News h₀ L s₃.heap ((I, oI) :: (C, oC) :: (D, oD) :: news) ∧ Rest u s₃) E' u)
    (hRR : ∀ D C (s₅ : Shared) m' ys, Rest s₂ s₅ → Fr h₀ L s₅.heap m → News h₀ L s₅.heap ((D, lst ys) :: news) → (∀ p ∈ news, p.1 ≠ D) → s₅.heap.Ns C m' → h₀.get? C = none → h₀.get? D = none → C ≠ L → D ≠ L → C ≠ D → (∀ p ∈ news, p.1 ≠ C) →
      ys.length = its.size → (∀ i y, ys[i]? = some y → G i y) → RR (.ref D) C (.ok .next) s₅) :
    wpAny (model prog w) A (newList []) (fun acc s₃ => wpAny (model prog w) A (newFunctionEnv scope env.globals cl [] env.qual none .none (some env)) (fun cenv s₄ =>
      codeAny (model prog w) A (.compStart (.ListComp elt [⟨.Name x px, iter, [], 0⟩] scope pos) 0 (.ref I) acc { cenv with scope := relabel scope env }) (RR acc cenv.locals) s₄) E s₃) E s₂ := by
  have W := Walks.list (prog := prog) (w := w) hh I ax hIax its
  refine wpAny_newObj_type (wpAny_newFunctionEnv hcell (by intro y hy; simp at hy) (fun h₁ hns₁ hsb₁ => ?_) hkind)
  dsimp only at hns₁ hsb₁ ⊢
  generalize hH2 : s₂.heap.push { cls := .type "list", dict := none, data := .seq ([] : List Value).toArray } = H2 at hns₁ hsb₁ ⊢
  generalize hZ : s₂.heap.objs.size = Z at *
  have hC : H2.objs.size = Z + 1 := by rw [← hH2, Heap.size_push, hZ]
  generalize hY : H2.objs.size = Y at *
  subst hC
  have hDC : Z ≠ Z + 1 := Nat.ne_of_lt (Nat.lt_succ_self _)
  have below : ∀ b, b < Z → b ≠ Z + 1 ∧ b ≠ Z := fun b hb => ⟨Nat.ne_of_lt (Nat.lt_succ_of_lt hb), Nat.ne_of_lt hb⟩
  have hlt₂ : ∀ {b o}, s₂.heap.get? b = some o → b < Z := fun e => hZ ▸ Heap.lt_size e
  have hIlt : I < Z := by obtain ⟨o, e, _⟩ := hst.1; exact hlt₂ e
  have haxlt : ax < Z := by obtain ⟨o, e, _⟩ := hst.2; exact hlt₂ e
  have old : ∀ b o, s₂.heap.get? b = some o → h₁.get? b = some o := fun b o e => hsb₁.extBut b o (below b (hlt₂ e)).1 (Heap.get?_push_of_some _ (hH2 ▸ Heap.get?_push_of_some _ e))
  have hacc : h₁.get? Z = some (lst []) := hsb₁.extBut _ _ hDC (Heap.get?_push_of_some _ (hH2 ▸ hZ ▸ Heap.get?_push_size _ rfl))
  have hst₁ : h₁.IsListIter I ax 0 ∧ h₁.IsList ax its := W.frame _ _ _ hst fun b _ o e => old b o e
  have fresh₀ : ∀ a, Z ≤ a → h₀.get? a = none := fun a ha => by
    cases e : h₀.get? a with
    | none => rfl
    | some o' => exact absurd (hlt₂ (F.keep a o' e)) (Nat.not_lt.mpr ha)
  have hD₀ : h₀.get? Z = none := fresh₀ _ (Nat.le_refl _)
  have hC₀ : h₀.get? (Z + 1) = none := fresh₀ _ (Nat.le_succ _)
  have hLlt : L < Z := hZ ▸ F.ns.lt
  have hDL : Z ≠ L := Ne.symm (below L hLlt).2
  have hCL : Z + 1 ≠ L := Ne.symm (below L hLlt).1
  have hCI : I ≠ Z + 1 := (below I hIlt).1
  have hDI : I ≠ Z := (below I hIlt).2
  have offD : ∀ p ∈ news, p.1 ≠ Z := fun p hp => (below _ (hlt₂ (N p hp).1)).2
  have offC : ∀ p ∈ news, p.1 ≠ Z + 1 := fun p hp => (below _ (hlt₂ (N p hp).1)).1
  have loop : ∀ s₃ : Shared, s₃ = { s₂ with heap := h₁, toks := s₂.toks + ([] : List (Str × Value)).length } →
      codeAny (model prog w) A (.compLoop (.ListComp elt [⟨.Name x px, iter, [], 0⟩] scope pos) 0 (.ref I) (.ref Z) (compEnvC scope cl (Z + 1) env)) (RR (.ref Z) (Z + 1)) s₃ := by
    rintro s₃ rfl
    refine codeAny_compLoop_tests
      (fun k s' => ∃ i ys m', Rest s₂ s' ∧ i ≤ its.size ∧ k = its.size + 1 - i ∧ ys.length = i ∧ (∀ j y, ys[j]? = some y → G j y) ∧ (s'.heap.IsListIter I ax i ∧ s'.heap.IsList ax its) ∧ Fr h₀ L s'.heap m ∧ s'.heap.Ns (Z + 1) m' ∧ News h₀ L s'.heap ((Z, lst ys) :: news)) ?_ (its.size + 1)
      ⟨0, [], _, ⟨rfl, hb⟩, Nat.zero_le _, rfl, rfl, (by intro j y h; simp at h), hst₁, F.keeps old, hns₁, fun p hp => ?_⟩
    · rintro k s' ⟨i, ys, m', r', hi, rfl, hyl, hG, hst', F', hn', N'⟩
      by_cases hlt : i < its.size
      · refine W.item i _ _ _ hlt hst' fun v h₂ tk₂ hPv hst₂ hk₂ => ?_
        refine wpAny_assign_Name (wpAny_storeName_local (lookup_relabel_local hx) (hn'.at' fun o e => hk₂ _ o (by simpa using Ne.symm hCI) e) (fun h₃ hn₃ hs₃ => ?_) (by simp [compEnvC, relabel, hkind]))
        refine wpAny_tests_nil ?_
        simp only [if_true]
        replace hs₃ : Heap.SameBut (Z + 1) h₂ h₃ := hs₃
        have hst₃ : h₃.IsListIter I ax (i + 1) ∧ h₃.IsList ax its := W.frame _ _ _ hst₂ fun b hb o e => hs₃.extBut b o (fun q => by
          rcases List.mem_cons.mp hb with h | h
          · exact hCI (h ▸ q)
          · rw [List.mem_singleton.mp h] at q; exact (below ax haxlt).1 q) e
        obtain ⟨oI, heI, hoI⟩ := hst₃.1
        obtain ⟨oC, heC, hoC⟩ := ns_obj hn₃
        have F₃ : Fr h₀ L h₃ m := (fr_but F' hk₂ hIL hI₀).change hs₃ hCL hC₀
        have N₂ : News h₀ L h₂ ((Z, lst ys) :: news) := news_but N' hk₂ fun p hp => by
          rcases List.mem_cons.mp hp with rfl | hp
          · exact Ne.symm hDI
          · exact off p hp
        have N₃ : News h₀ L h₃ ((I, oI) :: (Z + 1, oC) :: (Z, lst ys) :: news) := fun p hp => by
          rcases List.mem_cons.mp hp with rfl | hp
          · exact ⟨heI, Ne.symm hIL, hI₀⟩
          · rcases List.mem_cons.mp hp with rfl | hp
            · exact ⟨heC, hCL, hC₀⟩
            · have z := N₂ p hp
              refine ⟨hs₃.extBut _ _ ?_ z.1, z.2⟩
              rcases List.mem_cons.mp hp with rfl | hp
              · exact hDC
              · exact offC p hp
        refine wpAny_mono (el i v oI (Z + 1) oC Z (lst ys) _ _ _ hPv hoC (by simp) F₃ N₃ r'.bare) (fun y s₄ h₄ => ?_) fun _ _ e => e
        obtain ⟨hy, F₄, N₄, r₄⟩ := h₄
        have zI := (N₄ (I, oI) List.mem_cons_self).1
        have zC := (N₄ (Z + 1, oC) (List.mem_cons_of_mem _ List.mem_cons_self)).1
        have zD := (N₄ (Z, lst ys) (List.mem_cons_of_mem _ (List.mem_cons_of_mem _ List.mem_cons_self))).1
        have N₄' : News h₀ L s₄.heap news := fun p hp => N₄ p (List.mem_cons_of_mem _ (List.mem_cons_of_mem _ (List.mem_cons_of_mem _ hp)))
        refine append_at (hsz := by show ys.toArray.size ≤ sizeLine; rw [List.size_toArray, hyl]; exact Nat.le_trans hi hsz) zD fun h₅ hs₅ hD₅ => ?_
        refine ⟨its.size + 1 - (i + 1), by omega, i + 1, ys ++ [y], _, ⟨r₄.os.trans r'.os, r₄.bare⟩, hlt, rfl, by rw [List.length_append, List.length_singleton, hyl], ?_, ⟨⟨oI, hs₅.extBut _ _ hDI zI, hoI⟩, ⟨oax, hs₅.extBut _ _ (offD _ hma) (N₄' _ hma).1, hax⟩⟩, F₄.change hs₅ hDL hD₀,
          (hoC.ns zC).sameBut hs₅ (Ne.symm hDC), fun p hp => ?_⟩
        · intro j z hz
          by_cases hj : j < ys.length
          · rw [List.getElem?_append_left hj] at hz; exact hG j z hz
          · rw [List.getElem?_append_right (Nat.not_lt.mp hj)] at hz
            have hj0 : j - ys.length = 0 := by
              cases hq : j - ys.length with
              | zero => rfl
              | succ q => rw [hq] at hz; simp at hz
            have hji : j = i := by omega
            rw [hj0] at hz
            simp at hz
            subst hz hji
            exact hy
        · rcases List.mem_cons.mp hp with rfl | hp
          · exact ⟨hD₅.trans (congrArg some (lst_snoc ys y)), hDL, hD₀⟩
          · exact ⟨hs₅.extBut _ _ (offD p hp) (N₄' p hp).1, (N₄' p hp).2⟩
      · obtain rfl : i = its.size := Nat.le_antisymm hi (Nat.not_lt.mp hlt)
        refine W.done _ _ _ hst' fun h₂ tk₂ hk₂ => ?_
        exact hRR _ _ _ _ ys ⟨r'.os, r'.bare⟩ (fr_but F' hk₂ hIL hI₀) (news_but N' hk₂ fun p hp => by
          rcases List.mem_cons.mp hp with rfl | hp
          · exact Ne.symm hDI
          · exact off p hp) offD (hn'.at' fun o e => hk₂ _ o (by simpa using Ne.symm hCI) e) hC₀ hD₀ hCL hDL (Ne.symm hDC) offC hyl hG
    · rcases List.mem_cons.mp hp with rfl | hp
      · exact ⟨hacc, hDL, hD₀⟩
      · exact ⟨old _ _ (N p hp).1, (N p hp).2⟩
  exact codeAny_compStart_list (loop _ rfl) (W.self 0 _ _ _ hst₁ (loop _ rfl))
/-- y = [elt for x in l], l a list of the ledger's, the element calls -/
theorem assign_calls {elt iter : Expr} {x y : Str} {px py : Pos} {scope : Scope} {cl : List (Str × Addr)} {pos spos : Pos} {Q : Flow → Shared → Prop} (F₀ : Fr h₀ L s.heap m) (hLe : env.locals = L)
    (hsw : swapsWith (.ListComp elt [⟨.Name x px, iter, [], 0⟩] scope pos) (some (.Name y py)) spos.line env = pure true)
    (hclos : closureFor scope env = pure cl) (hcell : ∀ z ∈ scope.names, z.2 ≠ .cell) (hkind : scope.kind = .function)
    (hnames : ∀ z ∈ scope.names, z.2 = .local → scope.names.lookup z.1 = some .local) (hx : scope.names.lookup x = some .local)
    (hy : env.kindOf y = some .local) (hp : (env.scope.kind == .class || (env.scope.kind == .module && env.locals != env.globals)) = false) (hh : A.handled = none)
    (h : wpAny (model prog w) A (eval iter env) (fun xv s₁ => ∃ (ax : Addr) (oax : Obj) (its : Array Value) (news : List (Addr × Obj)), xv = .ref ax ∧ (ax, oax) ∈ news ∧ (oax.cls = .type "list" ∧ ∃ k, oax.data = .seq its k) ∧ its.size ≤ sizeLine ∧
        Fr h₀ L s₁.heap m ∧ News h₀ L s₁.heap news ∧ AllBare s₁.gens ∧ ∃ G : Nat → Value → Prop,
        (∀ i v I oI C oC D oD (u : Shared) m₂ E', its[i]? = some v → NsObj oC m₂ → m₂ x = some v → Fr h₀ L u.heap m → News h₀ L u.heap ((I, oI) :: (C, oC) :: (D, oD) :: news) → AllBare u.gens →
          wpAny (model prog w) A (eval elt (compEnvC scope cl C env)) (fun y s₃ => G i y ∧ Fr h₀ L s₃.heap m ∧ News h₀ L s₃.heap ((I, oI) :: (C, oC) :: (D, oD) :: news) ∧ Rest u s₃) E' u) ∧
        ∀ D (s₅ : Shared) zs, Rest s₁ s₅ → Fr h₀ L s₅.heap (fun z => if z = y then some (.ref D) else m z) → News h₀ L s₅.heap ((D, lst zs) :: news) → (∀ p ∈ news, p.1 ≠ D) → zs.length = its.size → (∀ i y, zs[i]? = some y → G i y) → Q .next s₅) E s)
    (hs : ∀ x, foldedSetIterable iter env x = pure x := by intro _; rfl) :
    wpAny (model prog w) A (exec (.Assign [.Name y py] (.ListComp elt [⟨.Name x px, iter, [], 0⟩] scope pos) spos) env) Q E s := by
  subst hLe
  rw [exec_Assign_Name_used _ _ _ _ hsw]
  refine wpAny_bind (wpAny_standAt (wpAny_bind ?_))
  show wpAny _ A (do let _ ← comprehension (.ListComp elt [⟨.Name x px, iter, [], 0⟩] scope pos) scope env _ (newList []) false (eval iter env) (some (assign (.Name y py) env))) _ _ s
  refine wpAny_bind (wpAny_mono (wpAny_comprehension_free (use := some (assign (.Name y py) env)) (Q := fun _ s' => Q .next s') rfl hs hclos hkind hnames
    (wpAny_mono h (fun xv s₁ h₁ => ?_) fun _ _ e => e)) (fun _ s' hq => wpAny_pure (wpAny_pure hq)) fun _ _ e => e)
  obtain ⟨ax, oax, its, news, rfl, hma, hax, hsz, F, N, hb, G, el, fin⟩ := h₁
  have hl : s₁.heap.IsList ax its := ⟨oax, (N _ hma).1, hax⟩
  have hlt : ax < s₁.heap.objs.size := Heap.lt_size (N _ hma).1
  refine wpAny_pyIter_list hl ?_
  have up : ∀ b o, s₁.heap.get? b = some o → (s₁.heap.push { cls := .type "list_iterator", data := .fields #[.ref ax, .int 0 0] }).get? b = some o := fun b o e => Heap.get?_push_of_some _ e
  refine block_calls G hh (Nat.ne_of_lt hlt) hsz hma hax hcell hkind hx ⟨⟨_, Heap.get?_push_size _ rfl, rfl, rfl⟩, hl.push _⟩ (F.keeps up) (N.grown up) (Nat.ne_of_lt F.ns.lt) (next_is_new F) (fun p hp => Nat.ne_of_lt (Heap.lt_size (N p hp).1)) hb
    (fun i v oI C oC D oD u m₂ E' => el i v _ oI C oC D oD u m₂ E') ?_
  intro D' C s₅ m' zs r₅ F' N' offD hn hC₀ hD₀ hCL hDL hCD offC hl hG
  show wpAny _ A (assign (.Name y py) env (.ref D')) _ _ _
  refine wpAny_assign_Name (wpAny_storeName_local hy F'.ns (fun h₂ hn₂ hs₂ => ?_) hp)
  have hL₀ : h₀.get? env.locals = none := Heap.get?_none_of_le F'.above
  have F₂ : Fr h₀ env.locals h₂ (fun z => if z = y then some (.ref D') else m z) := ⟨hn₂, fun b o e => hs₂.extBut b o (fun q => by rw [q, hL₀] at e; cases e) (F'.keep b o e), F'.above⟩
  refine ⟨m', hn.sameBut hs₂ hCL, fun h'' hs'' => fin D' _ zs ⟨r₅.os, r₅.bare⟩ (F₂.change hs'' hCL hC₀) (fun p hp => ?_) offD hl hG⟩
  have z : h₂.get? p.1 = some p.2 := hs₂.extBut _ _ (N' p hp).2.1 (N' p hp).1
  refine ⟨hs''.extBut _ _ ?_ z, (N' p hp).2⟩
  rcases List.mem_cons.mp hp with rfl | hp
  · exact Ne.symm hCD
  · exact offC p hp
end
end Mine
namespace Mine
open PySem PySem.W PyProof.Rows
local macro_rules | `(tactic| walk_at "binaryOp Add ref ref") => `(tactic| refine Hold.out ?_)
local macro_rules | `(tactic| k_all) => `(tactic| assumption)
def xorTexts (ns : List Int) (c : Int) : List Int := ns ++ ns.map fun n => Builtin.bitXor n c
theorem seg2 (w : World) (body : List Stmt) (scope : Scope) (cdv : Value) (qual : Str) (H : LawAt w body scope cdv qual)
    (p : Program) (loose : List Str) (mean : ExcName → Option Value) (mg mb : Str → Option Value) (A₀ : Around) (dp : Nat) (gd : Option (List Code)) (un : Nat) (outer : List Env) (base g : Heap) (L : Addr) (s : Shared)
    (B : Below A₀ base outer g) (X : (hd.heap_39 w.params).In g) (T : Top p loose mean mg mb g) (hdp : dp + 20 < recursionLimit) (hun : un + 240 < cLine) (hb : AllBare s.gens)
    (Q : Flow → Shared → Prop) (m : Str → Option Value) (od : Bool) (o2 o3 : Obj) (Wd : Addr) (w0 w1 w2 w3 : Int) (t0 t1 t2 t3 : Tok) (kw : Nat) (tl : List (Addr × Obj))
    (v3 : Option Value) (h2 : o2.data = .cell (some (.ref Wd))) (h3 : o3.data = .cell v3) (hodd : m (Str.ofString "odd") = some (.bool od)) (F : Fr g L s.heap m)
    (N : News g L s.heap ((Wd, W.listOf #[.int w0 t0, .int w1 t1, .int w2 t2, .int w3 t3] kw) :: (L + 1 + 1 + 1, o3) :: (L + 1 + 1, o2) :: tl))
    (h3t : ∀ p ∈ tl, p.1 ≠ L + 1 + 1 + 1) (hW3 : @Ne Nat Wd (L + 1 + 1 + 1))
    (next : ∀ (s' : Shared) (m' : Str → Option Value) (o3' : Obj) (v3' : Option Value) (l : Addr) (k : Nat) (vs : List Value), Rest s s' → Fr g L s'.heap m' →
      News g L s'.heap ((l, W.listOf vs.toArray k) :: (Wd, W.listOf #[.int w0 t0, .int w1 t1, .int w2 t2, .int w3 t3] kw) :: (L + 1 + 1 + 1, o3') :: (L + 1 + 1, o2) :: tl) → o3'.data = .cell v3' →
      m' (Str.ofString "texts") = some (.ref l) → m' (Str.ofString "odd") = some (.bool od) → IntsAre vs (xorTexts (xorTexts (xorTexts [w0] w1) w2) w3) →
      (∀ p ∈ (Wd, W.listOf #[.int w0 t0, .int w1 t1, .int w2 t2, .int w3 t3] kw) :: (L + 1 + 1 + 1, o3') :: (L + 1 + 1, o2) :: tl, p.1 ≠ l) →
      wpAny (model PySem.Challenge.rw_pg0027_01.row.prog w) (Ar dp gd un (envOfC qual scope L 57 cdv :: outer)) (execs (body.drop 4) (envOfC qual scope L 57 cdv)) Q NoE s') :
    wpAny (model PySem.Challenge.rw_pg0027_01.row.prog w) (Ar dp gd un (envOfC qual scope L 57 cdv :: outer)) (execs (body.drop 2) (envOfC qual scope L 57 cdv)) Q NoE s := by
  obtain ⟨name, params, dV, kV, doc, pm, an, ct, oc, od', osl, ho⟩ := H
  revert X
  w_top off
  k_fill
  intro X
  conv at ho => lhs; whnf
  cases ho
  have F := Fr.exp' F hodd
  show wpAny _ _ (execs (_ :: _) _) _ _ _
  refine execs_hold ?_
  k_steps
  refine Hold.mk ?_
  refine execs_hold ?_
  refine for_hold ?_
  k_steps
  with_reducible (rename _ ∧ _ ∧ _ ∧ _ ∧ AllLt _ _ => l2; rename _ ∧ _ ∧ _ ∧ AllLt _ _ => l1; rename Fr _ _ _ _ => F2; rename News _ _ _ _ => N2)
  obtain ⟨tl2, htl2⟩ : ∃ tl2, tl2 = (Wd, W.listOf #[.int w0 t0, .int w1 t1, .int w2 t2, .int w3 t3] kw) :: (L + 1 + 1, o2) :: tl := ⟨_, rfl⟩
  rename_i tt l hh1 hh2 D hh3
  refine Hold.mk ?_
  have N3 : News g L hh3 ((l, W.listOf [Value.int w0 tt].toArray 0) :: (D, W.listOf #[Value.int w1 t1, Value.int w2 t2, Value.int w3 t3] 0) :: (L + 1 + 1 + 1, o3) :: tl2) := News.sub' N2 (by
    subst htl2; intro p hp
    rcases List.mem_cons.mp hp with h | hp
    · exact .tail _ (h ▸ .head _)
    rcases List.mem_cons.mp hp with h | hp
    · exact h ▸ .head _
    rcases List.mem_cons.mp hp with h | hp
    · exact h ▸ .tail _ (.tail _ (.tail _ (.head _)))
    rcases List.mem_cons.mp hp with h | hp
    · exact h ▸ .tail _ (.tail _ (.head _))
    exact .tail _ (.tail _ (.tail _ (.tail _ hp))))
  have a1 : ∀ p ∈ tl2, p.1 ≠ L + 1 + 1 + 1 := by
    subst htl2; intro p hp
    rcases List.mem_cons.mp hp with h | hp
    · exact h ▸ hW3
    rcases List.mem_cons.mp hp with h | hp
    · exact h ▸ Nat.ne_of_lt (Nat.lt_succ_self _)
    exact h3t p hp
  have a2 : ∀ p ∈ tl2, p.1 ≠ l := by
    subst htl2; intro p hp
    rcases List.mem_cons.mp hp with h | hp
    · exact h ▸ Nat.ne_of_lt l1.1
    rcases List.mem_cons.mp hp with h | hp
    · exact h ▸ Nat.ne_of_lt l1.2.2.1
    exact Nat.ne_of_lt (allLt_mem l1.2.2.2 p hp)
  have a3 : ∀ p ∈ tl2, p.1 ≠ D := by
    subst htl2; intro p hp
    rcases List.mem_cons.mp hp with h | hp
    · exact h ▸ Nat.ne_of_lt l2.2.1
    rcases List.mem_cons.mp hp with h | hp
    · exact h ▸ Nat.ne_of_lt l2.2.2.2.1
    exact Nat.ne_of_lt (allLt_mem l2.2.2.2.2 p hp)
  clear N2
  refine list_loop (h₀ := g) (L := L) (s₀ := s) (ax := D) (its := #[Value.int w1 t1, Value.int w2 t2, Value.int w3 t3]) (fun i m' news' => ∃ (o3 : Obj) (v3 : Option Value) (l : Addr) (k : Nat) (vs : List Value), news' = (l, W.listOf vs.toArray k) :: (D, W.listOf #[Value.int w1 t1, Value.int w2 t2, Value.int w3 t3] 0) :: (L + 1 + 1 + 1, o3) :: tl2 ∧ o3.data = .cell v3 ∧
      m' (Str.ofString "texts") = some (.ref l) ∧ m' (Str.ofString "odd") = some (.bool od) ∧ IntsAre vs (([w1, w2, w3].take i).foldl xorTexts [w0]) ∧ @Ne Nat l D ∧ @Ne Nat l (L + 1 + 1 + 1) ∧ ∀ p ∈ tl2, p.1 ≠ l) rfl ⟨rfl, _, rfl⟩ (by rintro i m₁ news₁ ⟨_, _, _, _, _, rfl, _⟩; exact .tail _ (.head _)) F2 N3 ⟨rfl, hb⟩
      ⟨o3, v3, l, 0, _, rfl, h3, rfl, rfl, .cons _ _ .nil, Nat.ne_of_lt l2.1, Nat.ne_of_gt l1.2.1, a2⟩ ?_ ?_
  · intro i v I oI m₁ news₁ s₁ hi hJ F₁ N₁ off₁ r₁
    obtain ⟨o3, v3, l, k, vs, rfl, h3, hm1, hm2, hvs, hlD, hl3, hlt⟩ := hJ
    have F₁ := Fr.exp2' F₁ hm1 hm2
    obtain ⟨c, t, hi3, hc, rfl⟩ : ∃ c t, i < 3 ∧ [w1, w2, w3][i]? = some c ∧ v = .int c t := by
      match i, hi with
      | 0, hi => cases hi; exact ⟨_, _, by decide, rfl, rfl⟩
      | 1, hi => cases hi; exact ⟨_, _, by decide, rfl, rfl⟩
      | 2, hi => cases hi; exact ⟨_, _, by decide, rfl, rfl⟩
    have hD3 : @Ne Nat D (L + 1 + 1 + 1) := Nat.ne_of_gt l2.2.2.1
    have g1 := neN (off₁ _ (.head _))
    have g2 := neN (off₁ _ (.tail _ (.head _)))
    have g3 := neN (off₁ _ (.tail _ (.tail _ (.head _))))
    have offT : ∀ p ∈ tl2, p.1 ≠ I := fun p hp => off₁ p (.tail _ (.tail _ (.tail _ hp)))
    have hvl : vs.length ≤ 4 := by
      rw [hvs.length]
      match i, hi3 with
      | 0, _ => exact Nat.le_of_ble_eq_true rfl
      | 1, _ => exact Nat.le_of_ble_eq_true rfl
      | 2, _ => exact Nat.le_of_ble_eq_true rfl
    generalize hns : List.foldl xorTexts [w0] (List.take i [w1, w2, w3]) = ns at hvs
    refine hold_fun ?_
    k_steps
    refine Hold.mk ?_
    refine execs_hold ?_
    k_steps
    with_reducible (rename _ ∧ _ ∧ _ ∧ _ ∧ LCg.Off1 _ _ => o1; rename IntsAre _ (List.map _ _) => hys; rename Fr _ _ _ _ => F4; rename News _ _ _ _ => N4; rename (Obj.data _ = Data.cell (some _)) => d4)
    have hyl : ys.length = vs.length := by rw [hys.length, List.length_map, hvs.length]
    refine Hold.mk ?_
    refine add_led (vs := vs) (ws := ys) F4 N4 (.tail _ (.tail _ (.head _))) (.head _) (by omega) ?_
    intro l5 h5 F5 N5 l5lt
    k_steps
    with_reducible (rename Fr _ _ _ _ => F6; rename News _ _ _ _ => N6)
    refine Hold.mk (wpAny_execs_nil ⟨rfl, _, (l5, W.listOf (vs ++ ys).toArray 0) :: (D, W.listOf #[Value.int w1 t1, Value.int w2 t2, Value.int w3 t3] 0) :: (L + 1 + 1 + 1, _) :: tl2, F6, News.sub' N6 ?_, ?_, ⟨_, _, l5, 0, vs ++ ys, rfl, d4, rfl, rfl, ?_, ?_, ?_, ?_⟩, r₁.os, r₁.bare⟩)
    · intro p hp
      rcases List.mem_cons.mp hp with h | hp
      · exact h ▸ .tail _ (.tail _ (.head _))
      rcases List.mem_cons.mp hp with h | hp
      · exact h ▸ .head _
      exact .tail _ (.tail _ (.tail _ (.tail _ hp)))
    · intro p hp
      rcases List.mem_cons.mp hp with h | hp
      · exact h ▸ Nat.ne_of_gt (l5lt (I, oI) (.tail _ (.head _)))
      rcases List.mem_cons.mp hp with h | hp
      · exact h ▸ g2
      rcases List.mem_cons.mp hp with h | hp
      · exact h ▸ g3
      exact offT p hp
    · have e : ([w1, w2, w3].take (i + 1)).foldl xorTexts [w0] = xorTexts ns c := by
        rw [List.take_add_one, hc, List.foldl_append, hns]; rfl
      rw [e]
      exact IntsAre.append hvs hys
    · exact Nat.ne_of_gt (l5lt (D, _) (.tail _ (.tail _ (.tail _ (.head _)))))
    · exact Nat.ne_of_gt (l5lt (L + 1 + 1 + 1, _) (.tail _ (.tail _ (.tail _ (.tail _ (.head _))))))
    · exact fun p hp => Nat.ne_of_lt (l5lt p (.tail _ (.tail _ (.tail _ (.tail _ (.tail _ hp))))))
  · intro m₁ news₁ s₁ hJ F₁ N₁ r₁
    obtain ⟨o3, v3, l, k, vs, rfl, h3, hm1, hm2, hvs, hlD, hl3, hlt⟩ := hJ
    refine Hold.mk ?_
    subst htl2
    refine next s₁ m₁ o3 v3 l k vs r₁ F₁ (News.sub' N₁ ?_) h3 hm1 hm2 hvs ?_
    · intro p hp
      rcases List.mem_cons.mp hp with h | hp
      · exact h ▸ .head _
      rcases List.mem_cons.mp hp with h | hp
      · exact h ▸ .tail _ (.tail _ (.tail _ (.head _)))
      rcases List.mem_cons.mp hp with h | hp
      · exact h ▸ .tail _ (.tail _ (.head _))
      exact .tail _ (.tail _ (.tail _ (.tail _ hp)))
    · intro p hp
      rcases List.mem_cons.mp hp with h | hp
      · exact hlt p (h ▸ .head _)
      rcases List.mem_cons.mp hp with h | hp
      · exact h ▸ Ne.symm hl3
      exact hlt p (.tail _ hp)
end Mine
namespace Mine
open PySem PySem.W PyProof.Rows
local macro_rules | `(tactic| walk_at "binaryOp Add ref ref") => `(tactic| refine Hold.out ?_)
local macro_rules | `(tactic| walk_at "eval ListComp") => `(tactic| k_dflt (refine LCg.ListComp_U (F₀ := by k_asm) (by with_unfolding_all rfl) (by decide) (by rfl) (by decide) (by rfl) ?_))
local macro_rules | `(tactic| k_all) => `(tactic| assumption)
def onesN : Nat → List Int
  | 0 => [0]
  | k + 1 => onesN k ++ (onesN k).map (· + 1)
theorem onesN_length : ∀ k, (onesN k).length = 2 ^ k
  | 0 => rfl
  | k + 1 => by rw [onesN, List.length_append, List.length_map, onesN_length k, Nat.pow_succ]; omega
theorem seg8 (w : World) (body : List Stmt) (scope : Scope) (cdv : Value) (qual : Str) (H : LawAt w body scope cdv qual)
    (p : Program) (loose : List Str) (mean : ExcName → Option Value) (mg mb : Str → Option Value) (A₀ : Around) (dp : Nat) (gd : Option (List Code)) (un : Nat) (outer : List Env) (base g : Heap) (L : Addr) (s : Shared)
    (B : Below A₀ base outer g) (X : (hd.heap_39 w.params).In g) (T : Top p loose mean mg mb g) (hdp : dp + 20 < recursionLimit) (hun : un + 240 < cLine) (hb : AllBare s.gens)
    (Q : Flow → Shared → Prop) (m : Str → Option Value) (o7 : Obj) (tl : List (Addr × Obj))
    (v7 : Option Value) (h7 : o7.data = .cell v7) (F : Fr g L s.heap m)
    (N : News g L s.heap ((L + 1 + 1 + 1 + 1 + 1 + 1 + 1, o7) :: tl)) (h7t : ∀ p ∈ tl, p.1 ≠ L + 1 + 1 + 1 + 1 + 1 + 1 + 1)
    (next : ∀ (s' : Shared) (m' : Str → Option Value) (o7' : Obj) (l : Addr) (k : Nat) (vs : List Value), Rest s s' → Fr g L s'.heap m' →
      News g L s'.heap ((l, W.listOf vs.toArray k) :: (L + 1 + 1 + 1 + 1 + 1 + 1 + 1, o7') :: tl) → o7'.data = .cell (some (.ref l)) → (∀ x, x ≠ Str.ofString "k" → m' x = m x) → IntsAre vs (onesN 6) →
      (∀ p ∈ (L + 1 + 1 + 1 + 1 + 1 + 1 + 1, o7') :: tl, p.1 ≠ l) →
      wpAny (model PySem.Challenge.rw_pg0027_01.row.prog w) (Ar dp gd un (envOfC qual scope L 57 cdv :: outer)) (execs (body.drop 10) (envOfC qual scope L 57 cdv)) Q NoE s') :
    wpAny (model PySem.Challenge.rw_pg0027_01.row.prog w) (Ar dp gd un (envOfC qual scope L 57 cdv :: outer)) (execs (body.drop 8) (envOfC qual scope L 57 cdv)) Q NoE s := by
  obtain ⟨name, params, dV, kV, doc, pm, an, ct, oc, od', osl, ho⟩ := H
  revert X
  w_top off
  k_fill
  intro X
  conv at ho => lhs; whnf
  cases ho
  show wpAny _ _ (execs (_ :: _) _) _ _ _
  refine execs_hold ?_
  k_steps
  refine Hold.mk ?_
  refine execs_hold ?_
  refine for_hold ?_
  k_steps
  with_reducible (rename _ ∧ AllLt _ _ => l1; rename IsRange _ _ _ _ _ _ _ _ => hr2; rename Fr _ _ _ _ => F2; rename News _ _ _ _ => N2; rename (Obj.data _ = Data.cell (some _)) => d2)
  have hl1 := allLt_mem l1.2
  refine Hold.mk ?_
  refine range_loop (n := 6) (h₀ := g) (L := L) (s₀ := s) (fun i m' news' => ∃ (o7 : Obj) (l : Addr) (k : Nat) (vs : List Value), news' = (l, W.listOf vs.toArray k) :: (L + 1 + 1 + 1 + 1 + 1 + 1 + 1, o7) :: tl ∧ o7.data = .cell (some (.ref l)) ∧
      (∀ x, x ≠ Str.ofString "k" → m' x = m x) ∧ IntsAre vs (onesN i) ∧ @Ne Nat l (L + 1 + 1 + 1 + 1 + 1 + 1 + 1) ∧ ∀ p ∈ tl, p.1 ≠ l) rfl hr2 (by decide) (by decide) F2 N2 ⟨rfl, hb⟩
      ⟨_, _, 0, [_], rfl, d2, fun _ _ => rfl, .cons _ _ .nil, Nat.ne_of_gt l1.1, fun q hq => Nat.ne_of_lt (hl1 q hq)⟩ ?_ ?_
  · intro i t I oI m₁ news₁ s₁ hi hJ F₁ N₁ off₁ r₁
    obtain ⟨o7, l, k, vs, rfl, h7, hm, hvs, hl7, hlt⟩ := hJ
    have g1 := neN (off₁ _ (.head _))
    have g2 := neN (off₁ _ (.tail _ (.head _)))
    have offT : ∀ p ∈ tl, p.1 ≠ I := fun p hp => off₁ p (.tail _ (.tail _ hp))
    have hvl : vs.length ≤ 32 := by
      rw [hvs.length, onesN_length]
      exact Nat.pow_le_pow_right (by decide) (by omega : i ≤ 5)
    generalize hns : onesN i = ns at hvs
    refine hold_fun ?_
    k_steps
    refine Hold.mk ?_
    refine execs_hold ?_
    k_steps
    with_reducible (rename Fr _ _ _ _ => F3; rename News _ _ _ _ => N3)
    refine LCg.CompSrc.ledger rfl F3 N3 (.tail _ (.head _)) (by rw [sizeLine_eq, List.size_toArray]; omega) ?_
    intro g'
    refine' kcf_list _ hvs (fun k' t' I' oI' C' oC' D' m' ys' h' tk' E' hk' hC' hx' F' N' off' ne' hMark' => ?_) ?_
    all_goals (try simp only [LCg.Off3, and_true] at off')
    kcf_last
    k_steps
    with_reducible (rename _ ∧ _ ∧ _ ∧ LCg.Off1 _ _ => o1; rename IntsAre _ (List.map _ _) => hys; rename Fr _ _ _ _ => F4; rename News _ _ _ _ => N4)
    have hyl : ys.length = vs.length := by rw [hys.length, List.length_map, hvs.length]
    refine Hold.mk ?_
    refine add_led (vs := vs) (ws := ys) F4 N4 (.tail _ (.tail _ (.head _))) (.head _) (by omega) ?_
    intro l5 h5 F5 N5 l5lt
    have e1 := ltN (l5lt _ (.head _))
    have e2 := ltN (l5lt _ (.tail _ (.head _)))
    have e3 := ltN (l5lt _ (.tail _ (.tail _ (.head _))))
    have e4 := ltN (l5lt _ (.tail _ (.tail _ (.tail _ (.head _)))))
    have offD := off1_mem o1.2.2.2
    have off5 : ∀ p ∈ tl, p.1 < l5 := fun p hp => l5lt p (.tail _ (.tail _ (.tail _ (.tail _ hp))))
    k_steps
    with_reducible (rename Fr _ _ _ _ => F6; rename News _ _ _ _ => N6; rename (Obj.data _ = Data.cell (some (Value.ref l5))) => d6)
    refine Hold.mk (wpAny_execs_nil ⟨rfl, _, (l5, W.listOf (vs ++ ys).toArray 0) :: (L + 1 + 1 + 1 + 1 + 1 + 1 + 1, _) :: tl, F6, News.sub' N6 ?_, ?_, ⟨_, l5, 0, vs ++ ys, rfl, d6, ?_, ?_, ?_, ?_⟩, r₁.os, r₁.bare⟩)
    · intro p hp
      rcases List.mem_cons.mp hp with h | hp
      · exact h ▸ .tail _ (.tail _ (.head _))
      rcases List.mem_cons.mp hp with h | hp
      · exact h ▸ .head _
      exact .tail _ (.tail _ (.tail _ (.tail _ hp)))
    · intro p hp
      rcases List.mem_cons.mp hp with h | hp
      · exact h ▸ Nat.ne_of_gt e2
      rcases List.mem_cons.mp hp with h | hp
      · exact h ▸ g2
      exact offT p hp
    · intro x hx
      exact (if_neg hx).trans (hm x hx)
    · rw [onesN, hns]
      exact IntsAre.append hvs hys
    · exact Nat.ne_of_gt e4
    · exact fun p hp => Nat.ne_of_lt (off5 p hp)
  · intro m₁ news₁ s₁ hJ F₁ N₁ r₁
    obtain ⟨o7, l, k, vs, rfl, h7, hm, hvs, hl7, hlt⟩ := hJ
    refine Hold.mk ?_
    refine next s₁ m₁ o7 l k vs r₁ F₁ N₁ h7 hm hvs ?_
    intro p hp
    rcases List.mem_cons.mp hp with h | hp
    · exact h ▸ Ne.symm hl7
    exact hlt p hp
end Mine
namespace Mine
open PySem PySem.W PyProof.Rows
local macro_rules | `(tactic| walk_at "call ref") => `(tactic| refine Hold.out ?_)
local macro_rules | `(tactic| k_all) => `(tactic| assumption)
theorem seg6 (w : World) (body : List Stmt) (scope : Scope) (cdv : Value) (qual : Str) (H : LawAt w body scope cdv qual)
    (p : Program) (loose : List Str) (mean : ExcName → Option Value) (mg mb : Str → Option Value) (A₀ : Around) (dp : Nat) (gd : Option (List Code)) (un : Nat) (outer : List Env) (base g : Heap) (L : Addr) (s : Shared)
    (B : Below A₀ base outer g) (X : (hd.heap_39 w.params).In g) (T : Top p loose mean mg mb g) (hdp : dp + 20 < recursionLimit) (hun : un + 240 < cLine) (hb : AllBare s.gens)
    (Q : Flow → Shared → Prop) (m : Str → Option Value) (o2 o6 : Obj) (Wd : Addr) (w0 w1 w2 w3 : Int) (t0 t1 t2 t3 : Tok) (kw : Nat) (tl : List (Addr × Obj))
    (v6 : Option Value) (h2 : o2.data = .cell (some (.ref Wd))) (h6 : o6.data = .cell v6) (F : Fr g L s.heap m)
    (N : News g L s.heap ((Wd, W.listOf #[.int w0 t0, .int w1 t1, .int w2 t2, .int w3 t3] kw) :: (L + 1 + 1 + 1 + 1 + 1 + 1, o6) :: (L + 1 + 1, o2) :: tl))
    (h6t : ∀ p ∈ tl, p.1 ≠ L + 1 + 1 + 1 + 1 + 1 + 1) (hW6 : @Ne Nat Wd (L + 1 + 1 + 1 + 1 + 1 + 1))
    (next : ∀ (s' : Shared) (m' : Str → Option Value) (o6' : Obj) (t : Tok) (D : Addr) (zs : List Value), Rest s s' → Fr g L s'.heap m' →
      News g L s'.heap ((D, LCg.lst zs) :: (Wd, W.listOf #[.int w0 t0, .int w1 t1, .int w2 t2, .int w3 t3] kw) :: (L + 1 + 1 + 1 + 1 + 1 + 1, o6') :: (L + 1 + 1, o2) :: tl) → o6'.data = .cell (some (.int (lawSix w0) t)) →
      m' (Str.ofString "changes") = some (.ref D) → (∀ x, x ≠ Str.ofString "changes" → m' x = m x) → IntsAre zs ([w1, w2, w3].map fun c => Builtin.bitXor (lawSix w0) (lawSix (Builtin.bitXor w0 c))) →
      (∀ p ∈ (Wd, W.listOf #[.int w0 t0, .int w1 t1, .int w2 t2, .int w3 t3] kw) :: (L + 1 + 1 + 1 + 1 + 1 + 1, o6') :: (L + 1 + 1, o2) :: tl, p.1 ≠ D) →
      wpAny (model PySem.Challenge.rw_pg0027_01.row.prog w) (Ar dp gd un (envOfC qual scope L 57 cdv :: outer)) (execs (body.drop 8) (envOfC qual scope L 57 cdv)) Q NoE s') :
    wpAny (model PySem.Challenge.rw_pg0027_01.row.prog w) (Ar dp gd un (envOfC qual scope L 57 cdv :: outer)) (execs (body.drop 6) (envOfC qual scope L 57 cdv)) Q NoE s := by
  obtain ⟨name, params, dV, kV, doc, pm, an, ct, oc, od', osl, ho⟩ := H
  have X0 := X
  revert X
  w_top off
  k_fill
  intro X
  conv at ho => lhs; whnf
  cases ho
  show wpAny _ _ (execs (_ :: _) _) _ _ _
  refine execs_hold ?_
  k_steps
  refine Hold.mk (six_spec w w0 _ _ _ _ _ _ _ _ _ _ _ _ _ _ _ _ _ _ B F X N T rfl rfl rfl rfl (by simp only; omega) (by simp only; omega) hb ?_)
  intro r s' news' F' N' r' post
  obtain ⟨⟨t', rfl⟩, rfl⟩ := post
  have hb' := r'.bare
  clear F N
  generalize lawSix w0 = bs at *
  k_steps
  refine Hold.mk ?_
  with_reducible (rename Fr _ _ _ _ => F2; rename News _ _ _ _ => N2; rename (Obj.data _ = Data.cell (some _)) => d2)
  refine execs_hold ?_
  refine assign_calls F2 rfl (by with_unfolding_all rfl) (by with_unfolding_all rfl) (by decide) rfl (by decide) rfl rfl rfl rfl ?_
  refine hold_fun ?_
  k_steps
  with_reducible (rename Fr _ _ _ _ => F3; rename News _ _ _ _ => N3; rename _ ∧ _ ∧ _ ∧ AllLt _ _ => l3)
  refine Hold.mk ⟨_, _, #[Value.int w1 t1, Value.int w2 t2, Value.int w3 t3], _, rfl, .head _, ⟨rfl, _, rfl⟩, by rw [sizeLine_eq]; exact Nat.le_of_ble_eq_true rfl, F3, N3, hb', fun i y => ∃ t, y = .int (([w1, w2, w3].map fun c => Builtin.bitXor bs (lawSix (Builtin.bitXor w0 c))).getD i 0) t, ?_, ?_⟩
  · intro i v I oI C oC D oD u m₂ E' hi hoC hmx Fu Nu hbu
    obtain ⟨c, t, hc, rfl⟩ : ∃ c t, [w1, w2, w3][i]? = some c ∧ v = .int c t := by
      match i, hi with
      | 0, hi => cases hi; exact ⟨_, _, rfl, rfl⟩
      | 1, hi => cases hi; exact ⟨_, _, rfl, rfl⟩
      | 2, hi => cases hi; exact ⟨_, _, rfl, rfl⟩
    refine hold_fun ?_
    k_steps
    refine Hold.mk (six_spec w (Builtin.bitXor w0 c) _ _ _ _ _ _ _ _ _ _ _ _ _ _ _ _ _ _ B Fu X Nu T rfl rfl rfl rfl (by simp only; omega) (by simp only; omega) hbu ?_)
    intro r s₃ news₃ F₃ N₃ r₃ post
    obtain ⟨⟨t₃, rfl⟩, rfl⟩ := post
    clear Fu Nu
    generalize hsx : lawSix (Builtin.bitXor w0 c) = sx
    k_steps
    refine Hold.mk ⟨?_, F₃, N₃, r₃.os, r₃.bare⟩
    rw [List.getD_eq_getElem?_getD, List.getElem?_map, hc, Option.map_some, Option.getD_some, hsx]
    exact ⟨_, rfl⟩
  · intro D s₅ zs r₅ F₅ N₅ offD hzl hzG
    refine Hold.mk ?_
    refine next s₅ _ _ _ D zs ⟨r₅.os.trans r'.os, r₅.bare⟩ F₅ (News.sub' N₅ ?_) d2 rfl (fun x hx => if_neg hx) (ints_of_get hzl hzG) ?_
    · intro p hp
      rcases List.mem_cons.mp hp with h | hp
      · exact h ▸ .head _
      exact .tail _ (.tail _ hp)
    · exact fun p hp => offD p (.tail _ hp)
end Mine
namespace Mine
open PySem PySem.W PyProof.Rows
theorem fc {P : Addr × Obj → Prop} {q : Addr × Obj} {l : List (Addr × Obj)} (h1 : P q) (h2 : ∀ p ∈ l, P p) : ∀ p ∈ q :: l, P p := List.forall_mem_cons.mpr ⟨h1, h2⟩
theorem fn {P : Addr × Obj → Prop} : ∀ p ∈ ([] : List (Addr × Obj)), P p := fun _ h => nomatch h
/-- what kind of data an object bears -/
def kd (o : Obj) : Nat := match o.data with
  | .plain => 0
  | .prim _ => 1
  | .seq _ _ => 2
  | .dict _ _ => 3
  | .set _ _ _ => 4
  | .bytearray _ _ => 5
  | .cell _ => 6
  | .func _ => 7
  | .cls _ => 8
  | .fields _ => 9
  | .freed => 10
theorem kd_cell {o : Obj} {v : Option Value} (h : o.data = .cell v) : kd o = 6 := by unfold kd; rw [h]
theorem kd_dict {prog : Program} {w : World} {K : Type} [DecidableEq K] {knd : KeyKind prog w K} {o : Obj} {kvs : List (K × Value)} (h : o.IsDictOf knd kvs) : kd o = 3 := by
  obtain ⟨es, ep, _, e, _⟩ := h
  unfold kd; rw [e]
theorem News.apart {h₀ h : Heap} {L : Addr} {news : List (Addr × Obj)} (N : News h₀ L h news) {a b : Addr} {oa ob : Obj} (ha : (a, oa) ∈ news) (hb : (b, ob) ∈ news) (hk : kd oa ≠ kd ob) : a ≠ b := by
  intro e
  subst e
  have e := (N _ ha).1.symm.trans (N _ hb).1
  exact hk (congrArg kd (Option.some.inj e))
theorem CEnt.sub {news news' : List (Addr × Obj)} {odd : Bool} {kvs : List (Int × Value)} {cs : List (Int × Int)} (h : CEnt news odd kvs cs) (hs : ∀ p ∈ news, kd p.2 = 2 → p ∈ news') : CEnt news' odd kvs cs := by
  induction h with
  | nil => exact .nil
  | cons hv _ ih =>
    refine .cons ?_ ih
    cases odd with
    | false => exact hv
    | true => obtain ⟨a, t, u, n, e, hm⟩ := hv; exact ⟨a, t, u, n, e, hs _ hm rfl⟩
section
variable {prog : Program} {w : World} {A : Around} {E : Value → Shared → Prop} {env : Env} {h₀ : Heap} {L : Addr}
theorem loop_walkK {target : Expr} {body : List Stmt} {I : Addr} {fp : List Addr} {n : Nat} {P : Nat → Value → Prop} {St : Nat → Heap → Prop} {R : Result → Shared → Prop} {s s₀ : Shared}
    {m : Str → Option Value} {news : List (Addr × Obj)} (J : Nat → (Str → Option Value) → List (Addr × Obj) → Prop)
    (W : Walks prog w A I fp [I] n P St) (hIL : L ≠ I) (hI₀ : h₀.get? I = none)
    (hIo : ∀ i h, St i h → ∃ o, h.get? I = some o ∧ kd o = 9)
    (hkeep : ∀ i m₁ news₁ h h', J i m₁ news₁ → News h₀ L h' news₁ → St i h → h'.get? I = h.get? I → St i h')
    (hst : St 0 s.heap) (F : Fr h₀ L s.heap m) (N : News h₀ L s.heap news) (off : ∀ p ∈ news, p.1 ≠ I) (hR0 : Rest s₀ s) (h0 : J 0 m news)
    (turn : ∀ i v oI m₁ news₁ (s₁ : Shared), i < n → kd oI = 9 → P i v → J i m₁ news₁ → Fr h₀ L s₁.heap m₁ → News h₀ L s₁.heap ((I, oI) :: news₁) → (∀ p ∈ news₁, p.1 ≠ I) → Rest s₀ s₁ →
      wpAny (model prog w) A (assign target env v) (fun _ s₂ => wpAny (model prog w) A (execs body env) (fun f s₃ => f = .next ∧ ∃ m₂ news₂, Fr h₀ L s₃.heap m₂ ∧ News h₀ L s₃.heap ((I, oI) :: news₂) ∧ (∀ p ∈ news₂, p.1 ≠ I) ∧ J (i + 1) m₂ news₂ ∧ Rest s₀ s₃) NoE s₂) NoE s₁)
    (hR : ∀ m₁ news₁ (s₁ : Shared), J n m₁ news₁ → Fr h₀ L s₁.heap m₁ → News h₀ L s₁.heap news₁ → Rest s₀ s₁ → R (.ok .next) s₁)
    (ht : ∀ v, letOwnedTupleGo target (.ref I) v = pure () := by intro _; rfl) :
    codeAny (model prog w) A (.forLoop target (.ref I) body [] env) R s := by
  refine codeAny_forLoop (fun k s' => ∃ i m₁ news₁, k = n + 1 - i ∧ i ≤ n ∧ St i s'.heap ∧ Fr h₀ L s'.heap m₁ ∧ News h₀ L s'.heap news₁ ∧ (∀ p ∈ news₁, p.1 ≠ I) ∧ J i m₁ news₁ ∧ Rest s₀ s') ?_ (n + 1)
    ⟨0, m, news, rfl, Nat.zero_le _, hst, F, N, off, h0, hR0⟩ ht
  rintro k s' ⟨i, m₁, news₁, rfl, hi, hst', F', N', off', hJ, hr⟩
  by_cases hlt : i < n
  · refine W.item i _ _ _ hlt hst' fun v h₂ tk₂ hPv hst₂ hk₂ => ?_
    have F₂ := LCg.fr_but F' hk₂ hIL hI₀
    have N₂ := LCg.news_but N' hk₂ off'
    obtain ⟨oI, heI, hkI⟩ := hIo _ _ hst₂
    have N₃ : News h₀ L h₂ ((I, oI) :: news₁) := fun p hp => by
      rcases List.mem_cons.mp hp with rfl | hp
      · exact ⟨heI, Ne.symm hIL, hI₀⟩
      · exact N₂ p hp
    refine wpAny_mono (turn i v oI m₁ news₁ _ hlt hkI hPv hJ F₂ N₃ off' hr.heap) (fun _ s₂ h₂ => ?_) (fun _ _ e => e.elim)
    refine wpAny_mono h₂ (fun f s₃ h₃ => ?_) (fun _ _ e => e.elim)
    obtain ⟨rfl, m₂, news₂, F₃, N₄, off₃, hJ₃, hr₃⟩ := h₃
    refine ⟨n + 1 - (i + 1), by omega, i + 1, m₂, news₂, rfl, hlt, ?_, F₃, fun p hp => N₄ p (List.mem_cons_of_mem _ hp), off₃, hJ₃, hr₃⟩
    have e3 := (N₄ (I, oI) List.mem_cons_self).1
    exact hkeep _ _ _ _ _ hJ₃ (fun p hp => N₄ p (List.mem_cons_of_mem _ hp)) hst₂ (e3.trans heI.symm)
  · obtain rfl : i = n := Nat.le_antisymm hi (Nat.not_lt.mp hlt)
    refine W.done _ _ _ hst' fun h₂ tk₂ hk₂ => wpAny_execs_nil ?_
    exact hR m₁ news₁ _ hJ (LCg.fr_but F' hk₂ hIL hI₀) (LCg.news_but N' hk₂ off') hr.heap
theorem range_loopK {target : Expr} {body : List Stmt} {r : Addr} {a b : Int} {t u v : Tok} {n : Nat} {Q : Flow → Shared → Prop} {s s₀ : Shared} {m : Str → Option Value} {news : List (Addr × Obj)}
    (J : Nat → (Str → Option Value) → List (Addr × Obj) → Prop)
    (hh : A.handled = none) (hr : IsRange s.heap r a b 1 t u v) (hsm : Builtin.Range.small a b 1 = true) (hn : Builtin.Range.rangeSize a b 1 = ((n : Nat) : Int))
    (F : Fr h₀ L s.heap m) (N : News h₀ L s.heap news) (hR0 : Rest s₀ s) (h0 : J 0 m news)
    (turn : ∀ i t I oI m₁ news₁ (s₁ : Shared), i < n → kd oI = 9 → J i m₁ news₁ → Fr h₀ L s₁.heap m₁ → News h₀ L s₁.heap ((I, oI) :: news₁) → (∀ p ∈ news₁, p.1 ≠ I) → Rest s₀ s₁ →
      wpAny (model prog w) A (assign target env (.int (a + (i : Int)) t)) (fun _ s₂ => wpAny (model prog w) A (execs body env) (fun f s₃ => f = .next ∧ ∃ m₂ news₂, Fr h₀ L s₃.heap m₂ ∧ News h₀ L s₃.heap ((I, oI) :: news₂) ∧ (∀ p ∈ news₂, p.1 ≠ I) ∧ J (i + 1) m₂ news₂ ∧ Rest s₀ s₃) NoE s₂) NoE s₁)
    (done : ∀ m₁ news₁ (s₁ : Shared), J n m₁ news₁ → Fr h₀ L s₁.heap m₁ → News h₀ L s₁.heap news₁ → Rest s₀ s₁ → Q .next s₁)
    (ht : ∀ I v, letOwnedTupleGo target (.ref I) v = pure () := by intro _ _; rfl) :
    wpAny (model prog w) A (pyIter (.ref r)) (fun it s₂ => codeAny (model prog w) A (.forLoop target it body [] env) (LoopR (model prog w) A env Q E) s₂) E s := by
  refine wpAny_pyIter_range hr hsm ?_
  have up : ∀ b o, s.heap.get? b = some o → (s.heap.push { cls := .type "range_iterator", data := .fields #[rawInt a, rawInt (Builtin.Range.rangeSize a b 1), rawInt 1] }).get? b = some o := fun _ _ e => Heap.get?_push_of_some _ e
  refine loop_walkK (h₀ := h₀) (L := L) (s₀ := s₀) (m := m) (news := news) J (LCg.range_walks hh a n) (Nat.ne_of_lt F.ns.lt) (next_is_new F) (fun i h st => ⟨_, st, rfl⟩) (fun i m₁ news₁ h h' _ _ st e => ?_)
    (by show IsRangeIter _ _ _ _ _; rw [hn]; simpa using Heap.get?_push_size _ rfl) (F.keeps fun _ _ e => Heap.get?_push_of_some _ e) (N.grown fun _ _ e => Heap.get?_push_of_some _ e) (fun p hp => Nat.ne_of_lt (Heap.lt_size (N p hp).1)) hR0.heap h0
    (fun i v oI m₁ news₁ s₁ hi hk hP hJ F₁ N₁ off₁ r₁ => ?_) (fun m₁ news₁ s₁ hJ F₁ N₁ r₁ => done m₁ news₁ s₁ hJ F₁ N₁ r₁) (ht _)
  · have st' : h.get? _ = some _ := st
    show h'.get? _ = some _
    rw [e]; exact st'
  · obtain ⟨t, rfl⟩ := hP
    exact turn i t _ oI m₁ news₁ s₁ hi hk hJ F₁ N₁ off₁ r₁
theorem list_loopK {target : Expr} {body : List Stmt} {ax : Addr} {its : Array Value} {ox : Obj} {Q : Flow → Shared → Prop} {s s₀ : Shared} {m : Str → Option Value} {news : List (Addr × Obj)}
    (J : Nat → (Str → Option Value) → List (Addr × Obj) → Prop)
    (hh : A.handled = none) (hx : ox.cls = .type "list" ∧ ∃ k, ox.data = .seq its k) (hin : ∀ i m₁ news₁, J i m₁ news₁ → (ax, ox) ∈ news₁)
    (F : Fr h₀ L s.heap m) (N : News h₀ L s.heap news) (hR0 : Rest s₀ s) (h0 : J 0 m news)
    (turn : ∀ i v I oI m₁ news₁ (s₁ : Shared), its[i]? = some v → kd oI = 9 → J i m₁ news₁ → Fr h₀ L s₁.heap m₁ → News h₀ L s₁.heap ((I, oI) :: news₁) → (∀ p ∈ news₁, p.1 ≠ I) → Rest s₀ s₁ →
      wpAny (model prog w) A (assign target env v) (fun _ s₂ => wpAny (model prog w) A (execs body env) (fun f s₃ => f = .next ∧ ∃ m₂ news₂, Fr h₀ L s₃.heap m₂ ∧ News h₀ L s₃.heap ((I, oI) :: news₂) ∧ (∀ p ∈ news₂, p.1 ≠ I) ∧ J (i + 1) m₂ news₂ ∧ Rest s₀ s₃) NoE s₂) NoE s₁)
    (done : ∀ m₁ news₁ (s₁ : Shared), J its.size m₁ news₁ → Fr h₀ L s₁.heap m₁ → News h₀ L s₁.heap news₁ → Rest s₀ s₁ → Q .next s₁)
    (ht : ∀ I v, letOwnedTupleGo target (.ref I) v = pure () := by intro _ _; rfl) :
    wpAny (model prog w) A (pyIter (.ref ax)) (fun it s₂ => codeAny (model prog w) A (.forLoop target it body [] env) (LoopR (model prog w) A env Q E) s₂) E s := by
  have hl : s.heap.IsList ax its := ⟨ox, (N _ (hin _ _ _ h0)).1, hx.1, hx.2⟩
  have hlt : ax < s.heap.objs.size := by obtain ⟨_, e, _⟩ := hl; exact Heap.lt_size e
  refine wpAny_pyIter_list hl ?_
  refine loop_walkK (h₀ := h₀) (L := L) (s₀ := s₀) (m := m) (news := news) J (Walks.list hh s.heap.objs.size ax (Nat.ne_of_lt hlt) its) (Nat.ne_of_lt F.ns.lt) (next_is_new F) (fun i h st => by obtain ⟨o, e, _, e3⟩ := st.1; exact ⟨o, e, by unfold kd; rw [e3]⟩) (fun i m₁ news₁ h h' hJ N' st e => ?_)
    ⟨⟨_, Heap.get?_push_size _ rfl, rfl, rfl⟩, hl.push _⟩ (F.keeps fun _ _ e => Heap.get?_push_of_some _ e) (N.grown fun _ _ e => Heap.get?_push_of_some _ e) (fun p hp => Nat.ne_of_lt (Heap.lt_size (N p hp).1)) hR0.heap h0
    (fun i v oI m₁ news₁ s₁ hi hk hP hJ F₁ N₁ off₁ r₁ => turn i v _ oI m₁ news₁ s₁ hP hk hJ F₁ N₁ off₁ r₁) (fun m₁ news₁ s₁ hJ F₁ N₁ r₁ => done m₁ news₁ s₁ hJ F₁ N₁ r₁) (ht _)
  · refine ⟨?_, ox, (N' _ (hin _ _ _ hJ)).1, hx.1, hx.2⟩
    obtain ⟨o, q, r⟩ := st.1
    exact ⟨o, e.trans q, r⟩
end
end Mine
namespace Mine
open PySem PySem.W PyProof.Rows
/-- one more entry in the book -/
theorem book_call (w : World) {p : Program} {loose : List Str} {mean : ExcName → Option Value} {mg mb : Str → Option Value} {A A₀ : Around} {env : Env} {outer : List Env} {base g : Heap} {L : Addr} {m : Str → Option Value} {s : Shared} {Q : Value → Shared → Prop}
    (B : Below A₀ base outer g) (F : Fr g L s.heap m) (X : (hd.heap_39 w.params).In g) (T : Top p loose mean mg mb g)
    (hA : A.frames = some (env :: outer)) (hh : A.handled = none) (hf : env.frame = some L) (hke : env.scope.kind = .function) (hdp : A.depth + 10 < recursionLimit) (hun : A.units + 120 < cLine) (hb : AllBare s.gens)
    {extra rest tl : List (Addr × Obj)} {c4 c5 I Bk D l SA e7 : Addr} {o4 o5 oI oD ol oe : Obj} {ps : Array Value} {b1 b2 b3 b4 wt : Int} {v : Value} {cs : List (Int × Int)} {kvs : List (Int × Value)} {od : Bool} {u1 u2 u3 u4 z1 z2 z3 z4 : Tok} {n nS : Nat}
    (N : News g L s.heap ((30, tabObj ps) :: (extra ++ (c4, o4) :: (c5, o5) :: (I, oI) :: (Bk, tup5 b1 b2 b3 b4 u1 u2 u3 u4 D n) :: (D, oD) :: (l, ol) :: (rest ++ tl))))
    (k4 : kd o4 = 6) (k5 : kd o5 = 6) (kI : kd oI = 9) (kl : kd ol = 2) (hex : ∀ q ∈ extra, kd q.2 = 2 ∨ kd q.2 = 3) (hrest : ∀ q ∈ rest, kd q.2 = 2)
    (n3 : (30 : Addr) ≠ I) (n4 : c4 ≠ I) (n5 : c5 ≠ I) (nl : l ≠ I) (nt : ∀ q ∈ tl, q.1 ≠ I) (hPt : ∀ q ∈ tl, q.1 ≠ 30)
    (mS : (SA, tup5 1 wt (wt ^ Int.toNat 2) (wt ^ Int.toNat 3) z1 z2 z3 z4 e7 nS) ∈ extra) (me : (e7, oe) ∈ extra) (hdict : oD.IsDictOf (PySem.intKind PySem.Challenge.rw_pg0027_01.row.prog w) kvs) (hde : oe.IsDictOf (PySem.intKind PySem.Challenge.rw_pg0027_01.row.prog w) [(wt, v)])
    (hlo : (D == sysModules) = false) (loe : (e7 == sysModules) = false) (htr : TriplesOk ps.toList) (hC : CEnt rest od kvs cs) (hv : CVal extra od wt 1 v) (hlen : kvs.length ≤ 100)
    (fin : ∀ (R D' : Addr) (oD' : Obj) (kvs' : List (Int × Value)) (ps' : Array Value) (rest' : List (Addr × Obj)) (w1 w2 w3 w4 : Tok) (n' : Nat) (s' : Shared), Rest s s' → Fr g L s'.heap m →
      News g L s'.heap ((I, oI) :: (R, tup5 (1 + b1) (wt + b2) (wt ^ Int.toNat 2 + b3) (wt ^ Int.toNat 3 + b4) w1 w2 w3 w4 D' n') :: (D', oD') :: (l, ol) :: (30, tabObj ps') :: (c5, o5) :: (c4, o4) :: (rest' ++ tl)) →
      (∀ q ∈ (R, tup5 (1 + b1) (wt + b2) (wt ^ Int.toNat 2 + b3) (wt ^ Int.toNat 3 + b4) w1 w2 w3 w4 D' n') :: (D', oD') :: (l, ol) :: (30, tabObj ps') :: (c5, o5) :: (c4, o4) :: (rest' ++ tl), q.1 ≠ I) →
      oD'.IsDictOf (PySem.intKind PySem.Challenge.rw_pg0027_01.row.prog w) kvs' → CEnt rest' od kvs' (bump cs wt) → TriplesOk ps'.toList → (D' == sysModules) = false → (∀ q ∈ rest', kd q.2 = 2) → Q (.ref R) s') :
    wpAny (model PySem.Challenge.rw_pg0027_01.row.prog w) A (call (.ref 28) [.ref Bk, .ref SA]) Q NoE s := by
  have kD := kd_dict hdict
  obtain ⟨tls, htls⟩ : ∃ tls, tls = extra ++ (c4, o4) :: (c5, o5) :: (I, oI) :: (Bk, tup5 b1 b2 b3 b4 u1 u2 u3 u4 D n) :: (D, oD) :: (l, ol) :: (rest ++ tl) := ⟨_, rfl⟩
  have iE : ∀ q ∈ extra, q ∈ tls := fun q hq => htls ▸ List.mem_append_left _ hq
  have i4 : (c4, o4) ∈ tls := htls ▸ List.mem_append_right _ (.head _)
  have i5 : (c5, o5) ∈ tls := htls ▸ List.mem_append_right _ (.tail _ (.head _))
  have iI : (I, oI) ∈ tls := htls ▸ List.mem_append_right _ (.tail _ (.tail _ (.head _)))
  have iB : (Bk, tup5 b1 b2 b3 b4 u1 u2 u3 u4 D n) ∈ tls := htls ▸ List.mem_append_right _ (.tail _ (.tail _ (.tail _ (.head _))))
  have iD : (D, oD) ∈ tls := htls ▸ List.mem_append_right _ (.tail _ (.tail _ (.tail _ (.tail _ (.head _)))))
  have il : (l, ol) ∈ tls := htls ▸ List.mem_append_right _ (.tail _ (.tail _ (.tail _ (.tail _ (.tail _ (.head _))))))
  have iR : ∀ q ∈ rest, q ∈ tls := fun q hq => htls ▸ List.mem_append_right _ (.tail _ (.tail _ (.tail _ (.tail _ (.tail _ (.tail _ (List.mem_append_left _ hq)))))))
  have iT : ∀ q ∈ tl, q ∈ tls := fun q hq => htls ▸ List.mem_append_right _ (.tail _ (.tail _ (.tail _ (.tail _ (.tail _ (.tail _ (List.mem_append_right _ hq)))))))
  have hP : ∀ q ∈ tls, q.1 ≠ 30 := by
    intro q hq
    have ap : kd q.2 ≠ 9 → q.1 ≠ 30 := fun h => News.apart N (.tail _ (htls ▸ hq)) (.head _) h
    rw [htls] at hq
    rcases List.mem_append.mp hq with hq | hq
    · exact ap (by rcases hex q hq with h | h <;> rw [h] <;> decide)
    rcases List.mem_cons.mp hq with h | hq
    · exact ap (by rw [h, k4]; decide)
    rcases List.mem_cons.mp hq with h | hq
    · exact ap (by rw [h, k5]; decide)
    rcases List.mem_cons.mp hq with h | hq
    · rw [h]; exact Ne.symm n3
    rcases List.mem_cons.mp hq with h | hq
    · exact ap (by rw [h]; show (2 : Nat) ≠ 9; decide)
    rcases List.mem_cons.mp hq with h | hq
    · exact ap (by rw [h, kD]; decide)
    rcases List.mem_cons.mp hq with h | hq
    · exact ap (by rw [h, kl]; decide)
    rcases List.mem_append.mp hq with hq | hq
    · exact ap (by rw [hrest q hq]; decide)
    · exact hPt q hq
  rw [← htls] at N
  refine stats_spec w tls ps Bk SA D e7 oD oe b1 b2 b3 b4 1 wt (wt ^ Int.toNat 2) (wt ^ Int.toNat 3) u1 u2 u3 u4 z1 z2 z3 z4 n nS kvs cs od wt v iB (iE _ mS) iD (iE _ me) hdict hde hlo loe hP htr (hC.mono iR) (hv.mono iE) hlen _ _ _ _ _ _ _ _ _ _ _ _ _ _ _ _ B F X N T hA hh hf hke hdp hun hb ?_
  intro r s' news' F' N' r' ps'
  obtain ⟨R, D', oD', kvs', ps', added, w1, w2, w3, w4, n', rfl, rfl, hoD, hCE, htr', loD, _, _, _, _, _⟩ := ps'
  have jT : ∀ q ∈ added ++ tls, q ∈ (R, tup5 (1 + b1) (wt + b2) (wt ^ Int.toNat 2 + b3) (wt ^ Int.toNat 3 + b4) w1 w2 w3 w4 D' n') :: (D', oD') :: (30, tabObj ps') :: (added ++ tls) := fun q hq => .tail _ (.tail _ (.tail _ hq))
  have jS : ∀ q ∈ tls, q ∈ (R, tup5 (1 + b1) (wt + b2) (wt ^ Int.toNat 2 + b3) (wt ^ Int.toNat 3 + b4) w1 w2 w3 w4 D' n') :: (D', oD') :: (30, tabObj ps') :: (added ++ tls) := fun q hq => jT q (List.mem_append_right _ hq)
  have hf : ∀ q ∈ (added ++ tls).filter (fun q => kd q.2 == 2), q ∈ added ++ tls ∧ kd q.2 = 2 := fun q hq => by
    obtain ⟨h1, h2⟩ := List.mem_filter.mp hq
    exact ⟨h1, by simpa using h2⟩
  refine fin R D' oD' kvs' ps' ((added ++ tls).filter (fun q => kd q.2 == 2)) w1 w2 w3 w4 n' s' r' F' (News.sub' N' ?_) ?_ hoD (hCE.sub fun q hq hk => List.mem_filter.mpr ⟨hq, by simp [hk]⟩) htr' loD (fun q hq => (hf q hq).2)
  · intro q hq
    rcases List.mem_cons.mp hq with h | hq
    · rw [h]; exact jS _ iI
    rcases List.mem_cons.mp hq with h | hq
    · rw [h]; exact .head _
    rcases List.mem_cons.mp hq with h | hq
    · rw [h]; exact .tail _ (.head _)
    rcases List.mem_cons.mp hq with h | hq
    · rw [h]; exact jS _ il
    rcases List.mem_cons.mp hq with h | hq
    · rw [h]; exact .tail _ (.tail _ (.head _))
    rcases List.mem_cons.mp hq with h | hq
    · rw [h]; exact jS _ i5
    rcases List.mem_cons.mp hq with h | hq
    · rw [h]; exact jS _ i4
    rcases List.mem_append.mp hq with hq | hq
    · exact jT _ (hf q hq).1
    · exact jS _ (iT q hq)
  · intro q hq
    have jI := jS _ iI
    rcases List.mem_cons.mp hq with h | hq
    · rw [h]; exact News.apart N' (.head _) jI (by rw [kI]; show (2 : Nat) ≠ 9; decide)
    rcases List.mem_cons.mp hq with h | hq
    · rw [h]; exact News.apart N' (.tail _ (.head _)) jI (by rw [kI, kd_dict hoD]; decide)
    rcases List.mem_cons.mp hq with h | hq
    · rw [h]; exact nl
    rcases List.mem_cons.mp hq with h | hq
    · rw [h]; exact n3
    rcases List.mem_cons.mp hq with h | hq
    · rw [h]; exact n5
    rcases List.mem_cons.mp hq with h | hq
    · rw [h]; exact n4
    rcases List.mem_append.mp hq with hq | hq
    · exact News.apart N' (jT _ (hf q hq).1) jI (by rw [kI, (hf q hq).2]; decide)
    · exact nt q hq
end Mine
namespace Mine
open PySem PySem.W PyProof.Rows
def crcI (x : Int) : Nat → Int
  | 0 => 2 ^ Int.toNat 32 - 1
  | k + 1 => crcN 8 (Builtin.bitXor (crcI x k) (Builtin.bitAnd (x.fdiv (2 ^ (8 * (0 + (k : Int))).toNat)) 255))
def wtI (c : Int) : Int := (List.map (fun k' => 1 - Builtin.bitAnd (c.fdiv (2 ^ k'.toNat)) 1) (rangeKs 0 (6 - 0 : Int).toNat)).sum
theorem wtI_bound (c : Int) : 0 ≤ wtI c ∧ wtI c ≤ 6 := by
  have e : rangeKs 0 (6 - 0 : Int).toNat = [0, 1, 2, 3, 4, 5] := by decide
  have h := fun k => bit01 (c.fdiv (2 ^ k))
  rw [wtI, e]
  simp only [List.map_cons, List.map_nil, List.sum_cons, List.sum_nil]
  have h0 := h (0 : Int).toNat
  have h1 := h (1 : Int).toNat
  have h2 := h (2 : Int).toNat
  have h3 := h (3 : Int).toNat
  have h4 := h (4 : Int).toNat
  have h5 := h (5 : Int).toNat
  omega
/-- the sums and the counts after the weights of a list -/
def bstep (b : Int × Int × Int × Int × List (Int × Int)) (w : Int) : Int × Int × Int × Int × List (Int × Int) := (1 + b.1, w + b.2.1, w ^ Int.toNat 2 + b.2.2.1, w ^ Int.toNat 3 + b.2.2.2.1, bump b.2.2.2.2 w)
def bookN (ws : List Int) : Int × Int × Int × Int × List (Int × Int) := ws.foldl bstep (0, 0, 0, 0, [])
theorem bookN_snoc (ws : List Int) (w : Int) : bookN (ws ++ [w]) = bstep (bookN ws) w := by rw [bookN, List.foldl_append]; rfl
theorem bump_length (cs : List (Int × Int)) (k : Int) : (bump cs k).length ≤ cs.length + 1 := by
  induction cs with
  | nil => exact Nat.le_refl _
  | cons q r ih =>
    obtain ⟨a, c⟩ := q
    simp only [bump]
    split
    · simp
    · simp only [List.length_cons]; omega
theorem bookN_length (ws : List Int) (i : Nat) : (bookN (ws.take i)).2.2.2.2.length ≤ i := by
  induction i with
  | zero => exact Nat.le_refl _
  | succ i ih =>
    by_cases h : i < ws.length
    · rw [List.take_succ_eq_append_getElem h, bookN_snoc]
      exact Nat.le_trans (bump_length _ _) (Nat.succ_le_succ ih)
    · rw [List.take_of_length_le (by omega)]
      rw [List.take_of_length_le (by omega)] at ih
      omega
def wtsI (ns : List Int) : List Int := ns.map fun x => wtI (crcI x 4)
theorem CVal.one_true {news : List (Addr × Obj)} {a : Addr} {k : Int} {t u : Tok} {n : Nat} (h : (a, tup2 1 k t u n) ∈ news) : CVal news true k 1 (.ref a) := by
  refine ⟨a, t, u, n, rfl, ?_⟩
  rw [Int.mul_one]
  exact h
local macro_rules | `(tactic| walk_at "call ref") => `(tactic| refine Hold.out ?_)
local macro_rules | `(tactic| walk_at "binaryOp Pow int int") => `(tactic| (with_reducible refine pow_small ?_ ?_ ?_ ?_; omega; omega; decide))
local macro_rules | `(tactic| k_all) => `(tactic| assumption)
theorem seg4 (w : World) (body : List Stmt) (scope : Scope) (cdv : Value) (qual : Str) (H : LawAt w body scope cdv qual)
    (p : Program) (loose : List Str) (mean : ExcName → Option Value) (mg mb : Str → Option Value) (A₀ : Around) (dp : Nat) (gd : Option (List Code)) (un : Nat) (outer : List Env) (base g : Heap) (L : Addr) (s : Shared)
    (B : Below A₀ base outer g) (X : (hd.heap_39 w.params).In g) (T : Top p loose mean mg mb g) (hdp : dp + 20 < recursionLimit) (hun : un + 240 < cLine) (hb : AllBare s.gens)
    (Q : Flow → Shared → Prop) (m : Str → Option Value) (od : Bool) (o4 o5 : Obj) (l : Addr) (vs : List Value) (ns : List Int) (kl : Nat) (ps : Array Value) (tl : List (Addr × Obj))
    (v4 v5 : Option Value) (h4 : o4.data = .cell v4) (h5 : o5.data = .cell v5) (hodd : m (Str.ofString "odd") = some (.bool od)) (htx : m (Str.ofString "texts") = some (.ref l)) (F : Fr g L s.heap m)
    (hvs : IntsAre vs ns) (hlen : ns.length ≤ 8) (htr : TriplesOk ps.toList)
    (N : News g L s.heap ((l, W.listOf vs.toArray kl) :: (30, tabObj ps) :: (L + 1 + 1 + 1 + 1 + 1, o5) :: (L + 1 + 1 + 1 + 1, o4) :: tl))
    (h4t : ∀ p ∈ tl, p.1 ≠ L + 1 + 1 + 1 + 1) (h5t : ∀ p ∈ tl, p.1 ≠ L + 1 + 1 + 1 + 1 + 1) (hPt : ∀ p ∈ tl, p.1 ≠ 30)
    (next : ∀ (s' : Shared) (m' : Str → Option Value) (o4 o5 : Obj) (v4 v5 : Option Value) (Bk D : Addr) (oD : Obj) (kvs : List (Int × Value)) (ps : Array Value) (rest : List (Addr × Obj)) (u1 u2 u3 u4 : Tok) (n : Nat), Rest s s' → Fr g L s'.heap m' →
      News g L s'.heap ((Bk, tup5 (bookN (wtsI ns)).1 (bookN (wtsI ns)).2.1 (bookN (wtsI ns)).2.2.1 (bookN (wtsI ns)).2.2.2.1 u1 u2 u3 u4 D n) :: (D, oD) :: (l, W.listOf vs.toArray kl) :: (30, tabObj ps) :: (L + 1 + 1 + 1 + 1 + 1, o5) :: (L + 1 + 1 + 1 + 1, o4) :: (rest ++ tl)) →
      o4.data = .cell v4 → o5.data = .cell v5 → m' (Str.ofString "odd") = some (.bool od) → m' (Str.ofString "book") = some (.ref Bk) → oD.IsDictOf (PySem.intKind PySem.Challenge.rw_pg0027_01.row.prog w) kvs → CEnt rest od kvs (bookN (wtsI ns)).2.2.2.2 →
      TriplesOk ps.toList → (D == sysModules) = false → (∀ p ∈ rest, kd p.2 = 2) →
      wpAny (model PySem.Challenge.rw_pg0027_01.row.prog w) (Ar dp gd un (envOfC qual scope L 57 cdv :: outer)) (execs (body.drop 6) (envOfC qual scope L 57 cdv)) Q NoE s') :
    wpAny (model PySem.Challenge.rw_pg0027_01.row.prog w) (Ar dp gd un (envOfC qual scope L 57 cdv :: outer)) (execs (body.drop 4) (envOfC qual scope L 57 cdv)) Q NoE s := by
  obtain ⟨name, params, dV, kV, doc, pm, an, ct, oc, od', osl, ho⟩ := H
  have X0 := X
  revert X
  w_top off
  k_fill
  intro X
  conv at ho => lhs; whnf
  cases ho
  have F := Fr.exp2' F hodd htx
  show wpAny _ _ (execs (_ :: _) _) _ _ _
  refine execs_hold ?_
  k_steps
  refine Hold.mk ?_
  refine execs_hold ?_
  refine for_hold ?_
  k_steps
  with_reducible (rename Fr _ _ _ _ => F2; rename News _ _ _ _ => N2; rename Obj.IsDictOf (PySem.intKind _ _) _ _ => hi2; rename (_ == sysModules) = false => lo2; rename _ ∧ _ ∧ _ ∧ _ ∧ _ ∧ AllLt _ _ => l2)
  rename_i D hh1 oD hs1 fs1 fi1 l1 Bk hh2 hh3
  refine Hold.mk ?_
  refine list_loopK (h₀ := g) (L := L) (s₀ := s) (ax := l) (its := vs.toArray) (fun i m' news' => ∃ (o4 o5 : Obj) (v4 v5 : Option Value) (Bk D : Addr) (oD : Obj) (kvs : List (Int × Value)) (ps : Array Value) (rest : List (Addr × Obj)) (u1 u2 u3 u4 : Tok) (n : Nat),
      news' = (Bk, tup5 (bookN ((wtsI ns).take i)).1 (bookN ((wtsI ns).take i)).2.1 (bookN ((wtsI ns).take i)).2.2.1 (bookN ((wtsI ns).take i)).2.2.2.1 u1 u2 u3 u4 D n) :: (D, oD) :: (l, W.listOf vs.toArray kl) :: (30, tabObj ps) :: (L + 1 + 1 + 1 + 1 + 1, o5) :: (L + 1 + 1 + 1 + 1, o4) :: (rest ++ tl) ∧
      o4.data = .cell v4 ∧ o5.data = .cell v5 ∧ m' (Str.ofString "odd") = some (.bool od) ∧ m' (Str.ofString "book") = some (.ref Bk) ∧ oD.IsDictOf (PySem.intKind PySem.Challenge.rw_pg0027_01.row.prog w) kvs ∧ CEnt rest od kvs (bookN ((wtsI ns).take i)).2.2.2.2 ∧
      TriplesOk ps.toList ∧ (D == sysModules) = false ∧ ∀ p ∈ rest, kd p.2 = 2) rfl ⟨rfl, _, rfl⟩ (by rintro i m₁ news₁ ⟨_, _, _, _, _, _, _, _, _, _, _, _, _, _, _, rfl, _⟩; exact .tail _ (.tail _ (.head _))) F2 N2 ⟨rfl, hb⟩
      ⟨o4, o5, v4, v5, Bk, D, oD, [], ps, [], _, _, _, _, 0, rfl, h4, h5, rfl, rfl, hi2, .nil, htr, lo2, (by intro p hp; cases hp)⟩ ?_ ?_
  · intro i v I oI m₁ news₁ s₁ hi hkI hJ F₁ N₁ off₁ r₁
    obtain ⟨o4, o5, v4, v5, Bk, D, oD, kvs, ps, rest, u1, u2, u3, u4, n, rfl, h4, h5, hmo, hmb, hdict, hCE, htr, hlo, hseq⟩ := hJ
    have F₁ := Fr.exp2' F₁ hmo hmb
    have hil : i < ns.length := by rw [← hvs.length]; exact (List.getElem?_eq_some_iff.mp (by simpa using hi)).1
    obtain ⟨t, ht⟩ := hvs.get i ns[i] (by simp [hil])
    have hvt : v = .int ns[i] t := Option.some.inj ((by simpa using hi : vs[i]? = some v).symm.trans ht)
    subst hvt
    have hwl : (wtsI ns).take (i + 1) = (wtsI ns).take i ++ [wtI (crcI ns[i] 4)] := by
      rw [wtsI, ← List.map_take, ← List.map_take, List.take_succ_eq_append_getElem hil, List.map_append]; rfl
    generalize hx : ns[i] = x at *
    generalize hbk : bookN ((wtsI ns).take i) = b at *
    obtain ⟨b1, b2, b3, b4, cs⟩ := b
    dsimp only at N₁ hCE off₁
    obtain ⟨tlx, htlx⟩ : ∃ tlx, tlx = (I, oI) :: (Bk, tup5 b1 b2 b3 b4 u1 u2 u3 u4 D n) :: (D, oD) :: (l, W.listOf vs.toArray kl) :: (rest ++ tl) := ⟨_, rfl⟩
    have k4 := kd_cell h4
    have k5 := kd_cell h5
    have kD := kd_dict hdict
    have N₂ : News g L s₁.heap ((L + 1 + 1 + 1 + 1, o4) :: (L + 1 + 1 + 1 + 1 + 1, o5) :: (30, tabObj ps) :: tlx) := News.sub' N₁ (by
      subst htlx
      exact (fc (.tail _ (.tail _ (.tail _ (.tail _ (.tail _ (.tail _ (.head _))))))) (fc (.tail _ (.tail _ (.tail _ (.tail _ (.tail _ (.head _)))))) (fc (.tail _ (.tail _ (.tail _ (.tail _ (.head _))))) (fc (.head _) (fc (.tail _ (.head _)) (fc (.tail _ (.tail _ (.head _))) (fc (.tail _ (.tail _ (.tail _ (.head _)))) (fun p hp => .tail _ (.tail _ (.tail _ (.tail _ (.tail _ (.tail _ (.tail _ (hp))))))))))))))))
    have offx : ∀ (c : Addr) (oc : Obj), (c, oc) ∈ (L + 1 + 1 + 1 + 1, o4) :: (L + 1 + 1 + 1 + 1 + 1, o5) :: (30, tabObj ps) :: tlx → kd oc = 6 → (∀ p ∈ tl, p.1 ≠ c) → ∀ p ∈ tlx, p.1 ≠ c := by
      subst htlx
      intro c oc hc hkc ht p hp
      have hp' : p ∈ (L + 1 + 1 + 1 + 1, o4) :: (L + 1 + 1 + 1 + 1 + 1, o5) :: (30, tabObj ps) :: (I, oI) :: (Bk, tup5 b1 b2 b3 b4 u1 u2 u3 u4 D n) :: (D, oD) :: (l, W.listOf vs.toArray kl) :: (rest ++ tl) := .tail _ (.tail _ (.tail _ hp))
      rcases List.mem_cons.mp hp with h | hp
      · exact News.apart N₂ hp' hc (by rw [h, hkI, hkc]; decide)
      rcases List.mem_cons.mp hp with h | hp
      · exact News.apart N₂ hp' hc (by rw [h, hkc]; show (2 : Nat) ≠ 6; decide)
      rcases List.mem_cons.mp hp with h | hp
      · exact News.apart N₂ hp' hc (by rw [h, kD, hkc]; decide)
      rcases List.mem_cons.mp hp with h | hp
      · exact News.apart N₂ hp' hc (by rw [h, hkc]; show (2 : Nat) ≠ 6; decide)
      rcases List.mem_append.mp hp with hp | hp
      · exact News.apart N₂ hp' hc (by rw [hseq p hp, hkc]; decide)
      · exact ht p hp
    have a4 := offx _ _ (.head _) k4 h4t
    have a5 := offx _ _ (.tail _ (.head _)) k5 h5t
    have hP4 := neN (News.apart N₂ (.tail _ (.tail _ (.head _))) (.head _) (by rw [k4]; show (9 : Nat) ≠ 6; decide))
    have hP5 := neN (News.apart N₂ (.tail _ (.tail _ (.head _))) (.tail _ (.head _)) (by rw [k5]; show (9 : Nat) ≠ 6; decide))
    clear N₁ N2 F2
    have hkl : kvs.length ≤ 100 := by
      have e1 := congrArg List.length hCE.keys
      simp only [List.length_map] at e1
      have e2 := bookN_length (wtsI ns) i
      rw [hbk] at e2
      simp only at e2
      omega
    have oI3 := off₁ (30, tabObj ps) (.tail _ (.tail _ (.tail _ (.head _))))
    have oI5 := off₁ (L + 1 + 1 + 1 + 1 + 1, o5) (.tail _ (.tail _ (.tail _ (.tail _ (.head _)))))
    have oI4 := off₁ (L + 1 + 1 + 1 + 1, o4) (.tail _ (.tail _ (.tail _ (.tail _ (.tail _ (.head _))))))
    have oIl := off₁ (l, W.listOf vs.toArray kl) (.tail _ (.tail _ (.head _)))
    have oIt : ∀ p ∈ tl, p.1 ≠ I := fun p hp => off₁ p (.tail _ (.tail _ (.tail _ (.tail _ (.tail _ (.tail _ (List.mem_append_right _ hp)))))))
    refine hold_fun ?_
    k_steps
    refine Hold.mk ?_
    refine execs_hold ?_
    k_steps
    refine Hold.mk ?_
    refine execs_hold ?_
    refine for_hold ?_
    k_steps
    with_reducible (rename IsRange _ _ _ _ _ _ _ _ => hr3; rename Fr _ _ _ _ => F3; rename News _ _ _ _ => N3; rename (Obj.data _ = Data.cell (some _)) => d3)
    obtain ⟨t3, d3⟩ := cell_to (b := crcI x 0) d3 rfl
    refine Hold.mk ?_
    refine range_loopK (n := 4) (h₀ := g) (L := L) (s₀ := s₁) (fun k m' news' => ∃ (o4 : Obj) (t4 : Tok), news' = (L + 1 + 1 + 1 + 1, o4) :: (L + 1 + 1 + 1 + 1 + 1, o5) :: (30, tabObj ps) :: tlx ∧ o4.data = .cell (some (.int (crcI x k) t4)) ∧
      m' (Str.ofString "text") = some (.int x t) ∧ m' (Str.ofString "odd") = some (.bool od) ∧ m' (Str.ofString "book") = some (.ref Bk)) rfl hr3 (by decide) (by decide) F3 N3 ⟨rfl, r₁.bare⟩
      ⟨_, t3, rfl, d3, rfl, rfl, rfl⟩ ?_ ?_
    · intro k tk I2 oI2 m₂ news₂ s₂ hk hkI2 hJ F₂ N₂ off₂ r₂
      obtain ⟨o4, t4, rfl, d4, hm1, hm2, hm3⟩ := hJ
      have F₂ := Fr.exp3' F₂ hm1 hm2 hm3
      have g1 := neN (off₂ _ (.head _))
      have g2 := neN (off₂ _ (.tail _ (.head _)))
      have g3 := neN (off₂ _ (.tail _ (.tail _ (.head _))))
      generalize hci : crcI x k = ci at d4
      refine hold_fun ?_
      k_steps
      refine Hold.mk ?_
      refine execs_hold ?_
      k_steps
      refine Hold.mk (genCrc_spec w _ _ _ _ _ _ _ _ _ _ _ _ _ _ _ _ _ _ _ B (by assumption) X0 (by assumption) T rfl rfl rfl rfl (by simp only; omega) (by simp only; omega) r₂.bare ?_)
      intro r s3 news3 F3 N3 r3 ps3
      obtain ⟨⟨t5, rfl⟩, rfl⟩ := ps3
      rw [show crcN 8 (Builtin.bitXor ci (Builtin.bitAnd (x.fdiv (2 ^ (8 * (0 + (k : Int))).toNat)) 255)) = crcI x (k + 1) by rw [crcI, hci]] at *
      generalize hcj : crcI x (k + 1) = cj at *
      k_steps
      with_reducible (rename Fr _ _ _ _ => F4; rename News _ _ _ _ => N4; rename (Obj.data _ = Data.cell (some (Value.int cj _))) => d5)
      refine Hold.mk (wpAny_execs_nil ⟨rfl, _, (L + 1 + 1 + 1 + 1, _) :: (L + 1 + 1 + 1 + 1 + 1, o5) :: (30, tabObj ps) :: tlx, F4, N4, six_off g1 off₂, ⟨_, _, rfl, d5, rfl, rfl, rfl⟩, r3.os.trans r₂.os, r3.bare⟩)
    · intro m₂ news₂ s₂ hJ F₂ N₂ r₂
      obtain ⟨o4, t4, rfl, d4, hm1, hm2, hm3⟩ := hJ
      have F₂ := Fr.exp3' F₂ hm1 hm2 hm3
      generalize hcj : crcI x 4 = cj at *
      refine Hold.mk ?_
      refine execs_hold ?_
      k_steps
      with_reducible (rename Fr _ _ _ _ => F4; rename News _ _ _ _ => N4; rename (Obj.data _ = Data.cell (some (Value.int (List.sum _) _))) => d5)
      obtain ⟨t6, d6⟩ := cell_to (b := wtI cj) d5 rfl
      rename_i ot5
      clear d5
      have N5 := News.sub' N4 (fun p hp => .tail _ hp)
      have hwb := wtI_bound cj
      generalize wtI cj = wt at *
      refine Hold.mk ?_
      cases od with
      | false =>
        refine execs_hold ?_
        k_steps
        show Hold _
        refine Hold.mk ?_
        refine execs_hold ?_
        k_steps
        with_reducible (rename Fr _ _ _ _ => F6; rename News _ _ _ _ => N6)
        refine kdn_eval (knd := PySem.intKind PySem.Challenge.rw_pg0027_01.row.prog w) F6 N6 (Top.nolimit T) rfl rfl (List.cons_ne_nil _ _) (Nat.le_of_ble_eq_true rfl) ?_
        intro e7 h7 oe F7 N7 l7 lo7 he7
        k_steps
        refine kdn_made_int F7 N7 (UpdF.head (fun p hp => Nat.ne_of_lt (l7 p hp))) he7 rfl (by simp [intKeyPairs]) ?_
        intro h8 oe8 F8 N8 hd8
        try dsimp only at N8
        k_steps
        with_reducible (rename Fr _ _ _ _ => F9; rename News _ _ _ _ => N9)
        generalize Array.size (Heap.objs h8) = SA at F9 N9 ⊢
        subst htlx
        obtain ⟨z1, z2, z3, z4, N9⟩ := (⟨_, _, _, _, N9⟩ : ∃ z1 z2 z3 z4, News g L _ ((SA, tup5 1 wt (wt ^ Int.toNat 2) (wt ^ Int.toNat 3) z1 z2 z3 z4 e7 0) :: _))
        refine Hold.mk (book_call w B F9 X0 T rfl rfl rfl rfl (show dp + 10 < recursionLimit by omega) (show un + 120 < cLine by omega) ?_ (extra := (SA, tup5 1 wt (wt ^ Int.toNat 2) (wt ^ Int.toNat 3) z1 z2 z3 z4 e7 0) :: (e7, oe8) :: []) (c4 := L + 1 + 1 + 1 + 1) (c5 := L + 1 + 1 + 1 + 1 + 1) (rest := rest) (tl := tl) (I := I) (Bk := Bk) (D := D) (l := l) (SA := SA) (e7 := e7) (oI := oI) (oD := oD) (ol := W.listOf vs.toArray kl) (oe := oe8) (ps := ps) (b1 := b1) (b2 := b2) (b3 := b3) (b4 := b4) (wt := wt) (u1 := u1) (u2 := u2) (u3 := u3) (u4 := u4) (n := n) (News.sub' N9 ?_) (kd_cell d4) (kd_cell d6) hkI rfl ?_ hseq oI3 oI4 oI5 oIl oIt hPt (.head _) (.tail _ (.head _)) hdict hd8 hlo lo7 htr hCE (⟨_, rfl⟩) hkl ?_)
        · exact r₂.bare
        · exact (fc (.tail _ (.tail _ (.tail _ (.tail _ (.head _))))) (fc (.head _) (fc (.tail _ (.head _)) (fc (.tail _ (.tail _ (.head _))) (fc (.tail _ (.tail _ (.tail _ (.head _)))) (fc (.tail _ (.tail _ (.tail _ (.tail _ (.tail _ (.head _)))))) (fc (.tail _ (.tail _ (.tail _ (.tail _ (.tail _ (.tail _ (.head _))))))) (fc (.tail _ (.tail _ (.tail _ (.tail _ (.tail _ (.tail _ (.tail _ (.head _)))))))) (fc (.tail _ (.tail _ (.tail _ (.tail _ (.tail _ (.tail _ (.tail _ (.tail _ (.head _))))))))) (fun p hp => .tail _ (.tail _ (.tail _ (.tail _ (.tail _ (.tail _ (.tail _ (.tail _ (.tail _ (hp)))))))))))))))))))
        · intro q hq
          simp only [List.mem_cons, List.not_mem_nil, or_false] at hq
          rcases hq with h | h
          · rw [h]; exact .inl rfl
          · rw [h]; exact .inr (kd_dict hd8)
        · intro R D' oD' kvs' ps' rest' w1 w2 w3 w4 n' s' r' F' N' off' hoD hCE' htr' lo' hs'
          k_steps
          have hbk' : bookN ((wtsI ns).take (i + 1)) = (1 + b1, wt + b2, wt ^ Int.toNat 2 + b3, wt ^ Int.toNat 3 + b4, bump cs wt) := by rw [hwl, bookN_snoc, hbk]; rfl
          rw [hbk']
          with_reducible (rename Fr _ _ _ _ => F12; rename News _ _ _ _ => N12)
          refine Hold.mk (wpAny_execs_nil ⟨rfl, _, _, F12, N12, off', ⟨o4, ot5, _, _, R, D', oD', kvs', ps', rest', w1, w2, w3, w4, n', rfl, d4, d6, rfl, rfl, hoD, hCE', htr', lo', hs'⟩, ?_, ?_⟩)
          · exact r'.os.trans (r₂.os.trans r₁.os)
          · exact r'.bare
      | true =>
        refine execs_hold ?_
        k_steps
        with_reducible (rename Fr _ _ _ _ => F5; rename News _ _ _ _ => N5)
        generalize Array.size (Heap.objs _) = TA at F5 N5
        show Hold _
        refine Hold.mk ?_
        refine execs_hold ?_
        k_steps
        with_reducible (rename Fr _ _ _ _ => F6; rename News _ _ _ _ => N6)
        refine kdn_eval (knd := PySem.intKind PySem.Challenge.rw_pg0027_01.row.prog w) F6 N6 (Top.nolimit T) rfl rfl (List.cons_ne_nil _ _) (Nat.le_of_ble_eq_true rfl) ?_
        intro e7 h7 oe F7 N7 l7 lo7 he7
        k_steps
        refine kdn_made_int F7 N7 (UpdF.head (fun p hp => Nat.ne_of_lt (l7 p hp))) he7 rfl (by simp [intKeyPairs]) ?_
        intro h8 oe8 F8 N8 hd8
        try dsimp only at N8
        k_steps
        with_reducible (rename Fr _ _ _ _ => F9; rename News _ _ _ _ => N9)
        generalize Array.size (Heap.objs h8) = SA at F9 N9 ⊢
        subst htlx
        obtain ⟨z1, z2, z3, z4, y1, y2, N9⟩ := (⟨_, _, _, _, _, _, N9⟩ : ∃ z1 z2 z3 z4 y1 y2, News g L _ ((SA, tup5 1 wt (wt ^ Int.toNat 2) (wt ^ Int.toNat 3) z1 z2 z3 z4 e7 0) :: (e7, oe8) :: (TA, tup2 1 wt y1 y2 0) :: _))
        refine Hold.mk (book_call w B F9 X0 T rfl rfl rfl rfl (show dp + 10 < recursionLimit by omega) (show un + 120 < cLine by omega) ?_ (extra := (SA, tup5 1 wt (wt ^ Int.toNat 2) (wt ^ Int.toNat 3) z1 z2 z3 z4 e7 0) :: (e7, oe8) :: (TA, tup2 1 wt y1 y2 0) :: []) (c4 := L + 1 + 1 + 1 + 1) (c5 := L + 1 + 1 + 1 + 1 + 1) (rest := rest) (tl := tl) (I := I) (Bk := Bk) (D := D) (l := l) (SA := SA) (e7 := e7) (oI := oI) (oD := oD) (ol := W.listOf vs.toArray kl) (oe := oe8) (ps := ps) (b1 := b1) (b2 := b2) (b3 := b3) (b4 := b4) (wt := wt) (u1 := u1) (u2 := u2) (u3 := u3) (u4 := u4) (n := n) (News.sub' N9 ?_) (kd_cell d4) (kd_cell d6) hkI rfl ?_ hseq oI3 oI4 oI5 oIl oIt hPt (.head _) (.tail _ (.head _)) hdict hd8 hlo lo7 htr hCE (CVal.one_true (.tail _ (.tail _ (.head _)))) hkl ?_)
        · exact r₂.bare
        · exact (fc (.tail _ (.tail _ (.tail _ (.tail _ (.tail _ (.head _)))))) (fc (.head _) (fc (.tail _ (.head _)) (fc (.tail _ (.tail _ (.head _))) (fc (.tail _ (.tail _ (.tail _ (.head _)))) (fc (.tail _ (.tail _ (.tail _ (.tail _ (.head _))))) (fc (.tail _ (.tail _ (.tail _ (.tail _ (.tail _ (.tail _ (.head _))))))) (fc (.tail _ (.tail _ (.tail _ (.tail _ (.tail _ (.tail _ (.tail _ (.head _)))))))) (fc (.tail _ (.tail _ (.tail _ (.tail _ (.tail _ (.tail _ (.tail _ (.tail _ (.head _))))))))) (fc (.tail _ (.tail _ (.tail _ (.tail _ (.tail _ (.tail _ (.tail _ (.tail _ (.tail _ (.head _)))))))))) (fun p hp => .tail _ (.tail _ (.tail _ (.tail _ (.tail _ (.tail _ (.tail _ (.tail _ (.tail _ (.tail _ (hp)))))))))))))))))))))
        · intro q hq
          simp only [List.mem_cons, List.not_mem_nil, or_false] at hq
          rcases hq with h | h | h
          · rw [h]; exact .inl rfl
          · rw [h]; exact .inr (kd_dict hd8)
          · rw [h]; exact .inl rfl
        · intro R D' oD' kvs' ps' rest' w1 w2 w3 w4 n' s' r' F' N' off' hoD hCE' htr' lo' hs'
          k_steps
          have hbk' : bookN ((wtsI ns).take (i + 1)) = (1 + b1, wt + b2, wt ^ Int.toNat 2 + b3, wt ^ Int.toNat 3 + b4, bump cs wt) := by rw [hwl, bookN_snoc, hbk]; rfl
          rw [hbk']
          with_reducible (rename Fr _ _ _ _ => F12; rename News _ _ _ _ => N12)
          refine Hold.mk (wpAny_execs_nil ⟨rfl, _, _, F12, N12, off', ⟨o4, ot5, _, _, R, D', oD', kvs', ps', rest', w1, w2, w3, w4, n', rfl, d4, d6, rfl, rfl, hoD, hCE', htr', lo', hs'⟩, ?_, ?_⟩)
          · exact r'.os.trans (r₂.os.trans r₁.os)
          · exact r'.bare
  · intro m₁ news₁ s₁ hJ F₁ N₁ r₁
    obtain ⟨o4, o5, v4, v5, Bk, D, oD, kvs, ps, rest, u1, u2, u3, u4, n, rfl, h4, h5, hmo, hmb, hdict, hCE, htr, hlo, hseq⟩ := hJ
    have e : (wtsI ns).take vs.toArray.size = wtsI ns := by
      rw [List.take_of_length_le]
      rw [wtsI, List.length_map, List.size_toArray, hvs.length]
      exact Nat.le_refl _
    rw [e] at N₁ hCE
    refine Hold.mk ?_
    exact next s₁ m₁ o4 o5 v4 v5 Bk D oD kvs ps rest u1 u2 u3 u4 n r₁ F₁ N₁ h4 h5 hmo hmb hdict hCE htr hlo hseq
end Mine
namespace Mine
open PySem PySem.W PyProof.Rows
def par (a b : Int) : Int := ((onesN 6).getD (Builtin.bitAnd a b).toNat 0).fmod 2
def keptStep (cs : List Int) (bs : Int) (ks : List Int) (row : Int) : List Int :=
  if cs.all (fun c => par row c != 1) then ks.set ((onesN 6).getD row.toNat 0).toNat (ks.getD ((onesN 6).getD row.toNat 0).toNat 0 + if par row bs = 1 then -1 else 1) else ks
def keptN (cs : List Int) (bs : Int) : Nat → List Int
  | 0 => [0, 0, 0, 0, 0, 0, 0]
  | i + 1 => keptStep cs bs (keptN cs bs i) (i : Int)
theorem keptN_length (cs : List Int) (bs : Int) : ∀ i, (keptN cs bs i).length = 7
  | 0 => rfl
  | i + 1 => by
    rw [keptN, keptStep]
    split
    · rw [List.length_set, keptN_length cs bs i]
    · exact keptN_length cs bs i
local macro_rules | `(tactic| k_all) => `(tactic| assumption)
local macro_rules | `(tactic| walk_at "eval ListComp") => `(tactic| refine Hold.out ?_)
local macro_rules | `(tactic| walk_at "CompSrcT") => `(tactic| refine Hold.out ?_)
local macro_rules | `(tactic| walk_at "subscriptTail") => `(tactic| refine Hold.out ?_)
local macro_rules | `(tactic| walk_at "getItem ref int") => `(tactic| refine Hold.out ?_)
local macro_rules | `(tactic| walk_at "setItem ref int") => `(tactic| refine Hold.out ?_)
theorem and_bound {a b : Int} (h0 : 0 ≤ a) (h1 : a < 64) (hb : 0 ≤ b) : 0 ≤ Builtin.bitAnd a b ∧ Builtin.bitAnd a b < 64 := by
  rw [bitAnd_pp h0 hb]
  have h := @Nat.and_le_left a.toNat b.toNat
  omega
/-- the picks of a row -/
def pick (r : Int) (l : List Int) (c : Int) : List Int := if par r c = 1 then l ++ [1] else l
theorem pick_nil (r : Int) : ∀ (cs l : List Int), cs.foldl (pick r) l = [] ↔ l = [] ∧ cs.all (fun c => par r c != 1) = true
  | [], l => by simp
  | c :: cs, l => by
    rw [List.foldl_cons, pick_nil r cs, List.all_cons, Bool.and_eq_true]
    unfold pick
    by_cases h : par r c = 1
    · simp [h]
    · simp [h]
theorem pick_grows (r : Int) : KPfGrows (pick r) := fun l k => by
  unfold pick
  split
  · simp
  · omega
theorem ones_bound {j : Nat} (hj : j < 64) : 0 ≤ (onesN 6).getD j 0 ∧ (onesN 6).getD j 0 ≤ 6 := kmn_in (by rw [onesN_length]; exact hj) (by decide)
theorem seg10 (w : World) (body : List Stmt) (scope : Scope) (cdv : Value) (qual : Str) (H : LawAt w body scope cdv qual)
    (p : Program) (loose : List Str) (mean : ExcName → Option Value) (mg mb : Str → Option Value) (A₀ : Around) (dp : Nat) (gd : Option (List Code)) (un : Nat) (outer : List Env) (base g : Heap) (L : Addr) (s : Shared)
    (B : Below A₀ base outer g) (X : (hd.heap_39 w.params).In g) (T : Top p loose mean mg mb g) (hdp : dp + 20 < recursionLimit) (hun : un + 240 < cLine) (hb : AllBare s.gens)
    (Q : Flow → Shared → Prop) (m : Str → Option Value) (o6 o7 o8 o9 : Obj) (Od Cd : Addr) (bs : Int) (tb : Tok) (vo vc : List Value) (cs : List Int) (ko kc : Nat) (tl : List (Addr × Obj))
    (v8 v9 : Option Value) (h6 : o6.data = .cell (some (.int bs tb))) (h7 : o7.data = .cell (some (.ref Od))) (h8 : o8.data = .cell v8) (h9 : o9.data = .cell v9) (F : Fr g L s.heap m)
    (hch : m (Str.ofString "changes") = some (.ref Cd)) (hvo : IntsAre vo (onesN 6)) (hvc : IntsAre vc cs) (hcl : cs.length = 3) (hcb : ∀ c ∈ cs, 0 ≤ c ∧ c < 64) (hbb : 0 ≤ bs ∧ bs < 64)
    (N : News g L s.heap ((Od, W.listOf vo.toArray ko) :: (Cd, W.listOf vc.toArray kc) :: (L + 1 + 1 + 1 + 1 + 1 + 1 + 1 + 1 + 1, o9) :: (L + 1 + 1 + 1 + 1 + 1 + 1 + 1 + 1, o8) :: (L + 1 + 1 + 1 + 1 + 1 + 1 + 1, o7) :: (L + 1 + 1 + 1 + 1 + 1 + 1, o6) :: tl))
    (h8t : ∀ p ∈ tl, p.1 ≠ L + 1 + 1 + 1 + 1 + 1 + 1 + 1 + 1) (h9t : ∀ p ∈ tl, p.1 ≠ L + 1 + 1 + 1 + 1 + 1 + 1 + 1 + 1 + 1)
    (hO8 : @Ne Nat Od (L + 1 + 1 + 1 + 1 + 1 + 1 + 1 + 1)) (hO9 : @Ne Nat Od (L + 1 + 1 + 1 + 1 + 1 + 1 + 1 + 1 + 1)) (hC8 : @Ne Nat Cd (L + 1 + 1 + 1 + 1 + 1 + 1 + 1 + 1)) (hC9 : @Ne Nat Cd (L + 1 + 1 + 1 + 1 + 1 + 1 + 1 + 1 + 1))
    (next : ∀ (s' : Shared) (m' : Str → Option Value) (o8 o9 : Obj) (v9 : Option Value) (K : Addr) (ks : List Value) (kk : Nat), Rest s s' → Fr g L s'.heap m' →
      News g L s'.heap ((K, W.listOf ks.toArray kk) :: (Od, W.listOf vo.toArray ko) :: (Cd, W.listOf vc.toArray kc) :: (L + 1 + 1 + 1 + 1 + 1 + 1 + 1 + 1 + 1, o9) :: (L + 1 + 1 + 1 + 1 + 1 + 1 + 1 + 1, o8) :: (L + 1 + 1 + 1 + 1 + 1 + 1 + 1, o7) :: (L + 1 + 1 + 1 + 1 + 1 + 1, o6) :: tl) →
      o8.data = .cell (some (.ref K)) → o9.data = .cell v9 → (∀ x, m' x = m x) → IntsAre ks (keptN cs bs 64) →
      wpAny (model PySem.Challenge.rw_pg0027_01.row.prog w) (Ar dp gd un (envOfC qual scope L 57 cdv :: outer)) (execs (body.drop 12) (envOfC qual scope L 57 cdv)) Q NoE s') :
    wpAny (model PySem.Challenge.rw_pg0027_01.row.prog w) (Ar dp gd un (envOfC qual scope L 57 cdv :: outer)) (execs (body.drop 10) (envOfC qual scope L 57 cdv)) Q NoE s := by
  obtain ⟨name, params, dV, kV, doc, pm, an, ct, oc, od', osl, ho⟩ := H
  revert X
  w_top off
  k_fill
  intro X
  conv at ho => lhs; whnf
  cases ho
  have F := Fr.exp' F hch
  show wpAny _ _ (execs (_ :: _) _) _ _ _
  refine execs_hold ?_
  k_steps
  refine Hold.mk ?_
  refine execs_hold ?_
  refine for_hold ?_
  k_steps
  with_reducible (rename _ ∧ _ ∧ _ ∧ _ ∧ _ ∧ _ ∧ AllLt _ _ => l1; rename IsRange _ _ _ _ _ _ _ _ => hr2; rename Fr _ _ _ _ => F2; rename News _ _ _ _ => N2; rename (Obj.data _ = Data.cell (some (Value.ref _))) => d2)
  rename_i K _ _ o8' _ _ _ _ _ _ _ _
  have hl1 := allLt_mem l1.2.2.2.2.2.2
  refine Hold.mk ?_
  refine range_loopK (n := 64) (h₀ := g) (L := L) (s₀ := s) (fun i m' news' => ∃ (o9 : Obj) (v9 : Option Value) (ks : List Value) (kk : Nat), news' = (K, W.listOf ks.toArray kk) :: (Od, W.listOf vo.toArray ko) :: (Cd, W.listOf vc.toArray kc) :: (L + 1 + 1 + 1 + 1 + 1 + 1 + 1 + 1 + 1, o9) :: (L + 1 + 1 + 1 + 1 + 1 + 1 + 1 + 1, o8') :: (L + 1 + 1 + 1 + 1 + 1 + 1 + 1, o7) :: (L + 1 + 1 + 1 + 1 + 1 + 1, o6) :: tl ∧ o9.data = .cell v9 ∧
      (∀ x, m' x = m x) ∧ IntsAre ks (keptN cs bs i)) rfl hr2 (by decide) (by decide) F2 N2 ⟨rfl, hb⟩
      ⟨_, _, _, 0, rfl, h9, (fun x => by split; (rename_i q; rw [q, hch]); rfl), .cons _ _ (.cons _ _ (.cons _ _ (.cons _ _ (.cons _ _ (.cons _ _ (.cons _ _ .nil))))))⟩ ?_ ?_
  · intro i t I oI m₁ news₁ s₁ hi hkI hJ F₁ N₁ off₁ r₁
    obtain ⟨o9, v9, ks, kk, rfl, h9, hm, hks⟩ := hJ
    have F₁ := Fr.exp' F₁ ((hm _).trans hch)
    have k9 := kd_cell h9
    have q1 := neN (News.apart N₁ (.tail _ (.head _)) (.tail _ (.tail _ (.tail _ (.tail _ (.head _))))) (by rw [k9]; show (2 : Nat) ≠ 6; decide))
    have q2 := neN (off₁ _ (.tail _ (.tail _ (.tail _ (.head _)))))
    have offT : ∀ p ∈ tl, p.1 ≠ I := fun p hp => off₁ p (.tail _ (.tail _ (.tail _ (.tail _ (.tail _ (.tail _ (.tail _ hp)))))))
    have aK : ∀ o p, p ∈ (Od, W.listOf vo.toArray ko) :: (Cd, W.listOf vc.toArray kc) :: (L + 1 + 1 + 1 + 1 + 1 + 1 + 1 + 1 + 1, o) :: (L + 1 + 1 + 1 + 1 + 1 + 1 + 1 + 1, o8') :: (L + 1 + 1 + 1 + 1 + 1 + 1 + 1, o7) :: (L + 1 + 1 + 1 + 1 + 1 + 1, o6) :: tl → p.1 ≠ K := by
      intro o p hp
      obtain ⟨a1, a2, a3, a4, a5, a6, _⟩ := l1
      rcases List.mem_cons.mp hp with h | hp
      · rw [h]; exact Nat.ne_of_lt a1
      rcases List.mem_cons.mp hp with h | hp
      · rw [h]; exact Nat.ne_of_lt a2
      rcases List.mem_cons.mp hp with h | hp
      · rw [h]; exact Nat.ne_of_lt a3
      rcases List.mem_cons.mp hp with h | hp
      · rw [h]; exact Nat.ne_of_lt a4
      rcases List.mem_cons.mp hp with h | hp
      · rw [h]; exact Nat.ne_of_lt a5
      rcases List.mem_cons.mp hp with h | hp
      · rw [h]; exact Nat.ne_of_lt a6
      · exact Nat.ne_of_lt (hl1 p hp)
    have aI := Ne.symm (off₁ _ (.head _))
    have offO : ∀ p ∈ (Od, W.listOf vo.toArray ko) :: (Cd, W.listOf vc.toArray kc) :: (L + 1 + 1 + 1 + 1 + 1 + 1 + 1 + 1 + 1, o9) :: (L + 1 + 1 + 1 + 1 + 1 + 1 + 1 + 1, o8') :: (L + 1 + 1 + 1 + 1 + 1 + 1 + 1, o7) :: (L + 1 + 1 + 1 + 1 + 1 + 1, o6) :: tl, p.1 ≠ I := fun p hp => off₁ p (.tail _ hp)
    have offN : ∀ (o o' : Obj) p, p ∈ (K, o') :: (Od, W.listOf vo.toArray ko) :: (Cd, W.listOf vc.toArray kc) :: (L + 1 + 1 + 1 + 1 + 1 + 1 + 1 + 1 + 1, o) :: (L + 1 + 1 + 1 + 1 + 1 + 1 + 1 + 1, o8') :: (L + 1 + 1 + 1 + 1 + 1 + 1 + 1, o7) :: (L + 1 + 1 + 1 + 1 + 1 + 1, o6) :: tl → p.1 ≠ I := by
      intro o o' p hp
      rcases List.mem_cons.mp hp with h | hp
      · rw [h]; exact Ne.symm aI
      rcases List.mem_cons.mp hp with h | hp
      · exact offO p (h ▸ .head _)
      rcases List.mem_cons.mp hp with h | hp
      · exact offO p (h ▸ .tail _ (.head _))
      rcases List.mem_cons.mp hp with h | hp
      · rw [h]; exact q2
      · exact offO p (.tail _ (.tail _ (.tail _ hp)))
    refine hold_fun ?_
    k_steps
    with_reducible (rename Fr _ _ _ _ => F3; rename News _ _ _ _ => N3; rename (Obj.data _ = Data.cell (some (Value.int (0 + _) _))) => d3)
    obtain ⟨t3, d3⟩ := cell_to (b := (i : Int)) d3 (Int.zero_add _)
    rename_i o3 _
    refine Hold.mk ?_
    refine execs_hold ?_
    k_steps
    refine Hold.mk (LCt.ListComp_T F3 (by with_unfolding_all rfl) (by decide) (by rfl) (by decide) (by rfl) ?_)
    k_steps
    have hsz : vc.toArray.size ≤ sizeLine := by rw [sizeLine_eq, List.size_toArray, hvc.length, hcl]; decide
    refine Hold.mk (LCt.CompSrcT.ledger rfl F3 N3 (.tail _ (.tail _ (.tail _ (.head _)))) hsz ?_)
    intro g'
    refine' kci_list (pick (i : Int)) hvc (fun k' t' I' oI' C' oC' D' m' ys' l' h' tk' E' hk' hI' hC' hx' F' N' off' ne' hMark' => ?_) (fun ys hys hyl => ?_) ?_
    · have hkb := hcb k' hk'
      have hib := and_bound (a := (i : Int)) (b := k') (by omega) (by omega) hkb.1
      k_steps
      refine Hold.mk (ksa_sub N' (.tail _ (.tail _ (.tail _ (.tail _ (.tail _ (.head _)))))) hvo hib.1 (by rw [onesN_length]; exact hib.2) (by omega) ?_)
      intro tq
      k_steps
      · with_reducible (rename (Int.fmod _ _ = 1) => c1)
        exact ⟨h', _, _, rfl, F', N', off', .inr ⟨_, .tail _ (.tail _ (.tail _ (.head _))), rfl, _, rfl⟩, kci_el (if_pos c1) rfl rfl⟩
      · with_reducible (rename (Int.fmod _ _ ≠ 1) => c1)
        exact ⟨h', _, _, rfl, F', N', off', .inr ⟨_, .tail _ (.tail _ (.tail _ (.head _))), rfl, _, rfl⟩, kci_no (if_neg c1) rfl⟩
    · k_steps
      · with_reducible (rename (decide _ = true) => c1; rename Fr _ _ _ _ => F4; rename News _ _ _ _ => N4)
        have c1 := ((pick_nil _ _ _).mp (of_decide_eq_true c1)).2
        have hob := ones_bound hi
        refine Hold.mk (ksa_sub N4 (.tail _ (.tail _ (.tail _ (.tail _ (.head _))))) hvo (by omega) (by rw [onesN_length]; omega) (by omega) ?_)
        intro tq
        rw [Int.toNat_natCast]
        generalize hq : (onesN 6).getD i 0 = q at *
        k_steps
        refine Hold.mk (ksa_get N4 (.tail _ (.tail _ (.tail _ (.head _)))) hks hob.1 (by rw [keptN_length]; omega) (by omega) ?_)
        intro tk
        have hib := and_bound (a := (i : Int)) (b := bs) (by omega) (by omega) hbb.1
        k_steps
        refine Hold.mk (ksa_sub N4 (.tail _ (.tail _ (.tail _ (.tail _ (.head _))))) hvo hib.1 (by rw [onesN_length]; exact hib.2) (by omega) ?_)
        intro tr
        k_steps
        · with_reducible (rename (Int.fmod _ _ = 1) => c2)
          refine ksa_set F4 (News.sub' N4 (fun p hp => .tail _ (.tail _ hp))) (Upd.tail aI (Upd.head (aK _))) hks hob.1 (by rw [keptN_length]; omega) (by omega) ?_
          intro h5 F5 N5 i5 _ _
          k_steps
          refine Hold.mk (wpAny_execs_nil ⟨rfl, _, _, F5, N5, offN _ _, ⟨o3, _, _, kk, rfl, d3, (fun x => by split; (rename_i e; rw [e, hch]); exact hm x), ?_⟩, r₁.os, r₁.bare⟩)
          rw [keptN, keptStep, if_pos c1, Int.toNat_natCast, hq, if_pos (show par (i : Int) bs = 1 from c2)]
          exact i5
        · with_reducible (rename (Int.fmod _ _ ≠ 1) => c2)
          refine ksa_set F4 (News.sub' N4 (fun p hp => .tail _ (.tail _ hp))) (Upd.tail aI (Upd.head (aK _))) hks hob.1 (by rw [keptN_length]; omega) (by omega) ?_
          intro h5 F5 N5 i5 _ _
          k_steps
          refine Hold.mk (wpAny_execs_nil ⟨rfl, _, _, F5, N5, offN _ _, ⟨o3, _, _, kk, rfl, d3, (fun x => by split; (rename_i e; rw [e, hch]); exact hm x), ?_⟩, r₁.os, r₁.bare⟩)
          rw [keptN, keptStep, if_pos c1, Int.toNat_natCast, hq, if_neg (show ¬ par (i : Int) bs = 1 from c2)]
          exact i5
      · with_reducible (rename (decide _ = false) => c1; rename Fr _ _ _ _ => F4; rename News _ _ _ _ => N4)
        have c1 : ¬ (cs.all (fun c => par (i : Int) c != 1) = true) := fun h => of_decide_eq_false c1 ((pick_nil _ _ _).mpr ⟨rfl, h⟩)
        show Hold _
        refine Hold.mk (wpAny_execs_nil ⟨rfl, _, _, F4, News.sub' N4 (fun p hp => .tail _ (.tail _ hp)), offN _ _, ⟨o3, _, ks, kk, rfl, d3, (fun x => by split; (rename_i e; rw [e, hch]); exact hm x), ?_⟩, r₁.os, r₁.bare⟩)
        rw [keptN, keptStep, if_neg c1]
        exact hks
    · exact pick_grows _
  · intro m₁ news₁ s₁ hJ F₁ N₁ r₁
    obtain ⟨o9, v9, ks, kk, rfl, h9, hm, hks⟩ := hJ
    refine Hold.mk ?_
    exact next s₁ m₁ o8' o9 v9 K ks kk r₁ F₁ N₁ d2 h9 hm hks
end Mine
namespace Mine
open PySem PySem.W PyProof.Rows
local macro_rules | `(tactic| k_all) => `(tactic| assumption)
local macro_rules | `(tactic| walk_at "call ref") => `(tactic| refine Hold.out ?_)
local macro_rules | `(tactic| walk_at "eval ListComp") => `(tactic| refine Hold.out ?_)
local macro_rules | `(tactic| walk_at "CompSrc") => `(tactic| refine Hold.out ?_)
local macro_rules | `(tactic| walk_at "subscriptTail") => `(tactic| refine Hold.out ?_)
local macro_rules | `(tactic| walk_at "setItem ref int") => `(tactic| refine Hold.out ?_)
local macro_rules | `(tactic| walk_at "binaryOp Mult int int") => `(tactic| refine Hold.out ?_)
def oftenI (ks : List Int) (j : Nat) : Int := Int.fdiv (List.map (fun k' : Int => ks.getD k'.toNat 0 * (poly k'.toNat 6).getD j 0) (rangeKs 0 (7 - 0 : Int).toNat)).sum 8
def tabN (ks : List Int) : Nat → List (Int × Int)
  | 0 => []
  | i + 1 => if oftenI ks i = 0 then tabN ks i else tabN ks i ++ [((i : Int), oftenI ks i)]
theorem tabN_keys (ks : List Int) : ∀ i, ∀ q ∈ tabN ks i, q.1 < (i : Int)
  | 0, q, h => by cases h
  | i + 1, q, h => by
    rw [tabN] at h
    split at h
    · have := tabN_keys ks i q h; omega
    · rcases List.mem_append.mp h with h | h
      · have := tabN_keys ks i q h; omega
      · rw [List.mem_singleton.mp h]; show (i : Int) < ((i + 1 : Nat) : Int); omega
theorem tabN_length (ks : List Int) : ∀ i, (tabN ks i).length ≤ i
  | 0 => Nat.le_refl _
  | i + 1 => by
    have := tabN_length ks i
    rw [tabN]
    split
    · omega
    · rw [List.length_append, List.length_singleton]; omega
theorem CEnt.app {news : List (Addr × Obj)} {odd : Bool} {kvs : List (Int × Value)} {cs : List (Int × Int)} {k c : Int} {v : Value} (h : CEnt news odd kvs cs) (hv : CVal news odd k c v) : CEnt news odd (kvs ++ [(k, v)]) (cs ++ [(k, c)]) := by
  induction h with
  | nil => exact .cons hv .nil
  | cons hu _ ih => exact .cons hu ih
theorem CEnt.fresh {news : List (Addr × Obj)} {odd : Bool} {kvs : List (Int × Value)} {ks : List Int} {i : Nat} (h : CEnt news odd kvs (tabN ks i)) : valueAt kvs (i : Int) = none := by
  rw [valueAt_none, h.keys]
  intro hm
  obtain ⟨q, hq, e⟩ := List.mem_map.mp hm
  have := tabN_keys ks i q hq
  omega
theorem CEnt.len {news : List (Addr × Obj)} {odd : Bool} {kvs : List (Int × Value)} {ks : List Int} {i : Nat} (h : CEnt news odd kvs (tabN ks i)) : kvs.length ≤ i := by
  have e := congrArg List.length h.keys
  rw [List.length_map, List.length_map] at e
  rw [e]
  exact tabN_length ks i
theorem seg12 (w : World) (body : List Stmt) (scope : Scope) (cdv : Value) (qual : Str) (H : LawAt w body scope cdv qual)
    (p : Program) (loose : List Str) (mean : ExcName → Option Value) (mg mb : Str → Option Value) (A₀ : Around) (dp : Nat) (gd : Option (List Code)) (un : Nat) (outer : List Env) (base g : Heap) (L : Addr) (s : Shared)
    (B : Below A₀ base outer g) (X : (hd.heap_39 w.params).In g) (T : Top p loose mean mg mb g) (hdp : dp + 20 < recursionLimit) (hun : un + 240 < cLine) (hb : AllBare s.gens)
    (Q : Flow → Shared → Prop) (m : Str → Option Value) (od : Bool) (o5 o8 o10 : Obj) (K : Addr) (vk : List Value) (ks : List Int) (kk : Nat) (tl : List (Addr × Obj))
    (v5 v10 : Option Value) (h5 : o5.data = .cell v5) (h8 : o8.data = .cell (some (.ref K))) (h10 : o10.data = .cell v10) (hodd : m (Str.ofString "odd") = some (.bool od)) (F : Fr g L s.heap m)
    (hks : IntsAre vk ks) (hkl : ks.length = 7) (hkb : ∀ j, -1000 ≤ ks.getD j 0 ∧ ks.getD j 0 ≤ 1000)
    (N : News g L s.heap ((K, W.listOf vk.toArray kk) :: (L + 1 + 1 + 1 + 1 + 1 + 1 + 1 + 1 + 1 + 1, o10) :: (L + 1 + 1 + 1 + 1 + 1 + 1 + 1 + 1, o8) :: (L + 1 + 1 + 1 + 1 + 1, o5) :: tl))
    (h5t : ∀ p ∈ tl, p.1 ≠ L + 1 + 1 + 1 + 1 + 1) (h10t : ∀ p ∈ tl, p.1 ≠ L + 1 + 1 + 1 + 1 + 1 + 1 + 1 + 1 + 1 + 1)
    (next : ∀ (s' : Shared) (m' : Str → Option Value) (D3 : Addr) (o3 o5 : Obj) (v5 : Option Value) (kvs : List (Int × Value)) (extra : List (Addr × Obj)), Rest s s' → Fr g L s'.heap m' →
      News g L s'.heap ((D3, o3) :: (L + 1 + 1 + 1 + 1 + 1, o5) :: (K, W.listOf vk.toArray kk) :: (L + 1 + 1 + 1 + 1 + 1 + 1 + 1 + 1, o8) :: (extra ++ tl)) →
      o5.data = .cell v5 → m' (Str.ofString "table") = some (.ref D3) → m' (Str.ofString "odd") = some (.bool od) → (∀ x, x ≠ Str.ofString "table" → x ≠ Str.ofString "often" → m' x = m x) →
      o3.IsDictOf (PySem.intKind PySem.Challenge.rw_pg0027_01.row.prog w) kvs → (D3 == sysModules) = false → CEnt extra od kvs (tabN ks 7) → (∀ p ∈ extra, kd p.2 = 2) →
      wpAny (model PySem.Challenge.rw_pg0027_01.row.prog w) (Ar dp gd un (envOfC qual scope L 57 cdv :: outer)) (execs (body.drop 15) (envOfC qual scope L 57 cdv)) Q NoE s') :
    wpAny (model PySem.Challenge.rw_pg0027_01.row.prog w) (Ar dp gd un (envOfC qual scope L 57 cdv :: outer)) (execs (body.drop 12) (envOfC qual scope L 57 cdv)) Q NoE s := by
  obtain ⟨name, params, dV, kV, doc, pm, an, ct, oc, od', osl, ho⟩ := H
  have X0 := X
  revert X
  w_top off
  k_fill
  intro X
  conv at ho => lhs; whnf
  cases ho
  have F := Fr.exp' F hodd
  show wpAny _ _ (execs (_ :: _) _) _ _ _
  refine execs_hold ?_
  k_steps
  with_reducible (rename Fr _ _ _ _ => F1; rename News _ _ _ _ => N1)
  refine Hold.mk (steps_spec w _ _ _ _ _ _ _ _ _ _ _ _ _ _ _ _ _ B F1 X0 N1 T rfl rfl rfl rfl (by simp only; omega) (by simp only; omega) hb ?_)
  intro r s2 news2 F2 N2 r2 ps2
  obtain ⟨S, kS, rs, rfl, rfl, hrl, hrow, _, _⟩ := ps2
  have k5 := kd_cell h5
  have k8 := kd_cell h8
  have k10 := kd_cell h10
  have hrk : ∀ q ∈ rowsL rs, kd q.2 = 2 := fun q hq => by
    obtain ⟨a, _, rfl⟩ := List.mem_map.mp hq
    rfl
  have mrow : ∀ (j : Nat) q, rs[j]? = some q → (q.1, W.listOf q.2.1.toArray q.2.2) ∈ rowsL rs := fun j q hq => List.mem_map.mpr ⟨q, List.mem_of_getElem? hq, rfl⟩
  generalize hrv : rowsL rs = rv at *
  have N3 := News.sub' (news' := (L + 1 + 1 + 1 + 1 + 1 + 1 + 1 + 1 + 1 + 1, o10) :: (S, W.listOf (refsL rs).toArray kS) :: (K, W.listOf vk.toArray kk) :: (L + 1 + 1 + 1 + 1 + 1 + 1 + 1 + 1, o8) :: (L + 1 + 1 + 1 + 1 + 1, o5) :: (rv ++ tl)) N2 (fc (.tail _ (List.mem_append_right _ (.tail _ (.head _)))) (fc (.head _) (fc (.tail _ (List.mem_append_right _ (.head _))) (fc (.tail _ (List.mem_append_right _ (.tail _ (.tail _ (.head _))))) (fc (.tail _ (List.mem_append_right _ (.tail _ (.tail _ (.tail _ (.head _)))))) (fun p hp => (List.mem_append.mp hp).elim (fun h => .tail _ (List.mem_append_left _ h)) (fun h => .tail _ (List.mem_append_right _ (.tail _ (.tail _ (.tail _ (.tail _ (h)))))))))))))
  have offc : ∀ (c : Addr) (oc : Obj), (c, oc) ∈ (L + 1 + 1 + 1 + 1 + 1 + 1 + 1 + 1 + 1 + 1, o10) :: (S, W.listOf (refsL rs).toArray kS) :: (K, W.listOf vk.toArray kk) :: (L + 1 + 1 + 1 + 1 + 1 + 1 + 1 + 1, o8) :: (L + 1 + 1 + 1 + 1 + 1, o5) :: (rv ++ tl) → kd oc = 6 → (∀ p ∈ tl, p.1 ≠ c) → (∀ p ∈ rv ++ tl, p.1 ≠ c) ∧ @Ne Nat S c ∧ @Ne Nat K c := by
    intro c oc hc hkc ht
    refine ⟨fun p hp => ?_, News.apart N3 (.tail _ (.head _)) hc (by rw [hkc]; show (2 : Nat) ≠ 6; decide), News.apart N3 (.tail _ (.tail _ (.head _))) hc (by rw [hkc]; show (2 : Nat) ≠ 6; decide)⟩
    rcases List.mem_append.mp hp with h | h
    · exact News.apart N3 (.tail _ (.tail _ (.tail _ (.tail _ (.tail _ hp))))) hc (by rw [hrk p h, hkc]; decide)
    · exact ht p h
  obtain ⟨t5, s5, q5⟩ := offc _ _ (.tail _ (.tail _ (.tail _ (.tail _ (.head _))))) k5 h5t
  obtain ⟨t10, s10, q10⟩ := offc _ _ (.head _) k10 h10t
  clear N2
  obtain ⟨tlr, htlr⟩ : ∃ tlr, tlr = rv ++ tl := ⟨_, rfl⟩
  rw [← htlr] at N3 t5 t10
  k_steps
  refine Hold.mk ?_
  refine execs_hold ?_
  k_steps
  refine Hold.mk ?_
  refine execs_hold ?_
  refine for_hold ?_
  k_steps
  with_reducible (rename _ ∧ _ ∧ _ ∧ _ ∧ _ ∧ AllLt _ _ => l1; rename IsRange _ _ _ _ _ _ _ _ => hr3; rename Fr _ _ _ _ => F3; rename News _ _ _ _ => N4; rename (Obj.data _ = Data.cell (some (Value.ref S))) => d10; rename Obj.IsDictOf (PySem.intKind _ _) _ _ => hi3; rename (_ == sysModules) = false => lo3)
  rename_i o10' D3 _ o3' _ _ _ _ _ _ _ _ _ _ _ _
  have hl1 := allLt_mem l1.2.2.2.2.2
  obtain ⟨a10, aS, aK, a8, a5, _⟩ := l1
  refine Hold.mk ?_
  refine range_loopK (n := 7) (h₀ := g) (L := L) (s₀ := s) (fun i m' news' => ∃ (o3 o5 : Obj) (v5 : Option Value) (kvs : List (Int × Value)) (extra : List (Addr × Obj)), news' = (D3, o3) :: (L + 1 + 1 + 1 + 1 + 1, o5) :: (L + 1 + 1 + 1 + 1 + 1 + 1 + 1 + 1 + 1 + 1, o10') :: (S, W.listOf (refsL rs).toArray kS) :: (K, W.listOf vk.toArray kk) :: (L + 1 + 1 + 1 + 1 + 1 + 1 + 1 + 1, o8) :: (extra ++ tlr) ∧
      o5.data = .cell v5 ∧ m' (Str.ofString "table") = some (.ref D3) ∧ m' (Str.ofString "odd") = some (.bool od) ∧ (∀ x, x ≠ Str.ofString "table" → x ≠ Str.ofString "often" → m' x = m x) ∧ o3.IsDictOf (PySem.intKind PySem.Challenge.rw_pg0027_01.row.prog w) kvs ∧ CEnt extra od kvs (tabN ks i) ∧ ∀ p ∈ extra, kd p.2 = 2)
      rfl hr3 (by decide) (by decide) F3 (News.sub' N4 ?_) r2.heap ⟨_, o5, v5, [], [], rfl, h5, rfl, rfl, (fun x h1 h2 => by rw [if_neg h1]; split; (rename_i e; rw [e, hodd]); rfl), hi3, .nil, (by intro p hp; cases hp)⟩ ?_ ?_
  · exact (fc (.head _) (fc (.tail _ (.tail _ (.tail _ (.tail _ (.tail _ (.head _)))))) (fc (.tail _ (.head _)) (fc (.tail _ (.tail _ (.head _))) (fc (.tail _ (.tail _ (.tail _ (.head _)))) (fc (.tail _ (.tail _ (.tail _ (.tail _ (.head _))))) (fun p hp => .tail _ (.tail _ (.tail _ (.tail _ (.tail _ (.tail _ (hp)))))))))))))
  · intro i t I oI m₁ news₁ s₁ hi hkI hJ F₁ N₁ off₁ r₁
    obtain ⟨o3, o5, v5, kvs, extra, rfl, h5, hm1, hm2, hm3, hd3, hCE, hex⟩ := hJ
    have F₁ := Fr.exp2' F₁ hm1 hm2
    have k5 := kd_cell h5
    have e5 : ∀ p ∈ extra ++ tlr, p.1 ≠ L + 1 + 1 + 1 + 1 + 1 := fun p hp => by
      rcases List.mem_append.mp hp with h | h
      · exact News.apart N₁ (.tail _ (.tail _ (.tail _ (.tail _ (.tail _ (.tail _ (.tail _ hp))))))) (.tail _ (.tail _ (.head _))) (by rw [hex p h, k5]; decide)
      · exact t5 p h
    have offT : ∀ p ∈ extra ++ tlr, p.1 ≠ I := fun p hp => off₁ p (.tail _ (.tail _ (.tail _ (.tail _ (.tail _ (.tail _ hp))))))
    have q1 := neN (off₁ _ (.tail _ (.head _)))
    have eD : ∀ p ∈ extra ++ tlr, p.1 ≠ D3 := fun p hp => by
      rcases List.mem_append.mp hp with h | h
      · exact News.apart N₁ (.tail _ (.tail _ (.tail _ (.tail _ (.tail _ (.tail _ (.tail _ hp))))))) (.tail _ (.head _)) (by rw [hex p h, kd_dict hd3]; decide)
      · exact Nat.ne_of_lt (hl1 p h)
    have q2 := neN (off₁ _ (.head _))
    obtain ⟨tlx, htlx⟩ : ∃ tlx, tlx = extra ++ tlr := ⟨_, rfl⟩
    rw [← htlx] at N₁ e5 offT eD
    refine hold_fun ?_
    k_steps
    with_reducible (rename Fr _ _ _ _ => F4; rename News _ _ _ _ => N5; rename (Obj.data _ = Data.cell (some (Value.int (0 + _) _))) => d5)
    obtain ⟨tv5, d5⟩ := cell_to (b := (i : Int)) d5 (Int.zero_add _)
    rename_i o5' _
    refine Hold.mk ?_
    refine execs_hold ?_
    k_steps
    refine Hold.mk (LCg.ListComp_U F4 (by with_unfolding_all rfl) (by decide) (by rfl) (by decide) (by rfl) ?_)
    k_steps
    with_reducible (rename IsRange _ _ _ _ _ _ _ _ => hr6; rename Fr _ _ _ _ => F6; rename News _ _ _ _ => N6)
    refine Hold.mk (LCg.CompSrc.range rfl F6 N6 hr6 (by decide) (rangeSize_nat _ _) (Nat.le_of_ble_eq_true rfl) ?_)
    intro g'
    refine' kcf_range (fun k' : Int => ks.getD k'.toNat 0 * (poly k'.toNat 6).getD i 0) (fun k' t' I' oI' C' oC' D' m' ys' h' tk' E' hlo' hhi' hC' hx' F' N' off' ne' hMark' => ?_) ?_
    · k_steps
      have hj : k'.toNat < rs.length := by rw [hrl]; omega
      have hrj : rs[k'.toNat]? = some rs[k'.toNat] := List.getElem?_eq_getElem hj
      have hri := hrow _ _ hrj
      have hrm : (rs[k'.toNat].1, W.listOf rs[k'.toNat].2.1.toArray rs[k'.toNat].2.2) ∈ tlx := by
        rw [htlx, htlr]
        exact List.mem_append_right _ (List.mem_append_left _ (mrow _ _ hrj))
      have hrf : (refsL rs)[k'.toNat]? = some (Value.ref rs[k'.toNat].1) := by rw [refsL, List.getElem?_map, hrj]; rfl
      generalize rs[k'.toNat] = row at hri hrm hrf
      obtain ⟨ra, rv', rn⟩ := row
      refine Hold.mk (kim_list N' (.tail _ (.tail _ (.tail _ (.tail _ (.tail _ (.tail _ (.tail _ (.head _)))))))) rfl rfl hlo' (by omega) hrf ?_)
      k_steps
      refine Hold.mk (ksa_sub N' (.tail _ (.tail _ (.tail _ (.tail _ (.tail _ (.tail _ (.tail _ (.tail _ (.tail _ (.tail _ hrm)))))))))) hri (by omega) (by rw [poly_length]; omega) (by omega) ?_)
      intro tq
      rw [Int.toNat_natCast]
      have hb1 := hkb k'.toNat
      k_steps
      refine Hold.mk (mul_left (by omega) (by omega) ?_)
      k_steps
    · unfold KPfDone
      intro ys hys
      k_steps
      with_reducible (rename Fr _ _ _ _ => F7; rename News _ _ _ _ => N7)
      have N8 := News.sub' N7 (fun p hp => .tail _ hp)
      have F8 := Fr.congr' F7 (m' := fun y => if y = Str.ofString "often" then some (.int (oftenI ks i) _) else if y = Str.ofString "table" then some (Value.ref D3) else if y = Str.ofString "odd" then some (Value.bool od) else m₁ y) (fun y => rfl)
      clear F7 N7
      generalize hof : oftenI ks i = oft at *
      refine Hold.mk ?_
      refine hold_fun ?_
      have offN : ∀ (o o' : Obj) (ex : List (Addr × Obj)), (∀ p ∈ ex ++ tlr, p.1 ≠ I) → ∀ p ∈ (D3, o) :: (L + 1 + 1 + 1 + 1 + 1, o') :: (L + 1 + 1 + 1 + 1 + 1 + 1 + 1 + 1 + 1 + 1, o10') :: (S, W.listOf (refsL rs).toArray kS) :: (K, W.listOf vk.toArray kk) :: (L + 1 + 1 + 1 + 1 + 1 + 1 + 1 + 1, o8) :: (ex ++ tlr), p.1 ≠ I := by
        intro o o' ex hh p hp
        rcases List.mem_cons.mp hp with h | hp
        · rw [h]; exact q2
        rcases List.mem_cons.mp hp with h | hp
        · rw [h]; exact q1
        rcases List.mem_cons.mp hp with h | hp
        · exact off₁ p (.tail _ (.tail _ (h ▸ .head _)))
        rcases List.mem_cons.mp hp with h | hp
        · exact off₁ p (.tail _ (.tail _ (.tail _ (h ▸ .head _))))
        rcases List.mem_cons.mp hp with h | hp
        · exact off₁ p (.tail _ (.tail _ (.tail _ (.tail _ (h ▸ .head _)))))
        rcases List.mem_cons.mp hp with h | hp
        · exact off₁ p (.tail _ (.tail _ (.tail _ (.tail _ (.tail _ (h ▸ .head _))))))
        · exact hh p hp
      have hfr := hCE.fresh
      have hkl := hCE.len
      have aD : ∀ p ∈ (L + 1 + 1 + 1 + 1 + 1, o5') :: (L + 1 + 1 + 1 + 1 + 1 + 1 + 1 + 1 + 1 + 1, o10') :: (S, W.listOf (refsL rs).toArray kS) :: (K, W.listOf vk.toArray kk) :: (L + 1 + 1 + 1 + 1 + 1 + 1 + 1 + 1, o8) :: tlx, p.1 ≠ D3 := by
        intro p hp
        rcases List.mem_cons.mp hp with h | hp
        · rw [h]; exact Nat.ne_of_lt a5
        rcases List.mem_cons.mp hp with h | hp
        · rw [h]; exact Nat.ne_of_lt a10
        rcases List.mem_cons.mp hp with h | hp
        · rw [h]; exact Nat.ne_of_lt aS
        rcases List.mem_cons.mp hp with h | hp
        · rw [h]; exact Nat.ne_of_lt aK
        rcases List.mem_cons.mp hp with h | hp
        · rw [h]; exact Nat.ne_of_lt a8
        · exact eD p hp
      have hkey : (PySem.intKind PySem.Challenge.rw_pg0027_01.row.prog w).is (i : Int) (.int (i : Int) tv5) = true := by first | rfl | exact decide_eq_true rfl | simp [PySem.intKind]
      k_steps
      · with_reducible (rename (_ ≠ (0 : Int)) => hne; rename od = true => ho)
        subst ho
        refine Hold.mk (mul_left (by omega) (by omega) ?_)
        k_steps
        with_reducible (rename Fr _ _ _ _ => F9; rename News _ _ _ _ => N9)
        generalize Array.size (Heap.objs _) = TA at N9 ⊢
        obtain ⟨y1, y2, N9⟩ := (⟨_, _, N9⟩ : ∃ y1 y2, News g L _ ((TA, tup2 oft ((i : Int) * oft) y1 y2 0) :: _))
        have nD := News.apart N9 (.head _) (.tail _ (.tail _ (.head _))) (by rw [kd_dict hd3]; show (2 : Nat) ≠ 3; decide)
        have nI := News.apart N9 (.head _) (.tail _ (.head _)) (by rw [hkI]; show (2 : Nat) ≠ 9; decide)
        refine Hold.mk (kda_set (knd := PySem.intKind PySem.Challenge.rw_pg0027_01.row.prog w) F9 N9 (UpdF.tail nD (UpdF.tail (Ne.symm q2) (UpdF.head aD))) hd3 hkey (by rw [sizeLine_eq]; omega) ?_)
        intro h10 o11 F10 N10 hd10
        rw [stored_new hfr] at hd10
        k_steps
        subst htlx
        refine ⟨rfl, _, _, F10, News.sub' N10 ?_, offN _ _ ((TA, tup2 oft ((i : Int) * oft) y1 y2 0) :: extra) ?_, ⟨o11, o5', _, kvs ++ [((i : Int), .ref TA)], (TA, tup2 oft ((i : Int) * oft) y1 y2 0) :: extra, rfl, d5, rfl, rfl, (fun x h1 h2 => by rw [if_neg h2, if_neg h1]; split; (rename_i e; rw [e, hodd]); exact hm3 x h1 h2), hd10, ?_, ?_⟩, r₁.os, r₁.bare⟩
        · exact (fc (.tail _ (.head _)) (fc (.tail _ (.tail _ (.head _))) (fc (.tail _ (.tail _ (.tail _ (.head _)))) (fc (.tail _ (.tail _ (.tail _ (.tail _ (.head _))))) (fc (.tail _ (.tail _ (.tail _ (.tail _ (.tail _ (.head _)))))) (fc (.tail _ (.tail _ (.tail _ (.tail _ (.tail _ (.tail _ (.head _))))))) (fc (.tail _ (.tail _ (.tail _ (.tail _ (.tail _ (.tail _ (.tail _ (.head _)))))))) (fc (.head _) (fun p hp => .tail _ (.tail _ (.tail _ (.tail _ (.tail _ (.tail _ (.tail _ (.tail _ (hp)))))))))))))))))
        · intro p hp
          rcases List.mem_cons.mp hp with h | hp
          · rw [h]; exact nI
          · exact offT p hp
        · rw [tabN, hof, if_neg hne]
          exact (hCE.mono fun p hp => .tail _ hp).app ⟨TA, y1, y2, 0, rfl, .head _⟩
        · intro p hp
          rcases List.mem_cons.mp hp with h | hp
          · rw [h]; rfl
          · exact hex p hp
      · with_reducible (rename Fr _ _ _ _ => F9; rename News _ _ _ _ => N9; rename (_ ≠ (0 : Int)) => hne; rename od = false => ho)
        subst ho
        refine Hold.mk (kda_set (knd := PySem.intKind PySem.Challenge.rw_pg0027_01.row.prog w) F9 N9 (UpdF.tail (Ne.symm q2) (UpdF.head aD)) hd3 hkey (by rw [sizeLine_eq]; omega) ?_)
        intro h10 o11 F10 N10 hd10
        rw [stored_new hfr] at hd10
        k_steps
        subst htlx
        refine ⟨rfl, _, _, F10, N10, offN _ _ extra offT, ⟨o11, o5', _, _, extra, rfl, d5, rfl, rfl, (fun x h1 h2 => by rw [if_neg h2, if_neg h1]; split; (rename_i e; rw [e, hodd]); exact hm3 x h1 h2), hd10, ?_, hex⟩, r₁.os, r₁.bare⟩
        rw [tabN, hof, if_neg hne]
        exact hCE.app ⟨_, rfl⟩
      · with_reducible (rename Fr _ _ _ _ => F9; rename News _ _ _ _ => N9; rename (_ = (0 : Int)) => hze)
        subst htlx
        refine ⟨rfl, _, _, F9, N9, offN _ _ extra offT, ⟨o3, o5', _, kvs, extra, rfl, d5, rfl, rfl, (fun x h1 h2 => by rw [if_neg h2, if_neg h1]; split; (rename_i e; rw [e, hodd]); exact hm3 x h1 h2), hd3, ?_, hex⟩, r₁.os, r₁.bare⟩
        rw [tabN, hof, if_pos hze]
        exact hCE
  · intro m₁ news₁ s₁ hJ F₁ N₁ r₁
    obtain ⟨o3, o5, v5, kvs, extra, rfl, h5, hm1, hm2, hm3, hd3, hCE, hex⟩ := hJ
    refine Hold.mk ?_
    refine next s₁ m₁ D3 o3 o5 v5 kvs extra r₁ F₁ (News.sub' N₁ ?_) h5 hm1 hm2 hm3 hd3 lo3 hCE hex
    subst htlr
    exact (fc (.head _) (fc (.tail _ (.head _)) (fc (.tail _ (.tail _ (.tail _ (.tail _ (.head _))))) (fc (.tail _ (.tail _ (.tail _ (.tail _ (.tail _ (.head _)))))) (fun p hp => (List.mem_append.mp hp).elim (fun h => .tail _ (.tail _ (.tail _ (.tail _ (.tail _ (.tail _ (List.mem_append_left _ h))))))) (fun h => .tail _ (.tail _ (.tail _ (.tail _ (.tail _ (.tail _ (List.mem_append_right _ (List.mem_append_right _ (h))))))))))))))
end Mine
namespace Mine
open PySem PySem.W PyProof.Rows PySem.SeqAt
theorem pairs_any {p p' : Program} {w w' : World} {es : List DictEntry} {kvs : List (Int × Value)} (h : Pairs (PySem.intKind p w) es kvs) : Pairs (PySem.intKind p' w') es kvs := by
  induction h with
  | nil => exact .nil
  | cons a b _ ih => exact .cons a b ih
theorem dict_any {p p' : Program} {w w' : World} {o : Obj} {kvs : List (Int × Value)} (h : o.IsDictOf (PySem.intKind p w) kvs) : o.IsDictOf (PySem.intKind p' w') kvs := by
  obtain ⟨es, ep, h1, h2, h3, h4, h5⟩ := h
  exact ⟨es, ep, h1, h2, h3, pairs_any h4, h5⟩
theorem CVal.eqAt {h₀ : Heap} {L : Addr} {news : List (Addr × Obj)} {A : Around} {s : Shared} {odd : Bool} {k c : Int} {v y : Value} (N : News h₀ L s.heap news) (hv : CVal news odd k c v) (hy : CVal news odd k c y) (hu : A.units < cLine) : EqAt A s v y true := by
  cases odd with
  | false =>
    obtain ⟨t, rfl⟩ := hv
    obtain ⟨u, rfl⟩ := hy
    have h := EqAt.int_int (A := A) (s := s) c t c u
    simpa using h
  | true =>
    obtain ⟨a, t, u, n, rfl, ha⟩ := hv
    obtain ⟨b, t', u', n', rfl, hb⟩ := hy
    by_cases hab : a = b
    · subst hab; exact EqAt.same _
    · refine EqAt.of_refs hab ?_
      have h := RcAt.tuples (A := A) (s := s) (l := a) (b := b) (items := #[.int c t, .int (k * c) u]) (items2 := #[.int c t', .int (k * c) u']) (e := fun _ => true) ⟨_, (N _ ha).1, rfl, _, rfl⟩ ⟨_, (N _ hb).1, rfl, _, rfl⟩ hu (fun j h1 h2 => ?_)
      · exact h
      · match j, h1 with
        | 0, _ => have h := EqAt.int_int (A := A.in1) (s := s) c t c t'; simpa using h
        | 1, _ => have h := EqAt.int_int (A := A.in1) (s := s) (k * c) u (k * c) u'; simpa using h
theorem CEnt.at {news : List (Addr × Obj)} {odd : Bool} {kvs : List (Int × Value)} {cs : List (Int × Int)} {k c : Int} (h : CEnt news odd kvs cs) (hm : (k, c) ∈ cs) (hnd : (kvs.map (·.1)).Nodup) : ∃ y, valueAt kvs k = some y ∧ CVal news odd k c y := by
  induction h with
  | nil => cases hm
  | @cons a d v r q hv hr ih =>
    simp only [List.map_cons, List.nodup_cons] at hnd
    rw [show valueAt ((a, v) :: r) k = if a = k then some v else valueAt r k from valueAt_cons]
    rcases List.mem_cons.mp hm with e | hm
    · cases e
      exact ⟨v, if_pos rfl, hv⟩
    · obtain ⟨y, hy, hc⟩ := ih hm hnd.2
      by_cases hak : a = k
      · subst hak
        have hk : a ∈ r.map (·.1) := by rw [hr.keys]; exact List.mem_map.mpr ⟨_, hm, rfl⟩
        exact absurd hk hnd.1
      · exact ⟨y, by rw [if_neg hak]; exact hy, hc⟩
theorem hits_of {h₀ : Heap} {L : Addr} {news : List (Addr × Obj)} {A : Around} {s : Shared} {odd : Bool} {ka kb : List (Int × Value)} {ca cb : List (Int × Int)} (N : News h₀ L s.heap news) (ha : CEnt news odd ka ca) (hb : CEnt news odd kb cb) (hnd : (kb.map (·.1)).Nodup)
    (hsub : ∀ q ∈ ca, q ∈ cb) (hu : A.units < cLine) : KeqHits A s kb ka true := by
  induction ha with
  | nil => exact .nil
  | @cons k c v r q hv hr ih =>
    obtain ⟨y, hy, hc⟩ := hb.at (hsub (k, c) (.head _)) hnd
    have e := KeqHits.hit hy (hv.eqAt N hc hu) (ih fun q hq => hsub q (.tail _ hq))
    simpa using e
/-- two books are equal -/
theorem book_eq {prog : Program} {w : World} {A : Around} {E : Value → Shared → Prop} {s : Shared} {Q : Value → Shared → Prop} {h₀ : Heap} {L : Addr} {news : List (Addr × Obj)} {b1 b2 b3 b4 : Int} {u1 u2 u3 u4 v1 v2 v3 v4 : Tok} {n n' : Nat} {B R D D' : Addr} {oD oD' : Obj} {odd : Bool} {ka kb : List (Int × Value)} {ca cb : List (Int × Int)}
    (N : News h₀ L s.heap news) (mB : (B, tup5 b1 b2 b3 b4 u1 u2 u3 u4 D n) ∈ news) (mR : (R, tup5 b1 b2 b3 b4 v1 v2 v3 v4 D' n') ∈ news) (mD : (D, oD) ∈ news) (mD' : (D', oD') ∈ news) (hD : oD.IsDictOf (PySem.intKind prog w) ka) (hD' : oD'.IsDictOf (PySem.intKind prog w) kb)
    (lo : (D == sysModules) = false) (lo' : (D' == sysModules) = false) (ha : CEnt news odd ka ca) (hb : CEnt news odd kb cb) (hsub : ∀ q ∈ ca, q ∈ cb) (hlen : ca.length = cb.length) (hu : A.in1.in1.units < cLine) (hu1 : A.in1.units < cLine) (hu0 : A.units < cLine) (h : Q (.bool true) s) :
    wpAny (model prog w) A (compareOp .Eq (.ref B) (.ref R)) Q E s := by
  refine eq_tupleAt (items := #[.int b1 u1, .int b2 u2, .int b3 u3, .int b4 u4, .ref D]) (items2 := #[.int b1 v1, .int b2 v2, .int b3 v3, .int b4 v4, .ref D']) (e := fun _ => true) ⟨_, (N _ mB).1, rfl, _, rfl⟩ ⟨_, (N _ mR).1, rfl, _, rfl⟩ hu0 (fun j h1 h2 => ?_) ?_
  · match j, h1 with
    | 0, _ => have h := EqAt.int_int (A := A.in1) (s := s) b1 u1 b1 v1; simpa using h
    | 1, _ => have h := EqAt.int_int (A := A.in1) (s := s) b2 u2 b2 v2; simpa using h
    | 2, _ => have h := EqAt.int_int (A := A.in1) (s := s) b3 u3 b3 v3; simpa using h
    | 3, _ => have h := EqAt.int_int (A := A.in1) (s := s) b4 u4 b4 v4; simpa using h
    | 4, _ =>
      show EqAt A.in1 s (.ref D) (.ref D') true
      by_cases hDD : D = D'
      · subst hDD; exact EqAt.same _
      · refine EqAt.of_refs hDD fun prog' w' E' Q' hq => ?_
        have hl : ka.length = kb.length := by
          have e1 := congrArg List.length ha.keys
          have e2 := congrArg List.length hb.keys
          simp only [List.length_map] at e1 e2
          omega
        have dD := dict_any (p' := prog') (w' := w') hD
        have dD' := dict_any (p' := prog') (w' := w') hD'
        obtain ⟨es, ep, _, _, _, _, hnd⟩ := id dD'
        refine keq_eq (knd := PySem.intKind prog' w') (r := true) lo lo' (Heap.dictOf_iff.mpr ⟨oD, (N _ mD).1, dD⟩) (Heap.dictOf_iff.mpr ⟨oD', (N _ mD').1, dD'⟩) hu1 (fun _ => hits_of N ha hb hnd hsub hu) ?_
        rw [hl, beq_self_eq_true, Bool.true_and]
        exact hq
  · exact h
end Mine
namespace Mine
open PySem PySem.W PyProof.Rows
local macro_rules | `(tactic| k_all) => `(tactic| assumption)
local macro_rules | `(tactic| walk_at "call ref") => `(tactic| refine Hold.out ?_)
local macro_rules | `(tactic| walk_at "compareOp Eq ref ref") => `(tactic| refine Hold.out ?_)
local macro_rules | `(tactic| walk_at "subscriptTail") => `(tactic| refine Hold.out ?_)
local macro_rules | `(tactic| walk_at "binaryOp Mult int int") => `(tactic| ((with_reducible refine mul_left (by decide) (by decide) ?_); dsimp only))
theorem wp_toks {α : Type} {M : Model} {A : Around} {t : Sem α} {Q : α → Shared → Prop} {E : Value → Shared → Prop} {h : Heap} {s : Shared} (H : ∀ tk, wpAny M A t Q E { s with heap := h, toks := tk }) {tk : Nat} : wpAny M A t Q E { s with heap := h, toks := tk } := H tk
theorem CEnt.ints {news : List (Addr × Obj)} {kvs : List (Int × Value)} {cs : List (Int × Int)} (h : CEnt news false kvs cs) : IntsAre (kvs.map (·.2)) (cs.map (·.2)) := by
  generalize hod : false = od at h
  induction h with
  | nil => exact .nil
  | cons hv _ ih =>
    subst hod
    obtain ⟨t, rfl⟩ := hv
    exact .cons _ t ih
theorem seg15 (w : World) (body : List Stmt) (scope : Scope) (cdv : Value) (qual : Str) (H : LawAt w body scope cdv qual)
    (p : Program) (loose : List Str) (mean : ExcName → Option Value) (mg mb : Str → Option Value) (A₀ : Around) (dp : Nat) (gd : Option (List Code)) (un : Nat) (outer : List Env) (base g : Heap) (L : Addr) (s : Shared)
    (B : Below A₀ base outer g) (X : (hd.heap_39 w.params).In g) (T : Top p loose mean mg mb g) (hdp : dp + 20 < recursionLimit) (hun : un + 240 < cLine) (hb : AllBare s.gens)
    (Q : Flow → Shared → Prop) (m : Str → Option Value) (od : Bool) (o8 oB o3 : Obj) (K Bk D D3 : Addr) (vk : List Value) (ks : List Int) (kk : Nat) (b2 b3 b4 : Int) (u1 u2 u3 u4 : Tok) (n : Nat) (kb k3 : List (Int × Value)) (cb c3 : List (Int × Int)) (tl : List (Addr × Obj))
    (h8 : o8.data = .cell (some (.ref K))) (hodd : m (Str.ofString "odd") = some (.bool od)) (hbook : m (Str.ofString "book") = some (.ref Bk)) (htab : m (Str.ofString "table") = some (.ref D3)) (F : Fr g L s.heap m)
    (hks : IntsAre vk ks) (hkl : ks.length = 7)
    (N : News g L s.heap ((Bk, tup5 8 b2 b3 b4 u1 u2 u3 u4 D n) :: (D, oB) :: (D3, o3) :: (K, W.listOf vk.toArray kk) :: (L + 1 + 1 + 1 + 1 + 1 + 1 + 1 + 1, o8) :: tl))
    (hB : oB.IsDictOf (PySem.intKind PySem.Challenge.rw_pg0027_01.row.prog w) kb) (loB : (D == sysModules) = false) (hCB : CEnt tl od kb cb) (h3 : o3.IsDictOf (PySem.intKind PySem.Challenge.rw_pg0027_01.row.prog w) k3) (lo3 : (D3 == sysModules) = false) (hC3 : CEnt tl od k3 c3)
    (hsub : ∀ q ∈ cb, q ∈ c3) (hlen : cb.length = c3.length) (hsum : (cb.map (·.2)).sum = 8) (e2 : b2 = 24 - 4 * ks.getD 1 0) (e3 : b3 = 84 - 24 * ks.getD 1 0 + 4 * ks.getD 2 0) (e4 : b4 = 324 - 124 * ks.getD 1 0 + 36 * ks.getD 2 0 - 6 * ks.getD 3 0)
    (fin : ∀ (s' : Shared) (m' : Str → Option Value), Rest s s' → Fr g L s'.heap m' → News g L s'.heap tl → Q (.ret (.bool true)) s') :
    wpAny (model PySem.Challenge.rw_pg0027_01.row.prog w) (Ar dp gd un (envOfC qual scope L 57 cdv :: outer)) (execs (body.drop 15) (envOfC qual scope L 57 cdv)) Q NoE s := by
  obtain ⟨name, params, dV, kV, doc, pm, an, ct, oc, od', osl, ho⟩ := H
  have X0 := X
  revert X
  w_top off
  k_fill
  intro X
  conv at ho => lhs; whnf
  cases ho
  have F := Fr.exp3' F hodd hbook htab
  have hpk : Hold ((cb.map (·.2)).sum = 8 ∧ b2 = 24 - 4 * ks.getD 1 0 ∧ b3 = 84 - 24 * ks.getD 1 0 + 4 * ks.getD 2 0 ∧ b4 = 324 - 124 * ks.getD 1 0 + 36 * ks.getD 2 0 - 6 * ks.getD 3 0) := Hold.mk ⟨hsum, e2, e3, e4⟩
  clear hsum e2 e3 e4
  show wpAny _ _ (execs (_ :: _) _) _ _ _
  refine execs_hold ?_
  cases od with
  | true =>
    k_steps
    show Hold _
    refine Hold.mk ?_
    refine execs_hold ?_
    k_steps
    with_reducible (rename Fr _ _ _ _ => F'; rename News _ _ _ _ => N')
    obtain ⟨tm, F'⟩ := (⟨_, by rw [(Hold.out hpk).2.1]; exact F'⟩ : ∃ t, Fr g L _ (fun y => if y = Str.ofString "mean" then some (.int b2 t) else if y = Str.ofString "odd" then some (.bool true) else if y = Str.ofString "book" then some (.ref Bk) else if y = Str.ofString "table" then some (.ref D3) else m y))
    show Hold _
    refine Hold.mk (wp_toks (s := s) (h := _) fun tmk => ?_)
    refine execs_hold ?_
    k_steps
    with_reducible (rename Fr _ _ _ _ => F'; rename News _ _ _ _ => N')
    obtain ⟨ts, F'⟩ := (⟨_, by rw [(Hold.out hpk).2.2.1]; exact F'⟩ : ∃ t, Fr g L _ (fun y => if y = Str.ofString "square" then some (.int b3 t) else if y = Str.ofString "mean" then some (.int b2 tm) else if y = Str.ofString "odd" then some (.bool true) else if y = Str.ofString "book" then some (.ref Bk) else if y = Str.ofString "table" then some (.ref D3) else m y))
    show Hold _
    refine Hold.mk (wp_toks (s := s) (h := _) fun tsk => ?_)
    refine execs_hold ?_
    k_steps
    with_reducible (rename Fr _ _ _ _ => F'; rename News _ _ _ _ => N')
    obtain ⟨tc, F'⟩ := (⟨_, by rw [(Hold.out hpk).2.2.2]; exact F'⟩ : ∃ t, Fr g L _ (fun y => if y = Str.ofString "cube" then some (.int b4 t) else if y = Str.ofString "square" then some (.int b3 ts) else if y = Str.ofString "mean" then some (.int b2 tm) else if y = Str.ofString "odd" then some (.bool true) else if y = Str.ofString "book" then some (.ref Bk) else if y = Str.ofString "table" then some (.ref D3) else m y))
    show Hold _
    refine Hold.mk (wp_toks (s := s) (h := _) fun tck => ?_)
    refine hold_fun ?_
    k_steps
    with_reducible (rename Fr _ _ _ _ => F9; rename News _ _ _ _ => N9)
    refine Hold.mk (book_eq N9 (.tail _ (.head _)) (.head _) (.tail _ (.tail _ (.head _))) (.tail _ (.tail _ (.tail _ (.head _)))) hB h3 loB lo3 (hCB.mono fun p hp => .tail _ (.tail _ (.tail _ (.tail _ (.tail _ (.tail _ hp)))))) (hC3.mono fun p hp => .tail _ (.tail _ (.tail _ (.tail _ (.tail _ (.tail _ hp)))))) hsub hlen (show un + 1 + 1 < cLine by omega) (show un + 1 < cLine by omega) (show un < cLine by omega) ?_)
    k_steps
    exact fin _ _ ⟨rfl, hb⟩ F9 (News.sub' N9 (fun p hp => .tail _ (.tail _ (.tail _ (.tail _ (.tail _ (.tail _ hp)))))))
  | false =>
    k_steps
    with_reducible (rename Fr _ _ _ _ => F1; rename News _ _ _ _ => N1)
    refine Hold.mk (kim_tup (j := 4) (l := [.int 8 u1, .int b2 u2, .int b3 u3, .int b4 u4, .ref D]) (x := .ref D) N1 (.head _) rfl rfl (by decide) (by decide) rfl rfl ?_)
    k_steps
    refine Hold.mk (count_spec w _ D oB kb (cb.map (·.2)) (.tail _ (.head _)) hB loB hCB.ints _ _ _ _ _ _ _ _ _ _ _ _ _ _ _ _ B F1 X0 N1 T rfl rfl rfl rfl (show dp + 5 < recursionLimit by omega) (show un + 60 < cLine by omega) ?_ ?_)
    exact hb
    intro r s1 news1 F2 N2 r1 ps1
    obtain ⟨⟨tr, rfl⟩, rfl⟩ := ps1
    rw [(Hold.out hpk).1]
    k_steps
    show Hold _
    refine Hold.mk ?_
    refine execs_hold ?_
    k_steps
    with_reducible (rename Fr _ _ _ _ => F'; rename News _ _ _ _ => N')
    obtain ⟨tm, F'⟩ := (⟨_, by rw [(Hold.out hpk).2.1]; exact F'⟩ : ∃ t, Fr g L _ (fun y => if y = Str.ofString "mean" then some (.int b2 t) else if y = Str.ofString "odd" then some (.bool false) else if y = Str.ofString "book" then some (.ref Bk) else if y = Str.ofString "table" then some (.ref D3) else m y))
    show Hold _
    refine Hold.mk (wp_toks (s := s1) (h := _) fun tmk => ?_)
    refine execs_hold ?_
    k_steps
    with_reducible (rename Fr _ _ _ _ => F'; rename News _ _ _ _ => N')
    obtain ⟨ts, F'⟩ := (⟨_, by rw [(Hold.out hpk).2.2.1]; exact F'⟩ : ∃ t, Fr g L _ (fun y => if y = Str.ofString "square" then some (.int b3 t) else if y = Str.ofString "mean" then some (.int b2 tm) else if y = Str.ofString "odd" then some (.bool false) else if y = Str.ofString "book" then some (.ref Bk) else if y = Str.ofString "table" then some (.ref D3) else m y))
    show Hold _
    refine Hold.mk (wp_toks (s := s1) (h := _) fun tsk => ?_)
    refine execs_hold ?_
    k_steps
    with_reducible (rename Fr _ _ _ _ => F'; rename News _ _ _ _ => N')
    obtain ⟨tc, F'⟩ := (⟨_, by rw [(Hold.out hpk).2.2.2]; exact F'⟩ : ∃ t, Fr g L _ (fun y => if y = Str.ofString "cube" then some (.int b4 t) else if y = Str.ofString "square" then some (.int b3 ts) else if y = Str.ofString "mean" then some (.int b2 tm) else if y = Str.ofString "odd" then some (.bool false) else if y = Str.ofString "book" then some (.ref Bk) else if y = Str.ofString "table" then some (.ref D3) else m y))
    show Hold _
    refine Hold.mk (wp_toks (s := s1) (h := _) fun tck => ?_)
    refine hold_fun ?_
    k_steps
    with_reducible (rename Fr _ _ _ _ => F9; rename News _ _ _ _ => N9)
    refine Hold.mk (book_eq N9 (.tail _ (.head _)) (.head _) (.tail _ (.tail _ (.head _))) (.tail _ (.tail _ (.tail _ (.head _)))) hB h3 loB lo3 (hCB.mono fun p hp => .tail _ (.tail _ (.tail _ (.tail _ (.tail _ (.tail _ hp)))))) (hC3.mono fun p hp => .tail _ (.tail _ (.tail _ (.tail _ (.tail _ (.tail _ hp)))))) hsub hlen (show un + 1 + 1 < cLine by omega) (show un + 1 < cLine by omega) (show un < cLine by omega) ?_)
    k_steps
    exact fin _ _ ⟨r1.os, r1.bare⟩ F9 (News.sub' N9 (fun p hp => .tail _ (.tail _ (.tail _ (.tail _ (.tail _ (.tail _ hp)))))))
end Mine
namespace Mine
open PySem PySem.W PyProof.Rows
local macro_rules | `(tactic| walk_at "no such key") => `(tactic| skip)
local macro_rules | `(tactic| k_all) => `(tactic| assumption)
def pickI (ns : List Int) (lo hi st : Option Int) : List Int := (sliceRange (sliceBounds lo hi st ns.length).1 (sliceBounds lo hi st ns.length).2.1 (sliceBounds lo hi st ns.length).2.2).filterMap (ns[·]?)
theorem ints_pick {vs : List Value} {ns : List Int} (h : IntsAre vs ns) : ∀ idx : List Nat, IntsAre (idx.filterMap (vs[·]?)) (idx.filterMap (ns[·]?))
  | [] => .nil
  | i :: r => by
    have ih := ints_pick h r
    by_cases hi : i < ns.length
    · obtain ⟨t, ht⟩ := h.get i ns[i] (by simp [hi])
      rw [List.filterMap_cons_some ht, List.filterMap_cons_some (List.getElem?_eq_getElem hi)]
      exact .cons _ t ih
    · have h1 : ns[i]? = none := by simpa using hi
      have h2 : vs[i]? = none := by rw [List.getElem?_eq_none_iff, h.length]; simpa using hi
      rw [List.filterMap_cons_none h1, List.filterMap_cons_none h2]
      exact ih
theorem pick_ints {vs : List Value} {ns : List Int} (h : IntsAre vs ns) (lo hi st : Option Int) : IntsAre (slicePick vs.toArray lo hi st).toList (pickI ns lo hi st) := by
  have e : vs.toArray.size = ns.length := by rw [List.size_toArray, h.length]
  unfold slicePick pickI
  rw [e]
  have h' := ints_pick h (sliceRange (sliceBounds lo hi st ns.length).1 (sliceBounds lo hi st ns.length).2.1 (sliceBounds lo hi st ns.length).2.2)
  simpa using h'
local macro_rules | `(tactic| walk_at "eval ListComp") => `(tactic| refine Hold.out ?_)
local macro_rules | `(tactic| walk_at "CompSrc") => `(tactic| refine Hold.out ?_)
local macro_rules | `(tactic| walk_at "subscriptTail Name Slice ref ref") => `(tactic| refine Hold.out ?_)
local macro_rules | `(tactic| walk_at "binaryOp Pow int int") => `(tactic| (with_reducible refine pow_small ?_ ?_ ?_ ?_; omega; omega; decide))
def wordI (ns : List Int) (k : Int) : Int := Int.fmod ((pickI ns (some k) none (some 4)).sum + [0, 1, 2, 4].getD k.toNat 0) (2 ^ Int.toNat 32)
theorem wordI_bound (ns : List Int) (k : Int) : 0 ≤ wordI ns k ∧ wordI ns k < 2 ^ 32 := by
  unfold wordI
  constructor
  · exact Int.fmod_nonneg_of_pos _ (by decide)
  · exact Int.fmod_lt_of_pos _ (by decide)
theorem seg0 (w : World) (body : List Stmt) (scope : Scope) (cdv : Value) (qual : Str) (H : LawAt w body scope cdv qual)
    (p : Program) (loose : List Str) (mean : ExcName → Option Value) (mg mb : Str → Option Value) (A₀ : Around) (dp : Nat) (gd : Option (List Code)) (un : Nat) (outer : List Env) (base g : Heap) (L : Addr) (s : Shared)
    (B : Below A₀ base outer g) (X : (hd.heap_39 w.params).In g) (T : Top p loose mean mg mb g) (hdp : dp + 20 < recursionLimit) (hun : un + 240 < cLine) (hb : AllBare s.gens)
    (Q : Flow → Shared → Prop) (m : Str → Option Value) (o1 o2 : Obj) (ax : Addr) (vs : List Value) (ns : List Int) (tl : List (Addr × Obj))
    (v2 : Option Value) (h1 : o1.data = .cell (some (.ref ax))) (h2 : o2.data = .cell v2) (F : Fr g L s.heap m)
    (hax : g.IsList ax vs.toArray) (hvs : IntsAre vs ns) (hlen : ns.length ≤ 63)
    (N : News g L s.heap ((L + 1 + 1, o2) :: (L + 1, o1) :: tl)) (h2t : ∀ p ∈ tl, p.1 ≠ L + 1 + 1)
    (next : ∀ (s' : Shared) (m' : Str → Option Value) (o2' : Obj) (Wd : Addr) (w0 w1 w2 w3 : Int) (t0 t1 t2 t3 : Tok) (kw : Nat) (od : Bool), Rest s s' → Fr g L s'.heap m' →
      News g L s'.heap ((Wd, W.listOf #[.int w0 t0, .int w1 t1, .int w2 t2, .int w3 t3] kw) :: (L + 1 + 1, o2') :: (L + 1, o1) :: tl) → o2'.data = .cell (some (.ref Wd)) → m' (Str.ofString "odd") = some (.bool od) →
      (0 ≤ w0 ∧ w0 < 2 ^ 32) → (0 ≤ w1 ∧ w1 < 2 ^ 32) → (0 ≤ w2 ∧ w2 < 2 ^ 32) → (0 ≤ w3 ∧ w3 < 2 ^ 32) →
      wpAny (model PySem.Challenge.rw_pg0027_01.row.prog w) (Ar dp gd un (envOfC qual scope L 57 cdv :: outer)) (execs (body.drop 2) (envOfC qual scope L 57 cdv)) Q NoE s') :
    wpAny (model PySem.Challenge.rw_pg0027_01.row.prog w) (Ar dp gd un (envOfC qual scope L 57 cdv :: outer)) (execs (body.drop 0) (envOfC qual scope L 57 cdv)) Q NoE s := by
  obtain ⟨name, params, dV, kV, doc, pm, an, ct, oc, od', osl, ho⟩ := H
  revert X
  w_top off
  k_fill
  intro X
  conv at ho => lhs; whnf
  cases ho
  show wpAny _ _ (execs (_ :: _) _) _ _ _
  refine execs_hold ?_
  k_steps
  with_reducible (rename Fr _ _ _ _ => F1; rename News _ _ _ _ => N1)
  refine Hold.mk (LCg.ListComp_U F1 (by with_unfolding_all rfl) (by decide) (by rfl) (by decide) (by rfl) ?_)
  k_steps
  with_reducible (rename IsRange _ _ _ _ _ _ _ _ => hr6; rename Fr _ _ _ _ => F6; rename News _ _ _ _ => N6)
  refine Hold.mk (LCg.CompSrc.range rfl F6 N6 hr6 (by decide) (rangeSize_nat _ _) (Nat.le_of_ble_eq_true rfl) ?_)
  intro g'
  refine' kcf_range (fun k' : Int => wordI ns k') (fun k' t' I' oI' C' oC' D' m' ys' h' tk' E' hlo' hhi' hC' hx' F' N' off' ne' hMark' => ?_) ?_
  · k_steps
    have hl : Heap.IsList h' ax vs.toArray := Fr.lst F' hax
    refine Hold.mk (slice_list3 F' N' hl (.int k' t') .none (.int 4 _) (by decide) ?_ (by with_unfolding_all rfl) (by intro _; with_unfolding_all rfl) (by rw [sizeLine_eq, List.size_toArray, hvs.length]; omega))
    intro h9 F9 N9
    have hpk := pick_ints hvs (some k') none (some 4)
    generalize (slicePick vs.toArray (some k') none (some 4)) = arr at N9 hpk
    obtain ⟨ws⟩ := arr
    simp only at hpk
    k_steps
    exact kcf_el rfl rfl rfl
  · unfold KPfDone
    intro ys hys
    have hb0 := wordI_bound ns 0
    have hb1 := wordI_bound ns 1
    have hb2 := wordI_bound ns 2
    have hb3 := wordI_bound ns 3
    have hys : IntsAre ys [wordI ns 0, wordI ns 1, wordI ns 2, wordI ns 3] := hys
    generalize wordI ns 0 = w0 at *
    generalize wordI ns 1 = w1 at *
    generalize wordI ns 2 = w2 at *
    generalize wordI ns 3 = w3 at *
    cases hys with | cons _ t0 hys =>
    cases hys with | cons _ t1 hys =>
    cases hys with | cons _ t2 hys =>
    cases hys with | cons _ t3 hys =>
    cases hys
    k_steps
    with_reducible (rename Fr _ _ _ _ => F7; rename News _ _ _ _ => N7; rename (Obj.data _ = Data.cell (some (Value.ref _))) => d7)
    refine Hold.mk ?_
    refine execs_hold ?_
    k_steps
    with_reducible (rename Fr _ _ _ _ => F9; rename News _ _ _ _ => N9)
    exact Hold.mk (next _ _ _ _ w0 w1 w2 w3 t0 t1 t2 t3 4 _ ⟨rfl, hb⟩ F9 N9 d7 rfl hb0 hb1 hb2 hb3)
end Mine
namespace Mine
open PySem PySem.W PyProof.Rows
theorem xor_add : ∀ a b : Nat, (a ^^^ b) + 2 * (a &&& b) = a + b := by
  intro a
  induction a using Nat.strongRecOn with
  | ind a ih =>
    intro b
    by_cases h : a = 0
    · subst h; simp
    · have h0 := ih (a / 2) (by omega) (b / 2)
      have h1 : (a ^^^ b) / 2 = a / 2 ^^^ b / 2 := Nat.xor_div_two
      have h2 : (a &&& b) / 2 = a / 2 &&& b / 2 := Nat.and_div_two
      have h3 := @Nat.xor_mod_two_eq_one a b
      have h4 := @Nat.and_mod_two_eq_one a b
      omega
theorem bx_nat (a b : Nat) : Builtin.bitXor (a : Int) (b : Int) = ((a ^^^ b : Nat) : Int) := by
  rw [bitXor_and, bitAnd_pp (Int.natCast_nonneg a) (Int.natCast_nonneg b)]
  have := xor_add a b
  simp only [Int.toNat_natCast]
  omega
theorem ba_nat (a b : Nat) : Builtin.bitAnd (a : Int) (b : Int) = ((a &&& b : Nat) : Int) := by
  rw [bitAnd_pp (Int.natCast_nonneg a) (Int.natCast_nonneg b)]
  simp only [Int.toNat_natCast]
theorem fd_nat (a k : Nat) : Int.fdiv (a : Int) (2 ^ k) = ((a / 2 ^ k : Nat) : Int) := by
  rw [Int.fdiv_eq_ediv_of_nonneg _ (Int.le_of_lt (kbt_pos k)), ← kbt_cast, ← Int.natCast_ediv]
theorem bit_nat (a k : Nat) : Builtin.bitAnd (Int.fdiv (a : Int) (2 ^ k)) 1 = if a.testBit k then 1 else 0 := by
  rw [fd_nat, bit1, Nat.testBit_eq_decide_div_mod_eq]
  by_cases h : a / 2 ^ k % 2 = 1
  · rw [decide_eq_true h, if_pos rfl]; omega
  · rw [decide_eq_false h, if_neg (by decide)]; omega
/-- affine over xor -/
def Aff (f : Nat → Bool) : Prop := ∀ a b, f (a ^^^ b) = ((f a ^^ f b) ^^ f 0)
def AffN (f : Nat → Nat) : Prop := ∀ a b, f (a ^^^ b) = (f a ^^^ f b) ^^^ f 0
theorem AffN.bit {f : Nat → Nat} (h : AffN f) (k : Nat) : Aff fun x => (f x).testBit k := by
  intro a b
  show (f (a ^^^ b)).testBit k = _
  rw [h a b, Nat.testBit_xor, Nat.testBit_xor]
theorem xor4 (a b c d e f : Nat) : ((a ^^^ b) ^^^ c) ^^^ ((d ^^^ e) ^^^ f) = ((a ^^^ d) ^^^ (b ^^^ e)) ^^^ (c ^^^ f) := by ac_rfl
theorem AffN.xor {f g : Nat → Nat} (hf : AffN f) (hg : AffN g) : AffN fun x => f x ^^^ g x := by
  intro a b
  show f (a ^^^ b) ^^^ g (a ^^^ b) = _
  rw [hf, hg, xor4]
theorem AffN.lin {f g : Nat → Nat} (hf : AffN f) (hg : ∀ a b, g (a ^^^ b) = g a ^^^ g b) : AffN fun x => g (f x) := by
  intro a b
  show g (f (a ^^^ b)) = _
  rw [hf, hg, hg]
theorem AffN.const (c : Nat) : AffN fun _ => c := by
  intro a b
  show c = (c ^^^ c) ^^^ c
  rw [Nat.xor_self, Nat.zero_xor]
theorem Aff.xor {f g : Nat → Bool} (hf : Aff f) (hg : Aff g) : Aff fun x => f x ^^ g x := by
  intro a b
  show (f (a ^^^ b) ^^ g (a ^^^ b)) = (((f a ^^ g a) ^^ (f b ^^ g b)) ^^ (f 0 ^^ g 0))
  rw [hf, hg]
  cases f a <;> cases f b <;> cases f 0 <;> cases g a <;> cases g b <;> cases g 0 <;> rfl
theorem Aff.zero {f : Nat → Bool} (h : Aff f) (h0 : f 0 = false) : ∀ n, (∀ i, i < n → f (2 ^ i) = false) → ∀ x, x < 2 ^ n → f x = false := by
  intro n
  induction n with
  | zero =>
    intro _ x hx
    have : x = 0 := by omega
    rw [this, h0]
  | succ n ih =>
    intro hu x hx
    have ih := ih (fun i hi => hu i (by omega))
    by_cases hlt : x < 2 ^ n
    · exact ih x hlt
    · have hn : x.testBit n = true := by
        rw [Nat.testBit_eq_decide_div_mod_eq]
        have e : x / 2 ^ n = 1 := by
          rw [Nat.div_eq_iff (Nat.two_pow_pos n)]
          rw [Nat.pow_succ] at hx
          omega
        simp [e]
      have hy : x ^^^ 2 ^ n < 2 ^ n := by
        refine Nat.lt_pow_two_of_testBit _ fun i hi => ?_
        rw [Nat.testBit_xor, Nat.testBit_two_pow]
        by_cases e : n = i
        · subst e; simp [hn]
        · have : x.testBit i = false := Nat.testBit_lt_two_pow (Nat.lt_of_lt_of_le hx (Nat.pow_le_pow_right (by decide) (by omega)))
          simp [this, e]
      have e := h (x ^^^ 2 ^ n) (2 ^ n)
      rw [Nat.xor_assoc, Nat.xor_self, Nat.xor_zero, ih _ hy, hu n (by omega), h0] at e
      exact e
/-- one bit of the reflected division -/
def cs (c : Nat) : Nat := match c with
  | 0 => 0
  | k + 1 => (k + 1) / 2 ^^^ (if (k + 1).testBit 0 then 3988292384 else 0)
theorem cs_eq (c : Nat) : cs c = c / 2 ^^^ (if c.testBit 0 then 3988292384 else 0) := by
  cases c <;> rfl
theorem cs_lin (a b : Nat) : cs (a ^^^ b) = cs a ^^^ cs b := by
  have h : (a ^^^ b) / 2 = a / 2 ^^^ b / 2 := Nat.xor_div_two
  rw [cs_eq, cs_eq, cs_eq, h, Nat.testBit_xor]
  cases a.testBit 0 <;> cases b.testBit 0
  · simp
  · simp [Nat.xor_assoc]
  · simp only [Bool.xor_false, if_true, Bool.false_eq_true, if_false, Nat.xor_zero]; ac_rfl
  · simp only [Bool.xor_true, Bool.not_true, if_true, Bool.false_eq_true, if_false, Nat.xor_zero]
    rw [show ∀ p q r : Nat, (p ^^^ r) ^^^ (q ^^^ r) = (p ^^^ q) ^^^ (r ^^^ r) from fun p q r => by ac_rfl, Nat.xor_self, Nat.xor_zero]
def csN : Nat → Nat → Nat
  | 0, c => c
  | n + 1, c => cs (csN n c)
theorem csN_lin : ∀ n a b, csN n (a ^^^ b) = csN n a ^^^ csN n b
  | 0, _, _ => rfl
  | n + 1, a, b => by rw [csN, csN_lin n a b, cs_lin]; rfl
def crc4 (x : Nat) : Nat → Nat
  | 0 => 4294967295
  | k + 1 => csN 8 (crc4 x k ^^^ ((x / 2 ^ (8 * k)) &&& 255))
theorem div_xor (a b k : Nat) : (a ^^^ b) / 2 ^ k = a / 2 ^ k ^^^ b / 2 ^ k := by
  simp only [← Nat.shiftRight_eq_div_pow, Nat.shiftRight_xor_distrib]
theorem byte_aff (k : Nat) : AffN fun x => (x / 2 ^ k) &&& 255 := by
  intro a b
  show ((a ^^^ b) / 2 ^ k) &&& 255 = _
  rw [div_xor, Nat.and_xor_distrib_right]
  simp
theorem crc4_aff : ∀ k, AffN fun x => crc4 x k
  | 0 => AffN.const _
  | k + 1 => ((crc4_aff k).xor (byte_aff (8 * k))).lin (csN_lin 8)
/-- the division by its definition -/
def rb (x i : Nat) : Nat := if i < 32 then (if x.testBit i then 0 else 1) else 0
def rl (r b : Nat) : Nat := match r with
  | 0 => b
  | k + 1 => ((2 * (k + 1)) ^^^ b) ^^^ (if (k + 1).testBit 31 then 4374732215 else 0)
theorem rl_eq (r b : Nat) : rl r b = ((2 * r) ^^^ b) ^^^ (if r.testBit 31 then 4374732215 else 0) := by
  cases r with
  | zero => simp [rl]
  | succ k => rfl
def rsN (x : Nat) : Nat → Nat
  | 0 => 0
  | i + 1 => rl (rsN x i) (rb x i)
theorem rb_aff (i : Nat) : AffN fun x => rb x i := by
  intro a b
  show rb (a ^^^ b) i = (rb a i ^^^ rb b i) ^^^ rb 0 i
  unfold rb
  split
  · rw [Nat.testBit_xor, Nat.zero_testBit]
    cases a.testBit i <;> cases b.testBit i <;> rfl
  · rfl
theorem two_xor (a b : Nat) : 2 * (a ^^^ b) = (2 * a) ^^^ (2 * b) := by
  have := Nat.shiftLeft_xor_distrib (a := a) (b := b) (i := 1)
  simp only [Nat.shiftLeft_eq, Nat.pow_one] at this
  rw [Nat.mul_comm, this, Nat.mul_comm a, Nat.mul_comm b]
theorem rh_lin (a b : Nat) : (2 * (a ^^^ b)) ^^^ (if (a ^^^ b).testBit 31 then 4374732215 else 0) = ((2 * a) ^^^ (if a.testBit 31 then 4374732215 else 0)) ^^^ ((2 * b) ^^^ (if b.testBit 31 then 4374732215 else 0)) := by
  rw [two_xor, Nat.testBit_xor]
  generalize 2 * a = p
  generalize 2 * b = q
  cases a.testBit 31 <;> cases b.testBit 31
  · simp
  · simp [Nat.xor_assoc]
  · simp only [Bool.xor_false, if_true, Bool.false_eq_true, if_false, Nat.xor_zero]; ac_rfl
  · simp only [Bool.xor_true, Bool.not_true, if_true, Bool.false_eq_true, if_false, Nat.xor_zero]
    rw [show ∀ p q r : Nat, (p ^^^ r) ^^^ (q ^^^ r) = (p ^^^ q) ^^^ (r ^^^ r) from fun p q r => by ac_rfl, Nat.xor_self, Nat.xor_zero]
theorem rsN_aff : ∀ i, AffN fun x => rsN x i
  | 0 => AffN.const _
  | i + 1 => by
    have h := ((rsN_aff i).lin (g := fun r => (2 * r) ^^^ (if r.testBit 31 then 4374732215 else 0)) rh_lin).xor (rb_aff i)
    have e : (fun x => rsN x (i + 1)) = fun x => ((2 * rsN x i) ^^^ (if (rsN x i).testBit 31 then 4374732215 else 0)) ^^^ rb x i := by
      funext x
      show rl _ _ = _
      rw [rl_eq]
      ac_rfl
    rw [e]
    exact h
theorem bits_agree (x k : Nat) (hx : x < 2 ^ 32) (hk : k < 6) : (crc4 x 4).testBit k = (rsN x 64).testBit (31 - k) := by
  have key : ((crc4 x 4).testBit k ^^ (rsN x 64).testBit (31 - k)) = false := by
    refine Aff.zero (f := fun x => (crc4 x 4).testBit k ^^ (rsN x 64).testBit (31 - k)) (((crc4_aff 4).bit k).xor ((rsN_aff 64).bit (31 - k))) ?_ 32 ?_ x hx
    · revert k; decide +kernel
    · revert k; decide +kernel
  cases h1 : (crc4 x 4).testBit k <;> cases h2 : (rsN x 64).testBit (31 - k) <;> simp [h1, h2] at key ⊢
end Mine
namespace Mine
open PySem PySem.W PyProof.Rows
/-- how many of the six lowest bits are 1 -/
def pop (n : Nat) : Nat := n % 2 + n / 2 % 2 + n / 4 % 2 + n / 8 % 2 + n / 16 % 2 + n / 32 % 2
theorem pop_le (n : Nat) : pop n ≤ 6 := by unfold pop; omega
def odd6 (n : Nat) : Bool := pop n % 2 == 1
theorem mod_bit (n k : Nat) : n / 2 ^ k % 2 = (n.testBit k).toNat := by
  rw [Nat.testBit_eq_decide_div_mod_eq]
  by_cases h : n / 2 ^ k % 2 = 1
  · simp [h]
  · have : n / 2 ^ k % 2 = 0 := by omega
    simp [this]
theorem pop_bits (n : Nat) : pop n = (n.testBit 0).toNat + (n.testBit 1).toNat + (n.testBit 2).toNat + (n.testBit 3).toNat + (n.testBit 4).toNat + (n.testBit 5).toNat := by
  have h0 := mod_bit n 0
  have h1 := mod_bit n 1
  have h2 := mod_bit n 2
  have h3 := mod_bit n 3
  have h4 := mod_bit n 4
  have h5 := mod_bit n 5
  simp only [Nat.pow_zero, Nat.div_one, Nat.reducePow] at h0 h1 h2 h3 h4 h5
  unfold pop
  omega
theorem odd_bits : ∀ a b c d e f : Bool, ((a.toNat + b.toNat + c.toNat + d.toNat + e.toNat + f.toNat) % 2 == 1) = (a ^^ (b ^^ (c ^^ (d ^^ (e ^^ f))))) := by decide
theorem odd6_eq (n : Nat) : odd6 n = (n.testBit 0 ^^ (n.testBit 1 ^^ (n.testBit 2 ^^ (n.testBit 3 ^^ (n.testBit 4 ^^ n.testBit 5))))) := by
  rw [odd6, pop_bits, odd_bits]
theorem odd6_xor (x y : Nat) : odd6 (x ^^^ y) = (odd6 x ^^ odd6 y) := by
  rw [odd6_eq, odd6_eq, odd6_eq]
  simp only [Nat.testBit_xor]
  generalize x.testBit 0 = a0
  generalize x.testBit 1 = a1
  generalize x.testBit 2 = a2
  generalize x.testBit 3 = a3
  generalize x.testBit 4 = a4
  generalize x.testBit 5 = a5
  generalize y.testBit 0 = b0
  generalize y.testBit 1 = b1
  generalize y.testBit 2 = b2
  generalize y.testBit 3 = b3
  generalize y.testBit 4 = b4
  generalize y.testBit 5 = b5
  simp only [Bool.xor_assoc, Bool.xor_comm, Bool.xor_left_comm]
theorem ones_pop : ∀ n, n < 64 → (onesN 6).getD n 0 = ((pop n : Nat) : Int) := by decide +kernel
def pb (u v : Nat) : Bool := odd6 (u &&& v)
theorem pb_xor (u a b : Nat) : pb u (a ^^^ b) = (pb u a ^^ pb u b) := by
  unfold pb
  rw [Nat.and_xor_distrib_left, odd6_xor]
theorem par_pb {u v : Nat} (hu : u < 64) : par (u : Int) (v : Int) = if pb u v then 1 else 0 := by
  have hle := @Nat.and_le_left u v
  rw [par, ba_nat, Int.toNat_natCast, ones_pop _ (by omega), pb, odd6, Int.fmod_eq_emod_of_nonneg _ (by decide)]
  by_cases h : pop (u &&& v) % 2 = 1
  · rw [if_pos (by simp [h])]; omega
  · rw [if_neg (by simp [h])]; omega
/-- what a row brings -/
def evB (l : List Bool) (p : Bool) : Int := if l.all (fun q => !q) then (if p then -1 else 1) else 0
def ev (cs : List Nat) (b u : Nat) : Int := evB (cs.map (pb u)) (pb u b)
theorem evB_step : ∀ p q1 q2 q3 : Bool, 8 * evB [q1, q2, q3] p = evB [] p + evB [] (p ^^ q1) + evB [] (p ^^ q2) + evB [] ((p ^^ q1) ^^ q2) + evB [] (p ^^ q3) + evB [] ((p ^^ q1) ^^ q3) + evB [] ((p ^^ q2) ^^ q3) + evB [] (((p ^^ q1) ^^ q2) ^^ q3) := by decide
theorem ev_step (c1 c2 c3 b u : Nat) : 8 * ev [c1, c2, c3] b u = ev [] b u + ev [] (b ^^^ c1) u + ev [] (b ^^^ c2) u + ev [] ((b ^^^ c1) ^^^ c2) u + ev [] (b ^^^ c3) u + ev [] ((b ^^^ c1) ^^^ c3) u + ev [] ((b ^^^ c2) ^^^ c3) u + ev [] (((b ^^^ c1) ^^^ c2) ^^^ c3) u := by
  simp only [ev, pb_xor, List.map_cons, List.map_nil]
  exact evB_step _ _ _ _
theorem kept_step (cs : List Nat) (b i k : Nat) (hi : i < 64) : (keptN (cs.map fun c : Nat => (c : Int)) (b : Int) (i + 1)).getD k 0 = (keptN (cs.map fun c : Nat => (c : Int)) (b : Int) i).getD k 0 + if pop i = k then ev cs b i else 0 := by
  have hall : ((cs.map fun c : Nat => (c : Int)).all fun c => par (i : Int) c != 1) = cs.all (fun c => !pb i c) := by
    rw [List.all_map]
    congr 1
    funext c
    simp only [Function.comp, par_pb hi]
    cases pb i c <;> rfl
  have hpar := @par_pb i b hi
  have hlen := keptN_length (cs.map fun c : Nat => (c : Int)) (b : Int) i
  rw [keptN, keptStep, hall, hpar, Int.toNat_natCast, ones_pop i hi, Int.toNat_natCast]
  have hp := pop_le i
  generalize keptN (cs.map fun c : Nat => (c : Int)) (b : Int) i = ks at *
  have hev : ev cs b i = if cs.all (fun c => !pb i c) then (if pb i b then -1 else 1) else 0 := by
    rw [ev, evB, List.all_map]; rfl
  rw [hev]
  by_cases hc : cs.all (fun c => !pb i c) = true
  · rw [if_pos hc, if_pos hc]
    by_cases hk : pop i = k
    · subst hk
      rw [if_pos rfl]
      simp only [List.getD_eq_getElem?_getD]
      rw [List.getElem?_set_self (by omega)]
      cases pb i b <;> simp
    · rw [if_neg hk]
      simp only [List.getD_eq_getElem?_getD]
      rw [List.getElem?_set_ne hk, Int.add_zero]
  · rw [if_neg hc, if_neg hc]
    split <;> omega
theorem kept_zero (cs : List Int) (b : Int) (k : Nat) : (keptN cs b 0).getD k 0 = 0 := by
  rw [keptN]
  match k with
  | 0 | 1 | 2 | 3 | 4 | 5 | 6 => rfl
  | k + 7 => rfl
theorem kept_split (c1 c2 c3 b k : Nat) : ∀ i, i ≤ 64 → 8 * (keptN ([c1, c2, c3].map fun c : Nat => (c : Int)) (b : Int) i).getD k 0 =
    (keptN [] ((b : Nat) : Int) i).getD k 0 + (keptN [] ((b ^^^ c1 : Nat) : Int) i).getD k 0 + (keptN [] ((b ^^^ c2 : Nat) : Int) i).getD k 0 + (keptN [] (((b ^^^ c1) ^^^ c2 : Nat) : Int) i).getD k 0 +
    (keptN [] ((b ^^^ c3 : Nat) : Int) i).getD k 0 + (keptN [] (((b ^^^ c1) ^^^ c3 : Nat) : Int) i).getD k 0 + (keptN [] (((b ^^^ c2) ^^^ c3 : Nat) : Int) i).getD k 0 + (keptN [] ((((b ^^^ c1) ^^^ c2) ^^^ c3 : Nat) : Int) i).getD k 0
  | 0, _ => by simp only [kept_zero]; rfl
  | i + 1, hi => by
    have ih := kept_split c1 c2 c3 b k i (by omega)
    have he := ev_step c1 c2 c3 b i
    rw [kept_step [c1, c2, c3] b i k (by omega)]
    have e0 : ∀ v : Nat, (keptN [] (v : Int) (i + 1)).getD k 0 = (keptN [] (v : Int) i).getD k 0 + if pop i = k then ev [] v i else 0 := fun v => kept_step [] v i k (by omega)
    rw [e0, e0, e0, e0, e0, e0, e0, e0]
    by_cases hk : pop i = k
    · simp only [if_pos hk]
      rw [Int.mul_add, ih, he]
      omega
    · simp only [if_neg hk, Int.add_zero]
      exact ih
def Ak (v k : Nat) : Nat → Int
  | 0 => 0
  | n + 1 => Ak v k n + if pop n = k then (if pop (n &&& v) % 2 = 1 then -1 else 1) else 0
theorem kept_Ak (v k : Nat) : ∀ i, i ≤ 64 → (keptN [] (v : Int) i).getD k 0 = Ak v k i
  | 0, _ => kept_zero _ _ _
  | i + 1, hi => by
    rw [show (keptN [] (v : Int) (i + 1)).getD k 0 = (keptN [] (v : Int) i).getD k 0 + if pop i = k then ev [] v i else 0 from kept_step [] v i k (by omega), kept_Ak v k i (by omega), Ak]
    congr 1
    by_cases hk : pop i = k
    · rw [if_pos hk, if_pos hk]
      simp only [ev, evB, List.map_nil, List.all_nil, if_true, pb, odd6]
      by_cases h : pop (i &&& v) % 2 = 1 <;> simp [h]
    · rw [if_neg hk, if_neg hk]
theorem Ak_poly : ∀ v, v < 64 → ∀ k, k < 7 → Ak v k 64 = (poly (pop v) 6).getD k 0 := by decide +kernel
theorem poly_orth : ∀ w, w < 7 → ∀ j, j < 7 → (poly w 6).getD 0 0 * (poly 0 6).getD j 0 + (poly w 6).getD 1 0 * (poly 1 6).getD j 0 + (poly w 6).getD 2 0 * (poly 2 6).getD j 0 + (poly w 6).getD 3 0 * (poly 3 6).getD j 0 +
    (poly w 6).getD 4 0 * (poly 4 6).getD j 0 + (poly w 6).getD 5 0 * (poly 5 6).getD j 0 + (poly w 6).getD 6 0 * (poly 6 6).getD j 0 = if w = j then 64 else 0 := by decide +kernel
def tsum (ks : List Int) (j : Nat) : Int := (List.map (fun k' : Int => ks.getD k'.toNat 0 * (poly k'.toNat 6).getD j 0) (rangeKs 0 (7 - 0 : Int).toNat)).sum
theorem tsum_eq (ks : List Int) (j : Nat) : tsum ks j = ks.getD 0 0 * (poly 0 6).getD j 0 + ks.getD 1 0 * (poly 1 6).getD j 0 + ks.getD 2 0 * (poly 2 6).getD j 0 + ks.getD 3 0 * (poly 3 6).getD j 0 +
    ks.getD 4 0 * (poly 4 6).getD j 0 + ks.getD 5 0 * (poly 5 6).getD j 0 + ks.getD 6 0 * (poly 6 6).getD j 0 := by
  rw [tsum, show rangeKs 0 (7 - 0 : Int).toNat = [0, 1, 2, 3, 4, 5, 6] by decide]
  simp only [List.map_cons, List.map_nil, List.sum_cons, List.sum_nil]
  show ks.getD 0 0 * (poly 0 6).getD j 0 + (ks.getD 1 0 * (poly 1 6).getD j 0 + (ks.getD 2 0 * (poly 2 6).getD j 0 + (ks.getD 3 0 * (poly 3 6).getD j 0 + (ks.getD 4 0 * (poly 4 6).getD j 0 + (ks.getD 5 0 * (poly 5 6).getD j 0 + (ks.getD 6 0 * (poly 6 6).getD j 0 + 0)))))) = _
  omega
theorem tsum_unit {v j : Nat} (hv : v < 64) (hj : j < 7) : tsum (keptN [] (v : Int) 64) j = if pop v = j then 64 else 0 := by
  rw [tsum_eq]
  simp only [kept_Ak v _ 64 (Nat.le_refl _)]
  rw [Ak_poly v hv 0 (by decide), Ak_poly v hv 1 (by decide), Ak_poly v hv 2 (by decide), Ak_poly v hv 3 (by decide), Ak_poly v hv 4 (by decide), Ak_poly v hv 5 (by decide), Ak_poly v hv 6 (by decide)]
  exact poly_orth (pop v) (by have := pop_le v; omega) j hj
end Mine
namespace Mine
open PySem PySem.W PyProof.Rows
theorem crcStep_nat (c : Nat) : crcStep (c : Int) = ((cs c : Nat) : Int) := by
  have h1 := fd_nat c 1
  rw [crcStep, bit1, cs_eq, show (2 : Int) ^ Int.toNat 1 = 2 ^ 1 from rfl, h1, Nat.pow_one]
  have hb : c.testBit 0 = decide (c % 2 = 1) := by simp [Nat.testBit_eq_decide_div_mod_eq]
  by_cases h : c % 2 = 1
  · rw [if_neg (by omega), hb, decide_eq_true h, if_pos rfl]
    exact bx_nat _ 3988292384
  · rw [if_pos (by omega), hb, decide_eq_false h, if_neg (by decide), Nat.xor_zero]
theorem crcN_nat : ∀ n (c : Nat), crcN n (c : Int) = ((csN n c : Nat) : Int)
  | 0, _ => rfl
  | n + 1, c => by rw [crcN, crcN_nat n c, crcStep_nat]; rfl
theorem crcI_nat (x : Nat) : ∀ k, crcI (x : Int) k = ((crc4 x k : Nat) : Int)
  | 0 => rfl
  | k + 1 => by
    rw [crcI, crcI_nat x k, show (8 * (0 + (k : Int))).toNat = 8 * k by omega, fd_nat, show (255 : Int) = ((255 : Nat) : Int) from rfl, ba_nat, bx_nat, crcN_nat]
    rfl
theorem rb_le (x i : Nat) : rb x i ≤ 1 := by
  unfold rb
  split
  · split <;> omega
  · omega
theorem xor_bit (r b : Nat) (hb : b ≤ 1) : (2 * r) ^^^ b = 2 * r + b := by
  have h := xor_add (2 * r) b
  have e : (2 * r) &&& b = 0 := by
    have h1 : ((2 * r) &&& b) / 2 = 2 * r / 2 &&& b / 2 := Nat.and_div_two
    have h2 : b / 2 = 0 := by omega
    rw [h2, Nat.and_zero] at h1
    have h3 := @Nat.and_mod_two_eq_one (2 * r) b
    omega
  omega
theorem bit31 {r : Nat} (hr : r < 2 ^ 32) : r.testBit 31 = decide (2 ^ 31 ≤ r) := by
  rw [Nat.testBit_eq_decide_div_mod_eq]
  congr 1
  apply propext
  omega
theorem rl_lt {r b : Nat} (hr : r < 2 ^ 32) (hb : b ≤ 1) : rl r b < 2 ^ 32 := by
  rw [rl_eq, xor_bit r b hb, bit31 hr]
  by_cases h : 2 ^ 31 ≤ r
  · rw [decide_eq_true h, if_pos rfl]
    have hlt : (2 * r + b) ^^^ 4374732215 < 2 ^ 33 := Nat.xor_lt_two_pow (by omega) (by decide)
    have hbit : ((2 * r + b) ^^^ 4374732215).testBit 32 = false := by
      rw [Nat.testBit_xor, show Nat.testBit 4374732215 32 = true by decide, Nat.testBit_eq_decide_div_mod_eq]
      have : (2 * r + b) / 2 ^ 32 % 2 = 1 := by omega
      simp [this]
    rw [Nat.testBit_eq_decide_div_mod_eq] at hbit
    have := of_decide_eq_false hbit
    omega
  · rw [decide_eq_false h, if_neg (by decide), Nat.xor_zero]
    omega
theorem rsN_lt (x : Nat) : ∀ i, rsN x i < 2 ^ 32
  | 0 => by show 0 < 2 ^ 32; decide
  | i + 1 => rl_lt (rsN_lt x i) (rb_le x i)
theorem restIn_nat (x i : Nat) : restIn (x : Int) i = ((rb x i : Nat) : Int) := by
  rw [restIn, rb, show (0 + (i : Int)).toNat = i by omega, bit_nat]
  by_cases h : i < 32
  · rw [if_pos (by omega), if_pos h]
    cases x.testBit i <;> rfl
  · rw [if_neg (by omega), if_neg h]; rfl
theorem restN_nat (x : Nat) : ∀ i, restN (x : Int) i = ((rsN x i : Nat) : Int)
  | 0 => rfl
  | i + 1 => by
    have hlt := rsN_lt x i
    have hb := rb_le x i
    rw [restN, restN_nat x i, restIn_nat, rsN, rl_eq, xor_bit _ _ hb, bit31 hlt, red, show (2 : Int) ^ Int.toNat 32 = 4294967296 from rfl]
    generalize rsN x i = r at *
    generalize rb x i = b at *
    by_cases h : 2 ^ 31 ≤ r
    · rw [if_pos (by omega), decide_eq_true h, if_pos rfl, show 2 * (r : Int) + (b : Int) = ((2 * r + b : Nat) : Int) by omega]
      exact bx_nat _ 4374732215
    · rw [if_neg (by omega), decide_eq_false h, if_neg (by decide), Nat.xor_zero]
      omega
/-- a number of six bits -/
def bv (a b c d e f : Bool) : Nat := a.toNat + 2 * b.toNat + 4 * c.toNat + 8 * d.toNat + 16 * e.toNat + 32 * f.toNat
theorem bv_lt : ∀ a b c d e f : Bool, bv a b c d e f < 64 := by decide
theorem bv_pop : ∀ a b c d e f : Bool, pop (bv a b c d e f) = a.toNat + b.toNat + c.toNat + d.toNat + e.toNat + f.toNat := by decide
theorem bv_xor : ∀ a b c d e f a' b' c' d' e' f' : Bool, bv a b c d e f ^^^ bv a' b' c' d' e' f' = bv (a ^^ a') (b ^^ b') (c ^^ c') (d ^^ d') (e ^^ e') (f ^^ f') := by decide +kernel
def nb (x k : Nat) : Bool := !(rsN x 64).testBit (31 - k)
def six (x : Nat) : Nat := bv (nb x 0) (nb x 1) (nb x 2) (nb x 3) (nb x 4) (nb x 5)
theorem six_lt (x : Nat) : six x < 64 := bv_lt _ _ _ _ _ _
theorem nb_aff (k a b : Nat) : nb (a ^^^ b) k = ((nb a k ^^ nb b k) ^^ nb 0 k) := by
  have h : (rsN (a ^^^ b) 64).testBit (31 - k) = (((rsN a 64).testBit (31 - k) ^^ (rsN b 64).testBit (31 - k)) ^^ (rsN 0 64).testBit (31 - k)) := (rsN_aff 64).bit (31 - k) a b
  unfold nb
  rw [h]
  generalize (rsN a 64).testBit (31 - k) = p
  generalize (rsN b 64).testBit (31 - k) = q
  generalize (rsN 0 64).testBit (31 - k) = r
  cases p <;> cases q <;> cases r <;> rfl
theorem six_aff (a b : Nat) : six (a ^^^ b) = (six a ^^^ six b) ^^^ six 0 := by
  unfold six
  rw [bv_xor, bv_xor, ← nb_aff, ← nb_aff, ← nb_aff, ← nb_aff, ← nb_aff, ← nb_aff]
theorem six_shift (x y b : Nat) (c : Nat) (hc : c = six b ^^^ six (b ^^^ x)) : six (y ^^^ x) = six y ^^^ c := by
  subst hc
  rw [six_aff y x, six_aff b x]
  generalize six b = p
  generalize six x = q
  generalize six 0 = r
  rw [← Nat.xor_assoc p, ← Nat.xor_assoc p, Nat.xor_self, Nat.zero_xor, ← Nat.xor_assoc]
theorem six_range : rangeKs 0 (6 - 0 : Int).toNat = [0, 1, 2, 3, 4, 5] := by decide
theorem lawSix_nat (x : Nat) : lawSix (x : Int) = ((six x : Nat) : Int) := by
  rw [lawSix, restN_nat, sixVal, six_range]
  have h0 := bit_nat (rsN x 64) 31
  have h1 := bit_nat (rsN x 64) 30
  have h2 := bit_nat (rsN x 64) 29
  have h3 := bit_nat (rsN x 64) 28
  have h4 := bit_nat (rsN x 64) 27
  have h5 := bit_nat (rsN x 64) 26
  simp only [List.map_cons, List.map_nil, List.sum_cons, List.sum_nil]
  rw [show (31 - (0 : Int)).toNat = 31 from rfl, show (31 - (1 : Int)).toNat = 30 from rfl, show (31 - (2 : Int)).toNat = 29 from rfl, show (31 - (3 : Int)).toNat = 28 from rfl, show (31 - (4 : Int)).toNat = 27 from rfl, show (31 - (5 : Int)).toNat = 26 from rfl,
    h0, h1, h2, h3, h4, h5, six, bv, nb, nb, nb, nb, nb, nb]
  show (1 - (if (rsN x 64).testBit 31 = true then (1 : Int) else 0)) * 1 + ((1 - (if (rsN x 64).testBit 30 = true then (1 : Int) else 0)) * 2 + ((1 - (if (rsN x 64).testBit 29 = true then (1 : Int) else 0)) * 4 + ((1 - (if (rsN x 64).testBit 28 = true then (1 : Int) else 0)) * 8 +
    ((1 - (if (rsN x 64).testBit 27 = true then (1 : Int) else 0)) * 16 + ((1 - (if (rsN x 64).testBit 26 = true then (1 : Int) else 0)) * 32 + 0))))) = (((!(rsN x 64).testBit 31).toNat + 2 * (!(rsN x 64).testBit 30).toNat + 4 * (!(rsN x 64).testBit 29).toNat + 8 * (!(rsN x 64).testBit 28).toNat + 16 * (!(rsN x 64).testBit 27).toNat + 32 * (!(rsN x 64).testBit 26).toNat : Nat) : Int)
  have hb : ∀ t : Bool, (1 - (if t = true then (1 : Int) else 0)) = (((!t).toNat : Nat) : Int) := by decide
  rw [hb, hb, hb, hb, hb, hb]
  omega
theorem wt_nat (x : Nat) (hx : x < 2 ^ 32) : wtI (crcI (x : Int) 4) = ((pop (six x) : Nat) : Int) := by
  rw [crcI_nat, wtI, six_range]
  have h0 := bit_nat (crc4 x 4) 0
  have h1 := bit_nat (crc4 x 4) 1
  have h2 := bit_nat (crc4 x 4) 2
  have h3 := bit_nat (crc4 x 4) 3
  have h4 := bit_nat (crc4 x 4) 4
  have h5 := bit_nat (crc4 x 4) 5
  rw [bits_agree x _ hx (by decide)] at h0 h1 h2 h3 h4 h5
  simp only [List.map_cons, List.map_nil, List.sum_cons, List.sum_nil]
  rw [show (0 : Int).toNat = 0 from rfl, show (1 : Int).toNat = 1 from rfl, show (2 : Int).toNat = 2 from rfl, show (3 : Int).toNat = 3 from rfl, show (4 : Int).toNat = 4 from rfl, show (5 : Int).toNat = 5 from rfl, h0, h1, h2, h3, h4, h5,
    six, bv_pop, nb, nb, nb, nb, nb, nb]
  have hb : ∀ t : Bool, (1 - (if t = true then (1 : Int) else 0)) = (((!t).toNat : Nat) : Int) := by decide
  rw [hb, hb, hb, hb, hb, hb]
  omega
end Mine
namespace Mine
open PySem PySem.W PyProof.Rows
/-- how often j stands in a list -/
def cnt : List Int → Int → Int
  | [], _ => 0
  | w :: r, j => (if w = j then 1 else 0) + cnt r j
theorem cnt_nonneg (ws : List Int) (j : Int) : 0 ≤ cnt ws j := by
  induction ws with
  | nil => exact Int.le_refl _
  | cons w r ih =>
    rw [cnt]
    split <;> omega
theorem cnt_snoc (ws : List Int) (w j : Int) : cnt (ws ++ [w]) j = cnt ws j + if w = j then 1 else 0 := by
  induction ws with
  | nil => simp [cnt]
  | cons a r ih => rw [List.cons_append, cnt, cnt, ih]; omega
/-- the counts of a list, key by key -/
structure Tally (ws : List Int) (bs : List (Int × Int)) : Prop where
  nodup : (bs.map (·.1)).Nodup
  val : ∀ q ∈ bs, q.2 = cnt ws q.1 ∧ 1 ≤ q.2 ∧ q.1 ∈ ws
  has : ∀ k ∈ ws, k ∈ bs.map (·.1)
theorem bump_keys (bs : List (Int × Int)) (w k : Int) : k ∈ (bump bs w).map (·.1) ↔ k = w ∨ k ∈ bs.map (·.1) := by
  induction bs with
  | nil => simp [bump]
  | cons q r ih =>
    obtain ⟨a, c⟩ := q
    by_cases h : a = w
    · subst h; simp [bump]
    · simp only [bump, if_neg h, List.map_cons, List.mem_cons, ih]
      constructor
      · rintro (h | h | h) <;> simp [h]
      · rintro (h | h | h) <;> simp [h]
theorem bump_nodup (bs : List (Int × Int)) (w : Int) (h : (bs.map (·.1)).Nodup) : ((bump bs w).map (·.1)).Nodup := by
  induction bs with
  | nil => simp [bump]
  | cons q r ih =>
    obtain ⟨a, c⟩ := q
    simp only [List.map_cons, List.nodup_cons] at h
    by_cases hw : a = w
    · subst hw; simp only [bump, if_true, List.map_cons, List.nodup_cons]; exact h
    · simp only [bump, if_neg hw, List.map_cons, List.nodup_cons]
      refine ⟨fun hm => ?_, ih h.2⟩
      rcases (bump_keys r w a).mp hm with e | e
      · exact hw e
      · exact h.1 e
theorem bump_mem (bs : List (Int × Int)) (w : Int) (h : (bs.map (·.1)).Nodup) : ∀ q ∈ bump bs w, (q.1 ≠ w ∧ q ∈ bs) ∨ (q.1 = w ∧ ((w, q.2 - 1) ∈ bs ∨ (w ∉ bs.map (·.1) ∧ q.2 = 1))) := by
  induction bs with
  | nil =>
    intro q hq
    simp only [bump, List.mem_singleton] at hq
    subst hq
    exact .inr ⟨rfl, .inr ⟨by simp, rfl⟩⟩
  | cons p r ih =>
    obtain ⟨a, c⟩ := p
    simp only [List.map_cons, List.nodup_cons] at h
    intro q hq
    by_cases hw : a = w
    · subst hw
      simp only [bump, if_true] at hq
      rcases List.mem_cons.mp hq with e | hq
      · subst e
        exact .inr ⟨rfl, .inl (by simp)⟩
      · refine .inl ⟨fun e => h.1 (List.mem_map.mpr ⟨q, hq, e⟩), .tail _ hq⟩
    · simp only [bump, if_neg hw] at hq
      rcases List.mem_cons.mp hq with e | hq
      · subst e
        exact .inl ⟨hw, .head _⟩
      · rcases ih h.2 q hq with ⟨h1, h2⟩ | ⟨h1, h2 | ⟨h2, h3⟩⟩
        · exact .inl ⟨h1, .tail _ h2⟩
        · exact .inr ⟨h1, .inl (.tail _ h2)⟩
        · refine .inr ⟨h1, .inr ⟨?_, h3⟩⟩
          simp only [List.map_cons, List.mem_cons, not_or]
          exact ⟨fun e => hw e.symm, h2⟩
theorem bump_sum (bs : List (Int × Int)) (w : Int) : ((bump bs w).map (·.2)).sum = (bs.map (·.2)).sum + 1 := by
  induction bs with
  | nil => simp [bump]
  | cons q r ih =>
    obtain ⟨a, c⟩ := q
    by_cases h : a = w
    · simp only [bump, if_pos h, List.map_cons, List.sum_cons]; omega
    · simp only [bump, if_neg h, List.map_cons, List.sum_cons, ih]; omega
theorem cnt_zero {ws : List Int} {k : Int} (h : k ∉ ws) : cnt ws k = 0 := by
  induction ws with
  | nil => rfl
  | cons a r ih =>
    simp only [List.mem_cons, not_or] at h
    rw [cnt, if_neg (fun e => h.1 e.symm), ih h.2]; rfl
theorem Tally.snoc {ws : List Int} {bs : List (Int × Int)} (T : Tally ws bs) (w : Int) : Tally (ws ++ [w]) (bump bs w) where
  nodup := bump_nodup bs w T.nodup
  val := fun q hq => by
    rw [cnt_snoc]
    rcases bump_mem bs w T.nodup q hq with ⟨h1, h2⟩ | ⟨h1, h2 | ⟨h2, h3⟩⟩
    · have := T.val q h2
      rw [if_neg (fun e => h1 e.symm), Int.add_zero]
      exact ⟨this.1, this.2.1, List.mem_append_left _ this.2.2⟩
    · have h := (T.val _ h2)
      simp only at h
      rw [if_pos h1.symm, h1]
      exact ⟨by omega, by omega, List.mem_append_right _ (.head _)⟩
    · rw [if_pos h1.symm, h1, cnt_zero (fun hm => h2 (T.has _ hm))]
      exact ⟨by omega, by omega, List.mem_append_right _ (.head _)⟩
  has := fun k hk => by
    rw [bump_keys]
    rcases List.mem_append.mp hk with h | h
    · exact .inr (T.has k h)
    · exact .inl (List.mem_singleton.mp h)
theorem Tally.fold : ∀ (r ws : List Int) (bs : List (Int × Int)), Tally ws bs → Tally (ws ++ r) (r.foldl bump bs)
  | [], ws, bs, T => by rw [List.append_nil]; exact T
  | w :: r, ws, bs, T => by
    have h := Tally.fold r (ws ++ [w]) (bump bs w) (T.snoc w)
    rw [List.append_assoc] at h
    exact h
theorem tally (ws : List Int) : Tally ws (ws.foldl bump []) := Tally.fold ws [] [] ⟨.nil, (by intro q hq; cases hq), (by intro k hk; cases hk)⟩
theorem fold_sum : ∀ (r : List Int) (bs : List (Int × Int)), ((r.foldl bump bs).map (·.2)).sum = (bs.map (·.2)).sum + r.length
  | [], bs => by simp
  | w :: r, bs => by
    rw [List.foldl_cons, fold_sum r, bump_sum, List.length_cons]
    omega
/-- the sums of a list of small numbers by its counts -/
theorem sums : ∀ ws : List Int, (∀ w ∈ ws, 0 ≤ w ∧ w ≤ 6) →
    ws.sum = cnt ws 1 + 2 * cnt ws 2 + 3 * cnt ws 3 + 4 * cnt ws 4 + 5 * cnt ws 5 + 6 * cnt ws 6 ∧
    (ws.map (· ^ 2)).sum = cnt ws 1 + 4 * cnt ws 2 + 9 * cnt ws 3 + 16 * cnt ws 4 + 25 * cnt ws 5 + 36 * cnt ws 6 ∧
    (ws.map (· ^ 3)).sum = cnt ws 1 + 8 * cnt ws 2 + 27 * cnt ws 3 + 64 * cnt ws 4 + 125 * cnt ws 5 + 216 * cnt ws 6
  | [], _ => by simp [cnt]
  | w :: r, h => by
    obtain ⟨i1, i2, i3⟩ := sums r (fun x hx => h x (.tail _ hx))
    obtain ⟨h0, h6⟩ := h w (.head _)
    have hw : w = 0 ∨ w = 1 ∨ w = 2 ∨ w = 3 ∨ w = 4 ∨ w = 5 ∨ w = 6 := by omega
    simp only [List.sum_cons, List.map_cons, cnt, i1, i2, i3]
    rcases hw with e | e | e | e | e | e | e <;> subst e <;> simp <;> omega
theorem bookN_fold : ∀ (r : List Int) (b : Int × Int × Int × Int × List (Int × Int)), r.foldl bstep b = (r.length + b.1, r.sum + b.2.1, (r.map (· ^ 2)).sum + b.2.2.1, (r.map (· ^ 3)).sum + b.2.2.2.1, r.foldl bump b.2.2.2.2)
  | [], b => by simp
  | w :: r, b => by
    rw [List.foldl_cons, bookN_fold r]
    simp only [bstep, List.length_cons, List.sum_cons, List.map_cons, List.foldl_cons]
    have e2 : w ^ Int.toNat 2 = w ^ 2 := rfl
    have e3 : w ^ Int.toNat 3 = w ^ 3 := rfl
    rw [e2, e3]
    refine Prod.ext ?_ (Prod.ext ?_ (Prod.ext ?_ (Prod.ext ?_ rfl)))
    · show (r.length : Int) + (1 + b.1) = ((r.length + 1 : Nat) : Int) + b.1; omega
    · show r.sum + (w + b.2.1) = w + r.sum + b.2.1; omega
    · show (r.map (· ^ 2)).sum + (w ^ 2 + b.2.2.1) = w ^ 2 + (r.map (· ^ 2)).sum + b.2.2.1; omega
    · show (r.map (· ^ 3)).sum + (w ^ 3 + b.2.2.2.1) = w ^ 3 + (r.map (· ^ 3)).sum + b.2.2.2.1; omega
theorem tab_mem (ks : List Int) : ∀ i q, q ∈ tabN ks i ↔ ∃ j : Nat, j < i ∧ q = ((j : Int), oftenI ks j) ∧ oftenI ks j ≠ 0
  | 0, q => by simp [tabN]
  | i + 1, q => by
    rw [tabN]
    by_cases h : oftenI ks i = 0
    · rw [if_pos h, tab_mem ks i q]
      constructor
      · rintro ⟨j, h1, h2⟩; exact ⟨j, by omega, h2⟩
      · rintro ⟨j, h1, h2, h3⟩
        have : j ≠ i := fun e => h3 (e ▸ h)
        exact ⟨j, by omega, h2, h3⟩
    · rw [if_neg h, List.mem_append, tab_mem ks i q, List.mem_singleton]
      constructor
      · rintro (⟨j, h1, h2⟩ | h1)
        · exact ⟨j, by omega, h2⟩
        · exact ⟨i, by omega, h1, h⟩
      · rintro ⟨j, h1, h2, h3⟩
        by_cases e : j = i
        · subst e; exact .inr h2
        · exact .inl ⟨j, by omega, h2, h3⟩
theorem tab_nodup (ks : List Int) : ∀ i, ((tabN ks i).map (·.1)).Nodup
  | 0 => .nil
  | i + 1 => by
    rw [tabN]
    split
    · exact tab_nodup ks i
    · rw [List.map_append, List.nodup_append]
      refine ⟨tab_nodup ks i, by simp, ?_⟩
      intro a ha b hb e
      obtain ⟨q, hq, rfl⟩ := List.mem_map.mp ha
      have := tabN_keys ks i q hq
      simp at hb
      omega
/-- the table of the counts is the book's dict, whatever the order -/
theorem same_table (ws ks : List Int) (hb : ∀ w ∈ ws, 0 ≤ w ∧ w ≤ 6) (ho : ∀ j : Nat, j < 7 → oftenI ks j = cnt ws j) :
    (∀ q ∈ ws.foldl bump [], q ∈ tabN ks 7) ∧ (ws.foldl bump []).length = (tabN ks 7).length := by
  have T := tally ws
  have sub : ∀ q ∈ ws.foldl bump [], q ∈ tabN ks 7 := by
    intro q hq
    obtain ⟨h1, h2, h3⟩ := T.val q hq
    obtain ⟨h4, h5⟩ := hb _ h3
    obtain ⟨k, c⟩ := q
    simp only at h1 h2 h3 h4 h5
    rw [tab_mem]
    have e := ho k.toNat (by omega)
    rw [show ((k.toNat : Nat) : Int) = k by omega] at e
    exact ⟨k.toNat, by omega, by rw [e, ← h1, show ((k.toNat : Nat) : Int) = k by omega], by rw [e, ← h1]; omega⟩
  refine ⟨sub, Nat.le_antisymm ?_ ?_⟩
  · have h := List.Nodup.length_le_of_subset T.nodup (l₂ := (tabN ks 7).map (·.1)) (fun k hk => by
      obtain ⟨q, hq, rfl⟩ := List.mem_map.mp hk
      exact List.mem_map.mpr ⟨q, sub q hq, rfl⟩)
    simpa using h
  · have h := List.Nodup.length_le_of_subset (tab_nodup ks 7) (l₂ := (ws.foldl bump []).map (·.1)) (fun k hk => by
      obtain ⟨q, hq, rfl⟩ := List.mem_map.mp hk
      obtain ⟨j, hj, rfl, hne⟩ := (tab_mem ks 7 q).mp hq
      refine T.has _ (Classical.byContradiction fun hm => hne ?_)
      rw [ho j hj]
      exact cnt_zero hm)
    simpa using h
end Mine
namespace Mine
open PySem PySem.W PyProof.Rows
def ind (v : Nat) (j : Int) : Int := if ((pop v : Nat) : Int) = j then 1 else 0
theorem ind_nat (v j : Nat) : (if pop v = j then (64 : Int) else 0) = 64 * ind v (j : Int) := by
  unfold ind
  by_cases h : pop v = j
  · rw [if_pos h, if_pos (by omega)]; rfl
  · rw [if_neg h, if_neg (by omega)]; rfl
theorem poly_rows : poly 0 6 = [1, 6, 15, 20, 15, 6, 1] ∧ poly 1 6 = [1, 4, 5, 0, -5, -4, -1] ∧ poly 2 6 = [1, 2, -1, -4, -1, 2, 1] ∧ poly 3 6 = [1, 0, -3, 0, 3, 0, -1] ∧
    poly 4 6 = [1, -2, -1, 4, -1, -2, 1] ∧ poly 5 6 = [1, -4, 5, 0, -5, 4, -1] ∧ poly 6 6 = [1, -6, 15, -20, 15, -6, 1] := by decide
/-- a weighed sum of seven numbers splits where each of them does -/
theorem split7 {ks a1 a2 a3 a4 a5 a6 a7 a8 : List Int} (h : ∀ k, 8 * ks.getD k 0 = a1.getD k 0 + a2.getD k 0 + a3.getD k 0 + a4.getD k 0 + a5.getD k 0 + a6.getD k 0 + a7.getD k 0 + a8.getD k 0) (j : Nat) :
    8 * tsum ks j = tsum a1 j + tsum a2 j + tsum a3 j + tsum a4 j + tsum a5 j + tsum a6 j + tsum a7 j + tsum a8 j := by
  have e : ∀ k, 8 * (ks.getD k 0 * (poly k 6).getD j 0) = a1.getD k 0 * (poly k 6).getD j 0 + a2.getD k 0 * (poly k 6).getD j 0 + a3.getD k 0 * (poly k 6).getD j 0 + a4.getD k 0 * (poly k 6).getD j 0 +
      a5.getD k 0 * (poly k 6).getD j 0 + a6.getD k 0 * (poly k 6).getD j 0 + a7.getD k 0 * (poly k 6).getD j 0 + a8.getD k 0 * (poly k 6).getD j 0 := by
    intro k
    rw [← Int.mul_assoc, h k]
    simp only [Int.add_mul]
  have e0 := e 0
  have e1 := e 1
  have e2 := e 2
  have e3 := e 3
  have e4 := e 4
  have e5 := e 5
  have e6 := e 6
  simp only [tsum_eq]
  omega
theorem xor_texts (x0 x1 x2 x3 : Nat) : xorTexts (xorTexts (xorTexts [(x0 : Int)] (x1 : Int)) (x2 : Int)) (x3 : Int) =
    [x0, x0 ^^^ x1, x0 ^^^ x2, (x0 ^^^ x1) ^^^ x2, x0 ^^^ x3, (x0 ^^^ x1) ^^^ x3, (x0 ^^^ x2) ^^^ x3, ((x0 ^^^ x1) ^^^ x2) ^^^ x3].map fun x : Nat => (x : Int) := by
  simp only [xorTexts, List.map_cons, List.map_nil, List.cons_append, List.nil_append, bx_nat]
theorem wts_nat : ∀ xs : List Nat, (∀ x ∈ xs, x < 2 ^ 32) → wtsI (xs.map fun x : Nat => (x : Int)) = xs.map fun x => ((pop (six x) : Nat) : Int)
  | [], _ => rfl
  | x :: r, h => by
    have ih := wts_nat r fun y hy => h y (.tail _ hy)
    unfold wtsI at ih ⊢
    simp only [List.map_cons]
    rw [ih, wt_nat x (h x (.head _))]
theorem kept_one {c1 c2 c3 b : Nat} (hb : b < 64) (h1 : c1 < 64) (h2 : c2 < 64) (h3 : c3 < 64) :
    (keptN ([c1, c2, c3].map fun c : Nat => (c : Int)) (b : Int) 64).getD 0 0 = 1 ∧
    ∀ j : Nat, j < 7 → tsum (keptN ([c1, c2, c3].map fun c : Nat => (c : Int)) (b : Int) 64) j = 8 * (ind b j + ind (b ^^^ c1) j + ind (b ^^^ c2) j + ind ((b ^^^ c1) ^^^ c2) j + ind (b ^^^ c3) j + ind ((b ^^^ c1) ^^^ c3) j + ind ((b ^^^ c2) ^^^ c3) j + ind (((b ^^^ c1) ^^^ c2) ^^^ c3) j) := by
  have hx : ∀ {p q : Nat}, p < 64 → q < 64 → p ^^^ q < 64 := fun {p q} hp hq => Nat.xor_lt_two_pow (n := 6) hp hq
  have l1 := hx hb h1
  have l2 := hx hb h2
  have l12 := hx l1 h2
  have l3 := hx hb h3
  have l13 := hx l1 h3
  have l23 := hx l2 h3
  have l123 := hx l12 h3
  have hs := fun k => kept_split c1 c2 c3 b k 64 (Nat.le_refl _)
  constructor
  · have h0 := hs 0
    simp only [kept_Ak _ _ 64 (Nat.le_refl _)] at h0
    rw [Ak_poly b hb 0 (by decide), Ak_poly _ l1 0 (by decide), Ak_poly _ l2 0 (by decide), Ak_poly _ l12 0 (by decide), Ak_poly _ l3 0 (by decide), Ak_poly _ l13 0 (by decide), Ak_poly _ l23 0 (by decide), Ak_poly _ l123 0 (by decide)] at h0
    have hp : ∀ w, w < 7 → (poly w 6).getD 0 0 = 1 := by decide
    have hq : ∀ v, (poly (pop v) 6).getD 0 0 = 1 := fun v => hp _ (by have := pop_le v; omega)
    simp only [hq] at h0
    omega
  · intro j hj
    have h := split7 hs j
    rw [tsum_unit hb hj, tsum_unit l1 hj, tsum_unit l2 hj, tsum_unit l12 hj, tsum_unit l3 hj, tsum_unit l13 hj, tsum_unit l23 hj, tsum_unit l123 hj] at h
    simp only [ind_nat] at h
    omega
theorem moments {k0 k1 k2 k3 k4 k5 k6 c0 c1 c2 c3 c4 c5 c6 : Int} (h : k0 = 1) (e0 : k0 * 1 + k1 * 1 + k2 * 1 + k3 * 1 + k4 * 1 + k5 * 1 + k6 * 1 = 8 * c0) (e1 : k0 * 6 + k1 * 4 + k2 * 2 + k3 * 0 + k4 * (-2) + k5 * (-4) + k6 * (-6) = 8 * c1) (e2 : k0 * 15 + k1 * 5 + k2 * (-1) + k3 * (-3) + k4 * (-1) + k5 * 5 + k6 * 15 = 8 * c2) (e3 : k0 * 20 + k1 * 0 + k2 * (-4) + k3 * 0 + k4 * 4 + k5 * 0 + k6 * (-20) = 8 * c3) (e4 : k0 * 15 + k1 * (-5) + k2 * (-1) + k3 * 3 + k4 * (-1) + k5 * (-5) + k6 * 15 = 8 * c4) (e5 : k0 * 6 + k1 * (-4) + k2 * 2 + k3 * 0 + k4 * (-2) + k5 * 4 + k6 * (-6) = 8 * c5) (e6 : k0 * 1 + k1 * (-1) + k2 * 1 + k3 * (-1) + k4 * 1 + k5 * (-1) + k6 * 1 = 8 * c6) :
    c1 + 2 * c2 + 3 * c3 + 4 * c4 + 5 * c5 + 6 * c6 = 24 - 4 * k1 ∧
    c1 + 4 * c2 + 9 * c3 + 16 * c4 + 25 * c5 + 36 * c6 = 84 - 24 * k1 + 4 * k2 ∧
    c1 + 8 * c2 + 27 * c3 + 64 * c4 + 125 * c5 + 216 * c6 = 324 - 124 * k1 + 36 * k2 - 6 * k3 := by
  subst h
  refine ⟨?_, ?_, ?_⟩ <;> omega
/-- the law in plain words -/
theorem law_math (w0 w1 w2 w3 : Int) (h0 : 0 ≤ w0 ∧ w0 < 2 ^ 32) (h1 : 0 ≤ w1 ∧ w1 < 2 ^ 32) (h2 : 0 ≤ w2 ∧ w2 < 2 ^ 32) (h3 : 0 ≤ w3 ∧ w3 < 2 ^ 32) (ws : List Int) (hws : ws = wtsI (xorTexts (xorTexts (xorTexts [w0] w1) w2) w3))
    (cs : List Int) (hcs : cs = [w1, w2, w3].map fun c => Builtin.bitXor (lawSix w0) (lawSix (Builtin.bitXor w0 c))) (ks : List Int) (hks : ks = keptN cs (lawSix w0) 64) :
    (0 ≤ lawSix w0 ∧ lawSix w0 < 64) ∧ (∀ c ∈ cs, 0 ≤ c ∧ c < 64) ∧ (∀ j, -1000 ≤ ks.getD j 0 ∧ ks.getD j 0 ≤ 1000) ∧
    (bookN ws).1 = 8 ∧ (bookN ws).2.1 = 24 - 4 * ks.getD 1 0 ∧ (bookN ws).2.2.1 = 84 - 24 * ks.getD 1 0 + 4 * ks.getD 2 0 ∧ (bookN ws).2.2.2.1 = 324 - 124 * ks.getD 1 0 + 36 * ks.getD 2 0 - 6 * ks.getD 3 0 ∧
    (∀ q ∈ (bookN ws).2.2.2.2, q ∈ tabN ks 7) ∧ (bookN ws).2.2.2.2.length = (tabN ks 7).length ∧ ((bookN ws).2.2.2.2.map (·.2)).sum = 8 := by
  obtain ⟨x0, rfl⟩ := Int.eq_ofNat_of_zero_le h0.1
  obtain ⟨x1, rfl⟩ := Int.eq_ofNat_of_zero_le h1.1
  obtain ⟨x2, rfl⟩ := Int.eq_ofNat_of_zero_le h2.1
  obtain ⟨x3, rfl⟩ := Int.eq_ofNat_of_zero_le h3.1
  have l0 : x0 < 2 ^ 32 := by omega
  have l1 : x1 < 2 ^ 32 := by omega
  have l2 : x2 < 2 ^ 32 := by omega
  have l3 : x3 < 2 ^ 32 := by omega
  have hx : ∀ {p q : Nat}, p < 2 ^ 32 → q < 2 ^ 32 → p ^^^ q < 2 ^ 32 := fun {p q} hp hq => Nat.xor_lt_two_pow hp hq
  have hx6 : ∀ {p q : Nat}, p < 64 → q < 64 → p ^^^ q < 64 := fun {p q} hp hq => Nat.xor_lt_two_pow (n := 6) hp hq
  rw [xor_texts, wts_nat _ (by
    intro x hxm
    simp only [List.mem_cons, List.not_mem_nil, or_false] at hxm
    rcases hxm with e | e | e | e | e | e | e | e <;> subst e
    · exact l0
    · exact hx l0 l1
    · exact hx l0 l2
    · exact hx (hx l0 l1) l2
    · exact hx l0 l3
    · exact hx (hx l0 l1) l3
    · exact hx (hx l0 l2) l3
    · exact hx (hx (hx l0 l1) l2) l3)] at hws
  simp only [List.map_cons, List.map_nil, bx_nat, lawSix_nat] at hcs
  rw [lawSix_nat] at hks ⊢
  have hb := six_lt x0
  have g1 := hx6 hb (six_lt (x0 ^^^ x1))
  have g2 := hx6 hb (six_lt (x0 ^^^ x2))
  have g3 := hx6 hb (six_lt (x0 ^^^ x3))
  have s1 := fun y => six_shift x1 y x0 _ rfl
  have s2 := fun y => six_shift x2 y x0 _ rfl
  have s3 := fun y => six_shift x3 y x0 _ rfl
  generalize hc1 : six x0 ^^^ six (x0 ^^^ x1) = c1 at *
  generalize hc2 : six x0 ^^^ six (x0 ^^^ x2) = c2 at *
  generalize hc3 : six x0 ^^^ six (x0 ^^^ x3) = c3 at *
  simp only [List.map_cons, List.map_nil, s1, s2, s3] at hws
  generalize six x0 = b at *
  have hks' : ks = keptN ([c1, c2, c3].map fun c : Nat => (c : Int)) (b : Int) 64 := by rw [hks, hcs]; rfl
  obtain ⟨k0, kt⟩ := kept_one hb g1 g2 g3
  have hsp := fun k => kept_split c1 c2 c3 b k 64 (Nat.le_refl _)
  rw [← hks'] at k0 kt
  have hlen : ws.length = 8 := by rw [hws]; rfl
  have hbd : ∀ w ∈ ws, 0 ≤ w ∧ w ≤ 6 := by
    rw [hws]
    intro w hw
    simp only [List.mem_cons, List.not_mem_nil, or_false] at hw
    have hp : ∀ v, 0 ≤ ((pop v : Nat) : Int) ∧ ((pop v : Nat) : Int) ≤ 6 := fun v => by have := pop_le v; omega
    rcases hw with e | e | e | e | e | e | e | e <;> subst e <;> exact hp _
  have hcnt : ∀ j : Int, cnt ws j = ind b j + ind (b ^^^ c1) j + ind (b ^^^ c2) j + ind ((b ^^^ c1) ^^^ c2) j + ind (b ^^^ c3) j + ind ((b ^^^ c1) ^^^ c3) j + ind ((b ^^^ c2) ^^^ c3) j + ind (((b ^^^ c1) ^^^ c2) ^^^ c3) j := by
    intro j
    rw [hws]
    simp only [cnt, ind]
    omega
  have hts : ∀ j : Nat, j < 7 → tsum ks j = 8 * cnt ws (j : Int) := fun j hj => by rw [kt j hj, hcnt]
  have hof : ∀ j : Nat, j < 7 → oftenI ks j = cnt ws (j : Int) := fun j hj => by
    show Int.fdiv (tsum ks j) 8 = _
    rw [hts j hj, Int.fdiv_eq_ediv_of_nonneg _ (by decide)]
    omega
  obtain ⟨m1, m2, m3⟩ := sums ws hbd
  obtain ⟨t1, t2⟩ := same_table ws ks hbd hof
  have hbook : bookN ws = (8, ws.sum, (ws.map (· ^ 2)).sum, (ws.map (· ^ 3)).sum, ws.foldl bump []) := by
    rw [bookN, bookN_fold, hlen]
    simp
  obtain ⟨p0, p1, p2, p3, p4, p5, p6⟩ := poly_rows
  have e0 : tsum ks 0 = 8 * cnt ws 0 := hts 0 (by decide)
  have e1 : tsum ks 1 = 8 * cnt ws 1 := hts 1 (by decide)
  have e2 : tsum ks 2 = 8 * cnt ws 2 := hts 2 (by decide)
  have e3 : tsum ks 3 = 8 * cnt ws 3 := hts 3 (by decide)
  have e4 : tsum ks 4 = 8 * cnt ws 4 := hts 4 (by decide)
  have e5 : tsum ks 5 = 8 * cnt ws 5 := hts 5 (by decide)
  have e6 : tsum ks 6 = 8 * cnt ws 6 := hts 6 (by decide)
  rw [tsum_eq, p0, p1, p2, p3, p4, p5, p6] at e0 e1 e2 e3 e4 e5 e6
  obtain ⟨v1, v2, v3⟩ := moments k0 e0 e1 e2 e3 e4 e5 e6
  clear e0 e1 e2 e3 e4 e5 e6
  refine ⟨by omega, ?_, ?_, ?_, ?_, ?_, ?_, ?_, ?_, ?_⟩
  · rw [hcs]
    intro c hc
    simp only [List.mem_cons, List.not_mem_nil, or_false] at hc
    rcases hc with e | e | e <;> subst e <;> omega
  · intro j
    by_cases hj : j < 7
    · have hk := hsp j
      rw [← hks'] at hk
      simp only [kept_Ak _ _ 64 (Nat.le_refl _)] at hk
      have q1 := hx6 hb g1
      have q2 := hx6 hb g2
      have q3 := hx6 hb g3
      rw [Ak_poly b hb j hj, Ak_poly _ q1 j hj, Ak_poly _ q2 j hj, Ak_poly _ (hx6 q1 g2) j hj, Ak_poly _ q3 j hj, Ak_poly _ (hx6 q1 g3) j hj, Ak_poly _ (hx6 q2 g3) j hj, Ak_poly _ (hx6 (hx6 q1 g2) g3) j hj] at hk
      have hp : ∀ w, w < 7 → ∀ j, j < 7 → -20 ≤ (poly w 6).getD j 0 ∧ (poly w 6).getD j 0 ≤ 20 := by decide
      have hq : ∀ v, -20 ≤ (poly (pop v) 6).getD j 0 ∧ (poly (pop v) 6).getD j 0 ≤ 20 := fun v => hp _ (by have := pop_le v; omega) j hj
      have a1 := hq b
      have a2 := hq (b ^^^ c1)
      have a3 := hq (b ^^^ c2)
      have a4 := hq ((b ^^^ c1) ^^^ c2)
      have a5 := hq (b ^^^ c3)
      have a6 := hq ((b ^^^ c1) ^^^ c3)
      have a7 := hq ((b ^^^ c2) ^^^ c3)
      have a8 := hq (((b ^^^ c1) ^^^ c2) ^^^ c3)
      omega
    · have : ks.getD j 0 = 0 := by
        have hl : ks.length = 7 := by rw [hks']; exact keptN_length _ _ _
        rw [List.getD_eq_getElem?_getD, List.getElem?_eq_none (by omega)]; rfl
      omega
  · rw [hbook]
  · rw [hbook]
    show ws.sum = _
    rw [m1]
    exact v1
  · rw [hbook]
    show (ws.map (· ^ 2)).sum = _
    rw [m2]
    exact v2
  · rw [hbook]
    show (ws.map (· ^ 3)).sum = _
    rw [m3]
    exact v3
  · rw [hbook]; exact t1
  · rw [hbook]; exact t2
  · rw [hbook]
    show ((ws.foldl bump []).map (·.2)).sum = 8
    rw [fold_sum, hlen]; rfl
end Mine
namespace Mine
open PySem PySem.W PyProof.Rows
theorem off_of {h₀ h : Heap} {L : Addr} {news tl : List (Addr × Obj)} (N : News h₀ L h news) {c : Addr} {oc : Obj} {k : Nat} (hc : (c, oc) ∈ news) (hkc : kd oc = k) (hs : ∀ p ∈ tl, p ∈ news) (hk : ∀ p ∈ tl, kd p.2 ≠ k ∨ p.1 ≠ c) : ∀ p ∈ tl, p.1 ≠ c :=
  fun p hp => (hk p hp).elim (fun h => News.apart N (hs p hp) hc (hkc ▸ h)) id
theorem nc {a b : Nat} (h : a ≠ b) : @Ne Addr a b := h
theorem law_spec (w : World) (body : List Stmt) (scope : Scope) (cdv : Value) (qual : Str) (H : LawAt w body scope cdv qual)
    (p : Program) (loose : List Str) (mean : ExcName → Option Value) (mg mb : Str → Option Value) (A₀ : Around) (dp : Nat) (gd : Option (List Code)) (un : Nat) (outer : List Env) (base g : Heap) (L : Addr) (s : Shared)
    (B : Below A₀ base outer g) (X : (hd.heap_39 w.params).In g) (T : Top p loose mean mg mb g) (hdp : dp + 20 < recursionLimit) (hun : un + 240 < cLine) (hb : AllBare s.gens)
    (m : Str → Option Value) (o1 o2 o3 o4 o5 o6 o7 o8 o9 o10 : Obj) (ax : Addr) (vs : List Value) (ns : List Int)
    (h1 : o1.data = .cell (some (.ref ax))) (h2 : o2.data = .cell none) (h3 : o3.data = .cell none) (h4 : o4.data = .cell none) (h5 : o5.data = .cell none) (h6 : o6.data = .cell none) (h7 : o7.data = .cell none) (h8 : o8.data = .cell none) (h9 : o9.data = .cell none) (h10 : o10.data = .cell none)
    (F : Fr g L s.heap m) (hax : g.IsList ax vs.toArray) (hvs : IntsAre vs ns) (hlen : ns.length ≤ 63)
    (N : News g L s.heap ((L + 1 + 1 + 1 + 1 + 1 + 1 + 1 + 1 + 1 + 1, o10) :: (L + 1 + 1 + 1 + 1 + 1 + 1 + 1 + 1 + 1, o9) :: (L + 1 + 1 + 1 + 1 + 1 + 1 + 1 + 1, o8) :: (L + 1 + 1 + 1 + 1 + 1 + 1 + 1, o7) :: (L + 1 + 1 + 1 + 1 + 1 + 1, o6) :: (L + 1 + 1 + 1 + 1 + 1, o5) :: (L + 1 + 1 + 1 + 1, o4) :: (L + 1 + 1 + 1, o3) :: (L + 1 + 1, o2) :: (L + 1, o1) :: [(30, tabObj #[])])) :
    wpAny (model PySem.Challenge.rw_pg0027_01.row.prog w) (Ar dp gd un (envOfC qual scope L 57 cdv :: outer)) (execs (body.drop 0) (envOfC qual scope L 57 cdv))
      (fun fl s' => fl = .ret (.bool true) ∧ Rest s s' ∧ (∃ m', Fr g L s'.heap m') ∧ ∃ ps, News g L s'.heap [(30, tabObj ps)]) NoE s := by
  have k1 := kd_cell h1
  have k2 := kd_cell h2
  have k3 := kd_cell h3
  have k4 := kd_cell h4
  have k5 := kd_cell h5
  have k6 := kd_cell h6
  have k7 := kd_cell h7
  have k8 := kd_cell h8
  have k9 := kd_cell h9
  have k10 := kd_cell h10
  have N0 := News.sub' (news' := (L + 1 + 1, o2) :: (L + 1, o1) :: (L + 1 + 1 + 1 + 1 + 1 + 1 + 1 + 1 + 1 + 1, o10) :: (L + 1 + 1 + 1 + 1 + 1 + 1 + 1 + 1 + 1, o9) :: (L + 1 + 1 + 1 + 1 + 1 + 1 + 1 + 1, o8) :: (L + 1 + 1 + 1 + 1 + 1 + 1 + 1, o7) :: (L + 1 + 1 + 1 + 1 + 1 + 1, o6) :: (L + 1 + 1 + 1 + 1 + 1, o5) :: (L + 1 + 1 + 1 + 1, o4) :: (L + 1 + 1 + 1, o3) :: (30, tabObj #[]) :: []) N (fc (.tail _ (.tail _ (.tail _ (.tail _ (.tail _ (.tail _ (.tail _ (.tail _ (.head _))))))))) (fc (.tail _ (.tail _ (.tail _ (.tail _ (.tail _ (.tail _ (.tail _ (.tail _ (.tail _ (.head _)))))))))) (fc (.head _) (fc (.tail _ (.head _)) (fc (.tail _ (.tail _ (.head _))) (fc (.tail _ (.tail _ (.tail _ (.head _)))) (fc (.tail _ (.tail _ (.tail _ (.tail _ (.head _))))) (fc (.tail _ (.tail _ (.tail _ (.tail _ (.tail _ (.head _)))))) (fc (.tail _ (.tail _ (.tail _ (.tail _ (.tail _ (.tail _ (.head _))))))) (fc (.tail _ (.tail _ (.tail _ (.tail _ (.tail _ (.tail _ (.tail _ (.head _)))))))) (fc (.tail _ (.tail _ (.tail _ (.tail _ (.tail _ (.tail _ (.tail _ (.tail _ (.tail _ (.tail _ (.head _))))))))))) fn)))))))))))
  have f2 : ∀ p ∈ (L + 1 + 1 + 1 + 1 + 1 + 1 + 1 + 1 + 1 + 1, o10) :: (L + 1 + 1 + 1 + 1 + 1 + 1 + 1 + 1 + 1, o9) :: (L + 1 + 1 + 1 + 1 + 1 + 1 + 1 + 1, o8) :: (L + 1 + 1 + 1 + 1 + 1 + 1 + 1, o7) :: (L + 1 + 1 + 1 + 1 + 1 + 1, o6) :: (L + 1 + 1 + 1 + 1 + 1, o5) :: (L + 1 + 1 + 1 + 1, o4) :: (L + 1 + 1 + 1, o3) :: (30, tabObj #[]) :: [], p.1 ≠ L + 1 + 1 := off_of N0 (.head _) k2 (fun p hp => .tail _ (.tail _ (hp))) (fc (.inr (nc (by show (_ : Nat) ≠ _; omega))) (fc (.inr (nc (by show (_ : Nat) ≠ _; omega))) (fc (.inr (nc (by show (_ : Nat) ≠ _; omega))) (fc (.inr (nc (by show (_ : Nat) ≠ _; omega))) (fc (.inr (nc (by show (_ : Nat) ≠ _; omega))) (fc (.inr (nc (by show (_ : Nat) ≠ _; omega))) (fc (.inr (nc (by show (_ : Nat) ≠ _; omega))) (fc (.inr (nc (by show (_ : Nat) ≠ _; omega))) (fc (.inl (show (9 : Nat) ≠ 6 by decide)) fn)))))))))
  refine seg0 w body scope cdv qual H p loose mean mg mb A₀ dp gd un outer base g L s B X T hdp hun hb _ m o1 o2 ax vs ns ((L + 1 + 1 + 1 + 1 + 1 + 1 + 1 + 1 + 1 + 1, o10) :: (L + 1 + 1 + 1 + 1 + 1 + 1 + 1 + 1 + 1, o9) :: (L + 1 + 1 + 1 + 1 + 1 + 1 + 1 + 1, o8) :: (L + 1 + 1 + 1 + 1 + 1 + 1 + 1, o7) :: (L + 1 + 1 + 1 + 1 + 1 + 1, o6) :: (L + 1 + 1 + 1 + 1 + 1, o5) :: (L + 1 + 1 + 1 + 1, o4) :: (L + 1 + 1 + 1, o3) :: (30, tabObj #[]) :: []) _ h1 h2 F hax hvs hlen N0 f2 ?_
  intro s1 m1 o2' Wd w0 w1 w2 w3 t0 t1 t2 t3 kw od r1 F1 N1 d2 hodd1 b0 b1 b2 b3
  have k2 := kd_cell d2
  have N2 := News.sub' (news' := (Wd, W.listOf #[.int w0 t0, .int w1 t1, .int w2 t2, .int w3 t3] kw) :: (L + 1 + 1 + 1, o3) :: (L + 1 + 1, o2') :: (L + 1 + 1 + 1 + 1 + 1 + 1 + 1 + 1 + 1 + 1, o10) :: (L + 1 + 1 + 1 + 1 + 1 + 1 + 1 + 1 + 1, o9) :: (L + 1 + 1 + 1 + 1 + 1 + 1 + 1 + 1, o8) :: (L + 1 + 1 + 1 + 1 + 1 + 1 + 1, o7) :: (L + 1 + 1 + 1 + 1 + 1 + 1, o6) :: (L + 1 + 1 + 1 + 1 + 1, o5) :: (L + 1 + 1 + 1 + 1, o4) :: (L + 1, o1) :: (30, tabObj #[]) :: []) N1 (fc (.head _) (fc (.tail _ (.tail _ (.tail _ (.tail _ (.tail _ (.tail _ (.tail _ (.tail _ (.tail _ (.tail _ (.head _))))))))))) (fc (.tail _ (.head _)) (fc (.tail _ (.tail _ (.tail _ (.head _)))) (fc (.tail _ (.tail _ (.tail _ (.tail _ (.head _))))) (fc (.tail _ (.tail _ (.tail _ (.tail _ (.tail _ (.head _)))))) (fc (.tail _ (.tail _ (.tail _ (.tail _ (.tail _ (.tail _ (.head _))))))) (fc (.tail _ (.tail _ (.tail _ (.tail _ (.tail _ (.tail _ (.tail _ (.head _)))))))) (fc (.tail _ (.tail _ (.tail _ (.tail _ (.tail _ (.tail _ (.tail _ (.tail _ (.head _))))))))) (fc (.tail _ (.tail _ (.tail _ (.tail _ (.tail _ (.tail _ (.tail _ (.tail _ (.tail _ (.head _)))))))))) (fc (.tail _ (.tail _ (.head _))) (fc (.tail _ (.tail _ (.tail _ (.tail _ (.tail _ (.tail _ (.tail _ (.tail _ (.tail _ (.tail _ (.tail _ (.head _)))))))))))) fn))))))))))))
  have f3 : ∀ p ∈ (L + 1 + 1 + 1 + 1 + 1 + 1 + 1 + 1 + 1 + 1, o10) :: (L + 1 + 1 + 1 + 1 + 1 + 1 + 1 + 1 + 1, o9) :: (L + 1 + 1 + 1 + 1 + 1 + 1 + 1 + 1, o8) :: (L + 1 + 1 + 1 + 1 + 1 + 1 + 1, o7) :: (L + 1 + 1 + 1 + 1 + 1 + 1, o6) :: (L + 1 + 1 + 1 + 1 + 1, o5) :: (L + 1 + 1 + 1 + 1, o4) :: (L + 1, o1) :: (30, tabObj #[]) :: [], p.1 ≠ L + 1 + 1 + 1 := off_of N2 (.tail _ (.head _)) k3 (fun p hp => .tail _ (.tail _ (.tail _ (hp)))) (fc (.inr (nc (by show (_ : Nat) ≠ _; omega))) (fc (.inr (nc (by show (_ : Nat) ≠ _; omega))) (fc (.inr (nc (by show (_ : Nat) ≠ _; omega))) (fc (.inr (nc (by show (_ : Nat) ≠ _; omega))) (fc (.inr (nc (by show (_ : Nat) ≠ _; omega))) (fc (.inr (nc (by show (_ : Nat) ≠ _; omega))) (fc (.inr (nc (by show (_ : Nat) ≠ _; omega))) (fc (.inr (nc (by show (_ : Nat) ≠ _; omega))) (fc (.inl (show (9 : Nat) ≠ 6 by decide)) fn)))))))))
  have fW3 : @Ne Nat Wd (L + 1 + 1 + 1) := News.apart N2 (.head _) (.tail _ (.head _)) (by rw [k3]; show (2 : Nat) ≠ 6; decide)
  refine seg2 w body scope cdv qual H p loose mean mg mb A₀ dp gd un outer base g L s1 B X T hdp hun r1.bare _ m1 od o2' o3 Wd w0 w1 w2 w3 t0 t1 t2 t3 kw ((L + 1 + 1 + 1 + 1 + 1 + 1 + 1 + 1 + 1 + 1, o10) :: (L + 1 + 1 + 1 + 1 + 1 + 1 + 1 + 1 + 1, o9) :: (L + 1 + 1 + 1 + 1 + 1 + 1 + 1 + 1, o8) :: (L + 1 + 1 + 1 + 1 + 1 + 1 + 1, o7) :: (L + 1 + 1 + 1 + 1 + 1 + 1, o6) :: (L + 1 + 1 + 1 + 1 + 1, o5) :: (L + 1 + 1 + 1 + 1, o4) :: (L + 1, o1) :: (30, tabObj #[]) :: []) _ d2 h3 hodd1 F1 N2 f3 fW3 ?_
  intro s2 m2 o3' v3' l kl vl r2 F2 N3 d3 htx2 hodd2 hvl _
  have k3 := kd_cell d3
  obtain ⟨xs, hxs⟩ : ∃ xs, xs = xorTexts (xorTexts (xorTexts [w0] w1) w2) w3 := ⟨_, rfl⟩
  rw [← hxs] at hvl
  have hxl : xs.length ≤ 8 := by rw [hxs]; simp [xorTexts]
  have N4 := News.sub' (news' := (l, W.listOf vl.toArray kl) :: (30, tabObj #[]) :: (L + 1 + 1 + 1 + 1 + 1, o5) :: (L + 1 + 1 + 1 + 1, o4) :: (Wd, W.listOf #[.int w0 t0, .int w1 t1, .int w2 t2, .int w3 t3] kw) :: (L + 1 + 1, o2') :: (L + 1 + 1 + 1 + 1 + 1 + 1 + 1 + 1 + 1 + 1, o10) :: (L + 1 + 1 + 1 + 1 + 1 + 1 + 1 + 1 + 1, o9) :: (L + 1 + 1 + 1 + 1 + 1 + 1 + 1 + 1, o8) :: (L + 1 + 1 + 1 + 1 + 1 + 1 + 1, o7) :: (L + 1 + 1 + 1 + 1 + 1 + 1, o6) :: []) N3 (fc (.head _) (fc (.tail _ (.tail _ (.tail _ (.tail _ (.tail _ (.tail _ (.tail _ (.tail _ (.tail _ (.tail _ (.tail _ (.tail _ (.head _))))))))))))) (fc (.tail _ (.tail _ (.tail _ (.tail _ (.tail _ (.tail _ (.tail _ (.tail _ (.tail _ (.head _)))))))))) (fc (.tail _ (.tail _ (.tail _ (.tail _ (.tail _ (.tail _ (.tail _ (.tail _ (.tail _ (.tail _ (.head _))))))))))) (fc (.tail _ (.head _)) (fc (.tail _ (.tail _ (.tail _ (.head _)))) (fc (.tail _ (.tail _ (.tail _ (.tail _ (.head _))))) (fc (.tail _ (.tail _ (.tail _ (.tail _ (.tail _ (.head _)))))) (fc (.tail _ (.tail _ (.tail _ (.tail _ (.tail _ (.tail _ (.head _))))))) (fc (.tail _ (.tail _ (.tail _ (.tail _ (.tail _ (.tail _ (.tail _ (.head _)))))))) (fc (.tail _ (.tail _ (.tail _ (.tail _ (.tail _ (.tail _ (.tail _ (.tail _ (.head _))))))))) fn)))))))))))
  have f4 : ∀ p ∈ (Wd, W.listOf #[.int w0 t0, .int w1 t1, .int w2 t2, .int w3 t3] kw) :: (L + 1 + 1, o2') :: (L + 1 + 1 + 1 + 1 + 1 + 1 + 1 + 1 + 1 + 1, o10) :: (L + 1 + 1 + 1 + 1 + 1 + 1 + 1 + 1 + 1, o9) :: (L + 1 + 1 + 1 + 1 + 1 + 1 + 1 + 1, o8) :: (L + 1 + 1 + 1 + 1 + 1 + 1 + 1, o7) :: (L + 1 + 1 + 1 + 1 + 1 + 1, o6) :: [], p.1 ≠ L + 1 + 1 + 1 + 1 := off_of N4 (.tail _ (.tail _ (.tail _ (.head _)))) k4 (fun p hp => .tail _ (.tail _ (.tail _ (.tail _ (hp))))) (fc (.inl (show (2 : Nat) ≠ 6 by decide)) (fc (.inr (nc (by show (_ : Nat) ≠ _; omega))) (fc (.inr (nc (by show (_ : Nat) ≠ _; omega))) (fc (.inr (nc (by show (_ : Nat) ≠ _; omega))) (fc (.inr (nc (by show (_ : Nat) ≠ _; omega))) (fc (.inr (nc (by show (_ : Nat) ≠ _; omega))) (fc (.inr (nc (by show (_ : Nat) ≠ _; omega))) fn)))))))
  have f5 : ∀ p ∈ (Wd, W.listOf #[.int w0 t0, .int w1 t1, .int w2 t2, .int w3 t3] kw) :: (L + 1 + 1, o2') :: (L + 1 + 1 + 1 + 1 + 1 + 1 + 1 + 1 + 1 + 1, o10) :: (L + 1 + 1 + 1 + 1 + 1 + 1 + 1 + 1 + 1, o9) :: (L + 1 + 1 + 1 + 1 + 1 + 1 + 1 + 1, o8) :: (L + 1 + 1 + 1 + 1 + 1 + 1 + 1, o7) :: (L + 1 + 1 + 1 + 1 + 1 + 1, o6) :: [], p.1 ≠ L + 1 + 1 + 1 + 1 + 1 := off_of N4 (.tail _ (.tail _ (.head _))) k5 (fun p hp => .tail _ (.tail _ (.tail _ (.tail _ (hp))))) (fc (.inl (show (2 : Nat) ≠ 6 by decide)) (fc (.inr (nc (by show (_ : Nat) ≠ _; omega))) (fc (.inr (nc (by show (_ : Nat) ≠ _; omega))) (fc (.inr (nc (by show (_ : Nat) ≠ _; omega))) (fc (.inr (nc (by show (_ : Nat) ≠ _; omega))) (fc (.inr (nc (by show (_ : Nat) ≠ _; omega))) (fc (.inr (nc (by show (_ : Nat) ≠ _; omega))) fn)))))))
  have fP : ∀ p ∈ (Wd, W.listOf #[.int w0 t0, .int w1 t1, .int w2 t2, .int w3 t3] kw) :: (L + 1 + 1, o2') :: (L + 1 + 1 + 1 + 1 + 1 + 1 + 1 + 1 + 1 + 1, o10) :: (L + 1 + 1 + 1 + 1 + 1 + 1 + 1 + 1 + 1, o9) :: (L + 1 + 1 + 1 + 1 + 1 + 1 + 1 + 1, o8) :: (L + 1 + 1 + 1 + 1 + 1 + 1 + 1, o7) :: (L + 1 + 1 + 1 + 1 + 1 + 1, o6) :: [], p.1 ≠ 30 := off_of (oc := tabObj #[]) (k := 9) N4 (.tail _ (.head _)) rfl (fun p hp => .tail _ (.tail _ (.tail _ (.tail _ (hp))))) (fc (.inl (show (2 : Nat) ≠ 9 by decide)) (fc (.inl (by rw [k2]; decide)) (fc (.inl (by rw [k10]; decide)) (fc (.inl (by rw [k9]; decide)) (fc (.inl (by rw [k8]; decide)) (fc (.inl (by rw [k7]; decide)) (fc (.inl (by rw [k6]; decide)) fn)))))))
  refine seg4 w body scope cdv qual H p loose mean mg mb A₀ dp gd un outer base g L s2 B X T hdp hun r2.bare _ m2 od o4 o5 l vl xs kl #[] ((Wd, W.listOf #[.int w0 t0, .int w1 t1, .int w2 t2, .int w3 t3] kw) :: (L + 1 + 1, o2') :: (L + 1 + 1 + 1 + 1 + 1 + 1 + 1 + 1 + 1 + 1, o10) :: (L + 1 + 1 + 1 + 1 + 1 + 1 + 1 + 1 + 1, o9) :: (L + 1 + 1 + 1 + 1 + 1 + 1 + 1 + 1, o8) :: (L + 1 + 1 + 1 + 1 + 1 + 1 + 1, o7) :: (L + 1 + 1 + 1 + 1 + 1 + 1, o6) :: []) _ _ h4 h5 hodd2 htx2 F2 hvl hxl trivial N4 f4 f5 fP ?_
  intro s4 m4 o4' o5' v4' v5' Bk D oD kvs ps rest u1 u2 u3 u4 n r4 F4 N5 d4 d5 hodd4 hbook4 hD hCE htr loD hrest
  have k5 := kd_cell d5
  have kD := kd_dict hD
  obtain ⟨ws, hws⟩ : ∃ ws, ws = wtsI xs := ⟨_, rfl⟩
  rw [← hws] at N5 hCE
  obtain ⟨csI, hcs⟩ : ∃ cs, cs = [w1, w2, w3].map fun c => Builtin.bitXor (lawSix w0) (lawSix (Builtin.bitXor w0 c)) := ⟨_, rfl⟩
  obtain ⟨ks, hks⟩ : ∃ ks, ks = keptN csI (lawSix w0) 64 := ⟨_, rfl⟩
  obtain ⟨q1, q2, q3, q4, q5, q6, q7, q8, q9, q10⟩ := law_math w0 w1 w2 w3 b0 b1 b2 b3 ws (by rw [hws, hxs]) csI hcs ks hks
  rw [q4] at N5
  have N6 := News.sub' (news' := (Wd, W.listOf #[.int w0 t0, .int w1 t1, .int w2 t2, .int w3 t3] kw) :: (L + 1 + 1 + 1 + 1 + 1 + 1, o6) :: (L + 1 + 1, o2') :: (Bk, tup5 8 (bookN ws).2.1 (bookN ws).2.2.1 (bookN ws).2.2.2.1 u1 u2 u3 u4 D n) :: (D, oD) :: (30, tabObj ps) :: (L + 1 + 1 + 1 + 1 + 1, o5') :: (L + 1 + 1 + 1 + 1 + 1 + 1 + 1 + 1 + 1 + 1, o10) :: (L + 1 + 1 + 1 + 1 + 1 + 1 + 1 + 1 + 1, o9) :: (L + 1 + 1 + 1 + 1 + 1 + 1 + 1 + 1, o8) :: (L + 1 + 1 + 1 + 1 + 1 + 1 + 1, o7) :: rest) N5 (fc (.tail _ (.tail _ (.tail _ (.tail _ (.tail _ (.tail _ (List.mem_append_right _ (.head _)))))))) (fc (.tail _ (.tail _ (.tail _ (.tail _ (.tail _ (.tail _ (List.mem_append_right _ (.tail _ (.tail _ (.tail _ (.tail _ (.tail _ (.tail _ (.head _)))))))))))))) (fc (.tail _ (.tail _ (.tail _ (.tail _ (.tail _ (.tail _ (List.mem_append_right _ (.tail _ (.head _))))))))) (fc (.head _) (fc (.tail _ (.head _)) (fc (.tail _ (.tail _ (.tail _ (.head _)))) (fc (.tail _ (.tail _ (.tail _ (.tail _ (.head _))))) (fc (.tail _ (.tail _ (.tail _ (.tail _ (.tail _ (.tail _ (List.mem_append_right _ (.tail _ (.tail _ (.head _)))))))))) (fc (.tail _ (.tail _ (.tail _ (.tail _ (.tail _ (.tail _ (List.mem_append_right _ (.tail _ (.tail _ (.tail _ (.head _))))))))))) (fc (.tail _ (.tail _ (.tail _ (.tail _ (.tail _ (.tail _ (List.mem_append_right _ (.tail _ (.tail _ (.tail _ (.tail _ (.head _)))))))))))) (fc (.tail _ (.tail _ (.tail _ (.tail _ (.tail _ (.tail _ (List.mem_append_right _ (.tail _ (.tail _ (.tail _ (.tail _ (.tail _ (.head _))))))))))))) (fun p hp => .tail _ (.tail _ (.tail _ (.tail _ (.tail _ (.tail _ (List.mem_append_left _ hp))))))))))))))))))
  have f6 : ∀ p ∈ (Bk, tup5 8 (bookN ws).2.1 (bookN ws).2.2.1 (bookN ws).2.2.2.1 u1 u2 u3 u4 D n) :: (D, oD) :: (30, tabObj ps) :: (L + 1 + 1 + 1 + 1 + 1, o5') :: (L + 1 + 1 + 1 + 1 + 1 + 1 + 1 + 1 + 1 + 1, o10) :: (L + 1 + 1 + 1 + 1 + 1 + 1 + 1 + 1 + 1, o9) :: (L + 1 + 1 + 1 + 1 + 1 + 1 + 1 + 1, o8) :: (L + 1 + 1 + 1 + 1 + 1 + 1 + 1, o7) :: rest, p.1 ≠ L + 1 + 1 + 1 + 1 + 1 + 1 := off_of N6 (.tail _ (.head _)) k6 (fun p hp => .tail _ (.tail _ (.tail _ (hp)))) (fc (.inl (show (2 : Nat) ≠ 6 by decide)) (fc (.inl (by rw [kD]; decide)) (fc (.inl (show (9 : Nat) ≠ 6 by decide)) (fc (.inr (nc (by show (_ : Nat) ≠ _; omega))) (fc (.inr (nc (by show (_ : Nat) ≠ _; omega))) (fc (.inr (nc (by show (_ : Nat) ≠ _; omega))) (fc (.inr (nc (by show (_ : Nat) ≠ _; omega))) (fc (.inr (nc (by show (_ : Nat) ≠ _; omega))) (fun p hp => .inl (by rw [hrest p hp]; decide))))))))))
  have fW6 : @Ne Nat Wd (L + 1 + 1 + 1 + 1 + 1 + 1) := News.apart N6 (.head _) (.tail _ (.head _)) (by rw [k6]; show (2 : Nat) ≠ 6; decide)
  refine seg6 w body scope cdv qual H p loose mean mg mb A₀ dp gd un outer base g L s4 B X T hdp hun r4.bare _ m4 o2' o6 Wd w0 w1 w2 w3 t0 t1 t2 t3 kw ((Bk, tup5 8 (bookN ws).2.1 (bookN ws).2.2.1 (bookN ws).2.2.2.1 u1 u2 u3 u4 D n) :: (D, oD) :: (30, tabObj ps) :: (L + 1 + 1 + 1 + 1 + 1, o5') :: (L + 1 + 1 + 1 + 1 + 1 + 1 + 1 + 1 + 1 + 1, o10) :: (L + 1 + 1 + 1 + 1 + 1 + 1 + 1 + 1 + 1, o9) :: (L + 1 + 1 + 1 + 1 + 1 + 1 + 1 + 1, o8) :: (L + 1 + 1 + 1 + 1 + 1 + 1 + 1, o7) :: rest) _ d2 h6 F4 N6 f6 fW6 ?_
  intro s6 m6 o6' tb Cd zs r6 F6 N7 d6 hch6 hm6 hzs _
  have k6 := kd_cell d6
  rw [← hcs] at hzs
  have N8 := News.sub' (news' := (L + 1 + 1 + 1 + 1 + 1 + 1 + 1, o7) :: (Cd, LCg.lst zs) :: (L + 1 + 1 + 1 + 1 + 1 + 1, o6') :: (Bk, tup5 8 (bookN ws).2.1 (bookN ws).2.2.1 (bookN ws).2.2.2.1 u1 u2 u3 u4 D n) :: (D, oD) :: (30, tabObj ps) :: (L + 1 + 1 + 1 + 1 + 1, o5') :: (L + 1 + 1 + 1 + 1 + 1 + 1 + 1 + 1 + 1 + 1, o10) :: (L + 1 + 1 + 1 + 1 + 1 + 1 + 1 + 1 + 1, o9) :: (L + 1 + 1 + 1 + 1 + 1 + 1 + 1 + 1, o8) :: rest) N7 (fc (.tail _ (.tail _ (.tail _ (.tail _ (.tail _ (.tail _ (.tail _ (.tail _ (.tail _ (.tail _ (.tail _ (.head _)))))))))))) (fc (.head _) (fc (.tail _ (.tail _ (.head _))) (fc (.tail _ (.tail _ (.tail _ (.tail _ (.head _))))) (fc (.tail _ (.tail _ (.tail _ (.tail _ (.tail _ (.head _)))))) (fc (.tail _ (.tail _ (.tail _ (.tail _ (.tail _ (.tail _ (.head _))))))) (fc (.tail _ (.tail _ (.tail _ (.tail _ (.tail _ (.tail _ (.tail _ (.head _)))))))) (fc (.tail _ (.tail _ (.tail _ (.tail _ (.tail _ (.tail _ (.tail _ (.tail _ (.head _))))))))) (fc (.tail _ (.tail _ (.tail _ (.tail _ (.tail _ (.tail _ (.tail _ (.tail _ (.tail _ (.head _)))))))))) (fc (.tail _ (.tail _ (.tail _ (.tail _ (.tail _ (.tail _ (.tail _ (.tail _ (.tail _ (.tail _ (.head _))))))))))) (fun p hp => .tail _ (.tail _ (.tail _ (.tail _ (.tail _ (.tail _ (.tail _ (.tail _ (.tail _ (.tail _ (.tail _ (.tail _ (hp)))))))))))))))))))))))
  have f7 : ∀ p ∈ (Cd, LCg.lst zs) :: (L + 1 + 1 + 1 + 1 + 1 + 1, o6') :: (Bk, tup5 8 (bookN ws).2.1 (bookN ws).2.2.1 (bookN ws).2.2.2.1 u1 u2 u3 u4 D n) :: (D, oD) :: (30, tabObj ps) :: (L + 1 + 1 + 1 + 1 + 1, o5') :: (L + 1 + 1 + 1 + 1 + 1 + 1 + 1 + 1 + 1 + 1, o10) :: (L + 1 + 1 + 1 + 1 + 1 + 1 + 1 + 1 + 1, o9) :: (L + 1 + 1 + 1 + 1 + 1 + 1 + 1 + 1, o8) :: rest, p.1 ≠ L + 1 + 1 + 1 + 1 + 1 + 1 + 1 := off_of N8 (.head _) k7 (fun p hp => .tail _ (hp)) (fc (.inl (show (2 : Nat) ≠ 6 by decide)) (fc (.inr (nc (by show (_ : Nat) ≠ _; omega))) (fc (.inl (show (2 : Nat) ≠ 6 by decide)) (fc (.inl (by rw [kD]; decide)) (fc (.inl (show (9 : Nat) ≠ 6 by decide)) (fc (.inr (nc (by show (_ : Nat) ≠ _; omega))) (fc (.inr (nc (by show (_ : Nat) ≠ _; omega))) (fc (.inr (nc (by show (_ : Nat) ≠ _; omega))) (fc (.inr (nc (by show (_ : Nat) ≠ _; omega))) (fun p hp => .inl (by rw [hrest p hp]; decide)))))))))))
  refine seg8 w body scope cdv qual H p loose mean mg mb A₀ dp gd un outer base g L s6 B X T hdp hun r6.bare _ m6 o7 ((Cd, LCg.lst zs) :: (L + 1 + 1 + 1 + 1 + 1 + 1, o6') :: (Bk, tup5 8 (bookN ws).2.1 (bookN ws).2.2.1 (bookN ws).2.2.2.1 u1 u2 u3 u4 D n) :: (D, oD) :: (30, tabObj ps) :: (L + 1 + 1 + 1 + 1 + 1, o5') :: (L + 1 + 1 + 1 + 1 + 1 + 1 + 1 + 1 + 1 + 1, o10) :: (L + 1 + 1 + 1 + 1 + 1 + 1 + 1 + 1 + 1, o9) :: (L + 1 + 1 + 1 + 1 + 1 + 1 + 1 + 1, o8) :: rest) _ h7 F6 N8 f7 ?_
  intro s8 m8 o7' Od ko vo r8 F8 N9 d7 hm8 hvo _
  have k7 := kd_cell d7
  have N10 := News.sub' (news' := (Od, W.listOf vo.toArray ko) :: (Cd, W.listOf zs.toArray zs.length) :: (L + 1 + 1 + 1 + 1 + 1 + 1 + 1 + 1 + 1, o9) :: (L + 1 + 1 + 1 + 1 + 1 + 1 + 1 + 1, o8) :: (L + 1 + 1 + 1 + 1 + 1 + 1 + 1, o7') :: (L + 1 + 1 + 1 + 1 + 1 + 1, o6') :: (Bk, tup5 8 (bookN ws).2.1 (bookN ws).2.2.1 (bookN ws).2.2.2.1 u1 u2 u3 u4 D n) :: (D, oD) :: (30, tabObj ps) :: (L + 1 + 1 + 1 + 1 + 1, o5') :: (L + 1 + 1 + 1 + 1 + 1 + 1 + 1 + 1 + 1 + 1, o10) :: rest) N9 (fc (.head _) (fc (.tail _ (.tail _ (.head _))) (fc (.tail _ (.tail _ (.tail _ (.tail _ (.tail _ (.tail _ (.tail _ (.tail _ (.tail _ (.head _)))))))))) (fc (.tail _ (.tail _ (.tail _ (.tail _ (.tail _ (.tail _ (.tail _ (.tail _ (.tail _ (.tail _ (.head _))))))))))) (fc (.tail _ (.head _)) (fc (.tail _ (.tail _ (.tail _ (.head _)))) (fc (.tail _ (.tail _ (.tail _ (.tail _ (.head _))))) (fc (.tail _ (.tail _ (.tail _ (.tail _ (.tail _ (.head _)))))) (fc (.tail _ (.tail _ (.tail _ (.tail _ (.tail _ (.tail _ (.head _))))))) (fc (.tail _ (.tail _ (.tail _ (.tail _ (.tail _ (.tail _ (.tail _ (.head _)))))))) (fc (.tail _ (.tail _ (.tail _ (.tail _ (.tail _ (.tail _ (.tail _ (.tail _ (.head _))))))))) (fun p hp => .tail _ (.tail _ (.tail _ (.tail _ (.tail _ (.tail _ (.tail _ (.tail _ (.tail _ (.tail _ (.tail _ (hp)))))))))))))))))))))))
  have f8 : ∀ p ∈ (Bk, tup5 8 (bookN ws).2.1 (bookN ws).2.2.1 (bookN ws).2.2.2.1 u1 u2 u3 u4 D n) :: (D, oD) :: (30, tabObj ps) :: (L + 1 + 1 + 1 + 1 + 1, o5') :: (L + 1 + 1 + 1 + 1 + 1 + 1 + 1 + 1 + 1 + 1, o10) :: rest, p.1 ≠ L + 1 + 1 + 1 + 1 + 1 + 1 + 1 + 1 := off_of N10 (.tail _ (.tail _ (.tail _ (.head _)))) k8 (fun p hp => .tail _ (.tail _ (.tail _ (.tail _ (.tail _ (.tail _ (hp))))))) (fc (.inl (show (2 : Nat) ≠ 6 by decide)) (fc (.inl (by rw [kD]; decide)) (fc (.inl (show (9 : Nat) ≠ 6 by decide)) (fc (.inr (nc (by show (_ : Nat) ≠ _; omega))) (fc (.inr (nc (by show (_ : Nat) ≠ _; omega))) (fun p hp => .inl (by rw [hrest p hp]; decide)))))))
  have f9 : ∀ p ∈ (Bk, tup5 8 (bookN ws).2.1 (bookN ws).2.2.1 (bookN ws).2.2.2.1 u1 u2 u3 u4 D n) :: (D, oD) :: (30, tabObj ps) :: (L + 1 + 1 + 1 + 1 + 1, o5') :: (L + 1 + 1 + 1 + 1 + 1 + 1 + 1 + 1 + 1 + 1, o10) :: rest, p.1 ≠ L + 1 + 1 + 1 + 1 + 1 + 1 + 1 + 1 + 1 := off_of N10 (.tail _ (.tail _ (.head _))) k9 (fun p hp => .tail _ (.tail _ (.tail _ (.tail _ (.tail _ (.tail _ (hp))))))) (fc (.inl (show (2 : Nat) ≠ 6 by decide)) (fc (.inl (by rw [kD]; decide)) (fc (.inl (show (9 : Nat) ≠ 6 by decide)) (fc (.inr (nc (by show (_ : Nat) ≠ _; omega))) (fc (.inr (nc (by show (_ : Nat) ≠ _; omega))) (fun p hp => .inl (by rw [hrest p hp]; decide)))))))
  have fO8 : @Ne Nat Od (L + 1 + 1 + 1 + 1 + 1 + 1 + 1 + 1) := News.apart N10 (.head _) (.tail _ (.tail _ (.tail _ (.head _)))) (by rw [k8]; show (2 : Nat) ≠ 6; decide)
  have fO9 : @Ne Nat Od (L + 1 + 1 + 1 + 1 + 1 + 1 + 1 + 1 + 1) := News.apart N10 (.head _) (.tail _ (.tail _ (.head _))) (by rw [k9]; show (2 : Nat) ≠ 6; decide)
  have fC8 : @Ne Nat Cd (L + 1 + 1 + 1 + 1 + 1 + 1 + 1 + 1) := News.apart N10 (.tail _ (.head _)) (.tail _ (.tail _ (.tail _ (.head _)))) (by rw [k8]; show (2 : Nat) ≠ 6; decide)
  have fC9 : @Ne Nat Cd (L + 1 + 1 + 1 + 1 + 1 + 1 + 1 + 1 + 1) := News.apart N10 (.tail _ (.head _)) (.tail _ (.tail _ (.head _))) (by rw [k9]; show (2 : Nat) ≠ 6; decide)
  have hch8 := (hm8 (Str.ofString "changes") (by decide)).trans hch6
  refine seg10 w body scope cdv qual H p loose mean mg mb A₀ dp gd un outer base g L s8 B X T hdp hun r8.bare _ m8 o6' o7' o8 o9 Od Cd (lawSix w0) tb vo zs csI ko zs.length ((Bk, tup5 8 (bookN ws).2.1 (bookN ws).2.2.1 (bookN ws).2.2.2.1 u1 u2 u3 u4 D n) :: (D, oD) :: (30, tabObj ps) :: (L + 1 + 1 + 1 + 1 + 1, o5') :: (L + 1 + 1 + 1 + 1 + 1 + 1 + 1 + 1 + 1 + 1, o10) :: rest) _ _ d6 d7 h8 h9 F8 hch8 hvo hzs (by rw [hcs]; rfl) q2 q1 N10 f8 f9 fO8 fO9 fC8 fC9 ?_
  intro s10 m10 o8' o9' v9' K vk kk r10 F10 N11 d8 d9 hm10 hvk
  have k8 := kd_cell d8
  rw [← hks] at hvk
  have N12 := News.sub' (news' := (K, W.listOf vk.toArray kk) :: (L + 1 + 1 + 1 + 1 + 1 + 1 + 1 + 1 + 1 + 1, o10) :: (L + 1 + 1 + 1 + 1 + 1 + 1 + 1 + 1, o8') :: (L + 1 + 1 + 1 + 1 + 1, o5') :: (Bk, tup5 8 (bookN ws).2.1 (bookN ws).2.2.1 (bookN ws).2.2.2.1 u1 u2 u3 u4 D n) :: (D, oD) :: (30, tabObj ps) :: rest) N11 (fc (.head _) (fc (.tail _ (.tail _ (.tail _ (.tail _ (.tail _ (.tail _ (.tail _ (.tail _ (.tail _ (.tail _ (.tail _ (.head _)))))))))))) (fc (.tail _ (.tail _ (.tail _ (.tail _ (.head _))))) (fc (.tail _ (.tail _ (.tail _ (.tail _ (.tail _ (.tail _ (.tail _ (.tail _ (.tail _ (.tail _ (.head _))))))))))) (fc (.tail _ (.tail _ (.tail _ (.tail _ (.tail _ (.tail _ (.tail _ (.head _)))))))) (fc (.tail _ (.tail _ (.tail _ (.tail _ (.tail _ (.tail _ (.tail _ (.tail _ (.head _))))))))) (fc (.tail _ (.tail _ (.tail _ (.tail _ (.tail _ (.tail _ (.tail _ (.tail _ (.tail _ (.head _)))))))))) (fun p hp => .tail _ (.tail _ (.tail _ (.tail _ (.tail _ (.tail _ (.tail _ (.tail _ (.tail _ (.tail _ (.tail _ (.tail _ (hp))))))))))))))))))))
  have f5 : ∀ p ∈ (Bk, tup5 8 (bookN ws).2.1 (bookN ws).2.2.1 (bookN ws).2.2.2.1 u1 u2 u3 u4 D n) :: (D, oD) :: (30, tabObj ps) :: rest, p.1 ≠ L + 1 + 1 + 1 + 1 + 1 := off_of N12 (.tail _ (.tail _ (.tail _ (.head _)))) k5 (fun p hp => .tail _ (.tail _ (.tail _ (.tail _ (hp))))) (fc (.inl (show (2 : Nat) ≠ 6 by decide)) (fc (.inl (by rw [kD]; decide)) (fc (.inl (show (9 : Nat) ≠ 6 by decide)) (fun p hp => .inl (by rw [hrest p hp]; decide)))))
  have f10 : ∀ p ∈ (Bk, tup5 8 (bookN ws).2.1 (bookN ws).2.2.1 (bookN ws).2.2.2.1 u1 u2 u3 u4 D n) :: (D, oD) :: (30, tabObj ps) :: rest, p.1 ≠ L + 1 + 1 + 1 + 1 + 1 + 1 + 1 + 1 + 1 + 1 := off_of N12 (.tail _ (.head _)) k10 (fun p hp => .tail _ (.tail _ (.tail _ (.tail _ (hp))))) (fc (.inl (show (2 : Nat) ≠ 6 by decide)) (fc (.inl (by rw [kD]; decide)) (fc (.inl (show (9 : Nat) ≠ 6 by decide)) (fun p hp => .inl (by rw [hrest p hp]; decide)))))
  have hodd10 : m10 (Str.ofString "odd") = some (.bool od) := (hm10 _).trans ((hm8 _ (by decide)).trans ((hm6 _ (by decide)).trans hodd4))
  have hbook10 : m10 (Str.ofString "book") = some (.ref Bk) := (hm10 _).trans ((hm8 _ (by decide)).trans ((hm6 _ (by decide)).trans hbook4))
  have hkl : ks.length = 7 := by rw [hks]; exact keptN_length _ _ _
  refine seg12 w body scope cdv qual H p loose mean mg mb A₀ dp gd un outer base g L s10 B X T hdp hun r10.bare _ m10 od o5' o8' o10 K vk ks kk ((Bk, tup5 8 (bookN ws).2.1 (bookN ws).2.2.1 (bookN ws).2.2.2.1 u1 u2 u3 u4 D n) :: (D, oD) :: (30, tabObj ps) :: rest) _ _ d5 d8 h10 hodd10 F10 hvk hkl q3 N12 f5 f10 ?_
  intro s12 m12 D3 oD3 o5x v5x k3s extra r12 F12 N13 _ htab12 hodd12 hm12 hD3 loD3 hC3 hextra
  have N15 := News.sub' (news' := (Bk, tup5 8 (bookN ws).2.1 (bookN ws).2.2.1 (bookN ws).2.2.2.1 u1 u2 u3 u4 D n) :: (D, oD) :: (D3, oD3) :: (K, W.listOf vk.toArray kk) :: (L + 1 + 1 + 1 + 1 + 1 + 1 + 1 + 1, o8') :: (30, tabObj ps) :: (extra ++ rest)) N13 (fc (.tail _ (.tail _ (.tail _ (.tail _ (List.mem_append_right _ (.head _)))))) (fc (.tail _ (.tail _ (.tail _ (.tail _ (List.mem_append_right _ (.tail _ (.head _))))))) (fc (.head _) (fc (.tail _ (.tail _ (.head _))) (fc (.tail _ (.tail _ (.tail _ (.head _)))) (fc (.tail _ (.tail _ (.tail _ (.tail _ (List.mem_append_right _ (.tail _ (.tail _ (.head _)))))))) (fun p hp => (List.mem_append.mp hp).elim (fun hp => .tail _ (.tail _ (.tail _ (.tail _ (List.mem_append_left _ hp))))) (fun hp => .tail _ (.tail _ (.tail _ (.tail _ (List.mem_append_right _ (.tail _ (.tail _ (.tail _ (hp))))))))))))))))
  have hbook12 : m12 (Str.ofString "book") = some (.ref Bk) := (hm12 _ (by decide) (by decide)).trans hbook10
  refine seg15 w body scope cdv qual H p loose mean mg mb A₀ dp gd un outer base g L s12 B X T hdp hun r12.bare _ m12 od o8' oD oD3 K Bk D D3 vk ks kk (bookN ws).2.1 (bookN ws).2.2.1 (bookN ws).2.2.2.1 u1 u2 u3 u4 n kvs k3s (bookN ws).2.2.2.2 (tabN ks 7) ((30, tabObj ps) :: (extra ++ rest)) d8 hodd12 hbook12 htab12 F12 hvk hkl N15
    hD loD (hCE.mono fun p hp => .tail _ (List.mem_append_right _ hp)) hD3 loD3 (hC3.mono fun p hp => .tail _ (List.mem_append_left _ hp)) q8 q9 q10 q5 q6 q7 ?_
  intro s15 m15 r15 F15 N16
  exact ⟨rfl, r1.trans (r2.trans (r4.trans (r6.trans (r8.trans (r10.trans (r12.trans r15)))))), ⟨m15, F15⟩, ps, News.sub' N16 (fun p hp => by rw [List.mem_singleton.mp hp]; exact .head _)⟩
end Mine
namespace Mine
open PySem PySem.W PyProof.Rows PySem.Calls
theorem good_true {cw : ClaimW} {cl : Str → Option Addr} {mean : ExcName → Option Value} {args : List WData} {tabs : List (Addr × Addr)} {s₁ s' : Shared} (hT : TabsAt tabs s₁.heap) (hr : ∀ x, cw.raises args x = false) (hp : cw.post args (.bool true) args = true)
    (hk : ∀ b o, (ghostOf s₁.heap tabs).get? b = some o → s'.heap.get? b = some o) (hgr : GrownAll tabs s'.heap) (hos : s'.os = s₁.os) (hg : AllBare s'.gens) : GoodWG cw cl mean args s₁ (.ok (.ret (.bool true))) s' := by
  have keep : ∀ b o, b ∉ tabs.map (·.2) → s₁.heap.get? b = some o → s'.heap.get? b = some o := fun b o hb e => hk b o (ghost_ne e hb)
  have grown : ∀ b o, b ∈ tabs.map (·.2) → s₁.heap.get? b = some o → isCodeTable s₁.heap b ∧ o = tabObj #[] ∧ ∃ ps, s'.heap.get? b = some (tabObj ps) := fun b o hb e => by
    obtain ⟨q, hq, rfl⟩ := List.mem_map.mp hb
    have e2 := (hT q hq).2
    rw [e] at e2
    exact ⟨((hT q hq).1.tab (hT q hq).2).isCodeTable, Option.some.inj e2, hgr.get q hq⟩
  refine ⟨.inl ⟨_, .bool true, [], rfl, hr, .bool _, hp, fun _ => ⟨.nil, fun a ha => nomatch ha⟩⟩, ⟨fun b o e => ?_, fun b o e => ?_⟩, hos, hg⟩
  · by_cases hb : b ∈ tabs.map (·.2)
    · obtain ⟨ht, rfl, ps, hP⟩ := grown b o hb e
      exact .inr (.inl ⟨ht, rfl, #[], ps, rfl, by rw [Array.empty_append]; exact hP⟩)
    · exact .inl (keep b o hb e)
  · by_cases hb : b ∈ tabs.map (·.2)
    · obtain ⟨_, _, ps, hP⟩ := grown b o hb e
      exact ⟨_, hP⟩
    · exact ⟨o, keep b o hb e⟩
theorem fin : PySem.Challenge.rw_pg0027_01.Holds := by
  refine hd ?_
  w_top off
  k_fill
  intro w s₀ s₁ mg mb G Y fa o pm cd doc dV kV ho hd hcd hD hmg hg args vals as hpre hlay hrd hwl hlo
  have KX := kIn_of Y
  have X := (Ground.X G).1
  have V := (Ground.X G).2
  refine Ground.open G ?_
  intro T B D TE TW
  try (refine guard_noD D (by decide +kernel) ?_; clear D)
  clear X V
  have hT9 : TabsAt ([(34, 30)] : List (Addr × Addr)) s₁.heap := List.forall_mem_cons.mpr ⟨tab_of (x := PySem.Str.ofString "add_callers") (c := 34) (P := 30) T KX rfl (by kernel_rfl), fun _ h => nomatch h⟩
  have h57 := mg_of KX T.g (n := PySem.Str.ofString "law") (v := Value.ref 57) (by kernel_rfl)
  have e57 : some (Value.ref 57) = some (Value.ref fa) := h57.symm.trans hmg
  cases e57
  clear hmg
  wrow_args hpre hlay hrd hwl hlo
  first | refine callC_kw (enter_call ?_) | refine enter_call ?_
  have he := Dflts.none hD rfl
  subst he
  have he := Dflts.noKw hD
  subst he
  have ho57 := KX 57 _ (by rfl)
  rw [ho] at ho57
  have hoo := Option.some.inj ho57
  clear ho57
  have hcd' : cd = Value.ref 56 := by
    have h := fd_plain hd
    rw [hoo] at h
    exact congrArg (fun d : Data => match d with | .func f => f.code | _ => Value.none) h.symm
  subst hcd'
  clear hoo
  refine call_cellsN (by decide) ho (fd_plain hd) (Top.nolimit T) hcd rfl (kinds_of (by kinds_ok)) (by decide) fun h₁ tk₁ cells F N0 X0 => ?_
  obtain ⟨o10, o9, o8, o7, o6, o5, o4, o3, o2, o1, rfl, c10, c9, c8, c7, c6, c5, c4, c3, c2, c1⟩ := kc_ten X0
  clear hd
  have hsz : s₁.heap.objs.size = s₁.heap.objs.size := rfl
  generalize hL : s₁.heap.objs.size = L at *
  have hl := ghost_list hT9 (by assumption : Heap.IsList s₁.heap _ _)
  refine wpAny_mono (law_spec w _ _ _ _ ⟨_, _, _, _, _, _, _, _, _, _, _, by rfl⟩ _ _ _ _ _ callerA _ _ _ [] (ghostOf s₁.heap [(34, 30)]) (ghostOf s₁.heap [(34, 30)]) _ _ (ghost_below hT9) (ghost_K hT9 KX (by kernel_rfl)) (ghost_top hT9 T) ?_ ?_ ?_ _ o1 o2 o3 o4 o5 o6 o7 o8 o9 o10 _ _ _ c1 c2 c3 c4 c5 c6 c7 c8 c9 c10 (ghost_fr hT9 F) hl (by assumption) ?_ (ghost_news hT9 F N0)) (fun fl s' h => ?_) (fun _ _ e => e.elim)
  · decide
  · decide
  · exact AllBare.of_eq hg
  · omega
  · obtain ⟨rfl, r, ⟨m', F'⟩, ps, NP⟩ := h
    exact good_true hT9 (fun _ => rfl) (postW_of (by wrow_shape) (by wtm_val) (by str_meet; first | done | w_fin)) F'.keep ⟨GrownAt.of NP (.head _), trivial⟩ r.os r.bare
end Mine
theorem PySem.Challenge.cw_pg0027_01_holds : PySem.Challenge.rw_pg0027_01.Holds := by
  exact Mine.fin
