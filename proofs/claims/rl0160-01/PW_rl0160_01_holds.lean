import PyProof.Rows.All
import Wide.All
import OpenK.AllK
import Wide.FinOn
import PySem.Challenge.RW_rl0160_01
set_option Elab.async false
set_option maxRecDepth 100000
set_option maxHeartbeats 8000000
set_option rowWalk.seconds 0
set_option linter.all false
section
open PySem PySem.W PyProof.Rows
namespace Mine
open_top hd for PySem.Challenge.rw_rl0160_01
end Mine
end
namespace Mine

section
open PySem PySem.W PySem.Calls PyProof.Rows

/-- a fact that the arithmetic is not to see -/
def Hid (p : Prop) : Prop := p
theorem Hid.out {p : Prop} (h : Hid p) : p := h
theorem Hid.mk {p : Prop} (h : p) : Hid p := h
theorem le4N {i : Nat} (h : i ≤ 4) : i = 0 ∨ i = 1 ∨ i = 2 ∨ i = 3 ∨ i = 4 := by omega
theorem le4I {i : Int} (h0 : 0 ≤ i) (h : i ≤ 4) : i = 0 ∨ i = 1 ∨ i = 2 ∨ i = 3 ∨ i = 4 := by omega
theorem allObj_of : ∀ {ws : List (Addr × String)} {k : List (Addr × Obj) → Prop}, (∀ its, Objs ws its → k its) → AllObj ws k
  | [], _, h => h [] trivial
  | w :: r, _, h => fun o ho => allObj_of (fun its hi => h ((w.1, o) :: its) ⟨⟨rfl, ho⟩, hi⟩)

section
variable {prog : Program} {w : World} {A : Around} {E : Value → Shared → Prop} {s : Shared} {env : Env} {h₀ : Heap} {target : PySem.Expr} {body : List Stmt} {Q : Flow → Shared → Prop}

theorem itemsInd {ws : List (Addr × String)} {keep : List (Addr × Obj)} (J : List Itm → (Str → Option Value) → List (Addr × Obj) → Prop)
    (done : ∀ m news h tk, J [] m news → Fr h₀ env.locals h m → News h₀ env.locals h news → Q .next { s with heap := h, toks := tk })
    (step : ∀ a r m news v h tk its, J (a :: r) m news → a.Is v h → Fr h₀ env.locals h m → Objs ws its → News h₀ env.locals h (its ++ news) →
      wpAny (model prog w) A (assign target env v) (fun _ s₂ => wpAny (model prog w) A (execs body env)
        (UnrPostW h₀ env.locals { s with heap := h, toks := tk } its (fun m' n' => SubL keep n' ∧ J r m' n') (fun _ _ => False)) (fun _ _ => False) s₂) (fun _ _ => False) { s with heap := h, toks := tk }) :
    ∀ (xs : List Itm) m news, J xs m news → ItemsRest prog w A E h₀ env target body Q s ws keep xs m news
  | [], m, news, hj => fun h tk F N => done m news h tk hj F N
  | a :: r, m, news, hj => fun v h tk ha F => allObj_of fun its hi N => by
    refine wpAny_mono (step a r m news v h tk its hj ha F hi N) (fun _ s₂ h₂ => wpAny_mono h₂ (fun f s₃ h₃ => ?_) fun _ _ e => e.elim) fun _ _ e => e.elim
    have up : UnrEndW h₀ env.locals { s with heap := h, toks := tk } its (fun m' n' => SubL keep n' ∧ J r m' n') s₃ →
        UnrEndW h₀ env.locals { s with heap := h, toks := tk } its (fun m' n' => SubL keep n' ∧ ItemsRest prog w A E h₀ env target body Q s ws keep r m' n') s₃ := by
      rintro ⟨h', tk', m', news', e, F', N', ho, hk, hj'⟩
      exact ⟨h', tk', m', news', e, F', N', ho, hk, itemsInd J done step r m' news' hj'⟩
    cases f with
    | ret v => exact (show False from h₃).elim
    | brk => exact (show False from h₃).elim
    | next => exact up h₃
    | cont => exact up h₃

theorem fr_at {g h : Heap} {L : Addr} {m : Str → Option Value} {k : Str} {v : Value} (F : Fr g L h m) (e : m k = some v) : Fr g L h (fun y => if y = k then some v else m y) := by
  have em : (fun y => if y = k then some v else m y) = m := by
    funext y
    by_cases hy : y = k
    · subst hy; rw [if_pos rfl, e]
    · rw [if_neg hy]
  rw [em]; exact F
theorem fr_ats {g h : Heap} {L : Addr} {m : Str → Option Value} (ps : List (Str × Value)) (F : Fr g L h m) (e : ∀ p ∈ ps, m p.1 = some p.2) : Fr g L h (kstB m ps) := by
  have em : kstB m ps = m := by
    induction ps with
    | nil => rfl
    | cons p r ih =>
      have ih' := ih (fun q hq => e q (.tail _ hq))
      funext y
      show (if y = p.1 then some p.2 else kstB m r y) = m y
      rw [ih']
      by_cases hy : y = p.1
      · rw [if_pos hy, hy]; exact (e p (.head _)).symm
      · rw [if_neg hy]
  rw [em]; exact F
theorem frX {g h : Heap} {L : Addr} {m : Str → Option Value} {x : Str} {v : Value} (ps : List (Str × Value)) (F : Fr g L h (fun y => if y = x then some v else m y)) (e : ∀ p ∈ ps, m p.1 = some p.2) : Fr g L h (fun y => if y = x then some v else kstB m ps y) := by
  have em : kstB m ps = m := by
    induction ps with
    | nil => rfl
    | cons p r ih =>
      have ih' := ih (fun q hq => e q (.tail _ hq))
      funext y
      show (if y = p.1 then some p.2 else kstB m r y) = m y
      rw [ih']
      by_cases hy : y = p.1
      · rw [if_pos hy, hy]; exact (e p (.head _)).symm
      · rw [if_neg hy]
  rw [em]; exact F
theorem all1 {α} {P : α → Prop} {a : α} (h : P a) : ∀ p ∈ [a], P p := fun _ hp => List.mem_singleton.mp hp ▸ h
theorem allc {α} {P : α → Prop} {a : α} {r : List α} (h : P a) (k : ∀ p ∈ r, P p) : ∀ p ∈ a :: r, P p := List.forall_mem_cons.mpr ⟨h, k⟩
theorem fr_map {g h : Heap} {L : Addr} {m m' : Str → Option Value} (F : Fr g L h m) (e : m = m') : Fr g L h m' := e ▸ F
theorem look1 (a : Str) (v : Value) : (fun y => List.lookup y [(a, v)]) = fun y => if y = a then some v else none := by
  funext y; simp only [List.lookup_cons, List.lookup_nil]
  by_cases h : y = a
  · simp [h]
  · have : (y == a) = false := by simpa using h
    simp [h, this]
theorem look2 (a b : Str) (v u : Value) : (fun y => List.lookup y [(a, v), (b, u)]) = fun y => if y = a then some v else if y = b then some u else none := by
  funext y; rw [← congrFun (look1 b u) y, List.lookup_cons]
  by_cases h : y = a
  · simp [h]
  · have : (y == a) = false := by simpa using h
    simp [h, this]
theorem look3 (a b c : Str) (v u x : Value) : (fun y => List.lookup y [(a, v), (b, u), (c, x)]) = fun y => if y = a then some v else if y = b then some u else if y = c then some x else none := by
  funext y; rw [← congrFun (look2 b c u x) y, List.lookup_cons]
  by_cases h : y = a
  · simp [h]
  · have : (y == a) = false := by simpa using h
    simp [h, this]

theorem objs1 {a : Addr} {c : String} {its : List (Addr × Obj)} (h : Objs [(a, c)] its) : ∃ o : Obj, its = [(a, o)] ∧ o.cls = .type c := by
  cases its with
  | nil => exact (show False from h).elim
  | cons p r =>
    obtain ⟨⟨h1, h2⟩, h3⟩ := h
    cases r with
    | nil => obtain ⟨b, o⟩ := p; exact ⟨o, by rw [show b = a from h1], h2⟩
    | cons q r => exact (show False from h3).elim
theorem objs2 {a b : Addr} {c d : String} {its : List (Addr × Obj)} (h : Objs [(a, c), (b, d)] its) : ∃ o p : Obj, its = [(a, o), (b, p)] ∧ o.cls = .type c ∧ p.cls = .type d := by
  cases its with
  | nil => exact (show False from h).elim
  | cons p r =>
    obtain ⟨⟨h1, h2⟩, h3⟩ := h
    obtain ⟨q, rfl, h4⟩ := objs1 h3
    obtain ⟨x, o⟩ := p
    exact ⟨o, q, by rw [show x = a from h1], h2, h4⟩
theorem newsNe {g h : Heap} {L : Addr} {news : List (Addr × Obj)} (N : News g L h news) {a b : Addr} {o p : Obj} (ha : (a, o) ∈ news) (hb : (b, p) ∈ news) (hc : o.cls ≠ p.cls) : @Ne Nat a b := by
  intro e
  have h1 := (N _ ha).1
  have h2 := (N _ hb).1
  have e' : a = b := e
  subst e'
  exact hc (congrArg Obj.cls (Option.some.inj (h1.symm.trans h2)))
theorem tyNe {a b : String} (h : a ≠ b) : Value.type a ≠ Value.type b := fun e => h (by injection e)
theorem newsSub {g h : Heap} {L : Addr} {a b : List (Addr × Obj)} (N : News g L h a) (hs : ∀ p ∈ b, p ∈ a) : News g L h b := fun p hp => N p (hs p hp)
/-- a turn's end -/
theorem turnEnd {g : Heap} {L : Addr} {J : (Str → Option Value) → List (Addr × Obj) → Prop} {keep its all : List (Addr × Obj)} {s₁ : Shared} {h' : Heap} {tk : Nat} {m' : Str → Option Value} (news' : List (Addr × Obj)) (F : Fr g L h' m') (N : News g L h' all)
    (hs : ∀ p ∈ its ++ news', p ∈ all) (ho : ∀ p ∈ news', ∀ q ∈ its, p.1 ≠ q.1) (hk : SubL keep news') (j : J m' news') :
    UnrEndW g L s₁ its (fun m' n' => SubL keep n' ∧ J m' n') { s₁ with heap := h', toks := tk } := ⟨h', tk, m', news', rfl, F, newsSub N hs, ho, hk, j⟩
theorem appendL {prog : Program} {w : World} {A : Around} {E : Value → Shared → Prop} {s : Shared} {h₀ : Heap} {L D : Addr} {m : Str → Option Value} {news news' : List (Addr × Obj)} {vs : List Value} {n : Nat} {x : Value} {Q : Value → Shared → Prop}
    (F : Fr h₀ L s.heap m) (N : News h₀ L s.heap news) (hsz : vs.length ≤ 1000000) (U : Upd D (listOf vs.toArray n) (listOf (vs ++ [x]).toArray (n + 1)) news news')
    (h : ∀ h', Fr h₀ L h' m → News h₀ L h' news' → Q .none { s with heap := h' }) : wpAny (model prog w) A (call (.builtin "list.append") [.ref D, x]) Q E s := by
  refine append_K (its := vs.toArray) (n := n) F N (by rw [List.push_toArray]; exact U) h ?_
  rw [List.size_toArray, sizeLine_eq]; omega
theorem isL {g h : Heap} {L l : Addr} {news : List (Addr × Obj)} {its : Array Value} {k : Nat} (N : News g L h news) (hm : (l, listOf its k) ∈ news) : h.IsList l its := ⟨_, (N _ hm).1, rfl, k, rfl⟩
def IsS (v : Value) (x : Str) : Prop := ∃ t, v = .str x t
def IsI (v : Value) (n : Int) : Prop := ∃ t, v = .int n t
theorem pget {α β : Type} {R : α → β → Prop} {l : List α} {r : List β} (h : Paired R l r) {i : Nat} {b : β} (e : r[i]? = some b) : ∃ a, l[i]? = some a ∧ R a b := by
  induction h generalizing i with
  | nil => simp at e
  | cons h _ ih =>
    cases i with
    | zero => simp only [List.getElem?_cons_zero, Option.some.injEq] at e; subst e; exact ⟨_, rfl, h⟩
    | succ i => exact ih (by simpa using e)
theorem pget' {α β : Type} {R : α → β → Prop} {l : List α} {r : List β} (h : Paired R l r) {i : Nat} {a : α} (e : l[i]? = some a) : ∃ b, r[i]? = some b ∧ R a b := by
  induction h generalizing i with
  | nil => simp at e
  | cons h _ ih =>
    cases i with
    | zero => simp only [List.getElem?_cons_zero, Option.some.injEq] at e; subst e; exact ⟨_, rfl, h⟩
    | succ i => exact ih (by simpa using e)
theorem pmem {α β : Type} {R : α → β → Prop} {l : List α} {r : List β} (h : Paired R l r) {a : α} (e : a ∈ l) : ∃ b, b ∈ r ∧ R a b := by
  obtain ⟨i, hi⟩ := List.mem_iff_getElem?.mp e
  obtain ⟨b, hb, hr⟩ := pget' h hi
  exact ⟨b, List.mem_of_getElem? hb, hr⟩
theorem pmono {α β : Type} {R R' : α → β → Prop} {l : List α} {r : List β} (h : Paired R l r) (hm : ∀ a b, R a b → R' a b) : Paired R' l r := h.mono hm
theorem pmap {α β γ δ : Type} {R : α → β → Prop} {G : α → γ → Prop} {S : γ → δ → Prop} {f : β → δ} {l : List α} {r : List β} {q : List γ} (h : Paired R l r) (k : Paired G l q) (hm : ∀ a b c, R a b → G a c → S c (f b)) : Paired S q (r.map f) := by
  induction h generalizing q with
  | nil => cases k; exact .nil
  | cons h _ ih => cases k with | cons g k => exact .cons (hm _ _ _ h g) (ih k)
/-- the sign texts of a text -/
def signItms (x : Str) : List Itm := x.cps.toList.map fun c => .tok fun t => .str ⟨#[c]⟩ t

theorem iterStr {x : Str} {t : Tok} {m₀ : Str → Option Value} {news : List (Addr × Obj)}
    (hh : A.handled = none) (F : Fr h₀ env.locals s.heap m₀) (N : News h₀ env.locals s.heap news)
    (rest₀ : ∀ I : Addr, (∀ p ∈ news, p.1 < I) → ∀ c : String, (c = "str_ascii_iterator" ∨ c = "str_iterator") → ItemsRest prog w A E h₀ env target body Q s [(I, c)] [] (signItms x) m₀ news) :
    wpAny (model prog w) A (pyIter (.str x t)) (fun it s₂ => TurnsAt prog w A h₀ env target body Q E it s₂) E s := by
  have hP : ∀ (i : Nat) (v : Value) (h : Heap), SignAt x i v → ∃ a, (signItms x)[i]? = some a ∧ a.Is v h := by
    rintro i v h ⟨c, u, hc, rfl⟩
    refine ⟨.tok fun t => .str ⟨#[c]⟩ t, ?_, u, rfl⟩
    simp only [signItms, List.getElem?_map, Array.getElem?_toList, hc, Option.map_some]
  have hlen : x.cps.size = (signItms x).length := by simp [signItms]
  have hL : env.locals ∉ [s.heap.objs.size] := by
    intro hI
    exact absurd F.ns.lt (List.mem_singleton.mp hI ▸ Nat.lt_irrefl _)
  have hnw : ∀ p ∈ news, p.1 ∉ [s.heap.objs.size] := fun p hp hI =>
    absurd (Heap.lt_size (N p hp).1) ((List.mem_singleton.mp hI) ▸ Nat.lt_irrefl _)
  have hws : ∀ c : String, ∀ b ∈ ([(s.heap.objs.size, c)] : List (Addr × String)).map (·.1), b ∈ [s.heap.objs.size] ∧ h₀.get? b = none := by
    intro c b hb
    have hb' : b = s.heap.objs.size := by simpa using hb
    rw [hb']
    exact ⟨List.mem_cons_self .., next_is_new F⟩
  by_cases ha : x.cps.all (· < 128) = true
  · refine wpAny_pyIter_ascii ha ?_
    refine ktu_core (tk0 := s.toks) (keep := []) (KTurns.ofWalks (Walks.strAscii hh s.heap.objs.size x t) fun i v s Q E st q => ?_) hlen hP (fun i h st => ?_) (hws "str_ascii_iterator") (fun b hb => by simpa using hb) (fun b hb => .inl (by simpa using hb)) hL hnw ?_ (F.push _) (fun p hp => ⟨Heap.get?_push_of_some _ (N p hp).1, (N p hp).2⟩) trivial (rest₀ _ (fun p hp => Heap.lt_size (N p hp).1) _ (.inl rfl))
    · obtain ⟨o, ho, hc, hd⟩ := st
      unfold letOwnedTupleGo
      cases target <;> first
        | exact wpAny_pure q
        | (cases v <;> first
            | exact wpAny_pure q
            | (refine wpAny_bind (wpAny_load ho ?_)
               rw [hc, hd]
               exact wpAny_pure q))
    · obtain ⟨o, ho, hc, hd⟩ := st
      exact ⟨[(s.heap.objs.size, o)], ⟨⟨rfl, hc⟩, trivial⟩, fun p hp => by rw [List.mem_singleton.mp hp]; exact ho⟩
    · exact ⟨_, Heap.get?_push_size _ rfl, rfl, rfl⟩
  · refine wpAny_pyIter_wide (by simpa using ha) ?_
    refine ktu_core (tk0 := s.toks) (keep := []) (KTurns.ofWalks (Walks.strWide hh s.heap.objs.size x t) fun i v s Q E st q => ?_) hlen hP (fun i h st => ?_) (hws "str_iterator") (fun b hb => by simpa using hb) (fun b hb => .inl (by simpa using hb)) hL hnw ?_ (F.push _) (fun p hp => ⟨Heap.get?_push_of_some _ (N p hp).1, (N p hp).2⟩) trivial (rest₀ _ (fun p hp => Heap.lt_size (N p hp).1) _ (.inr rfl))
    · obtain ⟨o, ho, hc, hd⟩ := st
      unfold letOwnedTupleGo
      cases target <;> first
        | exact wpAny_pure q
        | (cases v <;> first
            | exact wpAny_pure q
            | (refine wpAny_bind (wpAny_load ho ?_)
               rw [hc, hd]
               exact wpAny_pure q))
    · obtain ⟨o, ho, hc, hd⟩ := st
      exact ⟨[(s.heap.objs.size, o)], ⟨⟨rfl, hc⟩, trivial⟩, fun p hp => by rw [List.mem_singleton.mp hp]; exact ho⟩
    · exact ⟨_, Heap.get?_push_size _ rfl, rfl, rfl⟩

/-- the ints of a range from nought -/
def rangeItms (n : Nat) : List Itm := (List.range n).map fun (i : Nat) => .tok fun t => .int (i : Int) t

theorem iterRange {r : Addr} {n : Nat} {t₀ u₀ v₀ : Tok} {m₀ : Str → Option Value} {news : List (Addr × Obj)}
    (hh : A.handled = none) (F : Fr h₀ env.locals s.heap m₀) (N : News h₀ env.locals s.heap news)
    (hr : IsRange s.heap r 0 (n : Int) 1 t₀ u₀ v₀) (hsmall : Builtin.Range.small 0 (n : Int) 1 = true) (hsz : Builtin.Range.rangeSize 0 (n : Int) 1 = (n : Int))
    (rest₀ : ∀ I : Addr, (∀ p ∈ news, p.1 < I) → ItemsRest prog w A E h₀ env target body Q s [(I, "range_iterator")] [] (rangeItms n) m₀ news) :
    wpAny (model prog w) A (pyIter (.ref r)) (fun it s₂ => TurnsAt prog w A h₀ env target body Q E it s₂) E s := by
  have hL : env.locals ∉ [s.heap.objs.size] := by
    intro hI
    exact absurd F.ns.lt (List.mem_singleton.mp hI ▸ Nat.lt_irrefl _)
  have hnw : ∀ p ∈ news, p.1 ∉ [s.heap.objs.size] := fun p hp hI =>
    absurd (Heap.lt_size (N p hp).1) ((List.mem_singleton.mp hI) ▸ Nat.lt_irrefl _)
  refine wpAny_pyIter_range hr hsmall ?_
  refine ktu_core (tk0 := s.toks) (keep := []) (KTurns.ofWalks (Walks.range hh s.heap.objs.size 0 1 n).bound fun i v s Q E st q => ?_) (by simp [rangeItms]) (fun i v h hp => ?_) (fun i h st => ?_) (fun b hb => ?_) (fun b hb => by simpa using hb) (fun b hb => .inl (by simpa using hb)) hL hnw ?_ (F.push _) (fun p hp => ⟨Heap.get?_push_of_some _ (N p hp).1, (N p hp).2⟩) trivial (rest₀ _ (fun p hp => Heap.lt_size (N p hp).1))
  · have st' : s.heap.get? _ = some _ := st
    unfold letOwnedTupleGo
    cases target <;> first
      | exact wpAny_pure q
      | (cases v <;> first
          | exact wpAny_pure q
          | (refine wpAny_bind (wpAny_load st' ?_)
             exact wpAny_pure q))
  · obtain ⟨hi, u, rfl⟩ := hp
    refine ⟨.tok fun t => .int (i : Int) t, ?_, u, ?_⟩
    · simp only [rangeItms, List.getElem?_map, List.getElem?_range hi, Option.map_some]
    · rw [show (0 : Int) + (i : Int) * 1 = (i : Int) by omega]
  · exact ⟨[(s.heap.objs.size, _)], ⟨⟨rfl, rfl⟩, trivial⟩, fun p hp => by rw [List.mem_singleton.mp hp]; exact st⟩
  · have hb' : b = s.heap.objs.size := by simpa using hb
    rw [hb']
    exact ⟨List.mem_cons_self .., next_is_new F⟩
  · show IsRangeIter _ _ _ _ _
    rw [hsz]
    simpa using Heap.get?_push_size _ rfl

/-- a list of the frame's ground -/
theorem iterListG {ax : Addr} {vs : List Value} {m₀ : Str → Option Value} {news : List (Addr × Obj)}
    (hh : A.handled = none) (F : Fr h₀ env.locals s.heap m₀) (N : News h₀ env.locals s.heap news) (hl₀ : h₀.IsList ax vs.toArray)
    (rest₀ : ∀ I : Addr, (∀ p ∈ news, p.1 < I) → ItemsRest prog w A E h₀ env target body Q s [(I, "list_iterator")] [] (vs.map .val) m₀ news) :
    wpAny (model prog w) A (pyIter (.ref ax)) (fun it s₂ => TurnsAt prog w A h₀ env target body Q E it s₂) E s := by
  have hl : s.heap.IsList ax vs.toArray := hl₀.at fun o e => F.keep _ _ e
  obtain ⟨ol, hol, _⟩ := id hl₀
  have hlt : ax < s.heap.objs.size := Heap.lt_size (F.keep _ _ hol)
  have hne : ax ≠ s.heap.objs.size := Nat.ne_of_lt hlt
  refine wpAny_pyIter_list hl ?_
  refine ktg_core (tk0 := s.toks) (keep := []) (KTurns.ofWalks (Walks.list hh s.heap.objs.size ax hne vs.toArray) fun i v s Q E st q => letGo_listiter st.1 q) (by simp) (fun i v h hp => ⟨.val v, ?_, rfl⟩) (fun i h st => ?_) (fun b hb => ?_) (fun b hb => by simpa using hb) (fun b hb => ?_) ?_ (fun p hp hI => ?_) ?_ (F.push _) (fun p hp => ⟨Heap.get?_push_of_some _ (N p hp).1, (N p hp).2⟩) trivial (rest₀ _ fun p hp => Heap.lt_size (N p hp).1)
  · have hp' : vs.toArray[i]? = some v := hp
    simpa using hp'
  · obtain ⟨it, hit, hic, _⟩ := st.1
    exact ⟨[(s.heap.objs.size, it)], ⟨⟨rfl, hic⟩, trivial⟩, fun p hp => by rw [List.mem_singleton.mp hp]; exact hit⟩
  · have hb' : b = s.heap.objs.size := by simpa using hb
    rw [hb']
    exact ⟨List.mem_cons_self .., next_is_new F⟩
  · have hb' : b = s.heap.objs.size ∨ b = ax := by simpa using hb
    rcases hb' with e | e
    · exact .inl (by simp [e])
    · exact .inr (.inr ⟨ol, by rw [e]; exact hol⟩)
  · intro hI
    rcases List.mem_cons.mp hI with e | hI
    · exact absurd F.ns.lt (e ▸ Nat.lt_irrefl _)
    · have e : env.locals = ax := List.mem_singleton.mp hI
      exact absurd (Heap.lt_size hol) (Nat.not_lt.mpr (e ▸ F.above))
  · exact absurd (Heap.lt_size (N p hp).1) ((List.mem_singleton.mp hI) ▸ Nat.lt_irrefl _)
  · exact ⟨⟨_, Heap.get?_push_size _ rfl, rfl, rfl⟩, hl.at fun o e => Heap.get?_push_of_some _ e⟩

/-- enumerate over a list of the frame's ground -/
theorem enumBase {elts : List PySem.Expr} {k : Nat} {pos : Pos} {l : Addr} {vs : List Value} {m₀ : Str → Option Value} {news : List (Addr × Obj)}
    (hh : A.handled = none) (F : Fr h₀ env.locals s.heap m₀) (N : News h₀ env.locals s.heap news) (hl₀ : h₀.IsList l vs.toArray)
    (rest₀ : ∀ I : Addr, (∀ p ∈ news, p.1 < I) → ItemsRest prog w A E h₀ env (.Tuple elts k pos) body Q s [(I + 1, "enumerate"), (I, "list_iterator")] [] (enumItems 0 vs) m₀ news) :
    wpAny (model prog w) A (call (.type "enumerate") [.ref l]) (fun xv s₁ => wpAny (model prog w) A (pyIter xv) (fun it s₂ => TurnsAt prog w A h₀ env (.Tuple elts k pos) body Q E it s₂) E s₁) E s := by
  have hl : s.heap.IsList l vs.toArray := hl₀.at fun o e => F.keep _ _ e
  obtain ⟨ol, hol, _⟩ := id hl₀
  have hlt : l < s.heap.objs.size := Heap.lt_size (F.keep _ _ hol)
  have hLs : env.locals < s.heap.objs.size := F.ns.lt
  refine call_enumerate_list hl fun h' hE hI hsz hk => ?_
  refine wpAny_pyIter_enum hE ?_
  refine ktg_core (tk0 := s.toks) (keep := []) (KTurns.ofWalksU (WalksT.enumerate hh (s.heap.objs.size + 1) s.heap.objs.size l (Nat.succ_ne_self _) (ktu_ne 1 hlt) (Nat.ne_of_lt hlt) vs.toArray).toU) (by simp [enumItems_length]) ?_ ?_ ?_ ?_ ?_ ?_ ?_ ?_ (F.keeps hk) (N.grown hk) trivial (rest₀ _ fun p hp => Heap.lt_size (N p hp).1)
  · rintro i v h ⟨T, vals, rfl, ⟨t, x, hx, rfl⟩, hT⟩
    refine ⟨_, enumItems_get vs 0 i (v := x) (by simpa using hx), T, t, rfl, ?_⟩
    show IsTup h T #[.int ((0 + i : Nat) : Int) t, x]
    rw [Nat.zero_add]
    exact hT
  · rintro i h ⟨⟨old, he⟩, ⟨oi, hoi, hic, _⟩, _⟩
    have he' : ∃ oe : Obj, h.get? (s.heap.objs.size + 1) = some oe ∧ oe.cls = .type "enumerate" := ⟨_, he, rfl⟩
    obtain ⟨oe, h1, h2⟩ := he'
    refine ⟨[(s.heap.objs.size + 1, oe), (s.heap.objs.size, oi)], ⟨⟨rfl, h2⟩, ⟨rfl, hic⟩, trivial⟩, fun p hp => ?_⟩
    rcases List.mem_cons.mp hp with rfl | hp
    · exact h1
    · rw [List.mem_singleton.mp hp]; exact hoi
  · intro b hb
    have hb' : b = s.heap.objs.size + 1 ∨ b = s.heap.objs.size := by simpa using hb
    rcases hb' with rfl | rfl
    · exact ⟨by simp, ktu_new F (Nat.le_add_right _ _)⟩
    · exact ⟨by simp, ktu_new F (Nat.le_refl _)⟩
  · intro b hb
    simpa using hb
  · intro b hb
    have hb' : b = s.heap.objs.size + 1 ∨ b = s.heap.objs.size ∨ b = l := by simpa using hb
    rcases hb' with rfl | rfl | rfl
    · exact .inl (by simp)
    · exact .inl (by simp)
    · exact .inr (.inr ⟨ol, hol⟩)
  · intro hI'
    have hb' : env.locals = s.heap.objs.size + 1 ∨ env.locals = s.heap.objs.size ∨ env.locals = l := by simpa using hI'
    rcases hb' with e | e | e
    · exact ktu_ne 1 hLs e
    · exact Nat.ne_of_lt hLs e
    · exact absurd (Heap.lt_size hol) (Nat.not_lt.mpr (e ▸ F.above))
  · intro p hp hI'
    have hb' : p.1 = s.heap.objs.size + 1 ∨ p.1 = s.heap.objs.size := by simpa using hI'
    have hlp := Heap.lt_size (N p hp).1
    rcases hb' with e | e
    · exact ktu_ne 1 hlp e
    · exact Nat.ne_of_lt hlp e
  · exact ⟨⟨.none, hE⟩, hI, hl.at fun o e => hk l o e⟩
end
end
section
open PySem PySem.W PySem.Calls PyProof.Rows
abbrev PR : Program := PySem.Challenge.rw_rl0160_01.prog
/-- the text's own part of a heap -/
def TopX (h : Heap) : Prop := ∃ (mean : ExcName → Option Value) (mg mb : Str → Option Value), Top hd.view_39 (looseW hd.view_39 []) mean mg mb h
theorem TopX.keeps {h h' : Heap} (T : TopX h) (k : ∀ b o, h.get? b = some o → h'.get? b = some o) : TopX h' := let ⟨a, b, c, t⟩ := T; ⟨a, b, c, t.keeps k⟩
abbrev Keep (h h' : Heap) : Prop := ∀ b o, h.get? b = some o → h'.get? b = some o
abbrev AR (dp un : Nat) (fr : Option (List Env)) (gd : Option (List Code)) : Around := { handled := none, depth := dp, frames := fr, guards := gd, units := un }

section
variable {w : World} {A : Around} {s : Shared} {K : Frag} {Q E : Value → Shared → Prop} {name qual : Str} {params : Arguments} {body : List Stmt} {scope : Scope} {dV kV doc pm cdv ct oc : Value} {an od : Option Addr} {osl : Array (Option Value)} {f : Addr} {args : Args} {binds : List (Str × Value)} {m₁ : Str → Option Value} {prog : Program}

theorem enterP (X : K.In s.heap) (T : TopX s.heap) (hroom : A.depth < recursionLimit)
    (ho : K.lookup f = some ⟨oc, od, .func (fnOf name qual params body scope dV kV doc pm an cdv ct), osl⟩) (hcd : codeIn K cdv qual = true)
    (hbind : BindsTo s (fnOf name qual params body scope dV kV doc pm an cdv ct) args binds) (hloc : ∀ y ∈ binds, scope.names.lookup y.1 = some .local)
    (hm : (fun y => binds.reverse.lookup y) = m₁)
    (h : ∀ g L h₁ mean mg mb, g = s.heap → Fr g L h₁ m₁ → News g L h₁ [] → K.In g → Top hd.view_39 (looseW hd.view_39 []) mean mg mb g →
      wpAny (model prog w) (A.deeper (envOf qual scope L f cdv)) (execs body (envOf qual scope L f cdv))
        (fun fl s' => Q (match fl with | .ret v => v | _ => .none) s') (fun _ _ => False) { s with heap := h₁, toks := s.toks + binds.length })
    (hco : scope.isCoroutine = false) (hgen : scope.isGenerator = false) (hk : scope.kind = .function) (hcell : ∀ x ∈ scope.names, x.2 ≠ .cell) :
    wpAny (model prog w) A (call (.ref f) args.pos args.kw) Q E s := by
  obtain ⟨mean, mg, mb, T⟩ := T
  refine wpAny_call ?_
  refine codeAny_call_def (fd := fnOf name qual params body scope dV kV doc pm an cdv ct) (body := body) (binds := binds) hroom (X _ _ ho) rfl T.nolimit (codeRec_of X hcd) rfl hbind hcell hloc (fun h₁ hns hk₁ => ?_) hco hgen hk
  rw [hm] at hns
  exact wpAny_mono (h s.heap s.heap.objs.size h₁ mean mg mb rfl ⟨hns, hk₁, Nat.le_refl _⟩ (fun _ hp => nomatch hp) X T) (fun _ _ x => x) fun _ _ x => x.elim

theorem enterC (X : K.In s.heap) (T : TopX s.heap) (hroom : A.depth < recursionLimit)
    (ho : K.lookup f = some ⟨oc, od, .func (fnOf name qual params body scope dV kV doc pm an cdv ct), osl⟩) (hcd : codeIn K cdv qual = true)
    (hbind : BindsTo s (fnOf name qual params body scope dV kV doc pm an cdv ct) args binds)
    (hkind : (binds.all fun y => scope.names.lookup y.1 == some .local || scope.names.lookup y.1 == some .cell) = true)
    (hnd : ((cellsFrom 0 scope.names []).map (·.1)).Nodup)
    (h : ∀ g L h₁ tk cells mean mg mb, g = s.heap → Fr g L h₁ (bindL (envOfC qual scope L f cdv).kindOf binds fun _ => none) → News g L h₁ cells →
      CellsAre (bindC (envOfC qual scope L f cdv).kindOf binds fun _ => none) (cellsFrom (L + 1) scope.names []) cells →
      K.In g → Top hd.view_39 (looseW hd.view_39 []) mean mg mb g →
      wpAny (model prog w) (A.deeper (envOfC qual scope L f cdv)) (execs body (envOfC qual scope L f cdv))
        (fun fl s' => Q (match fl with | .ret v => v | _ => .none) s') (fun _ _ => False) { s with heap := h₁, toks := tk })
    (hco : scope.isCoroutine = false) (hgen : scope.isGenerator = false) (hk : scope.kind = .function) :
    wpAny (model prog w) A (call (.ref f) args.pos args.kw) Q E s := by
  obtain ⟨mean, mg, mb, T⟩ := T
  refine wpAny_call ?_
  refine codeAny_call_function (X _ _ ho |> fun (e : s.heap.get? f = _) => (hroom)) (X _ _ ho) rfl hco hgen rfl (codeRec_of X hcd) (hbind _ _ _ _ ?_)
  refine wpAny_newFunctionEnv_cells hk (kindsX hkind _) fun env' he s' x => ?_
  subst he
  refine ⟨T.nolimit.keeps x.toInCall.keep, codeAny_func ?_⟩
  obtain ⟨h₁, tk, rfl, _⟩ := x.done
  have hk₁ := x.toInCall.keep
  obtain ⟨cells, NC, Y⟩ := Cl.news (h₀ := s.heap) (Nat.le_refl _) fun n c hm => ⟨x.cell n c (lookup_of_mem_nodup (cellsFrom_names scope.names 0 (s.heap.objs.size + 1) [] [] rfl ▸ hnd) hm), x.above n c hm⟩
  exact wpAny_mono (h s.heap s.heap.objs.size h₁ tk cells mean mg mb rfl ⟨x.toInCall.ns, hk₁, Nat.le_refl _⟩ NC Y X T) (fun _ _ x => x) fun _ _ x => x.elim
end
/-- what a call of the text's def gives: for every state with the text's own part -/
def Spec (w : World) (f : Addr) (vs : List Value) (pre : Heap → Prop) (post : Heap → Value → Prop) : Prop :=
  ∀ (dp un : Nat) (fr : Option (List Env)) (gd : Option (List Code)) (s : Shared) (Q E : Value → Shared → Prop),
    (hd.heap_39 w.params).In s.heap → TopX s.heap → dp + 10 < recursionLimit → un + 80 < cLine → pre s.heap →
    (∀ r h' tk', Keep s.heap h' → post h' r → Q r { s with heap := h', toks := tk' }) →
    wpAny (model PySem.Challenge.rw_rl0160_01.prog w) (AR dp un fr gd) (call (.ref f) vs) Q E s
end
section
open PySem PySem.W PySem.Calls PyProof.Rows
def ElPost (Fn : Value → Value → Prop) (s₃ : Shared) (v : Value) (y : Value) (s₄ : Shared) : Prop := Fn v y ∧ Keeps s₃ s₄
def TestPost (p : Value → Bool) (s₃ : Shared) (v : Value) (ok : Bool) (s₄ : Shared) : Prop := ok = p v ∧ Keeps s₃ s₄
theorem ElPost.of {Fn : Value → Value → Prop} {s₃ : Shared} {v y : Value} {h' : Heap} {tk : Nat} (h : Fn v y) (k : Keep s₃.heap h') : ElPost Fn s₃ v y { s₃ with heap := h', toks := tk } := ⟨h, h', tk, rfl, k⟩
theorem TestPost.of {p : Value → Bool} {s₃ : Shared} {v : Value} {ok : Bool} {h' : Heap} {tk : Nat} (h : ok = p v) (k : Keep s₃.heap h') : TestPost p s₃ v ok { s₃ with heap := h', toks := tk } := ⟨h, h', tk, rfl, k⟩
section
variable {prog : Program} {w : World} {A : Around} {E : Value → Shared → Prop} {s : Shared} {env : Env} {g : Heap} {L : Addr} {m : Str → Option Value} {news : List (Addr × Obj)} {Q : Value → Shared → Prop}
  {elt : PySem.Expr} {x : Str} {ifs : List PySem.Expr} {scope : Scope} {cl : List (Str × Addr)}

theorem compCore {I : Addr} {fp : List Addr} {n : Nat} {P : Nat → Value → Prop} {St : Nat → Heap → Prop} (p : Value → Bool) (Fn : Value → Value → Prop)
    (W : Walks prog w A I fp [I] n P St) (hn : n ≤ 1000000) (hst : St 0 s.heap) (hfp : ∀ b ∈ fp, b < s.heap.objs.size) (hgI : g.get? I = none)
    (F : Fr g L s.heap m) (N : News g L s.heap news) (hNI : ∀ q ∈ news, q.1 ≠ I) (hLI : L ≠ I)
    (tests : ∀ C i v s₃ m₃ E', P i v → m₃ x = some v → Fr g C s₃.heap m₃ → News g C s₃.heap news →
      wpAny (model prog w) A (forIn ifs true fun c r => if r = true then do let ok ← isTrue c (compEnvC scope cl C env) (eval c (compEnvC scope cl C env)); pure (ForInStep.yield ok) else pure (ForInStep.yield r))
        (TestPost p s₃ v) E' s₃)
    (el : ∀ C i v s₃ m₃ E', P i v → p v = true → m₃ x = some v → Fr g C s₃.heap m₃ → News g C s₃.heap news →
      wpAny (model prog w) A (eval elt (compEnvC scope cl C env)) (ElPost Fn s₃ v) E' s₃)
    (h : ∀ D h' tk k ys (vs : List Value), vs.length = n → (∀ j v, vs[j]? = some v → P j v) → Paired Fn (vs.filter p) ys → (∀ q ∈ news, q.1 ≠ D) → Fr g L h' m → News g L h' ((D, listOf ys.toArray k) :: news) → Q (.ref D) { s with heap := h', toks := tk }) :
    ∃ I' fp' wr n' P' St', (.ref I : Value) = .ref I' ∧ Walks prog w A I' fp' wr n' P' St' ∧ n' ≤ sizeLine ∧ St' 0 s.heap ∧ (∀ b ∈ fp', b < s.heap.objs.size) ∧
      QuietOnC prog w A env scope cl x ifs elt wr P' p Fn s ∧
      (∀ D h' tk ys (vs : List Value), s.heap.get? D = none → h'.IsList D ys → h'.PlainList D ys → vs.length = n' → (∀ j v, vs[j]? = some v → P' j v) → Paired Fn (vs.filter p) ys.toList →
        (∀ b o, b ∉ wr → s.heap.get? b = some o → h'.get? b = some o) → Q (.ref D) { s with heap := h', toks := tk }) := by
  have hLs : L < s.heap.objs.size := F.ns.lt
  have old : ∀ b o, g.get? b = some o → b ∉ [I] := fun b o e hb => by
    rw [List.mem_singleton.mp hb, hgI] at e; cases e
  have frC : ∀ C (s₃ : Shared) m₃, s.heap.objs.size ≤ C → s₃.heap.Ns C m₃ → (∀ b o, b ∉ [I] → s.heap.get? b = some o → s₃.heap.get? b = some o) → Fr g C s₃.heap m₃ ∧ News g C s₃.heap news := by
    intro C s₃ m₃ hC hns hk
    refine ⟨⟨hns, fun b o e => hk b o (old b o e) (F.keep b o e), Nat.le_trans F.above (Nat.le_trans (Nat.le_of_lt hLs) hC)⟩, fun q hq => ⟨hk _ _ (fun hb => hNI q hq (List.mem_singleton.mp hb)) (N q hq).1, ?_, (N q hq).2.2⟩⟩
    exact Nat.ne_of_lt (Nat.lt_of_lt_of_le (Heap.lt_size (N q hq).1) hC)
  refine ⟨I, fp, [I], n, P, St, rfl, W, by rw [sizeLine_eq]; omega, hst, hfp, ⟨?_, ?_⟩, ?_⟩
  · intro C i v s₃ m₃ E' hC hP hns hx hk _
    obtain ⟨F3, N3⟩ := frC C s₃ m₃ hC hns hk
    exact tests C i v s₃ m₃ E' hP hx F3 N3
  · intro C i v s₃ m₃ E' hC hP hp hns hx hk _
    obtain ⟨F3, N3⟩ := frC C s₃ m₃ hC hns hk
    exact el C i v s₃ m₃ E' hP hp hx F3 N3
  · rintro D h' tk ys vs hD _ ⟨k, hpl⟩ hlen hP hpd hk
    have hgD : g.get? D = none := by
      cases e : g.get? D with
      | none => rfl
      | some o => have := F.keep D o e; rw [hD] at this; cases this
    have hDL : D ≠ L := by
      rintro rfl
      obtain ⟨oL, _, _, hL, _⟩ := F.ns
      rw [hL] at hD; cases hD
    refine h D h' tk k ys.toList vs hlen hP hpd (fun q hq e => ?_) ⟨F.ns.at' fun o e => hk _ o (fun hb => hLI (List.mem_singleton.mp hb)) e, fun b o e => hk b o (old b o e) (F.keep b o e), F.above⟩ ?_
    · have := (N q hq).1; rw [e, hD] at this; cases this
    · intro q hq
      rcases List.mem_cons.mp hq with rfl | hq
      · exact ⟨hpl, hDL, hgD⟩
      · exact ⟨hk _ _ (fun hb => hNI q hq (List.mem_singleton.mp hb)) (N q hq).1, (N q hq).2⟩

/-- a comprehension over a list of the frame's ledger or ground, its elements texts or ints -/
theorem compList {iter : PySem.Expr} {px pos : Pos} {l : Addr} {vs : List Value} (p : Value → Bool) (Fn : Value → Value → Prop)
    (hh : A.handled = none) (F : Fr g L s.heap m) (N : News g L s.heap news) (hl : s.heap.IsList l vs.toArray) (hn : vs.length ≤ 1000000) 
    (hclos : closureFor scope env = pure cl) (hcell : ∀ y ∈ scope.names, y.2 ≠ .cell) (hkind : scope.kind = .function)
    (hnames : ∀ y ∈ scope.names, y.2 = .local → scope.names.lookup y.1 = some .local) (hx : scope.names.lookup x = some .local)
    (hiter : ∀ Q' : Value → Shared → Prop, Q' (.ref l) s → wpAny (model prog w) A (eval iter env) Q' E s)
    (tests : ∀ C v s₃ m₃ E', v ∈ vs → m₃ x = some v → Fr g C s₃.heap m₃ → News g C s₃.heap news →
      wpAny (model prog w) A (forIn ifs true fun c r => if r = true then do let ok ← isTrue c (compEnvC scope cl C env) (eval c (compEnvC scope cl C env)); pure (ForInStep.yield ok) else pure (ForInStep.yield r))
        (TestPost p s₃ v) E' s₃)
    (el : ∀ C v s₃ m₃ E', v ∈ vs → p v = true → m₃ x = some v → Fr g C s₃.heap m₃ → News g C s₃.heap news →
      wpAny (model prog w) A (eval elt (compEnvC scope cl C env)) (ElPost Fn s₃ v) E' s₃)
    (h : ∀ D h' tk k ys, Paired Fn (vs.filter p) ys → (∀ q ∈ news, q.1 ≠ D) → Fr g L h' m → News g L h' ((D, listOf ys.toArray k) :: news) → Q (.ref D) { s with heap := h', toks := tk })
    (hs : ∀ x, foldedSetIterable iter env x = pure x := by intro _; rfl) :
    wpAny (model prog w) A (eval (.ListComp elt [⟨.Name x px, iter, ifs, 0⟩] scope pos) env) Q E s := by
  refine wpAny_ListComp_free p Fn hclos hcell hkind hnames hx (hiter _ (wpAny_pyIter_list hl ?_)) hs
  obtain ⟨ol, hol, _⟩ := id hl
  have hlt : l < s.heap.objs.size := Heap.lt_size hol
  have hLs : L < s.heap.objs.size := F.ns.lt
  have hne : l ≠ s.heap.objs.size := Nat.ne_of_lt hlt
  have W := Walks.list (prog := prog) (w := w) hh s.heap.objs.size l hne vs.toArray
  rw [List.size_toArray] at W
  refine compCore (s := { s with heap := s.heap.push { cls := .type "list_iterator", data := .fields #[.ref l, .int 0 0] } }) p Fn W hn ⟨⟨_, Heap.get?_push_size _ rfl, rfl, rfl⟩, hl.at fun o e => Heap.get?_push_of_some _ e⟩ ?_ (next_is_new F) (F.push _) (fun q hq => ⟨Heap.get?_push_of_some _ (N q hq).1, (N q hq).2⟩) (fun q hq => Nat.ne_of_lt (Heap.lt_size (N q hq).1)) (Nat.ne_of_lt hLs) ?_ ?_ ?_
  · intro b hb
    rw [show (s.heap.push { cls := .type "list_iterator", data := .fields #[.ref l, .int 0 0] }).objs.size = s.heap.objs.size + 1 from Heap.size_push ..]
    rcases List.mem_cons.mp hb with rfl | hb
    · exact Nat.lt_succ_self _
    · rw [List.mem_singleton.mp hb]; exact Nat.lt_succ_of_lt hlt
  · intro C i v s₃ m₃ E' hP hx F3 N3
    have hP' : vs[i]? = some v := by simpa using hP
    exact tests C v s₃ m₃ E' (List.mem_of_getElem? hP') hx F3 N3
  · intro C i v s₃ m₃ E' hP hp hx F3 N3
    have hP' : vs[i]? = some v := by simpa using hP
    exact el C v s₃ m₃ E' (List.mem_of_getElem? hP') hp hx F3 N3
  · intro D h' tk k ys vs' hlen hP hpd hnd F' N'
    have hv : vs' = vs := by
      apply List.ext_getElem? 
      intro j
      cases hj : vs'[j]? with
      | some v => have := hP j v hj; simpa using this.symm
      | none =>
        have : vs.length ≤ j := by have h9 := List.getElem?_eq_none_iff.mp hj; have h8 : vs'.length = vs.length := hlen; omega
        exact (List.getElem?_eq_none this).symm
    subst hv
    exact h D h' tk k ys hpd hnd F' N'

/-- the same without a test -/
theorem compList0 {iter : PySem.Expr} {px pos : Pos} {l : Addr} {vs : List Value} (Fn : Value → Value → Prop)
    (hh : A.handled = none) (F : Fr g L s.heap m) (N : News g L s.heap news) (hl : s.heap.IsList l vs.toArray) (hn : vs.length ≤ 1000000) 
    (hclos : closureFor scope env = pure cl) (hcell : ∀ y ∈ scope.names, y.2 ≠ .cell) (hkind : scope.kind = .function)
    (hnames : ∀ y ∈ scope.names, y.2 = .local → scope.names.lookup y.1 = some .local) (hx : scope.names.lookup x = some .local)
    (hiter : ∀ Q' : Value → Shared → Prop, Q' (.ref l) s → wpAny (model prog w) A (eval iter env) Q' E s)
    (el : ∀ C v s₃ m₃ E', v ∈ vs → m₃ x = some v → Fr g C s₃.heap m₃ → News g C s₃.heap news →
      wpAny (model prog w) A (eval elt (compEnvC scope cl C env)) (ElPost Fn s₃ v) E' s₃)
    (h : ∀ D h' tk k ys, Paired Fn vs ys → (∀ q ∈ news, q.1 ≠ D) → Fr g L h' m → News g L h' ((D, listOf ys.toArray k) :: news) → Q (.ref D) { s with heap := h', toks := tk })
    (hs : ∀ x, foldedSetIterable iter env x = pure x := by intro _; rfl) :
    wpAny (model prog w) A (eval (.ListComp elt [⟨.Name x px, iter, [], 0⟩] scope pos) env) Q E s :=
  compList (fun _ => true) Fn hh F N hl hn hclos hcell hkind hnames hx hiter (fun C v s₃ m₃ E' _ _ _ _ => wpAny_pure ⟨rfl, _, _, rfl, fun _ _ e => e⟩)
    (fun C v s₃ m₃ E' a _ b c d => el C v s₃ m₃ E' a b c d) (fun D h' tk k ys hp => h D h' tk k ys (by rw [List.filter_eq_self.mpr (fun _ _ => rfl)] at hp; exact hp)) hs
end
end
section
open PySem PySem.W PySem.Calls PyProof.Rows
def ListAt {α : Type} (R : Value → α → Prop) (h : Heap) (r : Value) (xs : List α) : Prop := ∃ d vs k, r = .ref d ∧ h.get? d = some (listOf vs.toArray k) ∧ Paired R vs xs
def putA {α : Type} (d : List (Str × α)) (k : Str) (a : α) : List (Str × α) := if d.any (fun kv => kv.1 = k) then d.map (fun kv => if kv.1 = k then (kv.1, a) else kv) else d ++ [(k, a)]
def PairR {α : Type} (R : Value → α → Prop) (p : Str × Value) (q : Str × α) : Prop := p.1 = q.1 ∧ R p.2 q.2
theorem any_key {α : Type} {R : Value → α → Prop} {vs : List (Str × Value)} {d : List (Str × α)} (h : Paired (PairR R) vs d) (k : Str) : vs.any (fun kv => kv.1 = k) = d.any (fun kv => kv.1 = k) := by
  induction h with
  | nil => rfl
  | cons h _ ih => simp only [List.any_cons, ih, h.1]
theorem stored_put {α : Type} {R : Value → α → Prop} {vs : List (Str × Value)} {d : List (Str × α)} (h : Paired (PairR R) vs d) (k : Str) {v : Value} {a : α} (hr : R v a) : Paired (PairR R) (stored vs k v) (putA d k a) := by
  unfold stored putA
  rw [any_key h k]
  by_cases hk : d.any (fun kv => kv.1 = k) = true
  · rw [if_pos hk, if_pos hk]
    clear hk
    induction h with
    | nil => exact .nil
    | @cons p q _ _ h _ ih =>
      rw [List.map_cons, List.map_cons]
      refine .cons ?_ ih
      by_cases e : q.1 = k
      · rw [if_pos e, if_pos (h.1.trans e)]; exact ⟨h.1, hr⟩
      · rw [if_neg e, if_neg (fun e' => e (h.1.symm.trans e'))]; exact h
  · rw [if_neg hk, if_neg hk]
    exact h.snoc ⟨rfl, hr⟩
theorem valueAt_get {α : Type} {R : Value → α → Prop} {vs : List (Str × Value)} {d : List (Str × α)} (h : Paired (PairR R) vs d) {k : Str} {a : α} (e : (d.find? (fun kv => kv.1 = k)).map (·.2) = some a) : ∃ v, valueAt vs k = some v ∧ R v a := by
  unfold valueAt
  induction h with
  | nil => simp at e
  | @cons p q _ _ h _ ih =>
    rw [List.find?_cons] at e ⊢
    by_cases hk : q.1 = k
    · have hk' : p.1 = k := h.1.trans hk
      simp only [hk, decide_true, Option.map_some, Option.some.injEq] at e
      simp only [hk', decide_true, Option.map_some]
      exact ⟨p.2, rfl, e ▸ h.2⟩
    · have hk' : p.1 ≠ k := fun e' => hk (h.1.symm.trans e')
      simp only [hk, decide_false] at e
      simp only [hk', decide_false]
      exact ih e
theorem putA_length {α : Type} (d : List (Str × α)) (k : Str) (a : α) : (putA d k a).length ≤ d.length + 1 := by
  unfold putA; split <;> simp
theorem valueAt_mem {vs : List (Str × Value)} (hn : (vs.map (·.1)).Nodup) {p : Str × Value} (hp : p ∈ vs) : valueAt vs p.1 = some p.2 := by
  unfold valueAt
  induction vs with
  | nil => exact nomatch hp
  | cons q r ih =>
    rw [List.map_cons, List.nodup_cons] at hn
    rw [List.find?_cons]
    rcases List.mem_cons.mp hp with rfl | hp
    · simp
    · have hne : q.1 ≠ p.1 := fun e => hn.1 (e ▸ List.mem_map_of_mem hp)
      simp only [hne, decide_false]
      exact ih hn.2 hp
theorem Heap.DictOf.nodup' {prog : Program} {w : World} {h : Heap} {d : Addr} {vs : List (Str × Value)} (hd : h.DictOf (PySem.strKind prog w) d vs) : (vs.map (·.1)).Nodup := let ⟨_, _, _, _, _, _, _, _, hn⟩ := hd; hn
theorem dictCls {prog : Program} {w : World} {o : Obj} {vs : List (Str × Value)} (hd : o.IsDictOf (PySem.strKind prog w) vs) : o.cls = .type "dict" := let ⟨_, _, hx, _⟩ := hd; hx.1
section
variable {prog : Program} {w : World} {A : Around} {E : Value → Shared → Prop} {s : Shared} {env : Env} {h₀ : Heap} {target : PySem.Expr} {body : List Stmt} {Q : Flow → Shared → Prop}
/-- the keys of a dict of the frame's ground -/
theorem iterKeysG {d : Addr} {vs : List (Str × Value)} {m₀ : Str → Option Value} {news : List (Addr × Obj)}
    (hh : A.handled = none) (F : Fr h₀ env.locals s.heap m₀) (N : News h₀ env.locals s.heap news) (hd : h₀.DictOf (PySem.strKind prog w) d vs) (lo : (d == sysModules) = false)
    (rest₀ : ∀ I : Addr, (∀ p ∈ news, p.1 < I) → ItemsRest prog w A E h₀ env target body Q s [(I, "dict_keyiterator")] [] (vs.map fun p => Itm.tok fun t => .str p.1 t) m₀ news) :
    wpAny (model prog w) A (pyIter (.ref d)) (fun it s₂ => TurnsAt prog w A h₀ env target body Q E it s₂) E s := by
  have hds : s.heap.DictOf (PySem.strKind prog w) d vs := hd.keep F.keep
  obtain ⟨ep, hat⟩ := hds.dictAt
  obtain ⟨od, _, _, hod, _⟩ := id hd
  have hne : d ≠ s.heap.objs.size := Nat.ne_of_lt hat.lt_size
  refine wpAny_pyIter_dict lo hat ?_
  refine ktg_core (tk0 := s.toks) (keep := []) (KTurns.ofWalks (Walks.dictKeys (knd := PySem.strKind prog w) hh s.heap.objs.size d hne vs ep) fun i v s Q E st q => letGo_keyiter st.1 q) (by rw [List.length_map]) ?_ ?_ ?_ ?_ ?_ ?_ ?_ ?_ (F.push _) (fun p hp => ⟨Heap.get?_push_of_some _ (N p hp).1, (N p hp).2⟩) trivial (rest₀ _ fun p hp => Heap.lt_size (N p hp).1)
  · rintro i v h ⟨k, x, hx, hk⟩
    obtain ⟨t, rfl⟩ := Value.isStrOf_shape hk
    exact ⟨.tok (fun t => .str k t), by rw [List.getElem?_map, hx]; rfl, t, rfl⟩
  · rintro i h ⟨⟨oi, g, c, _⟩, _⟩
    exact ⟨[(s.heap.objs.size, oi)], ⟨⟨rfl, c⟩, trivial⟩, fun p hp => by rw [List.mem_singleton.mp hp]; exact g⟩
  · intro b hb
    have hb' : b = s.heap.objs.size := by simpa using hb
    rw [hb']
    exact ⟨List.mem_cons_self .., next_is_new F⟩
  · intro b hb
    simpa using hb
  · intro b hb
    have hb' : b = s.heap.objs.size ∨ b = d := by simpa using hb
    rcases hb' with e | e
    · exact .inl (by simp [e])
    · exact .inr (.inr ⟨od, by rw [e]; exact hod⟩)
  · intro hI
    have hb' : env.locals = s.heap.objs.size ∨ env.locals = d := by simpa using hI
    rcases hb' with e | e
    · exact absurd F.ns.lt (e ▸ Nat.lt_irrefl _)
    · exact absurd (Heap.lt_size hod) (Nat.not_lt.mpr (e ▸ F.above))
  · intro p hp hI
    exact absurd (Heap.lt_size (N p hp).1) ((List.mem_singleton.mp hI) ▸ Nat.lt_irrefl _)
  · exact ⟨⟨_, Heap.get?_push_size _ rfl, rfl, rfl⟩, hat.push _⟩
end
section
variable {prog : Program} {w : World} {A : Around} {E : Value → Shared → Prop} {s : Shared} {Q : Value → Shared → Prop}
theorem dictItem {value slice : PySem.Expr} {d : Addr} {vs : List (Str × Value)} {k : Str} {t : Tok} {v : Value} (hd : s.heap.DictOf (PySem.strKind prog w) d vs) (hl : valueAt vs k = some v) (h : Q v { s with toks := s.toks + 1 })
    (hs : subscripted slice false (.ref d) (.str k t) = operate [.ref d, .str k t] (getItem (.ref d) (.str k t)) := by with_unfolding_all rfl) (hg : ∀ r, letTemporaryGo value (.ref d) r = pure () := by intro _; with_unfolding_all rfl) :
    wpAny (model prog w) A (subscriptTail value slice (.ref d) (.str k t)) Q E s :=
  subscriptTail_builtin hd.typeIs slot_dict_getitem.lookup (wpAny_getItem_of (PySem.strKind_is _ _ _ _) hd.mapOf hl h) hs hg
end
section
variable {prog : Program} {w : World} {A : Around} {E : Value → Shared → Prop} {s : Shared} {h₀ : Heap} {L D : Addr} {m : Str → Option Value} {news news' : List (Addr × Obj)} {vs : List Value} {k : Int} {t : Tok} {n : Nat} {v : Value}
theorem setL {Q : Unit → Shared → Prop} (F : Fr h₀ L s.heap m) (N : News h₀ L s.heap news) (U : Upd D (listOf vs.toArray n) (listOf (vs.set k.toNat v).toArray n) news news') (h0 : 0 ≤ k) (h1 : k < vs.length) (hfit : k < 2 ^ 63)
    (h : ∀ h', Fr h₀ L h' m → News h₀ L h' news' → Q () { s with heap := h' }) : wpAny (model prog w) A (setItem (.ref D) (.int k t) v) Q E s := by
  obtain ⟨pre, post, rfl, rfl, a, b'⟩ := U.split
  have z := N (D, listOf vs.toArray n) (List.mem_append.mpr (.inr (.head _)))
  refine ki_setAt z.1 h0 hfit (by rw [List.size_toArray]; exact h1) (h _ (F.change (Heap.SameBut.update ..) z.2.1 z.2.2) (ki_turn _ N a b' ?_ ?_))
  · show vs.toArray.setIfInBounds k.toNat v = (vs.set k.toNat v).toArray
    apply Array.toList_inj.mp
    simp
  · simp
theorem getL1 {l : Addr} {x : Value} {Q : Value → Shared → Prop} (hl : s.heap.IsList l vs.toArray) (h0 : 0 ≤ k) (hfit : k < 2 ^ 63) (hx : vs[k.toNat]? = some x) (h : Q x s) : wpAny (model prog w) A (getItem (.ref l) (.int k t)) Q E s :=
  wpAny_getItem_list hl h0 hfit (by simpa using hx) h
theorem subL1 {value slice : PySem.Expr} {l : Addr} {x : Value} {Q : Value → Shared → Prop} (hl : s.heap.IsList l vs.toArray) (h0 : 0 ≤ k) (hfit : k < 2 ^ 63) (hx : vs[k.toNat]? = some x) (h : Q x s)
    (hs : subscripted slice false (.ref l) (.int k t) = operate [.ref l, .int k t] (getItem (.ref l) (.int k t)) := by with_unfolding_all rfl) :
    wpAny (model prog w) A (subscriptTail value slice (.ref l) (.int k t)) Q E s :=
  tail_any hl.typeIs slot_list_getitem.lookup (getL1 hl h0 hfit hx h) hs
theorem subS {value slice : PySem.Expr} {l : Addr} {ws : List Str} {Q : Value → Shared → Prop} (hl : s.heap.IsList l vs.toArray) (hw : Paired IsS vs ws) (h0 : 0 ≤ k) (h1 : k < ws.length) (hfit : k < 2 ^ 63) (h : ∀ x t', ws[k.toNat]? = some x → Q (.str x t') s)
    (hs : subscripted slice false (.ref l) (.int k t) = operate [.ref l, .int k t] (getItem (.ref l) (.int k t)) := by with_unfolding_all rfl) :
    wpAny (model prog w) A (subscriptTail value slice (.ref l) (.int k t)) Q E s := by
  have hlt : k.toNat < ws.length := by omega
  obtain ⟨v, hv, t', rfl⟩ := pget hw (List.getElem?_eq_getElem hlt)
  exact subL1 hl h0 hfit hv (h _ _ (List.getElem?_eq_getElem hlt)) hs
theorem subT {value slice : PySem.Expr} {T : Addr} {x : Value} {Q : Value → Shared → Prop} (ht : IsTup s.heap T vs.toArray) (h0 : 0 ≤ k) (h1 : k < vs.length) (hfit : k < 2 ^ 63) (hx : vs[k.toNat]? = some x) (h : Q x s)
    (hs : subscripted slice false (.ref T) (.int k t) = operate [.ref T, .int k t] (getItem (.ref T) (.int k t)) := by with_unfolding_all rfl) :
    wpAny (model prog w) A (subscriptTail value slice (.ref T) (.int k t)) Q E s := by
  have hn : k < ((vs.toArray.size : Nat) : Int) := by rw [List.size_toArray]; exact h1
  exact tail_any ht.typeIs slot_tuple_getitem.lookup (getItem_tuple ht (by omega) hfit (seqIndex_of h0 hn) (by simpa using hx) h) hs
end
theorem pset {α β : Type} {R : α → β → Prop} {l : List α} {r : List β} (h : Paired R l r) {a : α} {b : β} (hr : R a b) : ∀ i : Nat, Paired R (l.set i a) (r.set i b) := by
  induction h with
  | nil => intro i; exact .nil
  | cons h k ih =>
    intro i
    cases i with
    | zero => exact .cons hr k
    | succ i => exact .cons h (ih i)
def DictAtR (w : World) {α : Type} (R : Value → α → Prop) (h : Heap) (r : Value) (kvs : List (Str × α)) : Prop :=
  ∃ d o vs, r = .ref d ∧ (d == sysModules) = false ∧ h.get? d = some o ∧ o.IsDictOf (PySem.strKind PySem.Challenge.rw_rl0160_01.prog w) vs ∧ Paired (PairR R) vs kvs
/-- Spec, and the object that is handed back is new -/
def SpecF (w : World) (f : Addr) (vs : List Value) (pre : Heap → Prop) (post : Heap → Value → Prop) : Prop :=
  ∀ (dp un : Nat) (fr : Option (List Env)) (gd : Option (List Code)) (s : Shared) (Q E : Value → Shared → Prop),
    (hd.heap_39 w.params).In s.heap → TopX s.heap → dp + 10 < recursionLimit → un + 80 < cLine → pre s.heap →
    (∀ r h' tk', Keep s.heap h' → (∀ d, r = .ref d → s.heap.get? d = none) → post h' r → Q r { s with heap := h', toks := tk' }) →
    wpAny (model PySem.Challenge.rw_rl0160_01.prog w) (AR dp un fr gd) (call (.ref f) vs) Q E s
theorem freshOf {g h : Heap} {L d : Addr} {o : Obj} {news : List (Addr × Obj)} (N : News g L h news) (hm : (d, o) ∈ news) : ∀ d', Value.ref d = .ref d' → g.get? d' = none := fun d' e => by
  injection e with e
  exact e ▸ (N _ hm).2.2
end
section
open PySem PySem.W PySem.Calls PyProof.Rows
open PySem.Builtin PySem.Builtin.Str
abbrev LL (x : Str) : List Nat := x.cps.toList
theorem strExt {x y : Str} (h : LL x = LL y) : x = y := Str.ext' (Array.toList_inj.mp h)
theorem LL_app (x y : Str) : LL (x ++ y) = LL x ++ LL y := by
  show (x.cps ++ y.cps).toList = _
  rw [Array.toList_append]
theorem LL_len (x : Str) : (LL x).length = x.length := Array.length_toList
theorem takeWhile_pre {p : Nat → Bool} : ∀ {pre : List Nat} {c : Nat} {r : List Nat}, (∀ c ∈ pre, p c = true) → p c = false → (pre ++ c :: r).takeWhile p = pre
  | [], c, r, _, hc => by rw [List.nil_append, List.takeWhile_cons, hc]; rfl
  | a :: pre, c, r, h, hc => by
    rw [List.cons_append, List.takeWhile_cons, h a (.head _), takeWhile_pre (fun x hx => h x (.tail _ hx)) hc]; rfl
theorem strip_eq {x y : Str} {pre r r' : List Nat} {c d : Nat} (h : LL x = pre ++ LL y) (hp : ∀ c ∈ pre, Unicode.isSpace c = true) (h1 : LL y = c :: r) (hc : Unicode.isSpace c = false) (h2 : LL y = r' ++ [d]) (hd : Unicode.isSpace d = false) : Txt.strip x = y := by
  have hlo : stripLo Unicode.isSpace true x = pre.length := by
    unfold stripLo
    rw [if_pos rfl, show x.cps.toList = pre ++ LL y from h, h1, takeWhile_pre hp hc]
  have hdrop : x.cps.toList.drop pre.length = LL y := by
    rw [show x.cps.toList = pre ++ LL y from h, List.drop_left]
  have hhi : stripHi Unicode.isSpace true x pre.length = x.length := by
    unfold stripHi
    rw [if_pos rfl, hdrop, h2, List.reverse_append, List.reverse_cons, List.reverse_nil, List.nil_append, List.singleton_append, List.takeWhile_cons, hd]
    rfl
  unfold Txt.strip Txt.stripBy
  split
  · rename_i hs
    unfold stripSame at hs
    rw [hlo] at hs
    have : pre.length = 0 := by
      rw [Bool.and_eq_true] at hs
      exact eq_of_beq hs.1
    apply strExt
    rw [h, List.length_eq_zero_iff.mp this, List.nil_append]
  · unfold PySem.stripped
    rw [hlo, hhi]
    apply strExt
    show (strSub x pre.length x.length).cps.toList = _
    rw [StrLaws.strSub_toList, hdrop, List.take_of_length_le]
    have := congrArg List.length h
    rw [List.length_append, LL_len] at this
    omega
theorem at_one (x : Str) (c i : Nat) : StrLaws.At x ⟨#[c]⟩ x.length i ↔ (LL x)[i]? = some c := StrLaws.subAt_one x c i
theorem get_mid {a b : List Nat} {c : Nat} (h : c ∉ a) : (a ++ c :: b)[a.length]? = some c ∧ ∀ k, k < a.length → (a ++ c :: b)[k]? ≠ some c := by
  constructor
  · rw [List.getElem?_append_right (Nat.le_refl _), Nat.sub_self]; rfl
  · intro k hk e
    rw [List.getElem?_append_left hk] at e
    exact h (List.mem_of_getElem? e)
theorem occ_mid {x : Str} {a b : List Nat} {c : Nat} (hx : LL x = a ++ c :: b) (h : c ∉ a) : occurrences x ⟨#[c]⟩ 0 x.length 1 = [a.length] := by
  obtain ⟨g1, g2⟩ := get_mid (b := b) h
  rcases StrLaws.occ_head x ⟨#[c]⟩ 1 (Nat.le_refl _) with ⟨_, hn⟩ | ⟨i, r, e, hi, hk⟩
  · exact absurd ((at_one _ _ _).mpr (by rw [hx]; exact g1)) (hn a.length)
  · have hi' := (at_one _ _ _).mp hi
    rw [hx] at hi'
    have e1 : i = a.length := by
      rcases Nat.lt_trichotomy i a.length with h | h | h
      · exact absurd hi' (g2 i h)
      · exact h
      · exact absurd ((at_one _ _ _).mpr (by rw [hx]; exact g1)) (hk _ h)
    have e2 := StrLaws.occ_length_le x ⟨#[c]⟩ 0 x.length 1
    rw [e] at e2 ⊢
    rw [e1]
    cases r with
    | nil => rfl
    | cons => simp at e2
theorem occ_no {x : Str} {c : Nat} (h : c ∉ LL x) : occurrences x ⟨#[c]⟩ 0 x.length 1 = [] := by
  rcases StrLaws.occ_head x ⟨#[c]⟩ 1 (Nat.le_refl _) with ⟨e, _⟩ | ⟨i, r, e, hi, hk⟩
  · exact e
  · exact absurd (List.mem_of_getElem? ((at_one _ _ _).mp hi)) h
theorem sub_pre {x : Str} {a b : List Nat} (hx : LL x = a ++ b) : LL (strSub x 0 a.length) = a := by
  show (strSub x 0 a.length).cps.toList = _
  rw [StrLaws.strSub_toList, show x.cps.toList = a ++ b from hx, List.drop_zero, Nat.sub_zero, List.take_left]
theorem sub_post {x : Str} {a b : List Nat} (hx : LL x = a ++ b) : LL (strSub x a.length x.length) = b := by
  show (strSub x a.length x.length).cps.toList = _
  rw [StrLaws.strSub_toList, show x.cps.toList = a ++ b from hx, List.drop_left, List.take_of_length_le]
  have := congrArg List.length hx
  rw [List.length_append, LL_len] at this
  omega
theorem splitKV' (k v : Str) (h : 61 ∉ LL k) : Txt.splitMax (k ++ (Str.ofString "=") ++ v) (Str.ofString "=") 1 = [k, v] := by
  have hx : LL (k ++ (Str.ofString "=") ++ v) = LL k ++ 61 :: LL v := by rw [LL_app, LL_app, List.append_assoc]; rfl
  have hx2 : LL (k ++ (Str.ofString "=") ++ v) = (LL k ++ [61]) ++ LL v := by rw [hx]; simp
  have ho : occurrences (k ++ (Str.ofString "=") ++ v) (Str.ofString "=") 0 (k ++ (Str.ofString "=") ++ v).length (limitOf (k ++ (Str.ofString "=") ++ v) 1) = [(LL k).length] := occ_mid hx h
  have hl : (k ++ (Str.ofString "=") ++ v).length = (LL k).length + 1 + (LL v).length := by rw [← LL_len, hx]; simp; omega
  have e1 : (decide ((k ++ (Str.ofString "=") ++ v).length < (Str.ofString "=").length) || decide (Builtin.Str.strKind (k ++ (Str.ofString "=") ++ v) < Builtin.Str.strKind (Str.ofString "="))) = false := by
    have : (Str.ofString "=").length = 1 := rfl
    have h2 : Builtin.Str.strKind (Str.ofString "=") = 1 := by decide +kernel
    rw [Bool.or_eq_false_iff, decide_eq_false_iff_not, decide_eq_false_iff_not, this, h2]
    refine ⟨by omega, ?_⟩
    unfold Builtin.Str.strKind
    split
    · decide
    · split <;> decide
  unfold Txt.splitMax
  rw [e1, if_neg (by decide), ho]
  rw [if_neg (by simp)]
  show [strSub _ 0 (LL k).length, strSub _ ((LL k).length + 1) (k ++ (Str.ofString "=") ++ v).length] = _
  have e2 : strSub (k ++ (Str.ofString "=") ++ v) 0 (LL k).length = k := strExt (sub_pre hx)
  have e3 : strSub (k ++ (Str.ofString "=") ++ v) ((LL k).length + 1) (k ++ (Str.ofString "=") ++ v).length = v := by
    apply strExt
    have := sub_post hx2
    rw [List.length_append] at this
    exact this
  rw [e2, e3]
end
section
open PySem PySem.W PySem.Calls PyProof.Rows PyProof.Rows.LCg

section
variable {prog : Program} {w : World} {A : Around} {s : Shared} {env : Env} {g : Heap} {L : Addr} {m : Str → Option Value}
  {elt : PySem.Expr} {x : Str} {scope : Scope} {cl : List (Str × Addr)} {S : List (Addr × Obj) → Prop} {P : Nat → Value → Prop} {Fin : List Value → List (Addr × Obj) → Prop}
theorem compInd (J : Nat → Nat → List Value → List (Addr × Obj) → Prop) (fin : ∀ i ys news, J 0 i ys news → Fin ys news)
    (step : ∀ k i ys news v I oI C oC D m₂ h tk (E' : Value → Shared → Prop), J (k + 1) i ys news → P i v → NsObj oC m₂ → m₂ x = some v → Fr g L h m → News g L h ((I, oI) :: (C, oC) :: (D, lst ys) :: news) → Off3 I C D news → ((@Ne Nat I C) ∧ (@Ne Nat I D) ∧ (@Ne Nat C D)) →
      wpAny (model prog w) A (eval elt (compEnvC scope cl C env)) (CompEnd g L m { s with heap := h, toks := tk } I oI C oC D (lst ys) S (fun y news' => J k (i + 1) (ys ++ [y]) news')) E' { s with heap := h, toks := tk }) :
    ∀ k i ys news, J k i ys news → CompRest prog w A g L m env elt x scope cl s S P Fin k i ys news
  | 0, i, ys, news, hj => fin i ys news hj
  | k + 1, i, ys, news, hj => fun v I oI C oC D m₂ h tk E' hP hO hx F N hoff hne => by
    refine wpAny_mono (step k i ys news v I oI C oC D m₂ h tk E' hj hP hO hx F N hoff hne) (fun y s' h' => ?_) fun _ _ e => e
    obtain ⟨h', tk', news', e, F', N', ho, hS, hj'⟩ := h'
    exact ⟨h', tk', news', e, F', N', ho, hS, compInd J fin step k (i + 1) (ys ++ [y]) news' hj'⟩
end
end
section
open PySem PySem.W PySem.Calls PyProof.Rows
section
variable {prog : Program} {w : World} {A : Around} {E : Value → Shared → Prop} {s : Shared} {env : Env} {g : Heap} {L : Addr} {m : Str → Option Value} {news : List (Addr × Obj)} {Q : Value → Shared → Prop}
  {elt : PySem.Expr} {x : Str} {scope : Scope} {cl : List (Str × Addr)}
def sgn (c : Nat) : Str := ⟨#[c]⟩
def SgRel (f : Nat → Str) (v r : Value) : Prop := ∀ c u, v = .str (sgn c) u → IsS r (f c)
/-- a comprehension over the signs of a text, its elements texts -/
theorem compStr {iter : PySem.Expr} {px pos : Pos} {y : Str} (f : Nat → Str)
    (hh : A.handled = none) (F : Fr g L s.heap m) (N : News g L s.heap news) (hn : y.cps.size ≤ 1000000) 
    (hclos : closureFor scope env = pure cl) (hcell : ∀ y ∈ scope.names, y.2 ≠ .cell) (hkind : scope.kind = .function)
    (hnames : ∀ y ∈ scope.names, y.2 = .local → scope.names.lookup y.1 = some .local) (hx : scope.names.lookup x = some .local)
    (hiter : ∀ Q' : Value → Shared → Prop, (∀ ty, Q' (.str y ty) s) → wpAny (model prog w) A (eval iter env) Q' E s)
    (el : ∀ C c u s₃ m₃ E', m₃ x = some (.str (sgn c) u) → Fr g C s₃.heap m₃ → News g C s₃.heap news →
      wpAny (model prog w) A (eval elt (compEnvC scope cl C env)) (fun r s₄ => IsS r (f c) ∧ Keeps s₃ s₄) E' s₃)
    (h : ∀ D h' tk k ys, CarriedAll ys ((y.cps.toList.map f).map PyData.str) → (∀ q ∈ news, q.1 ≠ D) → Fr g L h' m → News g L h' ((D, listOf ys.toArray k) :: news) → Q (.ref D) { s with heap := h', toks := tk })
    (hs : ∀ x, foldedSetIterable iter env x = pure x := by intro _; rfl) :
    wpAny (model prog w) A (eval (.ListComp elt [⟨.Name x px, iter, [], 0⟩] scope pos) env) Q E s := by
  refine wpAny_ListComp_free (fun _ => true) (SgRel f) hclos hcell hkind hnames hx (hiter _ (fun ty => wpAny_pyIter_str fun o St W hst => ?_)) hs
  have hLs : L < s.heap.objs.size := F.ns.lt
  refine compCore (fun _ => true) (SgRel f) (W A hh) hn hst ?_ (next_is_new F) (F.push _) (fun q hq => ⟨Heap.get?_push_of_some _ (N q hq).1, (N q hq).2⟩) (fun q hq => Nat.ne_of_lt (Heap.lt_size (N q hq).1)) (Nat.ne_of_lt hLs) ?_ ?_ ?_
  · intro b hb
    rw [show (s.heap.push o).objs.size = s.heap.objs.size + 1 from Heap.size_push .., List.mem_singleton.mp hb]
    exact Nat.lt_succ_self _
  · intro C i v s₃ m₃ E' hP hx F3 N3
    exact wpAny_pure ⟨rfl, _, _, rfl, fun _ _ e => e⟩
  · intro C i v s₃ m₃ E' hP hp hx F3 N3
    obtain ⟨c, u, hc, rfl⟩ := hP
    refine wpAny_mono (el C c u s₃ m₃ E' hx F3 N3) (fun r s₄ h => ?_) fun _ _ e => e
    refine ⟨fun c' u' e => ?_, h.2⟩
    have : c = c' := by
      injection e with e _
      injection e with e
      injection e with e
      injection e
    exact this ▸ h.1
  · intro D h' tk k ys vs hlen hP hpd hnd F' N'
    refine h D h' tk k ys ?_ hnd F' N'
    rw [List.filter_eq_self.mpr (fun _ _ => rfl)] at hpd
    have hl2 := hpd.length
    refine carriedAll_of_get ys _ (by simp only [List.length_map, Array.length_toList]; omega) fun j r hr => ?_
    obtain ⟨v, hv, hvr⟩ : ∃ v, vs[j]? = some v ∧ SgRel f v r := by
      have hj : j < vs.length := by have := (List.getElem?_eq_some_iff.mp hr).1; omega
      obtain ⟨r', hr', hR⟩ := pget' hpd (List.getElem?_eq_getElem hj)
      rw [hr] at hr'
      exact ⟨_, List.getElem?_eq_getElem hj, Option.some.inj hr' ▸ hR⟩
    obtain ⟨c, u, hc, rfl⟩ := hP j v hv
    obtain ⟨t', rfl⟩ := hvr c u rfl
    exact ⟨.str (f c), by simp [hc], .str _ _⟩
end
def PlacePost (g : Heap) (L : Addr) (m : Str → Option Value) (news : List (Addr × Obj)) (s : Shared) (z : Str) (f : Flow) (s₁ : Shared) : Prop :=
  f = .next ∧ ∃ m' h tk t1, s₁ = { s with heap := h, toks := tk } ∧ Fr g L h m' ∧ News g L h news ∧ m' "place" = some (.str z t1) ∧ ∀ y, y ≠ Str.ofString "place" → m' y = m y
theorem PlacePost.of {g : Heap} {L : Addr} {m m' : Str → Option Value} {news all : List (Addr × Obj)} {s : Shared} {z z' : Str} {h : Heap} {tk : Nat} {t1 : Tok} (F : Fr g L h m') (N : News g L h all) (hs : ∀ p ∈ news, p ∈ all) (hz : z' = z) (h1 : m' "place" = some (.str z' t1)) (h3 : ∀ y, y ≠ Str.ofString "place" → m' y = m y) :
    PlacePost g L m news s z .next { s with heap := h, toks := tk } := ⟨rfl, m', h, tk, t1, rfl, F, newsSub N hs, hz ▸ h1, h3⟩
theorem cutPlace {M : Model} {A : Around} {E : Value → Shared → Prop} {s : Shared} {g : Heap} {L : Addr} {m : Str → Option Value} {news : List (Addr × Obj)} {t : Sem Flow} {Q : Flow → Shared → Prop} (z : Str) (_F : Fr g L s.heap m) (_N : News g L s.heap news)
    (ev : wpAny M A t (PlacePost g L m news s z) E s) (rest : ∀ f s₁, PlacePost g L m news s z f s₁ → Q f s₁) : wpAny M A t Q E s := wpAny_mono ev rest fun _ _ e => e
def TestP (s : Shared) (p : Prop) (b : Bool) (s₁ : Shared) : Prop := (b = true ↔ p) ∧ ∃ tk, s₁ = { s with toks := tk }
theorem TestP.of {s : Shared} {p : Prop} {b : Bool} {tk : Nat} (h : b = true ↔ p) : TestP s p b { s with toks := tk } := ⟨h, tk, rfl⟩
theorem tpT {s : Shared} {p : Prop} {tk : Nat} (h : p) : TestP s p true { s with toks := tk } := .of ⟨fun _ => h, fun _ => rfl⟩
theorem tpF {s : Shared} {p : Prop} {tk : Nat} (h : ¬p) : TestP s p false { s with toks := tk } := .of ⟨fun e => (nomatch e), fun e => absurd e h⟩
theorem joinLen {α : Type} (B : Nat) (l : List α) (g : α → Str) (h : ∀ a ∈ l, (g a).length ≤ B) : (Txt.join (Str.ofString "") (l.map g)).length ≤ B * l.length := by
  show (Builtin.Str.glued (PySem.Str.ofString "") _).length ≤ _
  rw [StrLaws.glued_eq_join]
  have h1 := StrLaws.join_length_le (Str.ofString "") (l.map g)
  have h2 := sumLen_le_of_bound g B l h
  have h3 : (Str.ofString "").length = 0 := rfl
  rw [h3, Nat.mul_zero, Nat.add_zero] at h1
  exact Nat.le_trans h1 h2
theorem cutTest {M : Model} {A : Around} {E : Value → Shared → Prop} {s : Shared} {t : Sem Bool} {Q : Bool → Shared → Prop} (p : Prop)
    (ev : wpAny M A t (TestP s p) E s) (yes : p → ∀ tk, Q true { s with toks := tk }) (no : ¬p → ∀ tk, Q false { s with toks := tk }) : wpAny M A t Q E s :=
  wpAny_mono ev (fun b s₁ h => by
    obtain ⟨h, tk, rfl⟩ := h
    cases b with
    | true => exact yes (h.mp rfl) tk
    | false => exact no (fun hp => nomatch h.mpr hp) tk) fun _ _ e => e
def signF (way : Int) (c : Nat) : Str := if way = 1 ∨ (Builtin.Str.occurrences (Str.ofString "\"\\") (sgn c) 0 (Str.ofString "\"\\").length 1).isEmpty = false then Str.ofString "\\" ++ sgn c else sgn c
theorem signF1 {way : Int} {c : Nat} {t : Tok} (h : way = 1) : IsS (.str (Str.ofString "\\" ++ sgn c) t) (signF way c) := ⟨t, by unfold signF; rw [if_pos (.inl h)]⟩
theorem signF2 {way : Int} {c : Nat} {t : Tok} (h : (Builtin.Str.occurrences (Str.ofString "\"\\") (sgn c) 0 (Str.ofString "\"\\").length 1).isEmpty = false) : IsS (.str (Str.ofString "\\" ++ sgn c) t) (signF way c) := ⟨t, by unfold signF; rw [if_pos (.inr h)]⟩
theorem signF3 {way : Int} {c : Nat} {t : Tok} (h : way ≠ 1) (h' : (Builtin.Str.occurrences (Str.ofString "\"\\") (sgn c) 0 (Str.ofString "\"\\").length 1).isEmpty = true) : IsS (.str (sgn c) t) (signF way c) := ⟨t, by unfold signF; rw [if_neg]; intro e; rcases e with e | e; exact h e; rw [h'] at e; exact nomatch e⟩
theorem signF_len (way : Int) (c : Nat) : (signF way c).length ≤ 2 := by
  unfold signF; split
  · exact Nat.le_of_eq rfl
  · exact Nat.le_of_lt (Nat.lt_succ_self 1)
def quoteF (way : Int) (place : Str) : Str := Str.ofString "\"" ++ Txt.join (Str.ofString "") (place.cps.toList.map (signF way)) ++ Str.ofString "\""
abbrev hasF (x y : Str) : Prop := (Builtin.Str.occurrences x y 0 x.length 1).isEmpty = false
def placeF (way : Int) (place : Str) : Str := if way ≠ 2 ∨ hasF place (Str.ofString ",") ∨ hasF place (Str.ofString "\"") then quoteF way place else place
theorem appLen (a b : Str) : (a ++ b).length = a.length + b.length := by
  show (a.cps ++ b.cps).size = _
  exact Array.size_append
theorem placeF_len (way : Int) (place : Str) : (placeF way place).length ≤ 2 * place.length + 2 := by
  unfold placeF
  split
  · unfold quoteF
    have hj := joinLen 2 place.cps.toList (signF way) (fun a _ => signF_len _ a)
    rw [Array.length_toList] at hj
    rw [appLen, appLen]
    have h1 : (Str.ofString "\"").length = 1 := rfl
    have h2 : place.cps.size = place.length := rfl
    omega
  · omega
theorem notHas {x y : Str} (h : (Builtin.Str.occurrences x y 0 x.length 1).isEmpty = true) : ¬ hasF x y := fun e => by unfold hasF at e; rw [h] at e; exact nomatch e
end
section
open PySem PySem.W PySem.Calls PyProof.Rows
section
variable {w : World} {A : Around} {s : Shared} {K : Frag} {Q E : Value → Shared → Prop} {name qual : Str} {params : Arguments} {body : List Stmt} {scope : Scope} {dV kV doc pm cdv ct oc : Value} {an od : Option Addr} {osl : Array (Option Value)} {f C : Addr} {prog : Program}
def MadeP (s : Shared) (C x dx : Addr) (s' : Shared) : Prop := ∃ h' tk hsh t v, s' = { s with heap := h', toks := tk } ∧ Keep s.heap h' ∧ h'.get? x = some (instObj C dx) ∧ h'.get? dx = some (dictOf [⟨hsh, .str (Str.ofString "passwd") t, v⟩] 1)
theorem MadeP.of {s : Shared} {C x dx L : Addr} {h' : Heap} {tk : Nat} {m : Str → Option Value} {all : List (Addr × Obj)} {hsh : Int} {t : Tok} {v : Value} (F : Fr s.heap L h' m) (N : News s.heap L h' all) (h1 : (x, instObj C dx) ∈ all) (h2 : (dx, dictOf [⟨hsh, .str (Str.ofString "passwd") t, v⟩] 1) ∈ all) : MadeP s C x dx { s with heap := h', toks := tk } :=
  ⟨h', tk, hsh, t, v, rfl, F.keep, (N _ h1).1, (N _ h2).1⟩
theorem makeI (nm : Str) (X : K.In s.heap) (T : TopX s.heap) (hm : makesIn K C = true) (hi : findIn K (.ref C) "__init__" = some (some (.ref f))) (hf : isFn K (.ref f) = true)
    (hroom : (A.under (.builtin "type.__call__" ⟨[.ref C], []⟩)).depth < recursionLimit)
    (ho : K.lookup f = some ⟨oc, od, .func (fnOf name qual params body scope dV kV doc pm an cdv ct), osl⟩) (hcd : codeIn K cdv qual = true)
    (hbind : ∀ x s', BindsTo s' (fnOf name qual params body scope dV kV doc pm an cdv ct) ⟨[.ref x], []⟩ [(nm, .ref x)]) (hloc : scope.names.lookup nm = some .local)
    (h : ∀ x dx L' h₁ tk, Fr s.heap L' h₁ (fun y => if y = nm then some (.ref x) else none) → News s.heap L' h₁ [(x, instObj C dx), (dx, dictOf [] 0)] → dx < x →
      wpAny (model prog w) ((A.under (.builtin "type.__call__" ⟨[.ref C], []⟩)).deeper (envOf qual scope L' f cdv)) (execs body (envOf qual scope L' f cdv))
        (fun fl s' => (match fl with | .ret v => v | _ => .none) = .none ∧ MadeP s C x dx s') (fun _ _ => False) { s with heap := h₁, toks := tk })
    (rest : ∀ x dx h' tk hsh t v, Keep s.heap h' → s.heap.objs.size ≤ dx → dx < x → h'.get? x = some (instObj C dx) → h'.get? dx = some (dictOf [⟨hsh, .str (Str.ofString "passwd") t, v⟩] 1) → Q (.ref x) { s with heap := h', toks := tk })
    (hco : scope.isCoroutine = false) (hgen : scope.isGenerator = false) (hk : scope.kind = .function) (hcell : ∀ x ∈ scope.names, x.2 ≠ .cell) :
    wpAny (model prog w) A (call (.ref C) []) Q E s := by
  obtain ⟨mean, mg, mb, T⟩ := T
  obtain ⟨hh, g, d, t, os⟩ := s
  refine wpAny_call ?_
  refine make_core (makes_of X hm) (looks_findIn X hi) (fun self => bind_fn X self (beq_iff_eq.mp hf)) (.inl rfl) ?_
  have kp : ∀ b o, hh.get? b = some o → ((hh.push emptyDict).push (instObj C hh.objs.size)).get? b = some o := fun b o e => Heap.get?_push_of_some _ (Heap.get?_push_of_some _ e)
  have X' : K.In ((hh.push emptyDict).push (instObj C hh.objs.size)) := X.keeps kp
  have T' := T.keeps kp
  refine codeAny_call_def (fd := fnOf name qual params body scope dV kV doc pm an cdv ct) (body := body) (binds := [(nm, .ref (hh.objs.size + 1))]) hroom (X' _ _ ho) rfl T'.nolimit (codeRec_of X' hcd) rfl (hbind _ _) hcell (fun y hy => by rw [List.mem_singleton.mp hy]; exact hloc) (fun h₁ hns hk₁ => ?_) hco hgen hk
  have e1 : ((hh.push emptyDict).push (instObj C hh.objs.size)).objs.size = hh.objs.size + 1 + 1 := by rw [Heap.size_push, Heap.size_push]
  have hg1 : ((hh.push emptyDict).push (instObj C hh.objs.size)).get? (hh.objs.size + 1) = some (instObj C hh.objs.size) := by
    have := Heap.get?_push_size (hh.push emptyDict) (o := instObj C hh.objs.size) rfl
    rwa [Heap.size_push] at this
  have hg2 : ((hh.push emptyDict).push (instObj C hh.objs.size)).get? hh.objs.size = some emptyDict := Heap.get?_push_of_some _ (Heap.get?_push_size _ rfl)
  have none_of : ∀ a, hh.objs.size ≤ a → hh.get? a = none := fun a ha => by
    cases e : hh.get? a with
    | none => rfl
    | some o => exact absurd (Heap.lt_size e) (Nat.not_lt.mpr ha)
  have F' : Fr hh ((hh.push emptyDict).push (instObj C hh.objs.size)).objs.size h₁ (fun y => if y = nm then some (.ref (hh.objs.size + 1)) else none) := by
    refine ⟨?_, fun b o e => hk₁ b o (kp b o e), by omega⟩
    have := hns
    simp only [List.reverse_cons, List.reverse_nil, List.nil_append] at this
    rw [look1] at this
    exact this
  refine wpAny_mono (h (hh.objs.size + 1) hh.objs.size _ h₁ _ F' ?_ (Nat.lt_succ_self _)) (fun fl s' h' => ⟨h'.1, ?_⟩) fun _ _ x => x.elim
  rotate_left 1
  · obtain ⟨h2, tk, hsh, t, v, rfl, k, e1, e2⟩ := h'.2
    exact rest _ _ h2 tk hsh t v k (Nat.le_refl _) (Nat.lt_succ_self _) e1 e2
  intro p hp
  rcases List.mem_cons.mp hp with rfl | hp
  · exact ⟨hk₁ _ _ hg1, Nat.ne_of_lt (by show _ < ((hh.push emptyDict).push (instObj C hh.objs.size)).objs.size; rw [e1]; exact Nat.lt_succ_self _), none_of _ (Nat.le_succ _)⟩
  · rw [List.mem_singleton.mp hp]
    exact ⟨hk₁ _ _ hg2, Nat.ne_of_lt (by show _ < ((hh.push emptyDict).push (instObj C hh.objs.size)).objs.size; rw [e1]; exact Nat.lt_succ_of_lt (Nat.lt_succ_self _)), none_of _ (Nat.le_refl _)⟩
end
end
section
open PySem PySem.W PySem.Calls PyProof.Rows
def strP (p : Str → Bool) : Value → Bool
  | .str k _ => p k
  | _ => false
def StrFn (v y : Value) : Prop := ∀ k t, v = .str k t → IsS y k
theorem pfilter {p : Str → Bool} {vs : List Value} {ks : List Str} (h : Paired IsS vs ks) : Paired IsS (vs.filter (strP p)) (ks.filter p) := by
  induction h with
  | nil => exact .nil
  | @cons v k _ _ h _ ih =>
    obtain ⟨t, rfl⟩ := h
    rw [List.filter_cons, List.filter_cons]
    show Paired IsS (if p k = true then _ else _) _
    split
    · exact .cons ⟨t, rfl⟩ ih
    · exact ih
theorem pstr {vs ys : List Value} {ks : List Str} (h : Paired IsS vs ks) (k : Paired StrFn vs ys) : Paired IsS ys ks := by
  have := pmap (f := id) h k (S := IsS) (fun a b c h1 h2 => by obtain ⟨t, rfl⟩ := h1; exact h2 b t rfl)
  rwa [List.map_id] at this
theorem pOfGet {vs : List Value} {ks : List Str} (hl : vs.length = ks.length) (h : ∀ (j : Nat) (v : Value), vs[j]? = some v → ∃ k, ks[j]? = some k ∧ IsS v k) : Paired IsS vs ks := by
  induction vs generalizing ks with
  | nil => cases ks with
    | nil => exact .nil
    | cons => simp at hl
  | cons v r ih => cases ks with
    | nil => simp at hl
    | cons k q =>
      obtain ⟨k', e, h0⟩ := h 0 v rfl
      have e' : k = k' := by simpa using e
      subst e'
      exact .cons h0 (ih (by simpa using hl) fun j v hv => by simpa using h (j + 1) v (by simpa using hv))
section
variable {prog : Program} {w : World} {A : Around} {E : Value → Shared → Prop} {s : Shared} {env : Env} {g : Heap} {L : Addr} {m : Str → Option Value} {news : List (Addr × Obj)} {Q : Value → Shared → Prop}
  {elt : PySem.Expr} {x : Str} {scope : Scope} {cl : List (Str × Addr)} {ifs : List PySem.Expr}
/-- a comprehension over the keys of a dict, its elements the keys that pass the test -/
theorem compKeys {iter : PySem.Expr} {px pos : Pos} {d : Addr} {vs : List (Str × Value)} (p : Str → Bool)
    (hh : A.handled = none) (F : Fr g L s.heap m) (N : News g L s.heap news) (hd : s.heap.DictOf (PySem.strKind prog w) d vs) (lo : (d == sysModules) = false) (hn : vs.length ≤ 1000000) 
    (hclos : closureFor scope env = pure cl) (hcell : ∀ y ∈ scope.names, y.2 ≠ .cell) (hkind : scope.kind = .function)
    (hnames : ∀ y ∈ scope.names, y.2 = .local → scope.names.lookup y.1 = some .local) (hx : scope.names.lookup x = some .local)
    (hiter : ∀ Q' : Value → Shared → Prop, Q' (.ref d) s → wpAny (model prog w) A (eval iter env) Q' E s)
    (tests : ∀ C k t s₃ m₃ E', k ∈ vs.map (·.1) → m₃ x = some (.str k t) → Fr g C s₃.heap m₃ → News g C s₃.heap news →
      wpAny (model prog w) A (forIn ifs true fun c r => if r = true then do let ok ← isTrue c (compEnvC scope cl C env) (eval c (compEnvC scope cl C env)); pure (ForInStep.yield ok) else pure (ForInStep.yield r))
        (TestPost (strP p) s₃ (.str k t)) E' s₃)
    (el : ∀ C k t s₃ m₃ E', m₃ x = some (.str k t) → Fr g C s₃.heap m₃ → News g C s₃.heap news →
      wpAny (model prog w) A (eval elt (compEnvC scope cl C env)) (fun r s₄ => IsS r k ∧ Keeps s₃ s₄) E' s₃)
    (h : ∀ D h' tk k ys, Paired IsS ys ((vs.map (·.1)).filter p) → (∀ q ∈ news, q.1 ≠ D) → Fr g L h' m → News g L h' ((D, listOf ys.toArray k) :: news) → Q (.ref D) { s with heap := h', toks := tk })
    (hs : ∀ x, foldedSetIterable iter env x = pure x := by intro _; rfl) :
    wpAny (model prog w) A (eval (.ListComp elt [⟨.Name x px, iter, ifs, 0⟩] scope pos) env) Q E s := by
  obtain ⟨ep, hat⟩ := hd.dictAt
  obtain ⟨od, _, _, hod, _⟩ := id hd
  have hne : d ≠ s.heap.objs.size := Nat.ne_of_lt hat.lt_size
  have hLs : L < s.heap.objs.size := F.ns.lt
  refine wpAny_ListComp_free (strP p) StrFn hclos hcell hkind hnames hx (hiter _ (wpAny_pyIter_dict lo hat ?_)) hs
  have W := Walks.dictKeys (prog := prog) (w := w) (knd := PySem.strKind prog w) hh s.heap.objs.size d hne vs ep
  refine compCore (s := { s with heap := s.heap.push { cls := .type "dict_keyiterator", data := _ } }) (strP p) StrFn W hn ⟨⟨_, Heap.get?_push_size _ rfl, rfl, rfl⟩, hat.push _⟩ ?_ (next_is_new F) (F.push _) (fun q hq => ⟨Heap.get?_push_of_some _ (N q hq).1, (N q hq).2⟩) (fun q hq => Nat.ne_of_lt (Heap.lt_size (N q hq).1)) (Nat.ne_of_lt hLs) ?_ ?_ ?_
  · intro b hb
    rw [Heap.size_push]
    have hb' : b = s.heap.objs.size ∨ b = d := by simpa using hb
    rcases hb' with rfl | rfl
    · exact Nat.lt_succ_self _
    · exact Nat.lt_succ_of_lt (Heap.lt_size hod)
  · rintro C i v s₃ m₃ E' ⟨k, xv, hxv, hk⟩ hx3 F3 N3
    obtain ⟨t, rfl⟩ := Value.isStrOf_shape hk
    exact tests C k t s₃ m₃ E' (List.mem_map_of_mem (List.mem_of_getElem? hxv)) hx3 F3 N3
  · rintro C i v s₃ m₃ E' ⟨k, xv, hxv, hk⟩ hp hx3 F3 N3
    obtain ⟨t, rfl⟩ := Value.isStrOf_shape hk
    refine wpAny_mono (el C k t s₃ m₃ E' hx3 F3 N3) (fun r s₄ h => ⟨fun k' t' e => ?_, h.2⟩) fun _ _ e => e
    injection e with e _
    exact e ▸ h.1
  · intro D h' tk k ys vs' hlen hP hpd hnd F' N'
    refine h D h' tk k ys ?_ hnd F' N'
    refine pstr (pfilter (pOfGet (by rw [List.length_map]; exact hlen) fun j v hv => ?_)) hpd
    obtain ⟨k, xv, hxv, hk⟩ := hP j v hv
    obtain ⟨t, rfl⟩ := Value.isStrOf_shape hk
    exact ⟨k, by rw [List.getElem?_map, hxv]; rfl, t, rfl⟩
end
end
section
open PySem PySem.W PySem.Calls PyProof.Rows
section
variable {prog : Program} {w : World} {A : Around} {E : Value → Shared → Prop} {s : Shared} {env : Env} {g : Heap} {L : Addr} {m : Str → Option Value} {news : List (Addr × Obj)} {Q : Value → Shared → Prop}
  {elt : PySem.Expr} {x : Str} {ifs : List PySem.Expr} {scope : Scope} {cl : List (Str × Addr)}

theorem compCoreA {y : Str} {Q : Flow → Shared → Prop} {I : Addr} {fp : List Addr} {n : Nat} {P : Nat → Value → Prop} {St : Nat → Heap → Prop} (p : Value → Bool) (Fn : Value → Value → Prop)
    (W : Walks prog w A I fp [I] n P St) (hn : n ≤ 1000000) (hst : St 0 s.heap) (hfp : ∀ b ∈ fp, b < s.heap.objs.size) (hgI : g.get? I = none)
    (F : Fr g env.locals s.heap m) (N : News g env.locals s.heap news) (hNI : ∀ q ∈ news, q.1 ≠ I) (hLI : env.locals ≠ I)
    (tests : ∀ C i v s₃ m₃ E', P i v → m₃ x = some v → Fr g C s₃.heap m₃ → News g C s₃.heap news →
      wpAny (model prog w) A (forIn ifs true fun c r => if r = true then do let ok ← isTrue c (compEnvC scope cl C env) (eval c (compEnvC scope cl C env)); pure (ForInStep.yield ok) else pure (ForInStep.yield r))
        (TestPost p s₃ v) E' s₃)
    (el : ∀ C i v s₃ m₃ E', P i v → p v = true → m₃ x = some v → Fr g C s₃.heap m₃ → News g C s₃.heap news →
      wpAny (model prog w) A (eval elt (compEnvC scope cl C env)) (ElPost Fn s₃ v) E' s₃)
    (h : ∀ D h' tk k ys (vs : List Value), vs.length = n → (∀ j v, vs[j]? = some v → P j v) → Paired Fn (vs.filter p) ys → (∀ q ∈ news, q.1 ≠ D) → Fr g env.locals h' (fun z => if z = y then some (.ref D) else m z) → News g env.locals h' ((D, listOf ys.toArray k) :: news) → Q .next { s with heap := h', toks := tk }) :
    ∃ I' fp' wr n' P' St' m', (.ref I : Value) = .ref I' ∧ Walks prog w A I' fp' wr n' P' St' ∧ n' ≤ sizeLine ∧ St' 0 s.heap ∧ (∀ b ∈ fp', b < s.heap.objs.size) ∧ env.locals ∉ wr ∧ s.heap.Ns env.locals m' ∧
      QuietOnC prog w A env scope cl x ifs elt wr P' p Fn s ∧
      (∀ D h' tk ys (vs : List Value), s.heap.get? D = none → h'.IsList D ys → h'.PlainList D ys → vs.length = n' → (∀ j v, vs[j]? = some v → P' j v) → Paired Fn (vs.filter p) ys.toList → h'.Ns env.locals (fun z => if z = y then some (.ref D) else m' z) →
        (∀ b o, b ≠ env.locals → b ∉ wr → s.heap.get? b = some o → h'.get? b = some o) → Q .next { s with heap := h', toks := tk }) := by
  have hLs : env.locals < s.heap.objs.size := F.ns.lt
  have old : ∀ b o, g.get? b = some o → b ∉ [I] := fun b o e hb => by
    rw [List.mem_singleton.mp hb, hgI] at e; cases e
  have frC : ∀ C (s₃ : Shared) m₃, s.heap.objs.size ≤ C → s₃.heap.Ns C m₃ → (∀ b o, b ∉ [I] → s.heap.get? b = some o → s₃.heap.get? b = some o) → Fr g C s₃.heap m₃ ∧ News g C s₃.heap news := by
    intro C s₃ m₃ hC hns hk
    refine ⟨⟨hns, fun b o e => hk b o (old b o e) (F.keep b o e), Nat.le_trans F.above (Nat.le_trans (Nat.le_of_lt hLs) hC)⟩, fun q hq => ⟨hk _ _ (fun hb => hNI q hq (List.mem_singleton.mp hb)) (N q hq).1, ?_, (N q hq).2.2⟩⟩
    exact Nat.ne_of_lt (Nat.lt_of_lt_of_le (Heap.lt_size (N q hq).1) hC)
  refine ⟨I, fp, [I], n, P, St, m, rfl, W, by rw [sizeLine_eq]; omega, hst, hfp, (fun hb => hLI (List.mem_singleton.mp hb)), F.ns, ⟨?_, ?_⟩, ?_⟩
  · intro C i v s₃ m₃ E' hC hP hns hx hk _
    obtain ⟨F3, N3⟩ := frC C s₃ m₃ hC hns hk
    exact tests C i v s₃ m₃ E' hP hx F3 N3
  · intro C i v s₃ m₃ E' hC hP hp hns hx hk _
    obtain ⟨F3, N3⟩ := frC C s₃ m₃ hC hns hk
    exact el C i v s₃ m₃ E' hP hp hx F3 N3
  · rintro D h' tk ys vs hD _ ⟨k, hpl⟩ hlen hP hpd hns hk
    have hgD : g.get? D = none := by
      cases e : g.get? D with
      | none => rfl
      | some o => have := F.keep D o e; rw [hD] at this; cases this
    have hDL : D ≠ env.locals := by
      rintro rfl
      obtain ⟨oL, _, _, hL, _⟩ := F.ns
      rw [hL] at hD; cases hD
    have hgL : ∀ b o, g.get? b = some o → b ≠ env.locals := fun b o e hb => by
      have := Heap.lt_size e
      rw [hb] at this
      exact absurd this (Nat.not_lt.mpr F.above)
    refine h D h' tk k ys.toList vs hlen hP hpd (fun q hq e => ?_) ⟨hns, fun b o e => hk b o (hgL b o e) (old b o e) (F.keep b o e), F.above⟩ ?_
    · have := (N q hq).1; rw [e, hD] at this; cases this
    · intro q hq
      rcases List.mem_cons.mp hq with rfl | hq
      · exact ⟨hpl, hDL, hgD⟩
      · exact ⟨hk _ _ (N q hq).2.1 (fun hb => hNI q hq (List.mem_singleton.mp hb)) (N q hq).1, (N q hq).2⟩

/-- a comprehension over a list of the frame's ledger or ground, its elements texts or ints -/
theorem compListA {y : Str} {py spos : Pos} {Q : Flow → Shared → Prop} {iter : PySem.Expr} {px pos : Pos} {l : Addr} {vs : List Value} (p : Value → Bool) (Fn : Value → Value → Prop)
    (hh : A.handled = none) (F : Fr g env.locals s.heap m) (N : News g env.locals s.heap news) (hl : s.heap.IsList l vs.toArray) (hn : vs.length ≤ 1000000) 
    (hclos : closureFor scope env = pure cl) (hcell : ∀ y ∈ scope.names, y.2 ≠ .cell) (hkind : scope.kind = .function)
    (hnames : ∀ y ∈ scope.names, y.2 = .local → scope.names.lookup y.1 = some .local) (hx : scope.names.lookup x = some .local) (hsw : swapsWith (.ListComp elt [⟨.Name x px, iter, ifs, 0⟩] scope pos) (some (.Name y py)) spos.line env = pure true) (hy : env.kindOf y = some .local) (hpk : (env.scope.kind == .class || (env.scope.kind == .module && env.locals != env.globals)) = false)
    (hiter : ∀ Q' : Value → Shared → Prop, (∀ tk, Q' (.ref l) { s with toks := tk }) → wpAny (model prog w) A (eval iter env) Q' E s)
    (tests : ∀ C v s₃ m₃ E', v ∈ vs → m₃ x = some v → Fr g C s₃.heap m₃ → News g C s₃.heap news →
      wpAny (model prog w) A (forIn ifs true fun c r => if r = true then do let ok ← isTrue c (compEnvC scope cl C env) (eval c (compEnvC scope cl C env)); pure (ForInStep.yield ok) else pure (ForInStep.yield r))
        (TestPost p s₃ v) E' s₃)
    (el : ∀ C v s₃ m₃ E', v ∈ vs → p v = true → m₃ x = some v → Fr g C s₃.heap m₃ → News g C s₃.heap news →
      wpAny (model prog w) A (eval elt (compEnvC scope cl C env)) (ElPost Fn s₃ v) E' s₃)
    (h : ∀ D h' tk k ys, Paired Fn (vs.filter p) ys → (∀ q ∈ news, q.1 ≠ D) → Fr g env.locals h' (fun z => if z = y then some (.ref D) else m z) → News g env.locals h' ((D, listOf ys.toArray k) :: news) → Q .next { s with heap := h', toks := tk })
    (hs : ∀ x, foldedSetIterable iter env x = pure x := by intro _; rfl) :
    wpAny (model prog w) A (exec (.Assign [.Name y py] (.ListComp elt [⟨.Name x px, iter, ifs, 0⟩] scope pos) spos) env) Q E s := by
  refine wpAny_Assign_ListComp_free p Fn hsw hclos hcell hkind hnames hx hy hpk (hiter _ fun tk => wpAny_pyIter_list hl ?_) hs
  obtain ⟨ol, hol, _⟩ := id hl
  have hlt : l < s.heap.objs.size := Heap.lt_size hol
  have hLs : env.locals < s.heap.objs.size := F.ns.lt
  have hne : l ≠ s.heap.objs.size := Nat.ne_of_lt hlt
  have W := Walks.list (prog := prog) (w := w) hh s.heap.objs.size l hne vs.toArray
  rw [List.size_toArray] at W
  refine compCoreA (y := y) (s := { s with toks := tk, heap := s.heap.push { cls := .type "list_iterator", data := .fields #[.ref l, .int 0 0] } }) p Fn W hn ⟨⟨_, Heap.get?_push_size _ rfl, rfl, rfl⟩, hl.at fun o e => Heap.get?_push_of_some _ e⟩ ?_ (next_is_new F) (F.push _) (fun q hq => ⟨Heap.get?_push_of_some _ (N q hq).1, (N q hq).2⟩) (fun q hq => Nat.ne_of_lt (Heap.lt_size (N q hq).1)) (Nat.ne_of_lt hLs) ?_ ?_ ?_
  · intro b hb
    rw [show (s.heap.push { cls := .type "list_iterator", data := .fields #[.ref l, .int 0 0] }).objs.size = s.heap.objs.size + 1 from Heap.size_push ..]
    rcases List.mem_cons.mp hb with rfl | hb
    · exact Nat.lt_succ_self _
    · rw [List.mem_singleton.mp hb]; exact Nat.lt_succ_of_lt hlt
  · intro C i v s₃ m₃ E' hP hx F3 N3
    have hP' : vs[i]? = some v := by simpa using hP
    exact tests C v s₃ m₃ E' (List.mem_of_getElem? hP') hx F3 N3
  · intro C i v s₃ m₃ E' hP hp hx F3 N3
    have hP' : vs[i]? = some v := by simpa using hP
    exact el C v s₃ m₃ E' (List.mem_of_getElem? hP') hp hx F3 N3
  · intro D h' tk k ys vs' hlen hP hpd hnd F' N'
    have hv : vs' = vs := by
      apply List.ext_getElem? 
      intro j
      cases hj : vs'[j]? with
      | some v => have := hP j v hj; simpa using this.symm
      | none =>
        have : vs.length ≤ j := by have h9 := List.getElem?_eq_none_iff.mp hj; have h8 : vs'.length = vs.length := hlen; omega
        exact (List.getElem?_eq_none this).symm
    subst hv
    exact h D h' tk k ys hpd hnd F' N'

end
end
section
open PySem PySem.W PySem.Calls PyProof.Rows
structure PS where
  res : List Str
  part : Str
  esc : Bool
  quo : Bool
def sg (c : Nat) : Str := ⟨#[c]⟩
def psStep (p : PS) (c : Nat) : PS :=
  if p.esc then { p with part := p.part ++ ⟨#[c]⟩, esc := false }
  else if p.quo then
    if (⟨#[c]⟩ : Str) == Str.ofString "\\" then { p with esc := true }
    else if (⟨#[c]⟩ : Str) == Str.ofString "\"" then { p with part := p.part ++ ⟨#[c]⟩, quo := false }
    else { p with part := p.part ++ ⟨#[c]⟩ }
  else if (⟨#[c]⟩ : Str) == Str.ofString "," then { p with res := p.res ++ [p.part], part := Str.ofString "" }
  else if (⟨#[c]⟩ : Str) == Str.ofString "\"" then { p with part := p.part ++ ⟨#[c]⟩, quo := true }
  else { p with part := p.part ++ ⟨#[c]⟩ }
def phlFin (x : Str) : PS := x.cps.toList.foldl psStep ⟨[], Str.ofString "", false, false⟩
def phlAll (x : Str) : List Str := if (phlFin x).part.length = 0 then (phlFin x).res else (phlFin x).res ++ [(phlFin x).part]
def phl (x : Str) : List Str := (phlAll x).map Txt.strip
def phlJ (I : Addr) (fin : PS) (xs : List Itm) (m : Str → Option Value) (news : List (Addr × Obj)) : Prop :=
  ∃ (p : PS) (cs : List Nat) (vs : List Value) (k : Nat) (d : Addr), xs = cs.map (fun c => .tok fun t => .str ⟨#[c]⟩ t) ∧ cs.foldl psStep p = fin ∧
    news = [(d, listOf vs.toArray k)] ∧ @Ne Nat d I ∧ Paired IsS vs p.res ∧ (∀ r ∈ p.res, r.length ≤ 100000) ∧ p.part.length + cs.length ≤ 100000 ∧ p.res.length + cs.length ≤ 100000 ∧
    m "res" = some (.ref d) ∧ (∃ t, m "part" = some (.str p.part t)) ∧ m "escape" = some (.bool p.esc) ∧ m "quote" = some (.bool p.quo)
theorem phl_t (w : World) (x : Str) (xt : Tok) (hx : x.length ≤ 100000) :
    Spec w 83 [.str x xt] (fun _ => True) (fun h r => ListAt IsS h r (phl x)) := by
  intro dp un fr gd s Q E
  w_top off
  k_fill
  intro X T hd hu _ ret
  (refine' enterP (args := ⟨_, []⟩) ?k1 ?k2 ?k3 ?k4 ?k5 ?k6 ?k7 ?k8 ?_ ?c2 ?c3 ?c4 ?c5; (case k1 => assumption); (case k2 => assumption); (case k3 => (simp only [recursionLimit] at *; omega)); (case k4 => k_is); (case k5 => k_is); (case k6 => exact BindsTo.of_eq rfl); (case c5 => decide); (case k7 => exact locs rfl); (case c2 => exact rfl); (case c3 => exact rfl); (case c4 => exact rfl))
  case k8 => with_unfolding_all exact look1 "s" (.str x xt)
  intro g L h1 mean mg mb hg F1 N1 X1 T1
  clear X T
  (repeat' (first | (k_unfold; (try dsimp only)) | (((fail_if_success (with_reducible show wpAny _ _ (exec (Stmt.For _ _ _ _ _) _) _ _ _));(fail_if_success (with_reducible show wpAny _ _ (exec (Stmt.While _ _ _ _) _) _ _ _));(fail_if_success (with_reducible show wpAny _ _ (exec (Stmt.Assign _ (PySem.Expr.ListComp _ _ _ _) _) _) _ _ _));(fail_if_success (with_reducible show wpAny _ _ (eval (PySem.Expr.ListComp _ _ _ _) _) _ _ _));(fail_if_success (with_reducible show UnrEndW _ _ _ _ _ _))); (first | walk1 | (dsimp only; walk1) | (leave1; try dsimp only)))))
  rename Fr _ _ _ _ => F1
  rename News _ _ _ _ => N1
  refine For_turns F1 ?_
  (repeat' (first | (k_unfold; (try dsimp only)) | (((fail_if_success (with_reducible show wpAny _ _ (exec (Stmt.For _ _ _ _ _) _) _ _ _));(fail_if_success (with_reducible show wpAny _ _ (exec (Stmt.While _ _ _ _) _) _ _ _));(fail_if_success (with_reducible show wpAny _ _ (exec (Stmt.Assign _ (PySem.Expr.ListComp _ _ _ _) _) _) _ _ _));(fail_if_success (with_reducible show wpAny _ _ (eval (PySem.Expr.ListComp _ _ _ _) _) _ _ _));(fail_if_success (with_reducible show UnrEndW _ _ _ _ _ _))); (first | walk1 | (dsimp only; walk1) | (leave1; try dsimp only)))))
  refine iterStr rfl F1 N1 ?_
  intro I hI c hc
  refine' itemsInd (phlJ I (phlFin x)) ?done ?step _ _ _ ?init
  case init =>
    refine ⟨⟨[], "", false, false⟩, _, _, _, _, rfl, rfl, rfl, ?_, Paired.nil, (fun _ h => nomatch h), ?_, ?_, rfl, ⟨_, rfl⟩, rfl, rfl⟩
    · exact Nat.ne_of_lt (hI _ (.head _))
    · show 0 + x.cps.toList.length ≤ 100000
      rw [Array.length_toList, Nat.zero_add]; exact hx
    · show 0 + x.cps.toList.length ≤ 100000
      rw [Array.length_toList, Nat.zero_add]; exact hx
  case done =>
    clear F1 N1
    intro m1 news1 h tk hJ1 F1 N1
    refine Classical.byContradiction fun hno2 => ?_
    obtain ⟨p, cs1, vs1, k1, d, hxs, hfin, rfl, hdI, hsv, hrl, hl1, hl2, m1a, ⟨t1, m1b⟩, m1c, m1d⟩ := hJ1
    obtain rfl : cs1 = [] := by
      cases cs1 with
      | nil => rfl
      | cons c1 cs2 => simp at hxs
    replace hfin : p = phlFin x := hfin
    subst hfin
    simp only [List.length_nil, Nat.add_zero] at hl1 hl2
    have hl3 := hsv.length
    replace F1 := fr_ats [("res", _), ("part", _), ("escape", _), ("quote", _)] F1 (allc m1a (allc m1b (allc m1c (all1 m1d))))
    simp only [kstB] at F1
    refine hno2 ?_
    (repeat' (first | (k_unfold; (try dsimp only)) | (((fail_if_success (with_reducible show wpAny _ _ (exec (Stmt.For _ _ _ _ _) _) _ _ _));(fail_if_success (with_reducible show wpAny _ _ (exec (Stmt.While _ _ _ _) _) _ _ _));(fail_if_success (with_reducible show wpAny _ _ (exec (Stmt.Assign _ (PySem.Expr.ListComp _ _ _ _) _) _) _ _ _));(fail_if_success (with_reducible show wpAny _ _ (eval (PySem.Expr.ListComp _ _ _ _) _) _ _ _));(fail_if_success (with_reducible show UnrEndW _ _ _ _ _ _))); (first | walk1 | (dsimp only; walk1) | (leave1; try dsimp only)))))
    · rename (_ ≠ _) => hne
      rename Fr _ _ _ _ => F3
      rename News _ _ _ _ => N3
      refine' compList0 (vs := vs1 ++ [.str (phlFin x).part t1]) (fun v y => ∃ x t, v = .str x t ∧ ∃ t', y = .str (Txt.strip x) t') rfl F3 N3 (by rw [← List.push_toArray]; exact isL N3 (.head _)) ?_ rfl ?_ rfl ?_ rfl ?_ ?_ ?_
      · simp only [List.length_append, List.length_cons, List.length_nil]; omega
      · decide
      · decide
      · intro Q' h; (repeat' (first | (k_unfold; (try dsimp only)) | (((fail_if_success (with_reducible show wpAny _ _ (exec (Stmt.For _ _ _ _ _) _) _ _ _));(fail_if_success (with_reducible show wpAny _ _ (exec (Stmt.While _ _ _ _) _) _ _ _));(fail_if_success (with_reducible show wpAny _ _ (exec (Stmt.Assign _ (PySem.Expr.ListComp _ _ _ _) _) _) _ _ _));(fail_if_success (with_reducible show wpAny _ _ (eval (PySem.Expr.ListComp _ _ _ _) _) _ _ _));(fail_if_success (with_reducible show UnrEndW _ _ _ _ _ _))); (first | walk1 | (dsimp only; walk1) | (leave1; try dsimp only))))); assumption
      · intro C v s₃ m₃ E' hv hx F4 N4
        refine Classical.byContradiction fun hno3 => ?_
        obtain ⟨x1, hx1, u1, rfl⟩ := pmem (hsv.snoc (b := (phlFin x).part) ⟨t1, rfl⟩) hv
        replace F4 := fr_ats [("part", _)] F4 (all1 hx)
        simp only [kstB] at F4
        have hle : x1.length ≤ 100000 := by
          rcases List.mem_append.mp hx1 with h | h
          · exact hrl _ h
          · rw [List.mem_singleton.mp h]; omega
        refine hno3 ?_
        (repeat' (first | (k_unfold; (try dsimp only)) | (((fail_if_success (with_reducible show wpAny _ _ (exec (Stmt.For _ _ _ _ _) _) _ _ _));(fail_if_success (with_reducible show wpAny _ _ (exec (Stmt.While _ _ _ _) _) _ _ _));(fail_if_success (with_reducible show wpAny _ _ (exec (Stmt.Assign _ (PySem.Expr.ListComp _ _ _ _) _) _) _ _ _));(fail_if_success (with_reducible show wpAny _ _ (eval (PySem.Expr.ListComp _ _ _ _) _) _ _ _));(fail_if_success (with_reducible show UnrEndW _ _ _ _ _ _))); (first | walk1 | (dsimp only; walk1) | (leave1; try dsimp only)))))
        all_goals (try k_data)
        exact .of ⟨x1, u1, rfl, _, rfl⟩ fun _ _ e => e
      · intro D h' tk k ys hpd hnd F4 N4
        dsimp only
        refine ret _ _ _ (hg ▸ F4.keep) ⟨D, ys, k, rfl, (N4 _ (.head _)).1, ?_⟩
        have e : phlAll x = (phlFin x).res ++ [(phlFin x).part] := by
          unfold phlAll
          rw [if_neg (by omega)]
        rw [phl, e]
        refine pmap (hsv.snoc (b := (phlFin x).part) ⟨t1, rfl⟩) hpd ?_
        intro v x2 y hJ4 hJ5
        refine Classical.byContradiction fun hno6 => ?_
        obtain ⟨t2, rfl⟩ := hJ4
        obtain ⟨x3, t3, e3, t4, rfl⟩ := hJ5
        cases e3
        refine hno6 ?_
        exact ⟨t4, rfl⟩
    · rename (_ = (0 : Int)) => hne
      rename Fr _ _ _ _ => F3
      rename News _ _ _ _ => N3
      refine compList0 (fun v y => ∃ x t, v = .str x t ∧ ∃ t', y = .str (Txt.strip x) t') rfl F3 N3 (isL N3 (.head _)) ?_ rfl ?_ rfl ?_ rfl ?_ ?_ ?_
      · omega
      · decide
      · decide
      · intro Q' h; (repeat' (first | (k_unfold; (try dsimp only)) | (((fail_if_success (with_reducible show wpAny _ _ (exec (Stmt.For _ _ _ _ _) _) _ _ _));(fail_if_success (with_reducible show wpAny _ _ (exec (Stmt.While _ _ _ _) _) _ _ _));(fail_if_success (with_reducible show wpAny _ _ (exec (Stmt.Assign _ (PySem.Expr.ListComp _ _ _ _) _) _) _ _ _));(fail_if_success (with_reducible show wpAny _ _ (eval (PySem.Expr.ListComp _ _ _ _) _) _ _ _));(fail_if_success (with_reducible show UnrEndW _ _ _ _ _ _))); (first | walk1 | (dsimp only; walk1) | (leave1; try dsimp only))))); assumption
      · intro C v s₃ m₃ E' hv hx F4 N4
        refine Classical.byContradiction fun hno7 => ?_
        obtain ⟨x1, hx1, u1, rfl⟩ := pmem hsv hv
        replace F4 := fr_ats [("part", _)] F4 (all1 hx)
        simp only [kstB] at F4
        have hle : x1.length ≤ 100000 := hrl _ hx1
        refine hno7 ?_
        (repeat' (first | (k_unfold; (try dsimp only)) | (((fail_if_success (with_reducible show wpAny _ _ (exec (Stmt.For _ _ _ _ _) _) _ _ _));(fail_if_success (with_reducible show wpAny _ _ (exec (Stmt.While _ _ _ _) _) _ _ _));(fail_if_success (with_reducible show wpAny _ _ (exec (Stmt.Assign _ (PySem.Expr.ListComp _ _ _ _) _) _) _ _ _));(fail_if_success (with_reducible show wpAny _ _ (eval (PySem.Expr.ListComp _ _ _ _) _) _ _ _));(fail_if_success (with_reducible show UnrEndW _ _ _ _ _ _))); (first | walk1 | (dsimp only; walk1) | (leave1; try dsimp only)))))
        all_goals (try k_data)
        exact .of ⟨x1, u1, rfl, _, rfl⟩ fun _ _ e => e
      · intro D h' tk k ys hpd hnd F4 N4
        dsimp only
        refine ret _ _ _ (hg ▸ F4.keep) ⟨D, ys, k, rfl, (N4 _ (.head _)).1, ?_⟩
        have e : phlAll x = (phlFin x).res := by
          unfold phlAll
          rw [if_pos (by omega)]
        rw [phl, e]
        refine pmap hsv hpd ?_
        intro v x2 y hJ8 hJ9
        refine Classical.byContradiction fun hno10 => ?_
        obtain ⟨t2, rfl⟩ := hJ8
        obtain ⟨x3, t3, e3, t4, rfl⟩ := hJ9
        cases e3
        refine hno10 ?_
        exact ⟨t4, rfl⟩
  case step =>
    clear F1 hI
    intro _ r m1 news1 v h tk its hJ11 hv F2 hi N2
    refine Classical.byContradiction fun hno12 => ?_
    obtain ⟨p, cs1, vs1, k1, d, hxs, hfin, rfl, hdI, hsv, hrl, hl1, hl2, m1a, ⟨t1, m1b⟩, m1c, m1d⟩ := hJ11
    clear N1
    obtain ⟨c1, cs2, rfl⟩ : ∃ c1 cs2, cs1 = c1 :: cs2 := by
      cases cs1 with
      | nil => simp at hxs
      | cons c1 cs2 => exact ⟨c1, cs2, rfl⟩
    simp only [List.map_cons, List.cons.injEq] at hxs
    obtain ⟨rfl, rfl⟩ := hxs
    obtain ⟨t2, rfl⟩ := hv
    obtain ⟨io, rfl, hio⟩ := objs1 hi
    replace N2 : News _ _ _ [(I, io), (d, listOf vs1.toArray k1)] := N2
    replace F2 := fr_ats [("res", _), ("part", _), ("escape", _), ("quote", _)] F2 (allc m1a (allc m1b (allc m1c (all1 m1d))))
    simp only [kstB] at F2
    simp only [List.length_cons] at hl1 hl2
    have hl3 := hsv.length
    have hl4 : ∀ (a : Str) (c : Nat), (a ++ (⟨#[c]⟩ : Str)).length = a.length + 1 := fun a c => by
      show (a.cps ++ #[c]).size = a.cps.size + 1
      simp
    refine hno12 ?_
    (repeat' (first | (k_unfold; (try dsimp only)) | (((fail_if_success (with_reducible show wpAny _ _ (exec (Stmt.For _ _ _ _ _) _) _ _ _));(fail_if_success (with_reducible show wpAny _ _ (exec (Stmt.While _ _ _ _) _) _ _ _));(fail_if_success (with_reducible show wpAny _ _ (exec (Stmt.Assign _ (PySem.Expr.ListComp _ _ _ _) _) _) _ _ _));(fail_if_success (with_reducible show wpAny _ _ (eval (PySem.Expr.ListComp _ _ _ _) _) _ _ _));(fail_if_success (with_reducible show UnrEndW _ _ _ _ _ _))); (first | walk1 | (dsimp only; walk1) | (leave1; try dsimp only)))))
    all_goals (clear F2 N2 T1 X1; (rename Fr _ _ _ _ => F9); (rename News _ _ _ _ => N9))
    · rename (p.esc = _) => he
      have e : psStep p c1 = { p with part := p.part ++ ⟨#[c1]⟩, esc := false } := by simp only [psStep, he, if_true]
      refine turnEnd (keep := []) [(d, _)] F9 N9 (fun _ h => h) (all1 (all1 hdI)) trivial ⟨psStep p c1, cs2, vs1, k1, d, rfl, hfin, rfl, hdI, ?_⟩
      rw [e]
      exact ⟨hsv, hrl, by simp only [hl4]; omega, by dsimp only; omega, rfl, ⟨_, rfl⟩, rfl, rfl⟩
    · rename (p.esc = _) => he
      rename (p.quo = _) => hq
      rename ((_ == Str.ofString "\\") = _) => hb
      have e : psStep p c1 = { p with esc := true } := by simp only [psStep, he, hq, hb, if_true, Bool.false_eq_true, if_false]
      refine turnEnd (keep := []) [(d, _)] F9 N9 (fun _ h => h) (all1 (all1 hdI)) trivial ⟨psStep p c1, cs2, vs1, k1, d, rfl, hfin, rfl, hdI, ?_⟩
      rw [e]
      exact ⟨hsv, hrl, by dsimp only; omega, by dsimp only; omega, rfl, ⟨_, rfl⟩, rfl, rfl⟩
    · rename (p.esc = _) => he
      rename (p.quo = _) => hq
      rename ((_ == Str.ofString "\\") = _) => hb
      rename ((_ == Str.ofString "\"") = _) => hc
      have e : psStep p c1 = { p with part := p.part ++ ⟨#[c1]⟩, quo := false } := by simp only [psStep, he, hq, hb, hc, if_true, Bool.false_eq_true, if_false]
      refine turnEnd (keep := []) [(d, _)] F9 N9 (fun _ h => h) (all1 (all1 hdI)) trivial ⟨psStep p c1, cs2, vs1, k1, d, rfl, hfin, rfl, hdI, ?_⟩
      rw [e]
      exact ⟨hsv, hrl, by simp only [hl4]; omega, by dsimp only; omega, rfl, ⟨_, rfl⟩, rfl, rfl⟩
    · rename (p.esc = _) => he
      rename (p.quo = _) => hq
      rename ((_ == Str.ofString "\\") = _) => hb
      rename ((_ == Str.ofString "\"") = _) => hc
      have e : psStep p c1 = { p with part := p.part ++ ⟨#[c1]⟩ } := by simp only [psStep, he, hq, hb, hc, if_true, Bool.false_eq_true, if_false]
      refine turnEnd (keep := []) [(d, _)] F9 N9 (fun _ h => h) (all1 (all1 hdI)) trivial ⟨psStep p c1, cs2, vs1, k1, d, rfl, hfin, rfl, hdI, ?_⟩
      rw [e]
      refine ⟨hsv, hrl, by simp only [hl4]; omega, by dsimp only; omega, rfl, ⟨_, rfl⟩, ?_, ?_⟩
      · dsimp only; rw [he]; rfl
      · dsimp only; rw [hq]; rfl
    · rename (p.esc = _) => he
      rename (p.quo = _) => hq
      rename ((_ == Str.ofString ",") = _) => hb
      have e : psStep p c1 = { p with res := p.res ++ [p.part], part := Str.ofString "" } := by simp only [psStep, he, hq, hb, if_true, Bool.false_eq_true, if_false]
      refine turnEnd (keep := []) (its := [(I, io)]) [(d, listOf (vs1.toArray.push (.str p.part t1)) (k1 + 1))] F9 N9 (fun _ h => h) (all1 (all1 hdI)) trivial ?_
      refine ⟨psStep p c1, cs2, vs1 ++ [.str p.part t1], k1 + 1, d, rfl, hfin, ?_, hdI, ?_⟩
      · rw [← List.push_toArray]
      rw [e]
      refine ⟨hsv.snoc ⟨t1, rfl⟩, ?_, ?_, ?_, rfl, ⟨_, rfl⟩, ?_, ?_⟩
      · intro r hr
        rcases List.mem_append.mp hr with h | h
        · exact hrl _ h
        · rw [List.mem_singleton.mp h]; omega
      · show 0 + cs2.length ≤ 100000
        omega
      · simp only [List.length_append, List.length_cons, List.length_nil]; omega
      · dsimp only; rw [he]; rfl
      · dsimp only; rw [hq]; rfl
    · rename (p.esc = _) => he
      rename (p.quo = _) => hq
      rename ((_ == Str.ofString ",") = _) => hb
      rename ((_ == Str.ofString "\"") = _) => hc
      have e : psStep p c1 = { p with part := p.part ++ ⟨#[c1]⟩, quo := true } := by simp only [psStep, he, hq, hb, hc, if_true, Bool.false_eq_true, if_false]
      refine turnEnd (keep := []) [(d, _)] F9 N9 (fun _ h => h) (all1 (all1 hdI)) trivial ⟨psStep p c1, cs2, vs1, k1, d, rfl, hfin, rfl, hdI, ?_⟩
      rw [e]
      refine ⟨hsv, hrl, by simp only [hl4]; omega, by dsimp only; omega, rfl, ⟨_, rfl⟩, ?_, rfl⟩
      dsimp only; rw [he]; rfl
    · rename (p.esc = _) => he
      rename (p.quo = _) => hq
      rename ((_ == Str.ofString ",") = _) => hb
      rename ((_ == Str.ofString "\"") = _) => hc
      have e : psStep p c1 = { p with part := p.part ++ ⟨#[c1]⟩ } := by simp only [psStep, he, hq, hb, hc, if_true, Bool.false_eq_true, if_false]
      refine turnEnd (keep := []) [(d, _)] F9 N9 (fun _ h => h) (all1 (all1 hdI)) trivial ⟨psStep p c1, cs2, vs1, k1, d, rfl, hfin, rfl, hdI, ?_⟩
      rw [e]
      refine ⟨hsv, hrl, by simp only [hl4]; omega, by dsimp only; omega, rfl, ⟨_, rfl⟩, ?_, ?_⟩
      · dsimp only; rw [he]; rfl
      · dsimp only; rw [hq]; rfl
end
section
open PySem PySem.W PySem.Calls PyProof.Rows
/-- a part of the list: key, value -/
abbrev KV := Str × Str
def eqS : Str := Str.ofString "="
def quS : Str := Str.ofString "\""
def joinKV (p : KV) : Str := p.1 ++ eqS ++ p.2
def unq (v : Str) : Str := if Txt.item v 0 == quS && Txt.item v (-1) == quS then Txt.slice v (some 1) (some (-1)) else v
def keqv (l : List KV) : List (Str × Str) := l.foldl (fun d p => putA d p.1 (unq p.2)) []
def KVok (p : KV) : Prop := 61 ∉ p.1.cps.toList ∧ 0 < p.2.length ∧ p.1.length ≤ 100000 ∧ p.2.length ≤ 100000
theorem splitKV (p : KV) (h : 61 ∉ p.1.cps.toList) : Txt.splitMax (joinKV p) eqS 1 = [p.1, p.2] := splitKV' p.1 p.2 h
theorem kvlen (p : KV) (h : p.1.length ≤ 100000) (h2 : p.2.length ≤ 100000) : (joinKV p).length + 2 ≤ sizeLine := by
  have : (joinKV p).length = p.1.length + 1 + p.2.length := by
    unfold joinKV
    rw [Str.length_append, Str.length_append]; rfl
  rw [sizeLine_eq]; omega
theorem strVals2 {l : List (Str × Tok)} {a b : Str} (h : l.map (·.1) = [a, b]) : ∃ t u, l = [(a, t), (b, u)] := by
  match l, h with
  | [(x, t), (y, u)], h => 
    simp only [List.map_cons, List.map_nil, List.cons.injEq, and_true] at h
    exact ⟨t, u, by rw [h.1, h.2]⟩
theorem pmapR {α β γ : Type} {f : β → γ} {R : α → γ → Prop} : ∀ {l : List α} {r : List β}, Paired R l (r.map f) → Paired (fun a b => R a (f b)) l r
  | _, [], h => by cases h; exact .nil
  | _, _ :: _, h => by cases h with | cons h k => exact .cons h (pmapR k)
def keqJ (w : World) (I : Addr) (fin : List (Str × Str)) (xs : List Itm) (m : Str → Option Value) (news : List (Addr × Obj)) : Prop :=
  ∃ (kvs : List KV) (us : List Value) (dd : List (Str × Str)) (vs : List (Str × Value)) (d : Addr) (o : Obj), xs = us.map .val ∧ Paired (fun v p => IsS v (joinKV p)) us kvs ∧ (∀ p ∈ kvs, KVok p) ∧
    kvs.foldl (fun d p => putA d p.1 (unq p.2)) dd = fin ∧ news = [(d, o)] ∧ @Ne Nat d I ∧ (d == sysModules) = false ∧ o.IsDictOf (PySem.strKind PySem.Challenge.rw_rl0160_01.prog w) vs ∧ Paired (PairR IsS) vs dd ∧ dd.length + kvs.length ≤ 1000 ∧ m "parsed" = some (.ref d)
theorem keqv_t (w : World) (l : Value) (kvs : List KV) (hok : ∀ p ∈ kvs, KVok p) (hn : kvs.length ≤ 1000) :
    SpecF w 78 [l] (fun g => ListAt IsS g l (kvs.map joinKV)) (fun h r => DictAtR w IsS h r (keqv kvs)) := by
  intro dp un fr gd s Q E
  w_top off
  k_fill
  intro X T hd hu hl ret
  refine Classical.byContradiction fun hno1 => ?_
  obtain ⟨la, us, lk, rfl, hla, hus⟩ := hl
  refine hno1 ?_
  (refine' enterP (args := ⟨_, []⟩) ?k1 ?k2 ?k3 ?k4 ?k5 ?k6 ?k7 ?k8 ?_ ?c2 ?c3 ?c4 ?c5; (case k1 => assumption); (case k2 => assumption); (case k3 => (simp only [recursionLimit] at *; omega)); (case k4 => k_is); (case k5 => k_is); (case k6 => exact BindsTo.of_eq rfl); (case c5 => decide); (case k7 => exact locs rfl); (case c2 => exact rfl); (case c3 => exact rfl); (case c4 => exact rfl))
  case k8 => with_unfolding_all exact look1 "l" _
  intro g L h1 mean mg mb hg F1 N1 X1 T1
  clear X T
  subst hg
  (repeat' (first | (k_unfold; (try dsimp only)) | (((fail_if_success (with_reducible show wpAny _ _ (exec (Stmt.For _ _ _ _ _) _) _ _ _));(fail_if_success (with_reducible show wpAny _ _ (exec (Stmt.While _ _ _ _) _) _ _ _));(fail_if_success (with_reducible show wpAny _ _ (exec (Stmt.Assign _ (PySem.Expr.ListComp _ _ _ _) _) _) _ _ _));(fail_if_success (with_reducible show wpAny _ _ (eval (PySem.Expr.ListComp _ _ _ _) _) _ _ _));(fail_if_success (with_reducible show UnrEndW _ _ _ _ _ _))); (first | walk1 | (dsimp only; walk1) | (leave1; try dsimp only)))))
  rename Fr _ _ _ _ => F1
  rename News _ _ _ _ => N1
  refine For_turns F1 ?_
  (repeat' (first | (k_unfold; (try dsimp only)) | (((fail_if_success (with_reducible show wpAny _ _ (exec (Stmt.For _ _ _ _ _) _) _ _ _));(fail_if_success (with_reducible show wpAny _ _ (exec (Stmt.While _ _ _ _) _) _ _ _));(fail_if_success (with_reducible show wpAny _ _ (exec (Stmt.Assign _ (PySem.Expr.ListComp _ _ _ _) _) _) _ _ _));(fail_if_success (with_reducible show wpAny _ _ (eval (PySem.Expr.ListComp _ _ _ _) _) _ _ _));(fail_if_success (with_reducible show UnrEndW _ _ _ _ _ _))); (first | walk1 | (dsimp only; walk1) | (leave1; try dsimp only)))))
  refine iterListG rfl F1 N1 ⟨_, hla, rfl, lk, rfl⟩ ?_
  intro I hI
  refine' itemsInd (keqJ w I (keqv kvs)) ?done ?step _ _ _ ?init
  case init =>
    refine ⟨kvs, us, [], [], _, _, rfl, ?_, hok, rfl, rfl, ?_, ?_, ?_, Paired.nil, ?_, rfl⟩
    · exact pmapR hus
    · exact Nat.ne_of_lt (hI _ (.head _))
    · assumption
    · assumption
    · simpa using hn
  case done =>
    clear F1 N1
    intro m1 news1 h tk hJ2 F1 N1
    refine Classical.byContradiction fun hno3 => ?_
    obtain ⟨kvs1, us1, dd, vs, d, o, hxs, hus1, hok1, hfin, rfl, hdI, hsys, hdo, hpd, hlen, hm1⟩ := hJ2
    obtain rfl : kvs1 = [] := by
      cases hus1 with
      | nil => rfl
      | cons _ _ => simp at hxs
    obtain rfl : dd = keqv kvs := hfin
    replace F1 := fr_at F1 hm1
    refine hno3 ?_
    (repeat' (first | (k_unfold; (try dsimp only)) | (((fail_if_success (with_reducible show wpAny _ _ (exec (Stmt.For _ _ _ _ _) _) _ _ _));(fail_if_success (with_reducible show wpAny _ _ (exec (Stmt.While _ _ _ _) _) _ _ _));(fail_if_success (with_reducible show wpAny _ _ (exec (Stmt.Assign _ (PySem.Expr.ListComp _ _ _ _) _) _) _ _ _));(fail_if_success (with_reducible show wpAny _ _ (eval (PySem.Expr.ListComp _ _ _ _) _) _ _ _));(fail_if_success (with_reducible show UnrEndW _ _ _ _ _ _))); (first | walk1 | (dsimp only; walk1) | (leave1; try dsimp only)))))
    dsimp only
    exact ret _ _ _ F1.keep (freshOf N1 (.head _)) ⟨d, o, vs, rfl, hsys, (N1 _ (.head _)).1, hdo, hpd⟩
  case step =>
    clear F1 hI
    intro _ r m1 news1 v h tk its hJ4 hv F2 hi N2
    refine Classical.byContradiction fun hno5 => ?_
    obtain ⟨kvs1, us1, dd, vs, d, o, hxs, hus1, hok1, hfin, rfl, hdI, hsys, hdo, hpd, hlen, hm1⟩ := hJ4
    clear N1
    cases hus1 with
    | nil => simp at hxs
    | @cons v1 p1 us2 kvs2 hv1 hus2 =>
    simp only [List.map_cons, List.cons.injEq] at hxs
    obtain ⟨rfl, rfl⟩ := hxs
    obtain rfl : v = v1 := hv
    obtain ⟨t1, rfl⟩ := hv1
    obtain ⟨io, rfl, hio⟩ := objs1 hi
    replace N2 : News _ _ _ [(I, io), (d, o)] := N2
    replace F2 := fr_at F2 hm1
    obtain ⟨hk61, hv0, hkl, hvl⟩ := hok1 p1 (.head _)
    refine hno5 ?_
    (repeat' (first | (k_unfold; (try dsimp only)) | (((fail_if_success (with_reducible show wpAny _ _ (exec (Stmt.For _ _ _ _ _) _) _ _ _));(fail_if_success (with_reducible show wpAny _ _ (exec (Stmt.While _ _ _ _) _) _ _ _));(fail_if_success (with_reducible show wpAny _ _ (exec (Stmt.Assign _ (PySem.Expr.ListComp _ _ _ _) _) _) _ _ _));(fail_if_success (with_reducible show wpAny _ _ (eval (PySem.Expr.ListComp _ _ _ _) _) _ _ _));(fail_if_success (with_reducible show UnrEndW _ _ _ _ _ _))); (first | walk1 | (dsimp only; walk1) | (leave1; try dsimp only)))))
    rename Fr _ _ _ _ => F3
    rename News _ _ _ _ => N3
    refine splitN2A F3 N3 (by decide) (by decide) ?_ (kvlen p1 hkl hvl)
    intro l h3 tk3 hl3 _ _ _ F4 N4
    rw [show Txt.splitMax (joinKV p1) (Str.ofString "=") 1 = [p1.1, p1.2] from splitKV p1 hk61] at hl3
    refine Classical.byContradiction fun hno6 => ?_
    obtain ⟨ta, tb, rfl⟩ := strVals2 hl3
    clear F2 N2 F3 N3
    have hlen2 := hpd.length
    refine hno6 ?_
    (repeat' (first | (k_unfold; (try dsimp only)) | (((fail_if_success (with_reducible show wpAny _ _ (exec (Stmt.For _ _ _ _ _) _) _ _ _));(fail_if_success (with_reducible show wpAny _ _ (exec (Stmt.While _ _ _ _) _) _ _ _));(fail_if_success (with_reducible show wpAny _ _ (exec (Stmt.Assign _ (PySem.Expr.ListComp _ _ _ _) _) _) _ _ _));(fail_if_success (with_reducible show wpAny _ _ (eval (PySem.Expr.ListComp _ _ _ _) _) _ _ _));(fail_if_success (with_reducible show UnrEndW _ _ _ _ _ _))); (first | walk1 | (dsimp only; walk1) | (leave1; try dsimp only)))))
    all_goals (
      (rename Fr _ _ _ _ => F5)
      (rename News _ _ _ _ => N5)
      replace N5 : News _ _ _ [(I, io), (d, o)] := newsSub N5 (fun q hq => List.mem_cons_of_mem _ hq)
      dsimp only
      refine kda_set F5 N5 (.tail (fun e => hdI e.symm) (.head (fun _ h => nomatch h))) hdo (PySem.strKind_is _ _ _ _) ?_ ?_
      · simp only [List.length_cons] at hlen; rw [sizeLine_eq]; omega
      intro h6 o6 F6 N6 hdo6
      clear F5 N5
      (repeat' (first | (k_unfold; (try dsimp only)) | (((fail_if_success (with_reducible show wpAny _ _ (exec (Stmt.For _ _ _ _ _) _) _ _ _));(fail_if_success (with_reducible show wpAny _ _ (exec (Stmt.While _ _ _ _) _) _ _ _));(fail_if_success (with_reducible show wpAny _ _ (exec (Stmt.Assign _ (PySem.Expr.ListComp _ _ _ _) _) _) _ _ _));(fail_if_success (with_reducible show wpAny _ _ (eval (PySem.Expr.ListComp _ _ _ _) _) _ _ _));(fail_if_success (with_reducible show UnrEndW _ _ _ _ _ _))); (first | walk1 | (dsimp only; walk1) | (leave1; try dsimp only)))))
      refine turnEnd (keep := []) (its := [(I, io)]) [(d, o6)] F6 N6 (fun _ h => h) (all1 (all1 hdI)) trivial ?_)
    all_goals (refine ⟨kvs2, us2, _, _, d, o6, rfl, hus2, fun q hq => hok1 q (.tail _ hq), hfin, rfl, hdI, hsys, hdo6, ?_, ?_, rfl⟩)
    · rename ((Txt.item _ 0 == Str.ofString "\"") = _) => ha
      rename ((Txt.item _ (-1) == Str.ofString "\"") = _) => hb
      have e : unq p1.2 = Txt.slice p1.2 (some 1) (some (-1)) := by
        unfold unq quS
        rw [show (Txt.item p1.2 0 == Str.ofString "\"") = true from ha, show (Txt.item p1.2 (-1) == Str.ofString "\"") = true from hb]; rfl
      show Paired (PairR IsS) _ (putA dd p1.1 (unq p1.2))
      rw [e]
      exact stored_put hpd _ ⟨_, rfl⟩
    · show (putA dd p1.1 (unq p1.2)).length + kvs2.length ≤ 1000
      have := putA_length dd p1.1 (unq p1.2)
      simp only [List.length_cons] at hlen; omega
    · rename ((Txt.item _ 0 == Str.ofString "\"") = _) => ha
      rename ((Txt.item _ (-1) == Str.ofString "\"") = _) => hb
      have e : unq p1.2 = p1.2 := by
        unfold unq quS
        rw [show (Txt.item p1.2 0 == Str.ofString "\"") = true from ha, show (Txt.item p1.2 (-1) == Str.ofString "\"") = false from hb]; rfl
      show Paired (PairR IsS) _ (putA dd p1.1 (unq p1.2))
      rw [e]
      exact stored_put hpd _ ⟨_, rfl⟩
    · show (putA dd p1.1 (unq p1.2)).length + kvs2.length ≤ 1000
      have := putA_length dd p1.1 (unq p1.2)
      simp only [List.length_cons] at hlen; omega
    · rename ((Txt.item _ 0 == Str.ofString "\"") = _) => ha
      have e : unq p1.2 = p1.2 := by
        unfold unq quS
        rw [show (Txt.item p1.2 0 == Str.ofString "\"") = false from ha]; rfl
      show Paired (PairR IsS) _ (putA dd p1.1 (unq p1.2))
      rw [e]
      exact stored_put hpd _ ⟨_, rfl⟩
    · show (putA dd p1.1 (unq p1.2)).length + kvs2.length ≤ 1000
      have := putA_length dd p1.1 (unq p1.2)
      simp only [List.length_cons] at hlen; omega
end
section
open PySem PySem.W PySem.Calls PyProof.Rows
def isTup2 (P : Addr → Obj → Prop) (v : Value) (ab : Str × Str) : Prop := ∃ T ta tb k, v = .ref T ∧ P T { cls := .type "tuple", data := .seq [.str ab.1 ta, .str ab.2 tb].toArray k }
def slS : Str := Str.ofString "/"
def part (v : Str) : Str × Str := ((Txt.partition v slS).1, (Txt.partition v slS).2.1 ++ (Txt.partition v slS).2.2)
def placesF (kvs : List (Str × Str)) : List (Str × (Str × Str)) := kvs.foldl (fun d p => putA d p.1 (part p.2)) []
def plJ (w : World) (I la : Addr) (ws : List (Str × Value)) (fin : List (Str × (Str × Str))) (xs : List Itm) (m : Str → Option Value) (news : List (Addr × Obj)) : Prop :=
  ∃ (kvs : List (Str × Str)) (us : List (Str × Value)) (dd : List (Str × (Str × Str))) (vs : List (Str × Value)) (d : Addr) (o : Obj) (tl : List (Addr × Obj)), xs = us.map (fun p => Itm.tok fun t => .str p.1 t) ∧ (∀ p ∈ us, p ∈ ws) ∧ Paired (PairR IsS) us kvs ∧ (∀ p ∈ kvs, p.2.length ≤ 100000) ∧
    kvs.foldl (fun d p => putA d p.1 (part p.2)) dd = fin ∧ news = (d, o) :: tl ∧ (∀ q ∈ tl, q.1 ≠ d) ∧ @Ne Nat d I ∧ (∀ q ∈ tl, q.1 ≠ I) ∧ (d == sysModules) = false ∧ o.IsDictOf (PySem.strKind PySem.Challenge.rw_rl0160_01.prog w) vs ∧ Paired (PairR (isTup2 fun a o => (a, o) ∈ tl)) vs dd ∧ dd.length + kvs.length ≤ 1000 ∧ m "places" = some (.ref d) ∧ m "read" = some (.ref la)
theorem plEnd {w : World} {g h6 : Heap} {L I la d T : Addr} {m6 : Str → Option Value} {io o6 tp : Obj} {tl : List (Addr × Obj)} {s₁ : Shared} {tk : Nat} {ws us2 : List (Str × Value)} {kvs2 : List (Str × Str)} {fin : List (Str × (Str × Str))} {xs : List Itm}
    {dd : List (Str × (Str × Str))} {vs : List (Str × Value)} {p1 : Str × Str} {key : Str}
    (F6 : Fr g L h6 m6) (N6 : News g L h6 ((T, tp) :: (I, io) :: (d, o6) :: tl)) (hio : io.cls = .type "dict_keyiterator") (hxs : xs = us2.map (fun p => Itm.tok fun t => .str p.1 t)) (hmem : ∀ p ∈ us2, p ∈ ws) (hus2 : Paired (PairR IsS) us2 kvs2) (hok : ∀ p ∈ kvs2, p.2.length ≤ 100000)
    (hfin : kvs2.foldl (fun d p => putA d p.1 (part p.2)) (putA dd p1.1 (part p1.2)) = fin) (hdtl : ∀ q ∈ tl, q.1 ≠ d) (hdI : @Ne Nat d I) (htI : ∀ q ∈ tl, q.1 ≠ I) (hsys : (d == sysModules) = false)
    (hdo6 : o6.IsDictOf (PySem.strKind PySem.Challenge.rw_rl0160_01.prog w) (stored vs key (.ref T))) (hpd : Paired (PairR (isTup2 fun a o => (a, o) ∈ tl)) vs dd) (hlen : dd.length + (kvs2.length + 1) ≤ 1000)
    (htp : ∃ ta tb k, tp = { cls := .type "tuple", data := .seq [.str (part p1.2).1 ta, .str (part p1.2).2 tb].toArray k }) (hkey : p1.1 = key)
    (hm1 : m6 "places" = some (.ref d)) (hm2 : m6 "read" = some (.ref la)) :
    UnrEndW g L s₁ [(I, io)] (fun m' n' => SubL [] n' ∧ plJ w I la ws fin xs m' n') { s₁ with heap := h6, toks := tk } := by
  obtain ⟨ta, tb, k, htp⟩ := htp
  subst hkey
  have hTd : @Ne Nat T d := newsNe N6 (.head _) (.tail _ (.tail _ (.head _))) (by rw [dictCls hdo6, htp]; exact tyNe (by decide))
  have hTI : @Ne Nat T I := newsNe N6 (.head _) (.tail _ (.head _)) (by rw [hio, htp]; exact tyNe (by decide))
  refine turnEnd (keep := []) (its := [(I, io)]) ((d, o6) :: (T, tp) :: tl) F6 N6 ?_ (allc (all1 hdI) (allc (all1 hTI) (fun q hq => all1 (htI q hq)))) trivial ?_
  · intro q hq
    simp only [List.cons_append, List.nil_append, List.mem_cons] at hq ⊢
    rcases hq with h | h | h | h
    · exact .inr (.inl h)
    · exact .inr (.inr (.inl h))
    · exact .inl h
    · exact .inr (.inr (.inr h))
  · refine ⟨kvs2, us2, _, _, d, o6, _, hxs, hmem, hus2, hok, hfin, rfl, allc hTd hdtl, hdI, allc hTI htI, hsys, hdo6, ?_, ?_, hm1, hm2⟩
    · refine stored_put (pmono hpd ?_) _ ⟨T, ta, tb, k, rfl, htp ▸ .head _⟩
      rintro a b ⟨e, T, ta, tb, k, e2, hm⟩
      exact ⟨e, T, ta, tb, k, e2, .tail _ hm⟩
    · have := putA_length dd p1.1 (part p1.2)
      omega
theorem places_t (w : World) (l : Value) (kvs : List (Str × Str)) (hok : ∀ p ∈ kvs, p.2.length ≤ 100000) (hn : kvs.length ≤ 1000) :
    SpecF w 116 [l] (fun g => DictAtR w IsS g l kvs) (fun h r => DictAtR w (isTup2 fun a o => h.get? a = some o) h r (placesF kvs)) := by
  intro dp un fr gd s Q E
  w_top off
  k_fill
  intro X T hd hu hl ret
  refine Classical.byContradiction fun hno1 => ?_
  obtain ⟨la, lo, ws, rfl, hsys, hla, hlo, hus⟩ := hl
  have hD : s.heap.DictOf (PySem.strKind PySem.Challenge.rw_rl0160_01.prog w) la ws := Heap.dictOf_iff.mpr ⟨lo, hla, hlo⟩
  refine hno1 ?_
  (refine' enterP (args := ⟨_, []⟩) ?k1 ?k2 ?k3 ?k4 ?k5 ?k6 ?k7 ?k8 ?_ ?c2 ?c3 ?c4 ?c5; (case k1 => assumption); (case k2 => assumption); (case k3 => (simp only [recursionLimit] at *; omega)); (case k4 => k_is); (case k5 => k_is); (case k6 => exact BindsTo.of_eq rfl); (case c5 => decide); (case k7 => exact locs rfl); (case c2 => exact rfl); (case c3 => exact rfl); (case c4 => exact rfl))
  case k8 => with_unfolding_all exact look1 "read" _
  intro g L h1 mean mg mb hg F1 N1 X1 T1
  clear X T
  subst hg
  (repeat' (first | (k_unfold; (try dsimp only)) | (((fail_if_success (with_reducible show wpAny _ _ (exec (Stmt.For _ _ _ _ _) _) _ _ _));(fail_if_success (with_reducible show wpAny _ _ (exec (Stmt.While _ _ _ _) _) _ _ _));(fail_if_success (with_reducible show wpAny _ _ (exec (Stmt.Assign _ (PySem.Expr.ListComp _ _ _ _) _) _) _ _ _));(fail_if_success (with_reducible show wpAny _ _ (eval (PySem.Expr.ListComp _ _ _ _) _) _ _ _));(fail_if_success (with_reducible show UnrEndW _ _ _ _ _ _))); (first | walk1 | (dsimp only; walk1) | (leave1; try dsimp only)))))
  rename Fr _ _ _ _ => F1
  rename News _ _ _ _ => N1
  refine For_turns F1 ?_
  (repeat' (first | (k_unfold; (try dsimp only)) | (((fail_if_success (with_reducible show wpAny _ _ (exec (Stmt.For _ _ _ _ _) _) _ _ _));(fail_if_success (with_reducible show wpAny _ _ (exec (Stmt.While _ _ _ _) _) _ _ _));(fail_if_success (with_reducible show wpAny _ _ (exec (Stmt.Assign _ (PySem.Expr.ListComp _ _ _ _) _) _) _ _ _));(fail_if_success (with_reducible show wpAny _ _ (eval (PySem.Expr.ListComp _ _ _ _) _) _ _ _));(fail_if_success (with_reducible show UnrEndW _ _ _ _ _ _))); (first | walk1 | (dsimp only; walk1) | (leave1; try dsimp only)))))
  refine iterKeysG rfl F1 N1 hD hsys ?_
  intro I hI
  refine' itemsInd (plJ w I la ws (placesF kvs)) ?done ?step _ _ _ ?init
  case init =>
    refine ⟨kvs, ws, [], [], _, _, [], rfl, fun _ h => h, hus, hok, rfl, rfl, (fun _ h => nomatch h), ?_, (fun _ h => nomatch h), ?_, ?_, Paired.nil, ?_, rfl, rfl⟩
    · exact Nat.ne_of_lt (hI _ (.head _))
    · assumption
    · assumption
    · simpa using hn
  case done =>
    clear F1 N1
    intro m1 news1 h tk hJ2 F1 N1
    refine Classical.byContradiction fun hno3 => ?_
    obtain ⟨kvs1, us1, dd, vs, d, o, tl, hxs, hmem, hus1, hok1, hfin, rfl, hdtl, hdI, htI, hsys, hdo, hpd, hlen, hm1, hm2⟩ := hJ2
    obtain rfl : kvs1 = [] := by
      cases hus1 with
      | nil => rfl
      | cons _ _ => simp at hxs
    obtain rfl : dd = placesF kvs := hfin
    replace F1 := fr_at F1 hm1
    refine hno3 ?_
    (repeat' (first | (k_unfold; (try dsimp only)) | (((fail_if_success (with_reducible show wpAny _ _ (exec (Stmt.For _ _ _ _ _) _) _ _ _));(fail_if_success (with_reducible show wpAny _ _ (exec (Stmt.While _ _ _ _) _) _ _ _));(fail_if_success (with_reducible show wpAny _ _ (exec (Stmt.Assign _ (PySem.Expr.ListComp _ _ _ _) _) _) _ _ _));(fail_if_success (with_reducible show wpAny _ _ (eval (PySem.Expr.ListComp _ _ _ _) _) _ _ _));(fail_if_success (with_reducible show UnrEndW _ _ _ _ _ _))); (first | walk1 | (dsimp only; walk1) | (leave1; try dsimp only)))))
    dsimp only
    refine ret _ _ _ F1.keep (freshOf N1 (.head _)) ⟨d, o, vs, rfl, hsys, (N1 _ (.head _)).1, hdo, pmono hpd ?_⟩
    intro a b hJ4
    refine Classical.byContradiction fun hno5 => ?_
    obtain ⟨e, T, ta, tb, k, e2, hm⟩ := hJ4
    refine hno5 ?_
    exact ⟨e, T, ta, tb, k, e2, (N1 _ (.tail _ hm)).1⟩
  case step =>
    clear F1 hI
    intro _ r m1 news1 v h tk its hJ6 hv F2 hi N2
    refine Classical.byContradiction fun hno7 => ?_
    obtain ⟨kvs1, us1, dd, vs, d, o, tl, hxs, hmem, hus1, hok1, hfin, rfl, hdtl, hdI, htI, hsys, hdo, hpd, hlen, hm1, hm2⟩ := hJ6
    clear N1
    cases hus1 with
    | nil => simp at hxs
    | @cons v1 p1 us2 kvs2 hv1 hus2 =>
    simp only [List.map_cons, List.cons.injEq] at hxs
    obtain ⟨rfl, rfl⟩ := hxs
    obtain ⟨t1, rfl⟩ := hv
    obtain ⟨io, rfl, hio⟩ := objs1 hi
    replace N2 : News _ _ _ ((I, io) :: (d, o) :: tl) := N2
    replace F2 := fr_ats [("places", _), ("read", .ref la)] F2 (allc hm1 (all1 hm2))
    simp only [kstB] at F2
    have hpl := hok1 p1 (.head _)
    obtain ⟨hv1k, tv, hv1v⟩ := hv1
    refine hno7 ?_
    (repeat' (first | (k_unfold; (try dsimp only)) | (((fail_if_success (with_reducible show wpAny _ _ (exec (Stmt.For _ _ _ _ _) _) _ _ _));(fail_if_success (with_reducible show wpAny _ _ (exec (Stmt.While _ _ _ _) _) _ _ _));(fail_if_success (with_reducible show wpAny _ _ (exec (Stmt.Assign _ (PySem.Expr.ListComp _ _ _ _) _) _) _ _ _));(fail_if_success (with_reducible show wpAny _ _ (eval (PySem.Expr.ListComp _ _ _ _) _) _ _ _));(fail_if_success (with_reducible show UnrEndW _ _ _ _ _ _))); (first | walk1 | (dsimp only; walk1) | (leave1; try dsimp only)))))
    rename Fr _ _ _ _ => F3
    refine dictItem (hD.keep F3.keep) (valueAt_mem (Mine.Heap.DictOf.nodup' hD) (hmem _ (.head _))) ?_
    rw [hv1v]
    (repeat' (first | (k_unfold; (try dsimp only)) | (((fail_if_success (with_reducible show wpAny _ _ (exec (Stmt.For _ _ _ _ _) _) _ _ _));(fail_if_success (with_reducible show wpAny _ _ (exec (Stmt.While _ _ _ _) _) _ _ _));(fail_if_success (with_reducible show wpAny _ _ (exec (Stmt.Assign _ (PySem.Expr.ListComp _ _ _ _) _) _) _ _ _));(fail_if_success (with_reducible show wpAny _ _ (eval (PySem.Expr.ListComp _ _ _ _) _) _ _ _));(fail_if_success (with_reducible show UnrEndW _ _ _ _ _ _))); (first | walk1 | (dsimp only; walk1) | (leave1; try dsimp only)))))
    have hlen2 := hpd.length
    clear N2 F2
    rename Fr _ _ _ _ => F5
    rename News _ _ _ _ => N5
    have hTd := newsNe N5 (.head _) (.tail _ (.tail _ (.tail _ (.head _)))) (by rw [dictCls hdo]; exact tyNe (by decide))
    have hTI := newsNe N5 (.head _) (.tail _ (.tail _ (.head _))) (by rw [hio]; exact tyNe (by decide))
    replace N5 := newsSub (b := (_, _) :: (I, io) :: (d, o) :: tl) N5 (fun q hq => by
      rcases List.mem_cons.mp hq with rfl | hq
      · exact .head _
      · exact .tail _ (.tail _ hq))
    refine kda_set F5 N5 (.tail hTd (.tail (fun e => hdI e.symm) (.head hdtl))) hdo (PySem.strKind_is _ _ _ _) ?_ ?_
    · simp only [List.length_cons] at hlen; rw [sizeLine_eq]; omega
    intro h6 o6 F6 N6 hdo6
    clear F5 N5
    (repeat' (first | (k_unfold; (try dsimp only)) | (((fail_if_success (with_reducible show wpAny _ _ (exec (Stmt.For _ _ _ _ _) _) _ _ _));(fail_if_success (with_reducible show wpAny _ _ (exec (Stmt.While _ _ _ _) _) _ _ _));(fail_if_success (with_reducible show wpAny _ _ (exec (Stmt.Assign _ (PySem.Expr.ListComp _ _ _ _) _) _) _ _ _));(fail_if_success (with_reducible show wpAny _ _ (eval (PySem.Expr.ListComp _ _ _ _) _) _ _ _));(fail_if_success (with_reducible show UnrEndW _ _ _ _ _ _))); (first | walk1 | (dsimp only; walk1) | (leave1; try dsimp only)))))
    refine plEnd F6 N6 hio rfl (fun q hq => hmem q (.tail _ hq)) hus2 (fun q hq => hok1 q (.tail _ hq)) hfin hdtl hdI htI hsys hdo6 hpd ?_ ?_ hv1k.symm rfl rfl
    · simp only [List.length_cons] at hlen; omega
    · exact ⟨_, _, _, rfl⟩
end
section
open PySem PySem.W PySem.Calls PyProof.Rows
def ceJ (I : Addr) (xs : List Itm) (m : Str → Option Value) (news : List (Addr × Obj)) : Prop :=
  ∃ (n0 : Nat) (us : List Value) (vs : List Value) (cs : List Int) (d : Addr) (k : Nat), xs = enumItems n0 us ∧ n0 + us.length ≤ 63 ∧ (∀ v ∈ us, ∃ n, IsI v n) ∧ news = [(d, listOf vs.toArray k)] ∧ @Ne Nat d I ∧ @Ne Nat d (I + 1) ∧ Paired IsI vs cs ∧ cs.length = 17 ∧ m "cells" = some (.ref d)
theorem cells_t (w : World) (l : Value) (ns : List Int) (hn : ns.length ≤ 63) :
    Spec w 90 [l] (fun g => ∃ la us, l = .ref la ∧ g.IsList la us.toArray ∧ Paired IsI us ns) (fun h r => ∃ cs : List Int, cs.length = 17 ∧ ListAt IsI h r cs) := by
  intro dp un fr gd s Q E
  w_top off
  k_fill
  intro X T hd hu hl ret
  refine Classical.byContradiction fun hno1 => ?_
  obtain ⟨la, us, rfl, hla, hus⟩ := hl
  refine hno1 ?_
  (refine' enterP (args := ⟨_, []⟩) ?k1 ?k2 ?k3 ?k4 ?k5 ?k6 ?k7 ?k8 ?_ ?c2 ?c3 ?c4 ?c5; (case k1 => assumption); (case k2 => assumption); (case k3 => (simp only [recursionLimit] at *; omega)); (case k4 => k_is); (case k5 => k_is); (case k6 => exact BindsTo.of_eq rfl); (case c5 => decide); (case k7 => exact locs rfl); (case c2 => exact rfl); (case c3 => exact rfl); (case c4 => exact rfl))
  case k8 => with_unfolding_all exact look1 "script" _
  intro g L h1 mean mg mb hg F1 N1 X1 T1
  clear X T
  subst hg
  (repeat' (first | (k_unfold; (try dsimp only)) | (((fail_if_success (with_reducible show wpAny _ _ (exec (Stmt.For _ _ _ _ _) _) _ _ _));(fail_if_success (with_reducible show wpAny _ _ (exec (Stmt.While _ _ _ _) _) _ _ _));(fail_if_success (with_reducible show wpAny _ _ (exec (Stmt.Assign _ (PySem.Expr.ListComp _ _ _ _) _) _) _ _ _));(fail_if_success (with_reducible show wpAny _ _ (eval (PySem.Expr.ListComp _ _ _ _) _) _ _ _));(fail_if_success (with_reducible show UnrEndW _ _ _ _ _ _))); (first | walk1 | (dsimp only; walk1) | (leave1; try dsimp only)))))
  rename Fr _ _ _ _ => F1
  rename News _ _ _ _ => N1
  refine For_turns F1 ?_
  (repeat' (first | (k_unfold; (try dsimp only)) | (((fail_if_success (with_reducible show wpAny _ _ (exec (Stmt.For _ _ _ _ _) _) _ _ _));(fail_if_success (with_reducible show wpAny _ _ (exec (Stmt.While _ _ _ _) _) _ _ _));(fail_if_success (with_reducible show wpAny _ _ (exec (Stmt.Assign _ (PySem.Expr.ListComp _ _ _ _) _) _) _ _ _));(fail_if_success (with_reducible show wpAny _ _ (eval (PySem.Expr.ListComp _ _ _ _) _) _ _ _));(fail_if_success (with_reducible show UnrEndW _ _ _ _ _ _))); (first | walk1 | (dsimp only; walk1) | (leave1; try dsimp only)))))
  replace N1 := newsSub (b := [(_, _)]) N1 (fun q hq => by rw [List.mem_singleton.mp hq]; exact .head _)
  refine enumBase rfl F1 N1 hla ?_
  intro I hI
  have hlu := hus.length
  refine' itemsInd (ceJ I) ?done ?step _ _ _ ?init
  case init =>
    refine ⟨0, us, _, List.replicate 17 0, _, _, rfl, by omega, ?_, rfl, ?_, ?_, ?_, by decide, rfl⟩
    · intro v hv
      refine Classical.byContradiction fun hno2 => ?_
      obtain ⟨n, _, hn⟩ := pmem hus hv
      refine hno2 ?_
      exact ⟨n, hn⟩
    · exact Nat.ne_of_lt (hI _ (.head _))
    · exact Nat.ne_of_lt (Nat.lt_succ_of_lt (hI _ (.head _)))
    · exact .cons ⟨_, rfl⟩ (.cons ⟨_, rfl⟩ (.cons ⟨_, rfl⟩ (.cons ⟨_, rfl⟩ (.cons ⟨_, rfl⟩ (.cons ⟨_, rfl⟩ (.cons ⟨_, rfl⟩ (.cons ⟨_, rfl⟩ (.cons ⟨_, rfl⟩ (.cons ⟨_, rfl⟩ (.cons ⟨_, rfl⟩ (.cons ⟨_, rfl⟩ (.cons ⟨_, rfl⟩ (.cons ⟨_, rfl⟩ (.cons ⟨_, rfl⟩ (.cons ⟨_, rfl⟩ (.cons ⟨_, rfl⟩ .nil))))))))))))))))
  case done =>
    clear F1 N1
    intro m1 news1 h tk hJ3 F1 N1
    refine Classical.byContradiction fun hno4 => ?_
    obtain ⟨n0, us1, vs, cs, d, k, hxs, hlen, hint, rfl, hdI, hdI1, hpd, hcs, hm1⟩ := hJ3
    replace F1 := fr_at F1 hm1
    refine hno4 ?_
    (repeat' (first | (k_unfold; (try dsimp only)) | (((fail_if_success (with_reducible show wpAny _ _ (exec (Stmt.For _ _ _ _ _) _) _ _ _));(fail_if_success (with_reducible show wpAny _ _ (exec (Stmt.While _ _ _ _) _) _ _ _));(fail_if_success (with_reducible show wpAny _ _ (exec (Stmt.Assign _ (PySem.Expr.ListComp _ _ _ _) _) _) _ _ _));(fail_if_success (with_reducible show wpAny _ _ (eval (PySem.Expr.ListComp _ _ _ _) _) _ _ _));(fail_if_success (with_reducible show UnrEndW _ _ _ _ _ _))); (first | walk1 | (dsimp only; walk1) | (leave1; try dsimp only)))))
    dsimp only
    exact ret _ _ _ F1.keep ⟨cs, hcs, d, vs, k, rfl, (N1 _ (.head _)).1, hpd⟩
  case step =>
    clear F1 hI
    intro _ r m1 news1 v h tk its hJ5 hv F2 hi N2
    refine Classical.byContradiction fun hno6 => ?_
    obtain ⟨n0, us1, vs, cs, d, k, hxs, hlen, hint, rfl, hdI, hdI1, hpd, hcs, hm1⟩ := hJ5
    clear N1
    cases us1 with
    | nil => simp [enumItems] at hxs
    | cons u us2 =>
    simp only [enumItems, List.cons.injEq] at hxs
    obtain ⟨rfl, rfl⟩ := hxs
    obtain ⟨T, t1, rfl, hT⟩ := hv
    obtain ⟨n, tn, rfl⟩ := hint u (.head _)
    obtain ⟨io, jo, rfl, hio, hjo⟩ := objs2 hi
    replace N2 : News _ _ _ [(I + 1, io), (I, jo), (d, listOf vs.toArray k)] := N2
    replace F2 := fr_at F2 hm1
    have hvl := hpd.length
    refine hno6 ?_
    (repeat' (first | (k_unfold; (try dsimp only)) | (((fail_if_success (with_reducible show wpAny _ _ (exec (Stmt.For _ _ _ _ _) _) _ _ _));(fail_if_success (with_reducible show wpAny _ _ (exec (Stmt.While _ _ _ _) _) _ _ _));(fail_if_success (with_reducible show wpAny _ _ (exec (Stmt.Assign _ (PySem.Expr.ListComp _ _ _ _) _) _) _ _ _));(fail_if_success (with_reducible show wpAny _ _ (eval (PySem.Expr.ListComp _ _ _ _) _) _ _ _));(fail_if_success (with_reducible show UnrEndW _ _ _ _ _ _))); (first | walk1 | (dsimp only; walk1) | (leave1; try dsimp only)))))
    refine Classical.byContradiction fun hno7 => ?_
    obtain ⟨_, _, hm17, _⟩ := fdiv_fmod_facts (n0 : Int) 17
    obtain ⟨hm0, hm18⟩ := hm17 (by decide)
    obtain ⟨vx, hvx, cx, tx, rfl⟩ : ∃ vx, vs[((n0 : Int).fmod 17).toNat]? = some vx ∧ ∃ c, IsI vx c := by
      obtain ⟨vx, hvx, hr⟩ := pget hpd (i := ((n0 : Int).fmod 17).toNat) (List.getElem?_eq_getElem (by omega))
      exact ⟨vx, hvx, _, hr⟩
    rename Fr _ _ _ _ => F3
    rename News _ _ _ _ => N3
    refine hno7 ?_
    refine getL1 (isL N3 (.tail _ (.tail _ (.head _)))) hm0 (by omega) hvx ?_
    (repeat' (first | (k_unfold; (try dsimp only)) | (((fail_if_success (with_reducible show wpAny _ _ (exec (Stmt.For _ _ _ _ _) _) _ _ _));(fail_if_success (with_reducible show wpAny _ _ (exec (Stmt.While _ _ _ _) _) _ _ _));(fail_if_success (with_reducible show wpAny _ _ (exec (Stmt.Assign _ (PySem.Expr.ListComp _ _ _ _) _) _) _ _ _));(fail_if_success (with_reducible show wpAny _ _ (eval (PySem.Expr.ListComp _ _ _ _) _) _ _ _));(fail_if_success (with_reducible show UnrEndW _ _ _ _ _ _))); (first | walk1 | (dsimp only; walk1) | (leave1; try dsimp only)))))
    rename Fr _ _ _ _ => F4
    rename News _ _ _ _ => N4
    refine setL (vs := vs) F4 N4 (.tail (fun e => hdI1 e.symm) (.tail (fun e => hdI e.symm) (.head (fun _ h => nomatch h)))) hm0 (by omega) (by omega) ?_
    intro h5 F5 N5
    (repeat' (first | (k_unfold; (try dsimp only)) | (((fail_if_success (with_reducible show wpAny _ _ (exec (Stmt.For _ _ _ _ _) _) _ _ _));(fail_if_success (with_reducible show wpAny _ _ (exec (Stmt.While _ _ _ _) _) _ _ _));(fail_if_success (with_reducible show wpAny _ _ (exec (Stmt.Assign _ (PySem.Expr.ListComp _ _ _ _) _) _) _ _ _));(fail_if_success (with_reducible show wpAny _ _ (eval (PySem.Expr.ListComp _ _ _ _) _) _ _ _));(fail_if_success (with_reducible show UnrEndW _ _ _ _ _ _))); (first | walk1 | (dsimp only; walk1) | (leave1; try dsimp only)))))
    refine turnEnd (keep := []) [(d, _)] F5 N5 (fun _ h => h) (all1 (allc hdI1 (all1 hdI))) trivial ?_
    refine ⟨n0 + 1, us2, _, cs.set ((n0 : Int).fmod 17).toNat (cx + n), d, _, rfl, ?_, fun v hv => hint v (.tail _ hv), rfl, hdI, hdI1, pset hpd ⟨_, rfl⟩ _, ?_, rfl⟩
    · simp only [List.length_cons] at hlen; omega
    · rw [List.length_set]; exact hcs
end
section
open PySem PySem.W PySem.Calls PyProof.Rows
theorem cutOf : ∀ {l : List Value} {k : Nat}, k < l.length → ∃ p y q, kl_cut l k = some (p, y, q)
  | [], _, h => absurd h (Nat.not_lt_zero _)
  | x :: r, 0, _ => ⟨[], x, r, rfl⟩
  | x :: r, k + 1, h => by
    obtain ⟨p, y, q, e⟩ := cutOf (l := r) (k := k) (Nat.lt_of_succ_lt_succ h)
    exact ⟨x :: p, y, q, by simp only [kl_cut, e]⟩
theorem psplit {α β : Type} {R : α → β → Prop} {y : α} {q : List α} : ∀ {p : List α} {r : List β}, Paired R (p ++ y :: q) r → ∃ p' y' q', r = p' ++ y' :: q' ∧ Paired R p p' ∧ R y y' ∧ Paired R q q'
  | [], _, h => by cases h with | cons h k => exact ⟨[], _, _, rfl, .nil, h, k⟩
  | x :: p, _, h => by
    cases h with
    | cons h k =>
      obtain ⟨p', y', q', rfl, a, b, c⟩ := psplit k
      exact ⟨_ :: p', y', q', rfl, .cons h a, b, c⟩
theorem pappend {α β : Type} {R : α → β → Prop} {l l' : List α} {r r' : List β} (h : Paired R l r) (k : Paired R l' r') : Paired R (l ++ l') (r ++ r') := by
  induction h with
  | nil => exact k
  | cons h _ ih => exact .cons h ih
theorem pints {vs : List Value} {ns : List Int} (h : IntsAre vs ns) : Paired IsI vs ns := by
  induction h with
  | nil => exact .nil
  | cons n t _ ih => exact .cons ⟨t, rfl⟩ ih
theorem whileEnd {g h' : Heap} {L : Addr} {s : Shared} {J : Nat → (Str → Option Value) → List (Addr × Obj) → Prop} {n tk : Nat} {m₂ : Str → Option Value} {all : List (Addr × Obj)} (n' : Nat) (news₂ : List (Addr × Obj)) (F : Fr g L h' m₂) (N : News g L h' all) (hs : ∀ p ∈ news₂, p ∈ all) (hn : n' < n) (hJ : J n' m₂ news₂) : WhileStep g L s J n .next { s with heap := h', toks := tk } :=
  WhileStep.intro F (newsSub N hs) hn hJ
def rangeI (n : Nat) : List Int := (List.range n).map (fun (i : Nat) => (i : Int))
def orJ (sz : Nat) (n : Nat) (m : Str → Option Value) (news : List (Addr × Obj)) : Prop :=
  ∃ (vl vo : List Value) (ls os : List Int) (dl dd : Addr) (kl ko : Nat) (nn : Int) (t : Tok), news = [(dd, listOf vo.toArray ko), (dl, listOf vl.toArray kl)] ∧ @Ne Nat dd dl ∧ Paired IsI vl ls ∧ Paired IsI vo os ∧ (os ++ ls).Perm (rangeI sz) ∧ ls.length = n ∧ m "left" = some (.ref dl) ∧ m "order" = some (.ref dd) ∧ m "n" = some (.int nn t)
theorem order_t (w : World) (n : Int) (tn : Tok) (sz : Nat) (ts : Tok) (hz : sz ≤ 1000) :
    SpecF w 104 [.int n tn, .int (sz : Int) ts] (fun g => True) (fun h r => ∃ os : List Int, os.Perm (rangeI sz) ∧ ListAt IsI h r os) := by
  intro dp un fr gd s Q E
  w_top off
  k_fill
  intro X T hd hu _ ret
  (refine' enterP (args := ⟨_, []⟩) ?k1 ?k2 ?k3 ?k4 ?k5 ?k6 ?k7 ?k8 ?_ ?c2 ?c3 ?c4 ?c5; (case k1 => assumption); (case k2 => assumption); (case k3 => (simp only [recursionLimit] at *; omega)); (case k4 => k_is); (case k5 => k_is); (case k6 => exact BindsTo.of_eq rfl); (case c5 => decide); (case k7 => exact locs rfl); (case c2 => exact rfl); (case c3 => exact rfl); (case c4 => exact rfl))
  case k8 => with_unfolding_all exact look2 "size" "n" _ _
  intro g L h1 mean mg mb hg F1 N1 X1 T1
  clear X T
  subst hg
  (repeat' (first | (k_unfold; (try dsimp only)) | (((fail_if_success (with_reducible show wpAny _ _ (exec (Stmt.For _ _ _ _ _) _) _ _ _));(fail_if_success (with_reducible show wpAny _ _ (exec (Stmt.While _ _ _ _) _) _ _ _));(fail_if_success (with_reducible show wpAny _ _ (exec (Stmt.Assign _ (PySem.Expr.ListComp _ _ _ _) _) _) _ _ _));(fail_if_success (with_reducible show wpAny _ _ (eval (PySem.Expr.ListComp _ _ _ _) _) _ _ _));(fail_if_success (with_reducible show UnrEndW _ _ _ _ _ _))); (first | walk1 | (dsimp only; walk1) | (leave1; try dsimp only)))))
  rename Fr _ _ _ _ => F1
  rename News _ _ _ _ => N1
  rename IntsAre _ _ => hI1
  rename ((_ : Nat) < _) => hlt1
  refine' While_inv (orJ sz) F1 (newsSub (b := [(_, _), (_, _)]) N1 (fun q hq => .tail _ hq)) ?init ?turn
  case init => 
    refine ⟨_, _, _, [], _, _, _, _, _, _, rfl, ?_, pints hI1, .nil, ?_, rfl, rfl, rfl, rfl⟩
    · exact Nat.ne_of_gt hlt1
    · have e : rangeKs 0 ((sz : Int) - 0).toNat = rangeI sz := by simp [rangeKs, rangeI]
      rw [e]; exact List.Perm.refl _
  case turn =>
    clear F1 N1 hI1 hlt1
    intro k m1 news1 h tk F1 N1 hJ1
    refine Classical.byContradiction fun hno2 => ?_
    obtain ⟨vl, vo, ls, os, dl, dd, kl, ko, nn, t, rfl, hne, hvl, hvo, hperm, hlen, m1a, m1b, m1c⟩ := hJ1
    replace F1 := fr_ats [("left", _), ("order", _), ("n", _)] F1 (allc m1a (allc m1b (all1 m1c)))
    simp only [kstB] at F1
    have hl1 := hvl.length
    have hl2 := hvo.length
    have hl3 : os.length + ls.length = sz := by
      have := hperm.length_eq
      simpa [rangeI] using this
    have hl4 : vl.length ≤ 1000 := by omega
    have hl5 : vo.length ≤ 1000 := by omega
    refine hno2 ?_
    (repeat' (first | (k_unfold; (try dsimp only)) | (((fail_if_success (with_reducible show wpAny _ _ (exec (Stmt.For _ _ _ _ _) _) _ _ _));(fail_if_success (with_reducible show wpAny _ _ (exec (Stmt.While _ _ _ _) _) _ _ _));(fail_if_success (with_reducible show wpAny _ _ (exec (Stmt.Assign _ (PySem.Expr.ListComp _ _ _ _) _) _) _ _ _));(fail_if_success (with_reducible show wpAny _ _ (eval (PySem.Expr.ListComp _ _ _ _) _) _ _ _));(fail_if_success (with_reducible show UnrEndW _ _ _ _ _ _))); (first | walk1 | (dsimp only; walk1) | (leave1; try dsimp only)))))
    refine wpAny_truthy_list (isL N1 (.tail _ (.head _))) (by rw [List.size_toArray]; omega) ?_
    dsimp only
    cases ls with
    | nil =>
      cases hvl
      rw [if_neg (by simp)]
      (repeat' (first | (k_unfold; (try dsimp only)) | (((fail_if_success (with_reducible show wpAny _ _ (exec (Stmt.For _ _ _ _ _) _) _ _ _));(fail_if_success (with_reducible show wpAny _ _ (exec (Stmt.While _ _ _ _) _) _ _ _));(fail_if_success (with_reducible show wpAny _ _ (exec (Stmt.Assign _ (PySem.Expr.ListComp _ _ _ _) _) _) _ _ _));(fail_if_success (with_reducible show wpAny _ _ (eval (PySem.Expr.ListComp _ _ _ _) _) _ _ _));(fail_if_success (with_reducible show UnrEndW _ _ _ _ _ _))); (first | walk1 | (dsimp only; walk1) | (leave1; try dsimp only)))))
      refine ret _ _ _ ?_ (freshOf N1 (.head _)) ⟨os, by simpa using hperm, dd, vo, ko, rfl, (N1 _ (.head _)).1, hvo⟩
      rename Fr _ _ _ _ => F3
      exact F3.keep
    | cons l0 ls =>
      rw [if_pos (by cases hvl; simp)]
      simp only [List.length_cons] at hlen hl1 hl3
      (repeat' (first | (k_unfold; (try dsimp only)) | (((fail_if_success (with_reducible show wpAny _ _ (exec (Stmt.For _ _ _ _ _) _) _ _ _));(fail_if_success (with_reducible show wpAny _ _ (exec (Stmt.While _ _ _ _) _) _ _ _));(fail_if_success (with_reducible show wpAny _ _ (exec (Stmt.Assign _ (PySem.Expr.ListComp _ _ _ _) _) _) _ _ _));(fail_if_success (with_reducible show wpAny _ _ (eval (PySem.Expr.ListComp _ _ _ _) _) _ _ _));(fail_if_success (with_reducible show UnrEndW _ _ _ _ _ _))); (first | walk1 | (dsimp only; walk1) | (leave1; try dsimp only)))))
      refine Calls.call_len_list (isL N1 (.tail _ (.head _))) (by rw [List.size_toArray]; omega) ?_
      rw [List.size_toArray]
      (repeat' (first | (k_unfold; (try dsimp only)) | (((fail_if_success (with_reducible show wpAny _ _ (exec (Stmt.For _ _ _ _ _) _) _ _ _));(fail_if_success (with_reducible show wpAny _ _ (exec (Stmt.While _ _ _ _) _) _ _ _));(fail_if_success (with_reducible show wpAny _ _ (exec (Stmt.Assign _ (PySem.Expr.ListComp _ _ _ _) _) _) _ _ _));(fail_if_success (with_reducible show wpAny _ _ (eval (PySem.Expr.ListComp _ _ _ _) _) _ _ _));(fail_if_success (with_reducible show UnrEndW _ _ _ _ _ _))); (first | walk1 | (dsimp only; walk1) | (leave1; try dsimp only)))))
      refine Classical.byContradiction fun hno3 => ?_
      obtain ⟨_, _, hm1, _⟩ := fdiv_fmod_facts nn (vl.length : Int)
      obtain ⟨hm2, hm3⟩ := hm1 (by omega)
      obtain ⟨p, y, q, hcut⟩ := cutOf (l := vl) (k := (nn.fmod (vl.length : Int)).toNat) (by omega)
      obtain ⟨hsp, _⟩ := kl_cut_spec hcut
      rw [hsp] at hvl
      obtain ⟨p', y', q', hls, hp1, hy1, hq1⟩ := psplit hvl
      obtain ⟨ty, rfl⟩ := hy1
      refine hno3 ?_
      refine kl_popAt (its := vl.toArray) (n := kl) F1 N1 ?_ (StrLaws.seqIndex_nonneg hm2 (by rw [List.size_toArray]; exact hm3)) hcut (.tail hne (.head (fun _ h => nomatch h))) (by show vl.length ≤ sizeLine; rw [sizeLine_eq]; omega) ?_
      · have e1 : ((-(2 ^ 63 : Int)) ≤ nn.fmod (vl.length : Int)) := by omega
        have e2 : nn.fmod (vl.length : Int) < 2 ^ 63 := by omega
        unfold Builtin.List.listFitsIndex
        rw [decide_eq_true e1, decide_eq_true e2]; rfl
      intro h3 F3 N3
      have hpq : (p ++ q).length ≤ 1000 := by
        have := congrArg List.length hsp
        simp only [List.length_append, List.length_cons] at this ⊢
        omega
      (repeat' (first | (k_unfold; (try dsimp only)) | (((fail_if_success (with_reducible show wpAny _ _ (exec (Stmt.For _ _ _ _ _) _) _ _ _));(fail_if_success (with_reducible show wpAny _ _ (exec (Stmt.While _ _ _ _) _) _ _ _));(fail_if_success (with_reducible show wpAny _ _ (exec (Stmt.Assign _ (PySem.Expr.ListComp _ _ _ _) _) _) _ _ _));(fail_if_success (with_reducible show wpAny _ _ (eval (PySem.Expr.ListComp _ _ _ _) _) _ _ _));(fail_if_success (with_reducible show UnrEndW _ _ _ _ _ _))); (first | walk1 | (dsimp only; walk1) | (leave1; try dsimp only)))))
      rename Fr _ _ _ _ => F4
      rename News _ _ _ _ => N4
      refine Calls.call_len_list (isL N4 (.tail _ (.head _))) (by rw [List.size_toArray]; omega) ?_
      rw [List.size_toArray]
      (repeat' (first | (k_unfold; (try dsimp only)) | (((fail_if_success (with_reducible show wpAny _ _ (exec (Stmt.For _ _ _ _ _) _) _ _ _));(fail_if_success (with_reducible show wpAny _ _ (exec (Stmt.While _ _ _ _) _) _ _ _));(fail_if_success (with_reducible show wpAny _ _ (exec (Stmt.Assign _ (PySem.Expr.ListComp _ _ _ _) _) _) _ _ _));(fail_if_success (with_reducible show wpAny _ _ (eval (PySem.Expr.ListComp _ _ _ _) _) _ _ _));(fail_if_success (with_reducible show UnrEndW _ _ _ _ _ _))); (first | walk1 | (dsimp only; walk1) | (leave1; try dsimp only)))))
      rename Fr _ _ _ _ => F5
      rename News _ _ _ _ => N5
      have hls' := congrArg List.length hls
      simp only [List.length_append, List.length_cons] at hls'
      refine' whileEnd (p' ++ q').length _ F5 N5 (fun _ h => h) ?_ ?_
      · simp only [List.length_append]; omega
      · refine ⟨p ++ q, vo ++ [.int y' ty], p' ++ q', os ++ [y'], dl, dd, _, _, _, _, by rw [← List.push_toArray], hne, pappend hp1 hq1, hvo.snoc ⟨ty, rfl⟩, ?_, rfl, rfl, rfl, rfl⟩
        rw [hls] at hperm
        refine List.Perm.trans ?_ hperm
        rw [List.append_assoc]
        exact List.Perm.append_left os (List.perm_middle (a := y') (l₁ := p') (l₂ := q')).symm
end
section
open PySem PySem.W PySem.Calls PyProof.Rows
structure Row where
  up : Int
  host : Str
  stem : Str
  path : Str
  look : Int
def isRow (P : Addr → Obj → Prop) (v : Value) (r : Row) : Prop := ∃ T t1 t2 t3 t4 t5 k, v = .ref T ∧ P T { cls := .type "tuple", data := .seq [.int r.up t1, .str r.host t2, .str r.stem t3, .str r.path t4, .int r.look t5].toArray k }
def RangeMade (g : Heap) (L : Addr) (m : Str → Option Value) (news : List (Addr × Obj)) (s : Shared) (lo hi : Nat) (xv : Value) (s₁ : Shared) : Prop :=
  ∃ (n : Nat) (r : Addr) (h' : Heap) (tk : Nat) (t1 t2 t3 : Tok), lo ≤ n ∧ n ≤ hi ∧ xv = .ref r ∧ s₁ = { s with heap := h', toks := tk } ∧ Fr g L h' m ∧ News g L h' news ∧ IsRange h' r 0 (n : Int) 1 t1 t2 t3
theorem RangeMade.of {g : Heap} {L : Addr} {m : Str → Option Value} {news all : List (Addr × Obj)} {s : Shared} {lo hi : Nat} {h' : Heap} {tk : Nat} {r : Addr} {z : Int} {t1 t2 t3 : Tok} (n : Nat) (h1 : lo ≤ n) (h2 : n ≤ hi) (hz : z = (n : Int)) (F : Fr g L h' m) (N : News g L h' all) (hs : ∀ p ∈ news, p ∈ all) (R : IsRange h' r 0 z 1 t1 t2 t3) :
    RangeMade g L m news s lo hi (.ref r) { s with heap := h', toks := tk } := ⟨n, r, h', tk, t1, t2, t3, h1, h2, rfl, rfl, F, newsSub N hs, hz ▸ R⟩
theorem cutRange {M : Model} {A : Around} {E : Value → Shared → Prop} {s : Shared} {g : Heap} {L : Addr} {m : Str → Option Value} {news : List (Addr × Obj)} {t : Sem Value} {Q : Value → Shared → Prop} (lo hi : Nat) (_F : Fr g L s.heap m) (_N : News g L s.heap news)
    (ev : wpAny M A t (RangeMade g L m news s lo hi) E s) (rest : ∀ xv s₁, RangeMade g L m news s lo hi xv s₁ → Q xv s₁) : wpAny M A t Q E s := wpAny_mono ev rest fun _ _ e => e
def RowC (rows : List Row) (i : Nat) (up : Int) (name host stem : Str) : Prop :=
  (0 ≤ up ∧ ∃ p, rows[up.toNat]? = some p ∧ host = p.host ∧ stem = p.stem ++ Str.ofString "/" ++ name) ∨ (up < 0 ∧ host = Str.ofString "w" ++ Str.ofString (toString (i : Int)) ∧ stem = Str.ofString "") ∨ (up < 0 ∧ (host = Str.ofString "h" ∨ host = Str.ofString "") ∧ stem = Str.ofString "/" ++ name)
def IfPost (g : Heap) (L : Addr) (m : Str → Option Value) (news : List (Addr × Obj)) (s : Shared) (C : Str → Str → Prop) (f : Flow) (s₁ : Shared) : Prop :=
  f = .next ∧ ∃ m' h tk host stem t1 t2, s₁ = { s with heap := h, toks := tk } ∧ C host stem ∧ Fr g L h m' ∧ News g L h news ∧ m' "where" = some (.str host t1) ∧ m' "stem" = some (.str stem t2) ∧ ∀ y, y ≠ Str.ofString "where" → y ≠ Str.ofString "stem" → m' y = m y
theorem IfPost.of {g : Heap} {L : Addr} {m m' : Str → Option Value} {news all : List (Addr × Obj)} {s : Shared} {C : Str → Str → Prop} {h : Heap} {tk : Nat} {host stem : Str} {t1 t2 : Tok} (F : Fr g L h m') (N : News g L h all) (hs : ∀ p ∈ news, p ∈ all) (hC : C host stem) (h1 : m' "where" = some (.str host t1)) (h2 : m' "stem" = some (.str stem t2)) (h3 : ∀ y, y ≠ Str.ofString "where" → y ≠ Str.ofString "stem" → m' y = m y) :
    IfPost g L m news s C .next { s with heap := h, toks := tk } := ⟨rfl, m', h, tk, host, stem, t1, t2, rfl, hC, F, newsSub N hs, h1, h2, h3⟩
theorem cutIf {M : Model} {A : Around} {E : Value → Shared → Prop} {s : Shared} {g : Heap} {L : Addr} {m : Str → Option Value} {news : List (Addr × Obj)} {t : Sem Flow} {Q : Flow → Shared → Prop} (C : Str → Str → Prop) (_F : Fr g L s.heap m) (_N : News g L s.heap news)
    (ev : wpAny M A t (IfPost g L m news s C) E s) (rest : ∀ f s₁, IfPost g L m news s C f s₁ → Q f s₁) : wpAny M A t Q E s := wpAny_mono ev rest fun _ _ e => e
def menuS : List Str := [Str.ofString "a", Str.ofString "", Str.ofString "/", Str.ofString ",", Str.ofString "\"", Str.ofString "\\", Str.ofString " ", Str.ofString "=", Str.ofString "é", Str.ofString "../"]
def RowOk (pre : List Row) (i : Nat) (r : Row) : Prop := -1 ≤ r.up ∧ ∃ nm, nm ∈ menuS ∧ RowC pre i r.up (nm ++ Txt.mul (Str.ofString "x") ((i : Int) + 1)) r.host r.stem ∧ ∃ n : Int, 0 ≤ n ∧ n < 2 ∧ r.path = r.stem ++ Txt.mul (Str.ofString "/") n
inductive GrownOk : List Row → Prop
  | nil : GrownOk []
  | snoc {rows : List Row} {r : Row} : GrownOk rows → RowOk rows rows.length r → GrownOk (rows ++ [r])
def grJ (I la n : Nat) (xs : List Itm) (m : Str → Option Value) (news : List (Addr × Obj)) : Prop :=
  ∃ (i c : Nat) (rows : List Row) (vs : List Value) (d k : Nat) (tl : List (Addr × Obj)), xs = (List.range' i c).map (fun (j : Nat) => Itm.tok fun t => .int (j : Int) t) ∧ i + c = n ∧ rows.length = i ∧ GrownOk rows ∧ news = (d, listOf vs.toArray k) :: tl ∧ (∀ q ∈ tl, q.1 ≠ d) ∧ @Ne Nat d I ∧ (∀ q ∈ tl, q.1 ≠ I) ∧ Paired (isRow fun a o => (a, o) ∈ tl) vs rows ∧ (∀ r ∈ rows, r.host.length ≤ 100 ∧ r.stem.length ≤ 20 * i) ∧ m "cells" = some (.ref la) ∧ m "grown" = some (.ref d)
theorem take3 {l : List Value} (h : 3 ≤ l.length) (hi : ∀ v ∈ l, ∃ n, IsI v n) : ∃ a ta b tb c tc, l.take 3 = [.int a ta, .int b tb, .int c tc] := by
  match l, h, hi with
  | x :: y :: z :: r, _, hi =>
    obtain ⟨a, ta, rfl⟩ := hi x (.head _)
    obtain ⟨b, tb, rfl⟩ := hi y (.tail _ (.head _))
    obtain ⟨c, tc, rfl⟩ := hi z (.tail _ (.tail _ (.head _)))
    exact ⟨a, ta, b, tb, c, tc, rfl⟩
theorem pick3 {us : List Value} {i : Nat} (h : 3 * i + 4 ≤ us.length) {zs : List Value} (e : (us.drop (3 * i + 1)).take 3 = zs) : kms_pick us.toArray.toList (some (3 * (i : Int) + 1)) (some (3 * (i : Int) + 4)) = zs := by
  have e1 := kms_pick_eq us.toArray (some (((3 * i + 1 : Nat)) : Int)) (some ((3 * i + 4 : Nat) : Int))
  rw [slicePick_run us.toArray (3 * i + 1) (3 * i + 4) (by rw [List.size_toArray]; exact h) (by omega)] at e1
  have e2 := congrArg Array.toList e1
  simp only [] at e2
  rw [show (3 * i + 4 - (3 * i + 1)) = 3 by omega] at e2
  have e3 : ((3 * i + 1 : Nat) : Int) = 3 * (i : Int) + 1 := by omega
  have e4 : ((3 * i + 4 : Nat) : Int) = 3 * (i : Int) + 4 := by omega
  rw [e3, e4] at e2
  exact e2.symm.trans e
theorem sliceLit {prog : Program} {w : World} {A : Around} {E : Value → Shared → Prop} {s0 : Shared} {h : Heap} {tk : Nat} {g : Heap} {L l : Addr} {m : Str → Option Value} {news : List (Addr × Obj)} {us zs : List Value} {lo hi : Int} {tl th : Tok} {value slice : PySem.Expr} {Q : Value → Shared → Prop}
    (F : Fr g L h m) (N : News g L h news) (hl : h.IsList l us.toArray) (e : kms_pick us.toArray.toList (some lo) (some hi) = zs)
    (k : ∀ D h', Fr g L h' m → News g L h' ((D, listOf zs.toArray 0) :: news) → (∀ p ∈ news, p.1 < D) → Q (.ref D) { heap := h', gens := s0.gens, drawn := s0.drawn, toks := tk, os := s0.os })
    (hz : us.length ≤ 1000000)
    (hs : subscripted slice false (.ref l) (.ref h.objs.size) = operate [.ref h.objs.size, .ref l] (getItem (.ref l) (.ref h.objs.size)) := by with_unfolding_all rfl) (ht : ∀ r, letTemporaryGo value (.ref l) r = pure () := by intro _; with_unfolding_all rfl) :
    wpAny (model prog w) A (subscriptTail value slice (.ref l) (.ref h.objs.size)) Q E { heap := h.push { cls := .type "slice", data := .fields #[.int lo tl, .int hi th, .none] }, gens := s0.gens, drawn := s0.drawn, toks := tk, os := s0.os } :=
  kms_slice_lit (s := { heap := h, gens := s0.gens, drawn := s0.drawn, toks := tk, os := s0.os }) F N hl (.int _ _) (.int _ _) e k hs ht (by rw [List.size_toArray, sizeLine_eq]; omega)
theorem grEnd {g h6 : Heap} {L I la d T : Addr} {m6 : Str → Option Value} {io tp : Obj} {tl : List (Addr × Obj)} {s₁ : Shared} {tk n i c k : Nat} {rows : List Row} {vs : List Value} {row : Row} {xs : List Itm}
    (F6 : Fr g L h6 m6) (N6 : News g L h6 ((T, tp) :: (I, io) :: (d, listOf (vs ++ [Value.ref T]).toArray (k + 1)) :: tl)) (hio : io.cls = .type "range_iterator") (hxs : xs = (List.range' (i + 1) c).map (fun (j : Nat) => Itm.tok fun t => .int (j : Int) t)) (hic : i + (c + 1) = n) (hri : rows.length = i) (hgo : GrownOk rows)
    (hdtl : ∀ q ∈ tl, q.1 ≠ d) (hdI : @Ne Nat d I) (htI : ∀ q ∈ tl, q.1 ≠ I) (hpd : Paired (isRow fun a o => (a, o) ∈ tl) vs rows) (hlen : ∀ r ∈ rows, r.host.length ≤ 100 ∧ r.stem.length ≤ 20 * i)
    (htp : ∃ t1 t2 t3 t4 t5 k, tp = { cls := .type "tuple", data := .seq [.int row.up t1, .str row.host t2, .str row.stem t3, .str row.path t4, .int row.look t5].toArray k }) (hrow : RowOk rows i row) (hl1 : row.host.length ≤ 100) (hl2 : row.stem.length ≤ 20 * (i + 1))
    (hm1 : m6 "cells" = some (.ref la)) (hm2 : m6 "grown" = some (.ref d)) :
    UnrEndW g L s₁ [(I, io)] (fun m' n' => SubL [] n' ∧ grJ I la n xs m' n') { s₁ with heap := h6, toks := tk } := by
  obtain ⟨t1, t2, t3, t4, t5, k5, htp⟩ := htp
  have hTI : @Ne Nat T I := newsNe N6 (.head _) (.tail _ (.head _)) (by rw [hio, htp]; exact tyNe (by decide))
  have hTd : @Ne Nat T d := newsNe N6 (.head _) (.tail _ (.tail _ (.head _))) (by rw [htp]; exact tyNe (by decide))
  refine turnEnd (keep := []) (its := [(I, io)]) ((d, listOf (vs ++ [Value.ref T]).toArray (k + 1)) :: (T, tp) :: tl) F6 N6 ?_ (allc (all1 hdI) (allc (all1 hTI) (fun q hq => all1 (htI q hq)))) trivial ?_
  · intro q hq
    simp only [List.cons_append, List.nil_append, List.mem_cons] at hq ⊢
    rcases hq with h | h | h | h
    · exact .inr (.inl h)
    · exact .inr (.inr (.inl h))
    · exact .inl h
    · exact .inr (.inr (.inr h))
  · subst hri
    refine ⟨rows.length + 1, c, rows ++ [row], vs ++ [.ref T], d, k + 1, _, hxs, by omega, by simp, .snoc hgo hrow, rfl, allc hTd hdtl, hdI, allc hTI htI, ?_, ?_, hm1, hm2⟩
    · refine Paired.snoc (pmono hpd ?_) ⟨T, t1, t2, t3, t4, t5, k5, rfl, htp ▸ .head _⟩
      rintro a b ⟨T, t1, t2, t3, t4, t5, k, e, hm⟩
      exact ⟨T, t1, t2, t3, t4, t5, k, e, .tail _ hm⟩
    · intro r hr
      rcases List.mem_append.mp hr with h | h
      · have := hlen r h; omega
      · rw [List.mem_singleton.mp h]; exact ⟨hl1, hl2⟩
theorem smallR (n : Nat) (h : n ≤ 1000) : Builtin.Range.small 0 (n : Int) 1 = true ∧ Builtin.Range.rangeSize 0 (n : Int) 1 = (n : Int) := by
  have hs : Builtin.Range.rangeSize 0 (n : Int) 1 = (n : Int) := by
    unfold Builtin.Range.rangeSize
    rw [if_pos (by decide)]
    by_cases h0 : (0 : Int) < n
    · rw [if_pos h0, Int.ediv_one]; omega
    · rw [if_neg h0]; omega
  refine ⟨?_, hs⟩
  have f : ∀ z : Int, -(2 ^ 63) ≤ z → z < 2 ^ 63 → Builtin.Range.rangeFitsLong z = true := fun z h1 h2 => by
    unfold Builtin.Range.rangeFitsLong
    rw [decide_eq_true h1, decide_eq_true h2]; rfl
  unfold Builtin.Range.small
  rw [hs, f 0 (by decide) (by decide), f 1 (by decide) (by decide), f (n : Int) (by omega) (by omega)]
  rw [if_pos (by decide), f _ (by omega) (by omega)]
  simp
theorem menuLen : ∀ x ∈ menuS, x.length ≤ 3 := by decide
theorem lenMulX (i : Nat) (h : i ≤ 4) : (Txt.mul (Str.ofString "x") ((i : Int) + 1)).length ≤ 5 :=
  len_mul_one (c := 120) (by decide) (by omega)
theorem rowLen {rows : List Row} {i : Nat} {up : Int} {nm host stem : Str} (hi : i ≤ 4) (hl : ∀ r ∈ rows, r.host.length ≤ 100 ∧ r.stem.length ≤ 20 * i) (hn : nm.length ≤ 3) (h : RowC rows i up (nm ++ Txt.mul (Str.ofString "x") ((i : Int) + 1)) host stem) : host.length ≤ 100 ∧ stem.length ≤ 20 * (i + 1) := by
  have hx := lenMulX i hi
  have hs : (Str.ofString "/").length = 1 := by decide
  rcases h with ⟨_, p, hp, rfl, rfl⟩ | ⟨_, rfl, rfl⟩ | ⟨_, hh, rfl⟩
  · obtain ⟨h1, h2⟩ := hl p (List.mem_of_getElem? hp)
    simp only [Str.length_append, hs]
    omega
  · have h1 : ∀ i : Nat, i ≤ 4 → (Str.ofString (toString (i : Int))).length ≤ 50 := by
      intro i hi
      rcases le4N hi with rfl | rfl | rfl | rfl | rfl <;> decide
    have h2 : (Str.ofString "w").length = 1 := by decide
    have h3 : (Str.ofString "").length = 0 := by decide
    have := h1 i hi
    simp only [Str.length_append, h2, h3]
    omega
  · have h3 : host.length ≤ 1 := by rcases hh with rfl | rfl <;> decide
    simp only [Str.length_append, hs]
    omega
theorem grown_t (w : World) (l : Value) (cs : List Int) (hcs : cs.length = 17) :
    Spec w 97 [l] (fun g => ListAt IsI g l cs) (fun h r => ∃ rows : List Row, GrownOk rows ∧ 1 ≤ rows.length ∧ rows.length ≤ 5 ∧ (∀ r ∈ rows, r.host.length ≤ 100 ∧ r.stem.length ≤ 100) ∧ ListAt (isRow fun a o => h.get? a = some o) h r rows) := by
  intro dp un fr gd s Q E
  w_top off
  k_fill
  intro X T hd hu hl ret
  refine Classical.byContradiction fun hno1 => ?_
  obtain ⟨la, us, lk, rfl, hla, hus⟩ := hl
  refine hno1 ?_
  (refine' enterP (args := ⟨_, []⟩) ?k1 ?k2 ?k3 ?k4 ?k5 ?k6 ?k7 ?k8 ?_ ?c2 ?c3 ?c4 ?c5; (case k1 => assumption); (case k2 => assumption); (case k3 => (simp only [recursionLimit] at *; omega)); (case k4 => k_is); (case k5 => k_is); (case k6 => exact BindsTo.of_eq rfl); (case c5 => decide); (case k7 => exact locs rfl); (case c2 => exact rfl); (case c3 => exact rfl); (case c4 => exact rfl))
  case k8 => with_unfolding_all exact look1 "cells" _
  intro g L h1 mean mg mb hg F1 N1 X1 T1
  clear X T
  subst hg
  have hul := hus.length
  have hlg : s.heap.IsList la us.toArray := ⟨_, hla, rfl, lk, rfl⟩
  (repeat' (first | (k_unfold; (try dsimp only)) | (((fail_if_success (with_reducible show wpAny _ _ (exec (Stmt.For _ _ _ _ _) _) _ _ _));(fail_if_success (with_reducible show wpAny _ _ (exec (Stmt.While _ _ _ _) _) _ _ _));(fail_if_success (with_reducible show wpAny _ _ (exec (Stmt.Assign _ (PySem.Expr.ListComp _ _ _ _) _) _) _ _ _));(fail_if_success (with_reducible show wpAny _ _ (eval (PySem.Expr.ListComp _ _ _ _) _) _ _ _));(fail_if_success (with_reducible show UnrEndW _ _ _ _ _ _))); (first | walk1 | (dsimp only; walk1) | (leave1; try dsimp only)))))
  rename Fr _ _ _ _ => F2
  rename News _ _ _ _ => N2
  refine For_turns F2 ?_
  refine cutRange 1 5 F2 N2 ?ev ?rest
  case ev =>
    (repeat' (first | (k_unfold; (try dsimp only)) | (((fail_if_success (with_reducible show wpAny _ _ (exec (Stmt.For _ _ _ _ _) _) _ _ _));(fail_if_success (with_reducible show wpAny _ _ (exec (Stmt.While _ _ _ _) _) _ _ _));(fail_if_success (with_reducible show wpAny _ _ (exec (Stmt.Assign _ (PySem.Expr.ListComp _ _ _ _) _) _) _ _ _));(fail_if_success (with_reducible show wpAny _ _ (eval (PySem.Expr.ListComp _ _ _ _) _) _ _ _));(fail_if_success (with_reducible show UnrEndW _ _ _ _ _ _))); (first | walk1 | (dsimp only; walk1) | (leave1; try dsimp only)))))
    rename Fr _ _ _ _ => F3
    obtain ⟨v0, hv0, c0, t0, rfl⟩ : ∃ v0, us[0]? = some v0 ∧ ∃ c, IsI v0 c := by
      refine Classical.byContradiction fun hno2 => ?_
      obtain ⟨vx, hvx, hr⟩ := pget hus (i := 0) (List.getElem?_eq_getElem (by omega))
      refine hno2 ?_
      exact ⟨vx, hvx, _, hr⟩
    refine subL1 (vs := us) (hlg.at fun o e => F3.keep _ _ e) (by decide) (by decide) hv0 ?_
    (repeat' (first | (k_unfold; (try dsimp only)) | (((fail_if_success (with_reducible show wpAny _ _ (exec (Stmt.For _ _ _ _ _) _) _ _ _));(fail_if_success (with_reducible show wpAny _ _ (exec (Stmt.While _ _ _ _) _) _ _ _));(fail_if_success (with_reducible show wpAny _ _ (exec (Stmt.Assign _ (PySem.Expr.ListComp _ _ _ _) _) _) _ _ _));(fail_if_success (with_reducible show wpAny _ _ (eval (PySem.Expr.ListComp _ _ _ _) _) _ _ _));(fail_if_success (with_reducible show UnrEndW _ _ _ _ _ _))); (first | walk1 | (dsimp only; walk1) | (leave1; try dsimp only)))))
    all_goals ((rename Fr _ _ _ _ => F5); (rename News _ _ _ _ => N5); (rename IsRange _ _ _ _ _ _ _ _ => hR))
    · exact .of 3 (by decide) (by decide) rfl F5 N5 (fun q hq => .tail _ hq) hR
    · exact .of 1 (by decide) (by decide) rfl F5 N5 (fun q hq => .tail _ hq) hR
    · exact .of 2 (by decide) (by decide) rfl F5 N5 (fun q hq => .tail _ hq) hR
    · exact .of 4 (by decide) (by decide) rfl F5 N5 (fun q hq => .tail _ hq) hR
    · exact .of 5 (by decide) (by decide) rfl F5 N5 (fun q hq => .tail _ hq) hR
  case rest =>
    intro xv s1 hJ3
    refine Classical.byContradiction fun hno4 => ?_
    obtain ⟨sz, r, h', tk', t1, t2, t3, hz1, hz5, rfl, rfl, F5, N5, hR⟩ := hJ3
    refine hno4 ?_
    refine iterRange rfl F5 N5 hR (smallR sz (by omega)).1 (smallR sz (by omega)).2 ?_
    intro I hI
    refine' itemsInd (grJ I la sz) ?done ?step _ _ _ ?init
    case init =>
      refine ⟨0, sz, [], [], _, _, [], ?_, by omega, rfl, .nil, rfl, (fun _ h => nomatch h), ?_, (fun _ h => nomatch h), .nil, (fun _ h => nomatch h), rfl, rfl⟩
      · rw [rangeItms, List.range_eq_range']
      · exact Nat.ne_of_lt (hI _ (.head _))
    case done =>
      intro m1 news1 h tk hJ5 F1 N1
      refine Classical.byContradiction fun hno6 => ?_
      obtain ⟨i, c, rows, vs, d, k, tl, hxs, hic, hri, hgo, rfl, hdtl, hdI, htI, hpd, hlen, m1a, m1b⟩ := hJ5
      replace F1 := fr_ats [("cells", _), ("grown", _)] F1 (allc m1a (all1 m1b))
      simp only [kstB] at F1
      cases c with
      | succ c => simp [List.range'_succ] at hxs
      | zero =>
      refine hno6 ?_
      (repeat' (first | (k_unfold; (try dsimp only)) | (((fail_if_success (with_reducible show wpAny _ _ (exec (Stmt.For _ _ _ _ _) _) _ _ _));(fail_if_success (with_reducible show wpAny _ _ (exec (Stmt.While _ _ _ _) _) _ _ _));(fail_if_success (with_reducible show wpAny _ _ (exec (Stmt.Assign _ (PySem.Expr.ListComp _ _ _ _) _) _) _ _ _));(fail_if_success (with_reducible show wpAny _ _ (eval (PySem.Expr.ListComp _ _ _ _) _) _ _ _));(fail_if_success (with_reducible show UnrEndW _ _ _ _ _ _))); (first | walk1 | (dsimp only; walk1) | (leave1; try dsimp only)))))
      dsimp only
      refine ret _ _ _ F1.keep ⟨rows, hgo, by omega, by omega, fun r hr => ⟨(hlen r hr).1, by have := (hlen r hr).2; omega⟩, d, vs, k, rfl, (N1 _ (.head _)).1, pmono hpd ?_⟩
      intro a b hJ7
      refine Classical.byContradiction fun hno8 => ?_
      obtain ⟨T, t1, t2, t3, t4, t5, k, e, hm⟩ := hJ7
      refine hno8 ?_
      exact ⟨T, t1, t2, t3, t4, t5, k, e, (N1 _ (.tail _ hm)).1⟩
    case step =>
      intro _ r m1 news1 v h tk its hJ9 hv F2 hi N2
      refine Classical.byContradiction fun hno10 => ?_
      obtain ⟨i, c, rows, vs, d, k, tl, hxs, hic, hri, hgo, rfl, hdtl, hdI, htI, hpd, hlen, m1a, m1b⟩ := hJ9
      clear F5 N5 hI
      cases c with
      | zero => simp at hxs
      | succ c =>
      simp only [List.range'_succ, List.map_cons, List.cons.injEq] at hxs
      obtain ⟨rfl, rfl⟩ := hxs
      obtain ⟨t1, rfl⟩ := hv
      obtain ⟨io, rfl, hio⟩ := objs1 hi
      replace N2 : News _ _ _ ((I, io) :: (d, listOf vs.toArray k) :: tl) := N2
      replace F2 := fr_ats [("cells", _), ("grown", _)] F2 (allc m1a (all1 m1b))
      simp only [kstB] at F2
      have hvl := hpd.length
      obtain ⟨a, ta, b, tb, c', tc, h3⟩ := take3 (l := us.drop (3 * i + 1)) (by rw [List.length_drop]; omega) (fun v hv => by
        obtain ⟨n, _, hn⟩ := pmem hus (List.mem_of_mem_drop hv)
        exact ⟨n, hn⟩)
      have hi5 : i ≤ 4 := by omega
      have h34 : 3 * i + 4 ≤ us.length := by omega
      replace hul := Hid.mk (p := us.length ≤ 1000000) (by omega)
      have hvs := Hid.mk (p := vs.length ≤ 1000) (by omega)
      replace hcs := Hid.mk hcs
      replace hz1 := Hid.mk hz1
      replace hz5 := Hid.mk hz5
      replace hic := Hid.mk hic
      replace hri := Hid.mk hri
      clear hvl
      replace h34 := Hid.mk h34
      refine hno10 ?_
      (repeat' (first | (k_unfold; (try dsimp only)) | (((fail_if_success (with_reducible show wpAny _ _ (exec (Stmt.For _ _ _ _ _) _) _ _ _));(fail_if_success (with_reducible show wpAny _ _ (exec (Stmt.While _ _ _ _) _) _ _ _));(fail_if_success (with_reducible show wpAny _ _ (exec (Stmt.Assign _ (PySem.Expr.ListComp _ _ _ _) _) _) _ _ _));(fail_if_success (with_reducible show wpAny _ _ (eval (PySem.Expr.ListComp _ _ _ _) _) _ _ _));(fail_if_success (with_reducible show UnrEndW _ _ _ _ _ _))); (fail_if_success (with_reducible show wpAny _ _ (subscriptTail _ _ _ _) _ _ _)); (first | (walk1; (all_goals (try dsimp only))) | (dsimp only; walk1) | (leave1; try dsimp only)))))
      rename Fr _ _ _ _ => F3
      rename News _ _ _ _ => N3
      refine sliceLit F3 N3 (hlg.at fun o e => F3.keep _ _ e) (pick3 h34.out h3) ?_ hul.out
      intro D h4 F4 N4 hD
      (repeat' (first | (k_unfold; (try dsimp only)) | (((fail_if_success (with_reducible show wpAny _ _ (exec (Stmt.For _ _ _ _ _) _) _ _ _));(fail_if_success (with_reducible show wpAny _ _ (exec (Stmt.While _ _ _ _) _) _ _ _));(fail_if_success (with_reducible show wpAny _ _ (exec (Stmt.Assign _ (PySem.Expr.ListComp _ _ _ _) _) _) _ _ _));(fail_if_success (with_reducible show wpAny _ _ (eval (PySem.Expr.ListComp _ _ _ _) _) _ _ _));(fail_if_success (with_reducible show UnrEndW _ _ _ _ _ _))); (fail_if_success (with_reducible show wpAny _ _ (subscriptTail _ _ _ _) _ _ _)); (first | (walk1; (all_goals (try dsimp only))) | (dsimp only; walk1) | (leave1; try dsimp only)))))
      refine Classical.byContradiction fun hno11 => ?_
      obtain ⟨_, _, hw1, _⟩ := fdiv_fmod_facts b 10
      obtain ⟨hw2, hw3⟩ := hw1 (by decide)
      rename News _ _ _ _ => N5
      refine hno11 ?_
      refine subS (ws := menuS) (isL N5 (.head _)) ?_ hw2 hw3 (by omega) ?_
      · exact .cons ⟨_, rfl⟩ (.cons ⟨_, rfl⟩ (.cons ⟨_, rfl⟩ (.cons ⟨_, rfl⟩ (.cons ⟨_, rfl⟩ (.cons ⟨_, rfl⟩ (.cons ⟨_, rfl⟩ (.cons ⟨_, rfl⟩ (.cons ⟨_, rfl⟩ (.cons ⟨_, rfl⟩ .nil)))))))))
      intro nm tn hnm
      have hnl : nm.length ≤ 3 := menuLen nm (List.mem_of_getElem? hnm)
      (repeat' (first | (k_unfold; (try dsimp only)) | (((fail_if_success (with_reducible show wpAny _ _ (exec (Stmt.For _ _ _ _ _) _) _ _ _));(fail_if_success (with_reducible show wpAny _ _ (exec (Stmt.While _ _ _ _) _) _ _ _));(fail_if_success (with_reducible show wpAny _ _ (exec (Stmt.Assign _ (PySem.Expr.ListComp _ _ _ _) _) _) _ _ _));(fail_if_success (with_reducible show wpAny _ _ (eval (PySem.Expr.ListComp _ _ _ _) _) _ _ _));(fail_if_success (with_reducible show UnrEndW _ _ _ _ _ _))); (fail_if_success (with_reducible show wpAny _ _ (subscriptTail _ _ _ _) _ _ _)); (fail_if_success (with_reducible show wpAny _ _ (exec (Stmt.If _ _ _ _) _) _ _ _)); (first | (walk1; (all_goals (try dsimp only))) | (dsimp only; walk1) | (leave1; try dsimp only)))))
      rename Fr _ _ _ _ => F6
      rename News _ _ _ _ => N6
      replace N6 := newsSub (b := (I, io) :: (d, listOf vs.toArray k) :: tl) N6 (fun q hq => .tail _ (.tail _ hq))
      refine Classical.byContradiction fun hno12 => ?_
      obtain ⟨_, _, hu1, _⟩ := fdiv_fmod_facts a ((i : Int) + 1)
      obtain ⟨hu2, hu3⟩ := hu1 (by omega)

      refine hno12 ?_
      refine cutIf (RowC rows i ((i : Int) - 1 - a.fmod ((i : Int) + 1)) (nm ++ Txt.mul (Str.ofString "x") ((i : Int) + 1))) F6 N6 ?if1 ?rest1
      case if1 =>
        (repeat' (first | (k_unfold; (try dsimp only)) | (((fail_if_success (with_reducible show wpAny _ _ (exec (Stmt.For _ _ _ _ _) _) _ _ _));(fail_if_success (with_reducible show wpAny _ _ (exec (Stmt.While _ _ _ _) _) _ _ _));(fail_if_success (with_reducible show wpAny _ _ (exec (Stmt.Assign _ (PySem.Expr.ListComp _ _ _ _) _) _) _ _ _));(fail_if_success (with_reducible show wpAny _ _ (eval (PySem.Expr.ListComp _ _ _ _) _) _ _ _));(fail_if_success (with_reducible show UnrEndW _ _ _ _ _ _))); (fail_if_success (with_reducible show wpAny _ _ (subscriptTail _ _ _ _) _ _ _)); (first | (walk1; (all_goals (try dsimp only))) | (dsimp only; walk1) | (leave1; try dsimp only)))))
        · rename (0 ≤ _) => hup
          have hupl : ((i : Int) - 1 - a.fmod ((i : Int) + 1)).toNat < rows.length := by have := hri.out; omega
          refine Classical.byContradiction fun hno13 => ?_
          obtain ⟨vT, hvT, T, u1, u2, u3, u4, u5, kk, rfl, hmem⟩ := pget hpd (List.getElem?_eq_getElem hupl)
          obtain ⟨hp1, hp2⟩ := hlen _ (List.getElem_mem hupl)
          refine hno13 ?_
          refine subL1 (vs := vs) (isL N6 (.tail _ (.head _))) hup (by omega) hvT ?_
          (repeat' (first | (k_unfold; (try dsimp only)) | (((fail_if_success (with_reducible show wpAny _ _ (exec (Stmt.For _ _ _ _ _) _) _ _ _));(fail_if_success (with_reducible show wpAny _ _ (exec (Stmt.While _ _ _ _) _) _ _ _));(fail_if_success (with_reducible show wpAny _ _ (exec (Stmt.Assign _ (PySem.Expr.ListComp _ _ _ _) _) _) _ _ _));(fail_if_success (with_reducible show wpAny _ _ (eval (PySem.Expr.ListComp _ _ _ _) _) _ _ _));(fail_if_success (with_reducible show UnrEndW _ _ _ _ _ _))); (fail_if_success (with_reducible show wpAny _ _ (subscriptTail _ _ _ _) _ _ _)); (first | (walk1; (all_goals (try dsimp only))) | (dsimp only; walk1) | (leave1; try dsimp only)))))
          refine subT (vs := [_, _, _, _, _]) ⟨_, (N6 _ (.tail _ (.tail _ hmem))).1, rfl, kk, rfl⟩ (by decide) (show (_ : Int) < ((5 : Nat) : Int) by decide) (by decide) rfl ?_
          (repeat' (first | (k_unfold; (try dsimp only)) | (((fail_if_success (with_reducible show wpAny _ _ (exec (Stmt.For _ _ _ _ _) _) _ _ _));(fail_if_success (with_reducible show wpAny _ _ (exec (Stmt.While _ _ _ _) _) _ _ _));(fail_if_success (with_reducible show wpAny _ _ (exec (Stmt.Assign _ (PySem.Expr.ListComp _ _ _ _) _) _) _ _ _));(fail_if_success (with_reducible show wpAny _ _ (eval (PySem.Expr.ListComp _ _ _ _) _) _ _ _));(fail_if_success (with_reducible show UnrEndW _ _ _ _ _ _))); (fail_if_success (with_reducible show wpAny _ _ (subscriptTail _ _ _ _) _ _ _)); (first | (walk1; (all_goals (try dsimp only))) | (dsimp only; walk1) | (leave1; try dsimp only)))))
          refine subL1 (vs := vs) (isL N6 (.tail _ (.head _))) hup (by omega) hvT ?_
          (repeat' (first | (k_unfold; (try dsimp only)) | (((fail_if_success (with_reducible show wpAny _ _ (exec (Stmt.For _ _ _ _ _) _) _ _ _));(fail_if_success (with_reducible show wpAny _ _ (exec (Stmt.While _ _ _ _) _) _ _ _));(fail_if_success (with_reducible show wpAny _ _ (exec (Stmt.Assign _ (PySem.Expr.ListComp _ _ _ _) _) _) _ _ _));(fail_if_success (with_reducible show wpAny _ _ (eval (PySem.Expr.ListComp _ _ _ _) _) _ _ _));(fail_if_success (with_reducible show UnrEndW _ _ _ _ _ _))); (fail_if_success (with_reducible show wpAny _ _ (subscriptTail _ _ _ _) _ _ _)); (first | (walk1; (all_goals (try dsimp only))) | (dsimp only; walk1) | (leave1; try dsimp only)))))
          refine subT (vs := [_, _, _, _, _]) ⟨_, (N6 _ (.tail _ (.tail _ hmem))).1, rfl, kk, rfl⟩ (by decide) (show (_ : Int) < ((5 : Nat) : Int) by decide) (by decide) rfl ?_
          (repeat' (first | (k_unfold; (try dsimp only)) | (((fail_if_success (with_reducible show wpAny _ _ (exec (Stmt.For _ _ _ _ _) _) _ _ _));(fail_if_success (with_reducible show wpAny _ _ (exec (Stmt.While _ _ _ _) _) _ _ _));(fail_if_success (with_reducible show wpAny _ _ (exec (Stmt.Assign _ (PySem.Expr.ListComp _ _ _ _) _) _) _ _ _));(fail_if_success (with_reducible show wpAny _ _ (eval (PySem.Expr.ListComp _ _ _ _) _) _ _ _));(fail_if_success (with_reducible show UnrEndW _ _ _ _ _ _))); (fail_if_success (with_reducible show wpAny _ _ (subscriptTail _ _ _ _) _ _ _)); (first | (walk1; (all_goals (try dsimp only))) | (dsimp only; walk1) | (leave1; try dsimp only)))))
          rename Fr _ _ _ _ => F9
          rename News _ _ _ _ => N9
          exact .of F9 N9 (fun _ h => .tail _ h) (.inl ⟨hup, _, List.getElem?_eq_getElem hupl, rfl, rfl⟩) rfl rfl (fun y e1 e2 => by simp only [if_neg e1, if_neg e2])
        · rename (¬ 0 ≤ _) => hup
          rename Fr _ _ _ _ => F9
          rename News _ _ _ _ => N9
          exact .of F9 N9 (fun _ h => .tail _ h) (.inr (.inl ⟨by omega, rfl, rfl⟩)) rfl rfl (fun y e1 e2 => by simp only [if_neg e1, if_neg e2])
        · rename (¬ 0 ≤ _) => hup
          rename (Int.fmod _ 3 ≠ 2) => hk2
          refine Classical.byContradiction fun hno14 => ?_
          obtain ⟨_, _, hk3, _⟩ := fdiv_fmod_facts (a.fdiv ((i : Int) + 1)) 3
          obtain ⟨hk4, hk5⟩ := hk3 (by decide)
          rename News _ _ _ _ => N8
          refine hno14 ?_
          refine subS (ws := [Str.ofString "h", Str.ofString ""]) (isL N8 (.head _)) ?_ hk4 (show _ < ((2 : Nat) : Int) by omega) (by omega) ?_
          · exact .cons ⟨_, rfl⟩ (.cons ⟨_, rfl⟩ .nil)
          intro ho tho hho
          have hho2 : ho = Str.ofString "h" ∨ ho = Str.ofString "" := by
            have := List.mem_of_getElem? hho
            simpa using this
          (repeat' (first | (k_unfold; (try dsimp only)) | (((fail_if_success (with_reducible show wpAny _ _ (exec (Stmt.For _ _ _ _ _) _) _ _ _));(fail_if_success (with_reducible show wpAny _ _ (exec (Stmt.While _ _ _ _) _) _ _ _));(fail_if_success (with_reducible show wpAny _ _ (exec (Stmt.Assign _ (PySem.Expr.ListComp _ _ _ _) _) _) _ _ _));(fail_if_success (with_reducible show wpAny _ _ (eval (PySem.Expr.ListComp _ _ _ _) _) _ _ _));(fail_if_success (with_reducible show UnrEndW _ _ _ _ _ _))); (fail_if_success (with_reducible show wpAny _ _ (subscriptTail _ _ _ _) _ _ _)); (first | (walk1; (all_goals (try dsimp only))) | (dsimp only; walk1) | (leave1; try dsimp only)))))
          rename Fr _ _ _ _ => F9
          rename News _ _ _ _ => N9
          exact .of F9 N9 (fun _ h => .tail _ (.tail _ h)) (.inr (.inr ⟨by omega, hho2, rfl⟩)) rfl rfl (fun y e1 e2 => by simp only [if_neg e1, if_neg e2])
      case rest1 =>
        intro f s1 hJ15
        refine Classical.byContradiction fun hno16 => ?_
        obtain ⟨rfl, m', h7, tk7, host, stem, th, ts, rfl, hC, F7, N7, hm1, hm2, hm3⟩ := hJ15
        replace F7 := fr_ats [("where", _), ("stem", _), ("grown", .ref d), ("up", .int ((i : Int) - 1 - a.fmod ((i : Int) + 1)) _), ("look", .int c' tc), ("cells", .ref la)] F7 (allc hm1 (allc hm2 (allc ((hm3 (Str.ofString "grown") (by decide) (by decide)).trans rfl) (allc ((hm3 (Str.ofString "up") (by decide) (by decide)).trans rfl) (allc ((hm3 (Str.ofString "look") (by decide) (by decide)).trans rfl) (all1 ((hm3 (Str.ofString "cells") (by decide) (by decide)).trans rfl)))))))
        simp only [kstB] at F7
        have hst : host.length ≤ 100 ∧ stem.length ≤ 20 * (i + 1) := rowLen hi5 hlen hnl hC
        obtain ⟨hst1, hst2⟩ := hst
        obtain ⟨_, _, hl1, _⟩ := fdiv_fmod_facts c' 2
        obtain ⟨hl2, hl3⟩ := hl1 (by decide)
        clear F6 N6
        refine hno16 ?_
        dsimp only
        (repeat' (first | (k_unfold; (try dsimp only)) | (((fail_if_success (with_reducible show wpAny _ _ (exec (Stmt.For _ _ _ _ _) _) _ _ _));(fail_if_success (with_reducible show wpAny _ _ (exec (Stmt.While _ _ _ _) _) _ _ _));(fail_if_success (with_reducible show wpAny _ _ (exec (Stmt.Assign _ (PySem.Expr.ListComp _ _ _ _) _) _) _ _ _));(fail_if_success (with_reducible show wpAny _ _ (eval (PySem.Expr.ListComp _ _ _ _) _) _ _ _));(fail_if_success (with_reducible show UnrEndW _ _ _ _ _ _))); (fail_if_success (with_reducible show wpAny _ _ (subscriptTail _ _ _ _) _ _ _)); (first | (walk1; (all_goals (try dsimp only))) | (dsimp only; walk1) | (leave1; try dsimp only)))))
        rename Fr _ _ _ _ => F9
        rename News _ _ _ _ => N9
        have hTd := newsNe N9 (.head _) (.tail _ (.tail _ (.head _))) (tyNe (by decide))
        refine appendL (vs := vs) (n := k) F9 N9 (by have := hvs.out; omega) (.tail hTd (.tail (fun e => hdI e.symm) (.head hdtl))) ?_
        intro h10 F10 N10
        (repeat' (first | (k_unfold; (try dsimp only)) | (((fail_if_success (with_reducible show wpAny _ _ (exec (Stmt.For _ _ _ _ _) _) _ _ _));(fail_if_success (with_reducible show wpAny _ _ (exec (Stmt.While _ _ _ _) _) _ _ _));(fail_if_success (with_reducible show wpAny _ _ (exec (Stmt.Assign _ (PySem.Expr.ListComp _ _ _ _) _) _) _ _ _));(fail_if_success (with_reducible show wpAny _ _ (eval (PySem.Expr.ListComp _ _ _ _) _) _ _ _));(fail_if_success (with_reducible show UnrEndW _ _ _ _ _ _))); (fail_if_success (with_reducible show wpAny _ _ (subscriptTail _ _ _ _) _ _ _)); (first | (walk1; (all_goals (try dsimp only))) | (dsimp only; walk1) | (leave1; try dsimp only)))))
        refine grEnd (row := ⟨_, _, _, _, _⟩) F10 N10 hio rfl hic.out hri.out hgo hdtl hdI htI hpd hlen ⟨_, _, _, _, _, _, rfl⟩ ⟨by dsimp only; omega, nm, List.mem_of_getElem? hnm, hC, _, hl2, hl3, rfl⟩ hst1 hst2 rfl rfl
end
section
open PySem PySem.W PySem.Calls PyProof.Rows
def prAt (os : List Int) (t : Nat) : Int × Int := (os.getD t 0, if t = 0 then os.getD (os.length - 1) 0 else os.getD (t - 1) 0)
def isPair (P : Addr → Obj → Prop) (v : Value) (p : Int × Int) : Prop := ∃ T t1 t2 k, v = .ref T ∧ P T { cls := .type "tuple", data := .seq [.int p.1 t1, .int p.2 t2].toArray k }
def c1J (L : Addr) (oc1 oc2 : Obj) (os : List Int) (ag : Nat) (k i : Nat) (ys : List Value) (news : List (Addr × Obj)) : Prop :=
  k + i = ag ∧ ∃ tl, news = (L + 1 + 1, oc1) :: (L + 1, oc2) :: tl ∧ (∀ q ∈ tl, @LT.lt Nat _ (L + 1 + 1) q.1) ∧ Paired (isPair fun a o => (a, o) ∈ tl) ys ((List.range i).map (prAt os))
theorem pgetI {vs : List Value} {os : List Int} (h : Paired IsI vs os) {i : Nat} (hi : i < os.length) : ∃ t, vs[i]? = some (.int (os.getD i 0) t) := by
  obtain ⟨v, hv, t, rfl⟩ := pget h (List.getElem?_eq_getElem hi)
  refine ⟨t, ?_⟩
  rw [hv, List.getD_eq_getElem?_getD, List.getElem?_eq_getElem hi]; rfl
theorem subPrev {prog : Program} {w : World} {A : Around} {E : Value → Shared → Prop} {s : Shared} {value slice : PySem.Expr} {l : Addr} {uo : List Value} {os : List Int} {i : Nat} {u : Tok} {Q : Value → Shared → Prop} (hl : s.heap.IsList l uo.toArray) (huo : Paired IsI uo os) (hi : i < os.length) (hz : os.length ≤ 1000) (h : ∀ t', Q (.int (prAt os i).2 t') s)
    (hs : subscripted slice false (.ref l) (.int ((i : Int) - 1) u) = operate [.ref l, .int ((i : Int) - 1) u] (getItem (.ref l) (.int ((i : Int) - 1) u)) := by with_unfolding_all rfl) :
    wpAny (model prog w) A (subscriptTail value slice (.ref l) (.int ((i : Int) - 1) u)) Q E s := by
  have hul := huo.length
  cases i with
  | zero =>
    obtain ⟨t, ht⟩ := pgetI huo (i := os.length - 1) (by omega)
    have e : (((0 : Nat) : Int) - 1 + (uo.toArray.size : Int)).toNat = os.length - 1 := by rw [List.size_toArray]; omega
    exact tail_any hl.typeIs slot_list_getitem.lookup (wpAny_getItem_list_neg hl (by omega) (by rw [List.size_toArray]; omega) (by omega) (x := .int (prAt os 0).2 t) (by rw [e]; simpa [prAt] using ht) (h t)) hs
  | succ i =>
    obtain ⟨t, ht⟩ := pgetI huo (i := i) (by omega)
    exact subL1 (vs := uo) hl (by omega) (by omega) (x := .int (prAt os (i + 1)).2 t) (by rw [show (((i + 1 : Nat) : Int) - 1).toNat = i by omega]; simpa [prAt] using ht) (h t) hs
theorem isPair.mono {P P' : Addr → Obj → Prop} (h : ∀ a o, P a o → P' a o) {v : Value} {p : Int × Int} : isPair P v p → isPair P' v p := fun ⟨T, t1, t2, k, e, hp⟩ => ⟨T, t1, t2, k, e, h _ _ hp⟩
theorem off3cons {I C D T : Addr} {o : Obj} {r : List (Addr × Obj)} (h1 : @Ne Nat T I) (h2 : @Ne Nat T C) (h3 : @Ne Nat T D) (h : LCg.Off3 I C D r) : LCg.Off3 I C D ((T, o) :: r) := ⟨⟨h1, h2, h3⟩, h⟩
/-- the end of an element that is a new pair -/
theorem pairEnd {g : Heap} {L I C D T c1 c2 : Addr} {m : Str → Option Value} {s₁ : Shared} {oI oC oD tp o1 o2 : Obj} {rest : Value → List (Addr × Obj) → Prop} {tl : List (Addr × Obj)} {h' : Heap} {tk : Nat} {S : List (Addr × Obj) → Prop}
    (F : Fr g L h' m) (N : News g L h' ((T, tp) :: (I, oI) :: (C, oC) :: (D, oD) :: (c1, o1) :: (c2, o2) :: tl)) (hoff : LCg.Off3 I C D ((c1, o1) :: (c2, o2) :: tl)) (hI : @Ne Nat T I) (hC : @Ne Nat T C) (hD : @Ne Nat T D) (hS : S ((c1, o1) :: (c2, o2) :: (T, tp) :: tl))
    (r : rest (.ref T) ((c1, o1) :: (c2, o2) :: (T, tp) :: tl)) :
    LCg.CompEnd g L m s₁ I oI C oC D oD S rest (.ref T) { s₁ with heap := h', toks := tk } := by
  refine LCg.CompEnd.intro F N ((c1, o1) :: (c2, o2) :: (T, tp) :: tl) ?_ (show LCg.Off3 I C D ((c1, o1) :: (c2, o2) :: (T, tp) :: tl) from ⟨hoff.1, hoff.2.1, ⟨hI, hC, hD⟩, hoff.2.2⟩) hS r
  intro p hp
  simp only [List.mem_cons] at hp ⊢
  rcases hp with h | h | h | h | h | h | h
  · exact .inr (.inl h)
  · exact .inr (.inr (.inl h))
  · exact .inr (.inr (.inr (.inl h)))
  · exact .inr (.inr (.inr (.inr (.inl h))))
  · exact .inr (.inr (.inr (.inr (.inr (.inl h)))))
  · exact .inl h
  · exact .inr (.inr (.inr (.inr (.inr (.inr h)))))
theorem pairEnd3 {g : Heap} {L I C D T c0 c1 c2 : Addr} {m : Str → Option Value} {s₁ : Shared} {oI oC oD tp o0 o1 o2 : Obj} {rest : Value → List (Addr × Obj) → Prop} {tl : List (Addr × Obj)} {h' : Heap} {tk : Nat} {S : List (Addr × Obj) → Prop}
    (F : Fr g L h' m) (N : News g L h' ((T, tp) :: (I, oI) :: (C, oC) :: (D, oD) :: (c0, o0) :: (c1, o1) :: (c2, o2) :: tl)) (hoff : LCg.Off3 I C D ((c0, o0) :: (c1, o1) :: (c2, o2) :: tl)) (hI : @Ne Nat T I) (hC : @Ne Nat T C) (hD : @Ne Nat T D) (hS : S ((c0, o0) :: (c1, o1) :: (c2, o2) :: (T, tp) :: tl))
    (r : rest (.ref T) ((c0, o0) :: (c1, o1) :: (c2, o2) :: (T, tp) :: tl)) :
    LCg.CompEnd g L m s₁ I oI C oC D oD S rest (.ref T) { s₁ with heap := h', toks := tk } := by
  refine LCg.CompEnd.intro F N ((c0, o0) :: (c1, o1) :: (c2, o2) :: (T, tp) :: tl) ?_ (show LCg.Off3 I C D ((c0, o0) :: (c1, o1) :: (c2, o2) :: (T, tp) :: tl) from ⟨hoff.1, hoff.2.1, hoff.2.2.1, ⟨hI, hC, hD⟩, hoff.2.2.2⟩) hS r
  intro p hp
  simp only [List.mem_cons] at hp ⊢
  rcases hp with h | h | h | h | h | h | h | h
  · exact .inr (.inl h)
  · exact .inr (.inr (.inl h))
  · exact .inr (.inr (.inr (.inl h)))
  · exact .inr (.inr (.inr (.inr (.inl h))))
  · exact .inr (.inr (.inr (.inr (.inr (.inl h)))))
  · exact .inr (.inr (.inr (.inr (.inr (.inr (.inl h))))))
  · exact .inl h
  · exact .inr (.inr (.inr (.inr (.inr (.inr (.inr h))))))
theorem addLists {prog : Program} {w : World} {A : Around} {E : Value → Shared → Prop} {s : Shared} {g : Heap} {L l b : Addr} {m : Str → Option Value} {news : List (Addr × Obj)} {vs ws : List Value} {Q : Value → Shared → Prop} (F : Fr g L s.heap m) (N : News g L s.heap news) (hl : s.heap.IsList l vs.toArray) (hb : s.heap.IsList b ws.toArray) (hz : vs.length + ws.length ≤ 1000000)
    (h : ∀ D h', Fr g L h' m → News g L h' ((D, listOf (vs ++ ws).toArray 0) :: news) → (∀ p ∈ news, p.1 < D) → Q (.ref D) { s with heap := h' }) : wpAny (model prog w) A (binaryOp .Add (.ref l) (.ref b)) Q E s :=
  add_lists F N hl hb (fun h' F' N' => h _ h' F' N' fun p hp => Heap.lt_size (N p hp).1) (by rw [sizeLine_eq]; omega)
structure HJ where
  D : Addr
  lo : Obj
  L : Addr
  oc2 : Obj
  tl : List (Addr × Obj)
  lga : Addr
def sepF (look : Int) (h : Str) : Str := if h.length = 0 then Str.ofString "" else if (look.fdiv 6).fmod 2 = 0 then Str.ofString ", " else Str.ofString ","
def pieceF (row : Row) (i : Int) : Str := Str.ofString "k" ++ Str.ofString (toString i) ++ Str.ofString "=" ++ placeF ((row.look.fdiv 2).fmod 3) (row.host ++ row.path)
def stepH (rows : List Row) (h : Str) (p : Int × Int) : Str :=
  match rows[p.2.toNat]? with
  | some row => h ++ sepF row.look h ++ pieceF row p.1
  | none => h
theorem stepH_some {rows : List Row} {p : Int × Int} {row : Row} (e : rows[p.2.toNat]? = some row) (h : Str) : stepH rows h p = h ++ sepF row.look h ++ pieceF row p.1 := by unfold stepH; rw [e]
def hdJ (z : HJ) (I : Addr) (n0 : Nat) (rows : List Row) (fin : Str) (xs : List Itm) (m : Str → Option Value) (news : List (Addr × Obj)) : Prop :=
  ∃ (vs : List Value) (ps : List (Int × Int)) (hdr : Str) (ow : Obj) (x : Option Value), xs = vs.map .val ∧ news = (z.D, z.lo) :: (z.L + 1 + 1, ow) :: (z.L + 1, z.oc2) :: z.tl ∧ ow.data = .cell x ∧
    Paired (isPair fun a o => (a, o) ∈ z.tl) vs ps ∧ (∀ p ∈ ps, (0 ≤ p.1 ∧ p.1 ≤ 4) ∧ 0 ≤ p.2 ∧ p.2 < rows.length) ∧ ps.foldl (stepH rows) hdr = fin ∧ hdr.length + 1000 * ps.length ≤ 1000 * n0 ∧ m "grown" = some (.ref z.lga) ∧ ∃ t, m "header" = some (.str hdr t)
theorem sep0 {h : Str} {look : Int} (hz : (h.length : Int) = 0) : Str.ofString "" = sepF look h := by
  unfold sepF; rw [if_pos (by omega)]
theorem sep1 {h x : Str} {look : Int} (hz : (h.length : Int) ≠ 0) (hx : [Str.ofString ", ", Str.ofString ","][((look.fdiv 6).fmod 2).toNat]? = some x) : x = sepF look h := by
  obtain ⟨h1, h2⟩ := (fdiv_fmod_facts (look.fdiv 6) 2).2.2.1 (by decide)
  unfold sepF; rw [if_neg (by omega)]
  generalize (look.fdiv 6).fmod 2 = n at *
  obtain rfl | rfl : n = 0 ∨ n = 1 := by omega
  · simpa using hx.symm
  · simpa using hx.symm
theorem sepF_len (look : Int) (h : Str) : (sepF look h).length ≤ 2 := by
  unfold sepF
  split
  · decide
  · split <;> decide
theorem pieceF_len {row : Row} {i : Int} (hh1 : row.host.length ≤ 100) (hh2 : row.path.length ≤ 102) (hi : 0 ≤ i ∧ i ≤ 4) : (pieceF row i).length ≤ 500 := by
  have h1 := placeF_len ((row.look.fdiv 2).fmod 3) (row.host ++ row.path)
  rw [appLen] at h1
  have h2 : (Str.ofString (toString i)).length = 1 := by
    obtain rfl | rfl | rfl | rfl | rfl : i = 0 ∨ i = 1 ∨ i = 2 ∨ i = 3 ∨ i = 4 := le4I hi.1 hi.2
    all_goals rfl
  unfold pieceF
  rw [appLen, appLen, appLen, h2]
  have h3 : (Str.ofString "k").length = 1 := rfl
  have h4 : (Str.ofString "=").length = 1 := rfl
  omega
theorem hdEnd {L lga D3 I : Addr} {lo ow2 oc1 oc2 io : Obj} {tl : List (Addr × Obj)} {g : Heap} {m' : Str → Option Value} {all : List (Addr × Obj)} {s₁ : Shared} {h' : Heap} {tk n0 : Nat} {rows : List Row} {fin hdr x : Str} {row : Row} {v : Option Value} {vs2 : List Value} {p1 : Int × Int} {ps2 : List (Int × Int)} {t : Tok}
    (F : Fr g L h' m') (N : News g L h' all) (hs : ∀ q ∈ (I, io) :: (D3, lo) :: (L + 1 + 1, ow2) :: (L + 1, oc2) :: tl, q ∈ all) (hI : ∀ q ∈ (D3, lo) :: (L + 1 + 1, oc1) :: (L + 1, oc2) :: tl, @LT.lt Nat _ q.1 I)
    (hrow : rows[p1.2.toNat]? = some row) (hx : x = sepF row.look hdr) (how2 : ow2.data = .cell v) (hpy : Paired (isPair fun a o => (a, o) ∈ tl) vs2 ps2) (hps : ∀ p ∈ p1 :: ps2, (0 ≤ p.1 ∧ p.1 ≤ 4) ∧ 0 ≤ p.2 ∧ p.2 < rows.length)
    (hfin : (p1 :: ps2).foldl (stepH rows) hdr = fin) (hlen : hdr.length + 1000 * (p1 :: ps2).length ≤ 1000 * n0) (hh1 : row.host.length ≤ 100) (hh2 : row.path.length ≤ 102)
    (hm1 : m' "grown" = some (.ref lga)) (hm2 : m' "header" = some (.str (hdr ++ x ++ pieceF row p1.1) t)) :
    UnrEndW g L s₁ [(I, io)] (fun m' n' => SubL [(D3, lo)] n' ∧ hdJ ⟨D3, lo, L, oc2, tl, lga⟩ I n0 rows fin (vs2.map .val) m' n') { s₁ with heap := h', toks := tk } := by
  refine turnEnd (its := [(I, io)]) ((D3, lo) :: (L + 1 + 1, ow2) :: (L + 1, oc2) :: tl) F N hs ?_ ?_ ?_
  · intro p hp q hq
    rw [List.mem_singleton.mp hq]
    rcases List.mem_cons.mp hp with rfl | hp
    · exact Nat.ne_of_lt (hI _ (.head _))
    rcases List.mem_cons.mp hp with rfl | hp
    · exact Nat.ne_of_lt (hI (L + 1 + 1, oc1) (.tail _ (.head _)))
    exact Nat.ne_of_lt (hI _ (.tail _ (.tail _ hp)))
  · exact ⟨.head _, trivial⟩
  · subst hx
    have hpc := pieceF_len hh1 hh2 (hps p1 (.head _)).1
    have hsp := sepF_len row.look hdr
    have hz : (hdr ++ sepF row.look hdr ++ pieceF row p1.1).length ≤ hdr.length + 1000 := by rw [appLen, appLen]; omega
    refine ⟨vs2, ps2, stepH rows hdr p1, ow2, v, rfl, rfl, how2, hpy, fun p hp => hps p (.tail _ hp), hfin, ?_, hm1, t, ?_⟩
    · rw [stepH_some hrow]
      simp only [List.length_cons] at hlen ⊢
      omega
    · rw [stepH_some hrow]; exact hm2
theorem papp {α β : Type} {R : α → β → Prop} {l l' : List α} {r r' : List β} (h : Paired R l r) (k : Paired R l' r') : Paired R (l ++ l') (r ++ r') := by
  induction h with
  | nil => exact k
  | cons h _ ih => exact .cons h ih
theorem prAt_ok {os : List Int} {n : Int} (h : ∀ o ∈ os, 0 ≤ o ∧ o < n) {t : Nat} (ht : t < os.length) : (0 ≤ (prAt os t).1 ∧ (prAt os t).1 < n) ∧ 0 ≤ (prAt os t).2 ∧ (prAt os t).2 < n := by
  have key : ∀ j, j < os.length → 0 ≤ os.getD j 0 ∧ os.getD j 0 < n := fun j hj => by
    rw [List.getD_eq_getElem?_getD, List.getElem?_eq_getElem hj]
    exact h _ (List.getElem_mem hj)
  refine ⟨key t ht, ?_⟩
  show 0 ≤ (if t = 0 then os.getD (os.length - 1) 0 else os.getD (t - 1) 0) ∧ (if t = 0 then os.getD (os.length - 1) 0 else os.getD (t - 1) 0) < n
  split
  · exact key _ (by omega)
  · exact key _ (by omega)
def dup (o : Int) : Int × Int := (o, o)
def headerF (rows : List Row) (os : List Int) (ag : Nat) : Str := (((List.range ag).map (prAt os)) ++ os.map dup).foldl (stepH rows) (Str.ofString "")
def c2J (L D : Addr) (oD oc1 oc2 : Obj) (ys1 : List Value) (os : List Int) (ps : List (Int × Int)) (k i : Nat) (ys : List Value) (news : List (Addr × Obj)) : Prop :=
  k + i = os.length ∧ ∃ tl, news = (D, oD) :: (L + 1 + 1, oc1) :: (L + 1, oc2) :: tl ∧ (∀ q ∈ tl, @LT.lt Nat _ (L + 1 + 1) q.1) ∧ Paired (isPair fun a o => (a, o) ∈ tl) ys1 ps ∧ Paired (isPair fun a o => (a, o) ∈ tl) ys ((os.take i).map dup)
theorem header_t (w : World) (lg lo : Value) (rows : List Row) (os : List Int) (ag : Nat) (ta : Tok) (hrn : rows.length ≤ 5) (hos : os.length = rows.length) (hag : ag ≤ rows.length) (hob : ∀ o ∈ os, 0 ≤ o ∧ o < rows.length) (hrl : ∀ r ∈ rows, r.host.length ≤ 100 ∧ r.path.length ≤ 102) :
    Spec w 109 [lg, lo, .int (ag : Int) ta] (fun g => ListAt (isRow fun a o => g.get? a = some o) g lg rows ∧ ListAt IsI g lo os) (fun h r => IsS r (headerF rows os ag)) := by
  intro dp un fr gd s Q E
  w_top off
  k_fill
  intro X T hd hu hpre ret
  refine Classical.byContradiction fun hno1 => ?_
  obtain ⟨⟨lga, us, lk, rfl, hla, hus⟩, ⟨loa, uo, ok, rfl, hlo, huo⟩⟩ := hpre
  refine hno1 ?_
  (refine' enterC (args := ⟨_, []⟩) ?k1 ?k2 ?k3 ?k4 ?k5 ?k6 ?k7 ?k8 ?_ ?c2 ?c3 ?c4; (case k1 => assumption); (case k2 => assumption); (case k3 => (simp only [recursionLimit] at *; omega)); (case k4 => k_is); (case k5 => k_is); (case k6 => exact BindsTo.of_eq rfl); (case k7 => exact rfl); (case k8 => decide +kernel); (case c2 => exact rfl); (case c3 => exact rfl); (case c4 => exact rfl))
  intro g L h1 tk cells mean mg mb hg F1 N1 Y1 X1 T1
  clear X T
  subst hg
  refine Classical.byContradiction fun hno2 => ?_
  obtain ⟨oc1, oc2, rfl, hd1, hd2⟩ := CellsAre.two (show CellsAre _ [(Str.ofString "way", L + 1 + 1), (Str.ofString "order", L + 1)] cells from Y1)
  replace hd1 : oc1.data = .cell none := hd1
  replace hd2 : oc2.data = .cell (some (.ref loa)) := hd2
  clear Y1
  replace F1 := fr_map F1 (by with_unfolding_all exact (rfl : _ = fun y => if y = Str.ofString "again" then some (Value.int (ag : Int) ta) else if y = Str.ofString "grown" then some (Value.ref lga) else none))
  refine hno2 ?_
  (repeat' (first | (k_unfold; (try dsimp only)) | (((fail_if_success (with_reducible show wpAny _ _ (exec (Stmt.For _ _ _ _ _) _) _ _ _));(fail_if_success (with_reducible show wpAny _ _ (exec (Stmt.While _ _ _ _) _) _ _ _));(fail_if_success (with_reducible show wpAny _ _ (exec (Stmt.Assign _ (PySem.Expr.ListComp _ _ _ _) _) _) _ _ _));(fail_if_success (with_reducible show wpAny _ _ (eval (PySem.Expr.ListComp _ _ _ _) _) _ _ _));(fail_if_success (with_reducible show LCg.CompSrc _ _ _ _ _ _ _ _ _ _ _ _ _ _));(fail_if_success (with_reducible show LCg.CompEnd _ _ _ _ _ _ _ _ _ _ _ _ _ _));(fail_if_success (with_reducible show UnrEndW _ _ _ _ _ _))); (fail_if_success (with_reducible show wpAny _ _ (subscriptTail _ _ _ _) _ _ _)); (first | (walk1; (all_goals (try dsimp only))) | (dsimp only; walk1) | (leave1; try dsimp only)))))
  rename Fr _ _ _ _ => F2
  rename News _ _ _ _ => N2
  refine For_turns F2 ?_
  (repeat' (first | (k_unfold; (try dsimp only)) | (((fail_if_success (with_reducible show wpAny _ _ (exec (Stmt.For _ _ _ _ _) _) _ _ _));(fail_if_success (with_reducible show wpAny _ _ (exec (Stmt.While _ _ _ _) _) _ _ _));(fail_if_success (with_reducible show wpAny _ _ (exec (Stmt.Assign _ (PySem.Expr.ListComp _ _ _ _) _) _) _ _ _));(fail_if_success (with_reducible show wpAny _ _ (eval (PySem.Expr.ListComp _ _ _ _) _) _ _ _));(fail_if_success (with_reducible show LCg.CompSrc _ _ _ _ _ _ _ _ _ _ _ _ _ _));(fail_if_success (with_reducible show LCg.CompEnd _ _ _ _ _ _ _ _ _ _ _ _ _ _));(fail_if_success (with_reducible show UnrEndW _ _ _ _ _ _))); (fail_if_success (with_reducible show wpAny _ _ (subscriptTail _ _ _ _) _ _ _)); (first | (walk1; (all_goals (try dsimp only))) | (dsimp only; walk1) | (leave1; try dsimp only)))))
  refine LCg.ListComp_U F2 rfl (by decide) rfl (by decide) rfl ?_
  (repeat' (first | (k_unfold; (try dsimp only)) | (((fail_if_success (with_reducible show wpAny _ _ (exec (Stmt.For _ _ _ _ _) _) _ _ _));(fail_if_success (with_reducible show wpAny _ _ (exec (Stmt.While _ _ _ _) _) _ _ _));(fail_if_success (with_reducible show wpAny _ _ (exec (Stmt.Assign _ (PySem.Expr.ListComp _ _ _ _) _) _) _ _ _));(fail_if_success (with_reducible show wpAny _ _ (eval (PySem.Expr.ListComp _ _ _ _) _) _ _ _));(fail_if_success (with_reducible show LCg.CompSrc _ _ _ _ _ _ _ _ _ _ _ _ _ _));(fail_if_success (with_reducible show LCg.CompEnd _ _ _ _ _ _ _ _ _ _ _ _ _ _));(fail_if_success (with_reducible show UnrEndW _ _ _ _ _ _))); (fail_if_success (with_reducible show wpAny _ _ (subscriptTail _ _ _ _) _ _ _)); (first | (walk1; (all_goals (try dsimp only))) | (dsimp only; walk1) | (leave1; try dsimp only)))))
  rename Fr _ _ _ _ => F3
  rename News _ _ _ _ => N3
  rename IsRange _ _ _ _ _ _ _ _ => hR
  refine Or.inr ⟨_, 0, (ag : Int), _, _, _, ag, _, rfl, rfl, F3, N3, hR, ?s1, ?s2, ?s3, ?s4⟩
  case s1 => exact (smallR ag (by omega)).1
  case s2 => exact (smallR ag (by omega)).2
  case s3 => rw [sizeLine_eq]; omega
  rintro s2 ⟨h2, rfl⟩
  have hlog : s.heap.IsList loa uo.toArray := ⟨_, hlo, rfl, ok, rfl⟩
  have huol := huo.length
  refine compInd (c1J L oc1 oc2 os ag) ?_ ?_ _ _ _ _ ⟨rfl, [], rfl, (fun _ h => nomatch h), .nil⟩
  · rintro i ys news ⟨hki, tl, rfl, htl, hpy⟩ D h tk F N hoff
    obtain rfl : i = ag := by omega

    refine LCg.ListComp_U F rfl (by decide) rfl (by decide) rfl ?_
    (repeat' (first | (k_unfold; (try dsimp only)) | (((fail_if_success (with_reducible show wpAny _ _ (exec (Stmt.For _ _ _ _ _) _) _ _ _));(fail_if_success (with_reducible show wpAny _ _ (exec (Stmt.While _ _ _ _) _) _ _ _));(fail_if_success (with_reducible show wpAny _ _ (exec (Stmt.Assign _ (PySem.Expr.ListComp _ _ _ _) _) _) _ _ _));(fail_if_success (with_reducible show wpAny _ _ (eval (PySem.Expr.ListComp _ _ _ _) _) _ _ _));(fail_if_success (with_reducible show LCg.CompSrc _ _ _ _ _ _ _ _ _ _ _ _ _ _));(fail_if_success (with_reducible show LCg.CompEnd _ _ _ _ _ _ _ _ _ _ _ _ _ _));(fail_if_success (with_reducible show UnrEndW _ _ _ _ _ _))); (fail_if_success (with_reducible show wpAny _ _ (subscriptTail _ _ _ _) _ _ _)); (first | (walk1; (all_goals (try dsimp only))) | (dsimp only; walk1) | (leave1; try dsimp only)))))
    refine Or.inl ⟨loa, uo.toArray, _, rfl, rfl, F, N, .inl hlog, ?z1, ?z2⟩
    case z1 => rw [List.size_toArray, sizeLine_eq]; omega
    rintro s2 ⟨h2, rfl⟩
    refine compInd (c2J L D (LCg.lst ys) oc1 oc2 ys os ((List.range i).map (prAt os))) ?_ ?_ _ _ _ _ ⟨by rw [List.size_toArray]; omega, tl, rfl, htl, hpy, by rw [List.take_zero]; exact .nil⟩
    · rintro k ys2 news ⟨hki2, tl2, rfl, htl2, hpy1, hpy2⟩ D2 h3 tk3 F4 N4 hoff2

      (repeat' (first | (k_unfold; (try dsimp only)) | (((fail_if_success (with_reducible show wpAny _ _ (exec (Stmt.For _ _ _ _ _) _) _ _ _));(fail_if_success (with_reducible show wpAny _ _ (exec (Stmt.While _ _ _ _) _) _ _ _));(fail_if_success (with_reducible show wpAny _ _ (exec (Stmt.Assign _ (PySem.Expr.ListComp _ _ _ _) _) _) _ _ _));(fail_if_success (with_reducible show wpAny _ _ (eval (PySem.Expr.ListComp _ _ _ _) _) _ _ _));(fail_if_success (with_reducible show LCg.CompSrc _ _ _ _ _ _ _ _ _ _ _ _ _ _));(fail_if_success (with_reducible show LCg.CompEnd _ _ _ _ _ _ _ _ _ _ _ _ _ _));(fail_if_success (with_reducible show UnrEndW _ _ _ _ _ _))); (fail_if_success (with_reducible show wpAny _ _ (subscriptTail _ _ _ _) _ _ _)); (first | (walk1; (all_goals (try dsimp only))) | (dsimp only; walk1) | (leave1; try dsimp only)))))
      have hl1 := hpy1.length
      have hl2 := hpy2.length
      simp only [List.length_map, List.length_range, List.length_take] at hl1 hl2
      refine addLists (vs := ys) (ws := ys2) F4 N4 (isL N4 (.tail _ (.head _))) (isL N4 (.head _)) (by omega) ?_
      intro D3 h5 F5 N5 hD3
      (repeat' (first | (k_unfold; (try dsimp only)) | (((fail_if_success (with_reducible show wpAny _ _ (exec (Stmt.For _ _ _ _ _) _) _ _ _));(fail_if_success (with_reducible show wpAny _ _ (exec (Stmt.While _ _ _ _) _) _ _ _));(fail_if_success (with_reducible show wpAny _ _ (exec (Stmt.Assign _ (PySem.Expr.ListComp _ _ _ _) _) _) _ _ _));(fail_if_success (with_reducible show wpAny _ _ (eval (PySem.Expr.ListComp _ _ _ _) _) _ _ _));(fail_if_success (with_reducible show LCg.CompSrc _ _ _ _ _ _ _ _ _ _ _ _ _ _));(fail_if_success (with_reducible show LCg.CompEnd _ _ _ _ _ _ _ _ _ _ _ _ _ _));(fail_if_success (with_reducible show UnrEndW _ _ _ _ _ _))); (fail_if_success (with_reducible show wpAny _ _ (subscriptTail _ _ _ _) _ _ _)); (first | (walk1; (all_goals (try dsimp only))) | (dsimp only; walk1) | (leave1; try dsimp only)))))
      replace N5 := newsSub (b := (D3, _) :: (L + 1 + 1, oc1) :: (L + 1, oc2) :: tl2) N5 (fun q hq => by
        rcases List.mem_cons.mp hq with rfl | hq
        · exact .head _
        · exact .tail _ (.tail _ (.tail _ hq)))
      refine iter_listTurns (vs := ys ++ ys2) rfl F5 N5 (.head _) rfl rfl ?_
      intro I hI
      refine' itemsInd (hdJ ⟨D3, listOf (ys ++ ys2).toArray 0, L, oc2, tl2, lga⟩ I (ys ++ ys2).length rows (headerF rows os i)) ?done ?step _ _ _ ?init
      case init =>
        refine ⟨ys ++ ys2, (List.range i).map (prAt os) ++ os.map dup, Str.ofString "", oc1, none, rfl, rfl, hd1, ?i1, ?i2, rfl, ?i3, rfl, _, rfl⟩
        case i1 =>
          rw [List.take_of_length_le (by omega)] at hpy2
          exact papp hpy1 hpy2
        case i2 =>
          intro p hp
          rcases List.mem_append.mp hp with hp | hp
          · obtain ⟨t, ht, rfl⟩ := List.mem_map.mp hp
            have ht' := List.mem_range.mp ht
            have h9 := prAt_ok (n := (rows.length : Int)) hob (t := t) (by omega)
            omega
          · obtain ⟨o, ho, rfl⟩ := List.mem_map.mp hp
            have h9 := hob o ho
            simp only [dup]
            omega
        case i3 =>
          have h0 : (Str.ofString "").length = 0 := rfl
          rw [h0]
          simp only [List.length_append, List.length_map, List.length_range]
          omega
      case done =>
        intro m1 news1 h6 tk6 hJ3 F6 N6
        refine Classical.byContradiction fun hno4 => ?_
        obtain ⟨vs, ps, hdr, ow, x, hxs, rfl, how, hpy, hps, hfin, hlen, m1a, t1, m1b⟩ := hJ3
        replace F6 := fr_ats [("header", _)] F6 (all1 m1b)
        simp only [kstB] at F6
        refine hno4 ?_
        (repeat' (first | (k_unfold; (try dsimp only)) | (((fail_if_success (with_reducible show wpAny _ _ (exec (Stmt.For _ _ _ _ _) _) _ _ _));(fail_if_success (with_reducible show wpAny _ _ (exec (Stmt.While _ _ _ _) _) _ _ _));(fail_if_success (with_reducible show wpAny _ _ (exec (Stmt.Assign _ (PySem.Expr.ListComp _ _ _ _) _) _) _ _ _));(fail_if_success (with_reducible show wpAny _ _ (eval (PySem.Expr.ListComp _ _ _ _) _) _ _ _));(fail_if_success (with_reducible show LCg.CompSrc _ _ _ _ _ _ _ _ _ _ _ _ _ _));(fail_if_success (with_reducible show LCg.CompEnd _ _ _ _ _ _ _ _ _ _ _ _ _ _));(fail_if_success (with_reducible show UnrEndW _ _ _ _ _ _))); (fail_if_success (with_reducible show wpAny _ _ (subscriptTail _ _ _ _) _ _ _)); (first | (walk1; (all_goals (try dsimp only))) | (dsimp only; walk1) | (leave1; try dsimp only)))))
        cases hpy with
        | cons => simp at hxs
        | nil =>
        obtain rfl : hdr = headerF rows os i := hfin
        exact ret _ _ _ (fun b o e => F6.keep b o e) ⟨t1, rfl⟩
      case step =>
        intro _ r m1 news1 v h tk its hJ5 hv F6 hi N6
        refine Classical.byContradiction fun hno6 => ?_
        obtain ⟨vs, ps, hdr, ow, x, hxs, rfl, how, hpy, hps, hfin, hlen, m1a, t1, m1b⟩ := hJ5
        cases hpy with
        | nil => simp at hxs
        | @cons v1 p1 vs2 ps2 hv1 hpy2 =>
        simp only [List.map_cons, List.cons.injEq] at hxs
        obtain ⟨rfl, rfl⟩ := hxs
        obtain rfl : v = v1 := hv
        obtain ⟨T, t2, t3, kT, rfl, hT⟩ := hv1
        obtain ⟨io, rfl, hio⟩ := objs1 hi
        dsimp only at N6
        replace N6 := show News _ _ _ ((I, io) :: (D3, listOf (ys ++ ys2).toArray 0) :: (L + 1 + 1, ow) :: (L + 1, oc2) :: tl2) from N6
        replace F6 := fr_ats [("grown", _), ("header", _)] F6 (allc m1a (all1 m1b))
        simp only [kstB] at F6
        obtain ⟨⟨hp1a, hp1b⟩, hp2a, hp2b⟩ := hps p1 (.head _)
        have hjl : p1.2.toNat < rows.length := by omega
        have hul := hus.length
        have hlgg : s.heap.IsList lga us.toArray := ⟨_, hla, rfl, lk, rfl⟩
        refine hno6 ?_
        (repeat' (first | (k_unfold; (try dsimp only)) | (((fail_if_success (with_reducible show wpAny _ _ (exec (Stmt.For _ _ _ _ _) _) _ _ _));(fail_if_success (with_reducible show wpAny _ _ (exec (Stmt.While _ _ _ _) _) _ _ _));(fail_if_success (with_reducible show wpAny _ _ (exec (Stmt.Assign _ (PySem.Expr.ListComp _ _ _ _) _) _) _ _ _));(fail_if_success (with_reducible show wpAny _ _ (eval (PySem.Expr.ListComp _ _ _ _) _) _ _ _));(fail_if_success (with_reducible show LCg.CompSrc _ _ _ _ _ _ _ _ _ _ _ _ _ _));(fail_if_success (with_reducible show LCg.CompEnd _ _ _ _ _ _ _ _ _ _ _ _ _ _));(fail_if_success (with_reducible show UnrEndW _ _ _ _ _ _))); (fail_if_success (with_reducible show wpAny _ _ (subscriptTail _ _ _ _) _ _ _)); (first | (walk1; (all_goals (try dsimp only))) | (dsimp only; walk1) | (leave1; try dsimp only)))))
        refine unpackN_ F6 N6 (items := #[.int p1.1 t2, .int p1.2 t3]) ⟨_, (N6 _ (.tail _ (.tail _ (.tail _ (.tail _ hT))))).1, rfl, kT, rfl⟩ rfl rfl rfl ?_
        intro h7 F7 N7
        (repeat' (first | (k_unfold; (try dsimp only)) | (((fail_if_success (with_reducible show wpAny _ _ (exec (Stmt.For _ _ _ _ _) _) _ _ _));(fail_if_success (with_reducible show wpAny _ _ (exec (Stmt.While _ _ _ _) _) _ _ _));(fail_if_success (with_reducible show wpAny _ _ (exec (Stmt.Assign _ (PySem.Expr.ListComp _ _ _ _) _) _) _ _ _));(fail_if_success (with_reducible show wpAny _ _ (eval (PySem.Expr.ListComp _ _ _ _) _) _ _ _));(fail_if_success (with_reducible show LCg.CompSrc _ _ _ _ _ _ _ _ _ _ _ _ _ _));(fail_if_success (with_reducible show LCg.CompEnd _ _ _ _ _ _ _ _ _ _ _ _ _ _));(fail_if_success (with_reducible show UnrEndW _ _ _ _ _ _))); (fail_if_success (with_reducible show wpAny _ _ (subscriptTail _ _ _ _) _ _ _)); (first | (walk1; (all_goals (try dsimp only))) | (dsimp only; walk1) | (leave1; try dsimp only)))))
        refine Classical.byContradiction fun hno7 => ?_
        obtain ⟨vR, hvR, TR, u1, u2, u3, u4, u5, kR, rfl, hTR⟩ := pget hus (List.getElem?_eq_getElem hjl)
        rename Fr _ _ _ _ => F8
        refine hno7 ?_
        refine subL1 (vs := us) (hlgg.at fun o e => F8.keep _ _ e) hp2a (by omega) hvR ?_
        (repeat' (first | (k_unfold; (try dsimp only)) | (((fail_if_success (with_reducible show wpAny _ _ (exec (Stmt.For _ _ _ _ _) _) _ _ _));(fail_if_success (with_reducible show wpAny _ _ (exec (Stmt.While _ _ _ _) _) _ _ _));(fail_if_success (with_reducible show wpAny _ _ (exec (Stmt.Assign _ (PySem.Expr.ListComp _ _ _ _) _) _) _ _ _));(fail_if_success (with_reducible show wpAny _ _ (eval (PySem.Expr.ListComp _ _ _ _) _) _ _ _));(fail_if_success (with_reducible show LCg.CompSrc _ _ _ _ _ _ _ _ _ _ _ _ _ _));(fail_if_success (with_reducible show LCg.CompEnd _ _ _ _ _ _ _ _ _ _ _ _ _ _));(fail_if_success (with_reducible show UnrEndW _ _ _ _ _ _))); (fail_if_success (with_reducible show wpAny _ _ (subscriptTail _ _ _ _) _ _ _)); (first | (walk1; (all_goals (try dsimp only))) | (dsimp only; walk1) | (leave1; try dsimp only)))))
        rename Fr _ _ _ _ => F9
        rename News _ _ _ _ => N9
        refine unpackN_ F9 N9 (items := #[_, _, _, _, _]) ⟨_, F9.keep _ _ hTR, rfl, kR, rfl⟩ rfl rfl rfl ?_
        intro h10 F10 N10
        refine Classical.byContradiction fun hno8 => ?_
        obtain ⟨hh1, hh2⟩ := hrl _ (List.getElem_mem hjl)
        have hrow : rows[p1.2.toNat]? = some rows[p1.2.toNat] := List.getElem?_eq_getElem hjl
        generalize rows[p1.2.toNat] = row at *
        have hne1 : @Ne Nat D3 (L + 1 + 1) := Nat.ne_of_gt (hD3 _ (.tail _ (.tail _ (.head _))))
        have hne2 : @LT.lt Nat _ (L + 1 + 1) I := hI _ (.tail _ (.head _))
        have hne3 : @LT.lt Nat _ D3 I := hI _ (.head _)
        have hne4 : ∀ q ∈ tl2, q.1 ≠ (L + 1 + 1) := fun q hq => Nat.ne_of_gt (htl2 q hq)
        refine hno8 ?_
        (repeat' (first | (k_unfold; (try dsimp only)) | (((fail_if_success (with_reducible show wpAny _ _ (exec (Stmt.For _ _ _ _ _) _) _ _ _));(fail_if_success (with_reducible show wpAny _ _ (exec (Stmt.While _ _ _ _) _) _ _ _));(fail_if_success (with_reducible show wpAny _ _ (exec (Stmt.Assign _ (PySem.Expr.ListComp _ _ _ _) _) _) _ _ _));(fail_if_success (with_reducible show wpAny _ _ (eval (PySem.Expr.ListComp _ _ _ _) _) _ _ _));(fail_if_success (with_reducible show LCg.CompSrc _ _ _ _ _ _ _ _ _ _ _ _ _ _));(fail_if_success (with_reducible show LCg.CompEnd _ _ _ _ _ _ _ _ _ _ _ _ _ _));(fail_if_success (with_reducible show UnrEndW _ _ _ _ _ _))); (fail_if_success (with_reducible show wpAny _ _ (subscriptTail _ _ _ _) _ _ _)); (first | (walk1; (all_goals (try dsimp only))) | (dsimp only; walk1) | (leave1; try dsimp only)))))
        rename Fr _ _ _ _ => F11
        rename News _ _ _ _ => N11
        replace N11 := newsSub (b := (I, io) :: (D3, listOf (ys ++ ys2).toArray 0) :: (L + 1 + 1, ow) :: (L + 1, oc2) :: tl2) N11 (fun _ h => .tail _ h)
        refine storeX_C (c := L + 1 + 1) (o := ow) F11 N11 rfl (.tail (Nat.ne_of_gt hne2) (.tail hne1 (.head (allc (Nat.ne_of_lt (Nat.lt_succ_self _)) hne4)))) how ?_
        intro h12 ow2 F12 N12 how2
        clear N11 F11
        (repeat' (first | (k_unfold; (try dsimp only)) | (((fail_if_success (with_reducible show wpAny _ _ (exec (Stmt.For _ _ _ _ _) _) _ _ _));(fail_if_success (with_reducible show wpAny _ _ (exec (Stmt.While _ _ _ _) _) _ _ _));(fail_if_success (with_reducible show wpAny _ _ (exec (Stmt.Assign _ (PySem.Expr.ListComp _ _ _ _) _) _) _ _ _));(fail_if_success (with_reducible show wpAny _ _ (eval (PySem.Expr.ListComp _ _ _ _) _) _ _ _));(fail_if_success (with_reducible show LCg.CompSrc _ _ _ _ _ _ _ _ _ _ _ _ _ _));(fail_if_success (with_reducible show LCg.CompEnd _ _ _ _ _ _ _ _ _ _ _ _ _ _));(fail_if_success (with_reducible show UnrEndW _ _ _ _ _ _))); (fail_if_success (with_reducible show wpAny _ _ (subscriptTail _ _ _ _) _ _ _)); (fail_if_success (with_reducible show wpAny _ _ (exec (Stmt.If _ _ _ _) _) _ _ _)); (first | (walk1; (all_goals (try dsimp only))) | (dsimp only; walk1) | (leave1; try dsimp only)))))
        rename Fr _ _ _ _ => F13
        rename News _ _ _ _ => N13
        refine cutPlace (placeF ((row.look.fdiv 2).fmod 3) (row.host ++ row.path)) F13 N13 ?if1 ?rest1
        case rest1 =>
          intro f s1 hJ9
          refine Classical.byContradiction fun hno10 => ?_
          obtain ⟨rfl, m', h20, tk20, t20, rfl, F20, N20, hm1, hm3⟩ := hJ9
          replace F20 := fr_ats [("place", _), ("look", _), ("i", _), ("header", _), ("grown", _)] F20 (allc hm1 (allc ((hm3 (Str.ofString "look") (by decide)).trans rfl) (allc ((hm3 (Str.ofString "i") (by decide)).trans rfl) (allc ((hm3 (Str.ofString "header") (by decide)).trans rfl) (all1 ((hm3 (Str.ofString "grown") (by decide)).trans rfl))))))
          simp only [kstB] at F20
          clear hm1 hm3 F13 N13
          have hz : hdr.length + 1000 ≤ 10000 := by
            have h9 := hlen
            simp only [List.length_append, List.length_cons] at h9
            omega
          have hpl := placeF_len ((row.look.fdiv 2).fmod 3) (row.host ++ row.path)
          refine hno10 ?_
          (repeat' (first | (k_unfold; (try dsimp only)) | (((fail_if_success (with_reducible show wpAny _ _ (exec (Stmt.For _ _ _ _ _) _) _ _ _));(fail_if_success (with_reducible show wpAny _ _ (exec (Stmt.While _ _ _ _) _) _ _ _));(fail_if_success (with_reducible show wpAny _ _ (exec (Stmt.Assign _ (PySem.Expr.ListComp _ _ _ _) _) _) _ _ _));(fail_if_success (with_reducible show wpAny _ _ (eval (PySem.Expr.ListComp _ _ _ _) _) _ _ _));(fail_if_success (with_reducible show LCg.CompSrc _ _ _ _ _ _ _ _ _ _ _ _ _ _));(fail_if_success (with_reducible show LCg.CompEnd _ _ _ _ _ _ _ _ _ _ _ _ _ _));(fail_if_success (with_reducible show UnrEndW _ _ _ _ _ _))); (fail_if_success (with_reducible show wpAny _ _ (subscriptTail _ _ _ _) _ _ _)); (first | (walk1; (all_goals (try dsimp only))) | (dsimp only; walk1) | (leave1; try dsimp only)))))
          · rename News _ _ _ _ => N21
            rename Fr _ _ _ _ => F21
            refine Classical.byContradiction fun hno11 => ?_
            obtain ⟨hl4, hl5⟩ := (fdiv_fmod_facts (row.look.fdiv 6) 2).2.2.1 (by decide)
            refine hno11 ?_
            refine subS (ws := [Str.ofString ", ", Str.ofString ","]) (isL N21 (.head _)) ?_ hl4 (show _ < ((2 : Nat) : Int) by omega) (by omega) ?_
            · exact .cons ⟨_, rfl⟩ (.cons ⟨_, rfl⟩ .nil)
            intro sep tsep hsep
            have hsepl : sep.length ≤ 2 := by
              have h9 := List.mem_of_getElem? hsep
              simp only [List.mem_cons, List.not_mem_nil, or_false] at h9
              rcases h9 with rfl | rfl <;> decide
            (repeat' (first | (k_unfold; (try dsimp only)) | (((fail_if_success (with_reducible show wpAny _ _ (exec (Stmt.For _ _ _ _ _) _) _ _ _));(fail_if_success (with_reducible show wpAny _ _ (exec (Stmt.While _ _ _ _) _) _ _ _));(fail_if_success (with_reducible show wpAny _ _ (exec (Stmt.Assign _ (PySem.Expr.ListComp _ _ _ _) _) _) _ _ _));(fail_if_success (with_reducible show wpAny _ _ (eval (PySem.Expr.ListComp _ _ _ _) _) _ _ _));(fail_if_success (with_reducible show LCg.CompSrc _ _ _ _ _ _ _ _ _ _ _ _ _ _));(fail_if_success (with_reducible show LCg.CompEnd _ _ _ _ _ _ _ _ _ _ _ _ _ _));(fail_if_success (with_reducible show UnrEndW _ _ _ _ _ _))); (fail_if_success (with_reducible show wpAny _ _ (subscriptTail _ _ _ _) _ _ _)); (first | (walk1; (all_goals (try dsimp only))) | (dsimp only; walk1) | (leave1; try dsimp only)))))
            rename Fr _ _ _ _ => F22
            rename News _ _ _ _ => N22
            refine hdEnd (x := sep) F22 N22 (fun q hq => .tail _ hq) hI hrow ?_ how2 hpy2 hps hfin hlen hh1 hh2 rfl rfl
            rename (_ ≠ 0) => hnz
            exact sep1 hnz hsep
          · rename Fr _ _ _ _ => F22
            rename News _ _ _ _ => N22
            rename ((_ : Int) = 0) => hz0
            refine hdEnd (x := Str.ofString "") F22 N22 (fun q hq => hq) hI hrow ?_ how2 hpy2 hps hfin hlen hh1 hh2 rfl rfl
            exact sep0 hz0
        case if1 =>
          walk1
          refine cutTest ((row.look.fdiv 2).fmod 3 ≠ 2 ∨ hasF (row.host ++ row.path) (Str.ofString ",") ∨ hasF (row.host ++ row.path) (Str.ofString "\"")) ?te ?yes ?no
          case te =>
            (repeat' (first | (k_unfold; (try dsimp only)) | (((fail_if_success (with_reducible show wpAny _ _ (exec (Stmt.For _ _ _ _ _) _) _ _ _));(fail_if_success (with_reducible show wpAny _ _ (exec (Stmt.While _ _ _ _) _) _ _ _));(fail_if_success (with_reducible show wpAny _ _ (exec (Stmt.Assign _ (PySem.Expr.ListComp _ _ _ _) _) _) _ _ _));(fail_if_success (with_reducible show wpAny _ _ (eval (PySem.Expr.ListComp _ _ _ _) _) _ _ _));(fail_if_success (with_reducible show LCg.CompSrc _ _ _ _ _ _ _ _ _ _ _ _ _ _));(fail_if_success (with_reducible show LCg.CompEnd _ _ _ _ _ _ _ _ _ _ _ _ _ _));(fail_if_success (with_reducible show UnrEndW _ _ _ _ _ _))); (fail_if_success (with_reducible show wpAny _ _ (subscriptTail _ _ _ _) _ _ _)); (first | (walk1; (all_goals (try dsimp only))) | (dsimp only; walk1) | (leave1; try dsimp only)))))
            · exact tpT (.inl (by assumption))
            · exact tpF (by
                intro h
                rcases h with h | h | h
                · exact h (by assumption)
                · exact notHas (by assumption) h
                · exact notHas (by assumption) h)
            · exact tpT (.inr (.inr (by assumption)))
            · exact tpT (.inr (.inl (by assumption)))
          case no =>
            intro hno tk
            (repeat' (first | (k_unfold; (try dsimp only)) | (((fail_if_success (with_reducible show wpAny _ _ (exec (Stmt.For _ _ _ _ _) _) _ _ _));(fail_if_success (with_reducible show wpAny _ _ (exec (Stmt.While _ _ _ _) _) _ _ _));(fail_if_success (with_reducible show wpAny _ _ (exec (Stmt.Assign _ (PySem.Expr.ListComp _ _ _ _) _) _) _ _ _));(fail_if_success (with_reducible show wpAny _ _ (eval (PySem.Expr.ListComp _ _ _ _) _) _ _ _));(fail_if_success (with_reducible show LCg.CompSrc _ _ _ _ _ _ _ _ _ _ _ _ _ _));(fail_if_success (with_reducible show LCg.CompEnd _ _ _ _ _ _ _ _ _ _ _ _ _ _));(fail_if_success (with_reducible show UnrEndW _ _ _ _ _ _))); (fail_if_success (with_reducible show wpAny _ _ (subscriptTail _ _ _ _) _ _ _)); (first | (walk1; (all_goals (try dsimp only))) | (dsimp only; walk1) | (leave1; try dsimp only)))))
            rename Fr _ _ _ _ => F14
            rename News _ _ _ _ => N14
            exact PlacePost.of F14 N14 (fun _ h => h) (if_neg hno).symm rfl (fun y e1 => rfl)
          case yes =>
            intro hyes tk
            (repeat' (first | (k_unfold; (try dsimp only)) | (((fail_if_success (with_reducible show wpAny _ _ (exec (Stmt.For _ _ _ _ _) _) _ _ _));(fail_if_success (with_reducible show wpAny _ _ (exec (Stmt.While _ _ _ _) _) _ _ _));(fail_if_success (with_reducible show wpAny _ _ (exec (Stmt.Assign _ (PySem.Expr.ListComp _ _ _ _) _) _) _ _ _));(fail_if_success (with_reducible show wpAny _ _ (eval (PySem.Expr.ListComp _ _ _ _) _) _ _ _));(fail_if_success (with_reducible show LCg.CompSrc _ _ _ _ _ _ _ _ _ _ _ _ _ _));(fail_if_success (with_reducible show LCg.CompEnd _ _ _ _ _ _ _ _ _ _ _ _ _ _));(fail_if_success (with_reducible show UnrEndW _ _ _ _ _ _))); (fail_if_success (with_reducible show wpAny _ _ (subscriptTail _ _ _ _) _ _ _)); (first | (walk1; (all_goals (try dsimp only))) | (dsimp only; walk1) | (leave1; try dsimp only)))))
            rename Fr _ _ _ _ => F14
            rename News _ _ _ _ => N14
            have hps : (row.host ++ row.path).cps.size ≤ 300 := by
              have : (row.host ++ row.path).cps.size = (row.host ++ row.path).length := rfl
              omega
            refine compStr (y := row.host ++ row.path) (cl := [(Str.ofString "way", L + 1 + 1)]) (signF ((row.look.fdiv 2).fmod 3)) rfl F14 N14 (by omega) rfl (by decide) rfl (by decide) rfl ?_ ?_ ?_
            · intro Q' q; (repeat' (first | (k_unfold; (try dsimp only)) | (((fail_if_success (with_reducible show wpAny _ _ (exec (Stmt.For _ _ _ _ _) _) _ _ _));(fail_if_success (with_reducible show wpAny _ _ (exec (Stmt.While _ _ _ _) _) _ _ _));(fail_if_success (with_reducible show wpAny _ _ (exec (Stmt.Assign _ (PySem.Expr.ListComp _ _ _ _) _) _) _ _ _));(fail_if_success (with_reducible show wpAny _ _ (eval (PySem.Expr.ListComp _ _ _ _) _) _ _ _));(fail_if_success (with_reducible show LCg.CompSrc _ _ _ _ _ _ _ _ _ _ _ _ _ _));(fail_if_success (with_reducible show LCg.CompEnd _ _ _ _ _ _ _ _ _ _ _ _ _ _));(fail_if_success (with_reducible show UnrEndW _ _ _ _ _ _))); (fail_if_success (with_reducible show wpAny _ _ (subscriptTail _ _ _ _) _ _ _)); (first | (walk1; (all_goals (try dsimp only))) | (dsimp only; walk1) | (leave1; try dsimp only))))); exact q _
            · intro C c u s3 m3 E3 hx3 F15 N15
              replace F15 := fr_at (k := "c") F15 hx3
              have hsl : (sgn c).length = 1 := rfl
              (repeat' (first | (k_unfold; (try dsimp only)) | (((fail_if_success (with_reducible show wpAny _ _ (exec (Stmt.For _ _ _ _ _) _) _ _ _));(fail_if_success (with_reducible show wpAny _ _ (exec (Stmt.While _ _ _ _) _) _ _ _));(fail_if_success (with_reducible show wpAny _ _ (exec (Stmt.Assign _ (PySem.Expr.ListComp _ _ _ _) _) _) _ _ _));(fail_if_success (with_reducible show wpAny _ _ (eval (PySem.Expr.ListComp _ _ _ _) _) _ _ _));(fail_if_success (with_reducible show LCg.CompSrc _ _ _ _ _ _ _ _ _ _ _ _ _ _));(fail_if_success (with_reducible show LCg.CompEnd _ _ _ _ _ _ _ _ _ _ _ _ _ _));(fail_if_success (with_reducible show UnrEndW _ _ _ _ _ _))); (fail_if_success (with_reducible show wpAny _ _ (subscriptTail _ _ _ _) _ _ _)); (first | (walk1; (all_goals (try dsimp only))) | (dsimp only; walk1) | (leave1; try dsimp only)))))
              all_goals first
                | exact L
                | exact sgn c
                | exact Value.none
                | exact ([] : List (Str × Addr))
                | exact ⟨_, _, rfl, fun _ _ e => e⟩
                | exact signF1 (by assumption)
                | exact signF2 (by assumption)
                | exact signF3 (by assumption) (by assumption)
            · intro D4 h16 tk16 k16 ys4 hc4 hne16 F16 N16
              (repeat' (first | (k_unfold; (try dsimp only)) | (((fail_if_success (with_reducible show wpAny _ _ (exec (Stmt.For _ _ _ _ _) _) _ _ _));(fail_if_success (with_reducible show wpAny _ _ (exec (Stmt.While _ _ _ _) _) _ _ _));(fail_if_success (with_reducible show wpAny _ _ (exec (Stmt.Assign _ (PySem.Expr.ListComp _ _ _ _) _) _) _ _ _));(fail_if_success (with_reducible show wpAny _ _ (eval (PySem.Expr.ListComp _ _ _ _) _) _ _ _));(fail_if_success (with_reducible show LCg.CompSrc _ _ _ _ _ _ _ _ _ _ _ _ _ _));(fail_if_success (with_reducible show LCg.CompEnd _ _ _ _ _ _ _ _ _ _ _ _ _ _));(fail_if_success (with_reducible show UnrEndW _ _ _ _ _ _))); (fail_if_success (with_reducible show wpAny _ _ (call (Value.builtin "str.join") _) _ _ _)); (first | (walk1; (all_goals (try dsimp only))) | (dsimp only; walk1) | (leave1; try dsimp only)))))
              refine join_madeW (l := (row.host ++ row.path).cps.toList) (g := signF ((row.look.fdiv 2).fmod 3)) 2 (isL N16 (.head _)) hc4 (fun a _ => signF_len _ a) (by rw [Array.length_toList]; omega) (by decide) ?_
              intro t17 k17
              have hjl := joinLen 2 (row.host ++ row.path).cps.toList (signF ((row.look.fdiv 2).fmod 3)) (fun a _ => signF_len _ a)
              rw [Array.length_toList] at hjl
              (repeat' (first | (k_unfold; (try dsimp only)) | (((fail_if_success (with_reducible show wpAny _ _ (exec (Stmt.For _ _ _ _ _) _) _ _ _));(fail_if_success (with_reducible show wpAny _ _ (exec (Stmt.While _ _ _ _) _) _ _ _));(fail_if_success (with_reducible show wpAny _ _ (exec (Stmt.Assign _ (PySem.Expr.ListComp _ _ _ _) _) _) _ _ _));(fail_if_success (with_reducible show wpAny _ _ (eval (PySem.Expr.ListComp _ _ _ _) _) _ _ _));(fail_if_success (with_reducible show LCg.CompSrc _ _ _ _ _ _ _ _ _ _ _ _ _ _));(fail_if_success (with_reducible show LCg.CompEnd _ _ _ _ _ _ _ _ _ _ _ _ _ _));(fail_if_success (with_reducible show UnrEndW _ _ _ _ _ _))); (fail_if_success (with_reducible show wpAny _ _ (subscriptTail _ _ _ _) _ _ _)); (first | (walk1; (all_goals (try dsimp only))) | (dsimp only; walk1) | (leave1; try dsimp only)))))
              rename Fr _ _ _ _ => F18
              rename News _ _ _ _ => N18
              exact PlacePost.of F18 N18 (fun _ h => .tail _ h) (if_pos hyes).symm rfl (fun y e1 => by simp only [if_neg e1])
    · rintro k j ys2 news v I oI C oC D2 m₂ h3 tk3 E' ⟨hki2, tl2, rfl, htl2, hpy1, hpy2⟩ hv hO hx F4 N4 hoff2 hne
      have hj : j < os.length := by omega
      refine Classical.byContradiction fun hno12 => ?_
      obtain ⟨t1, hx1⟩ := pgetI huo hj
      rw [show os.getD j 0 = os[j] by rw [List.getD_eq_getElem?_getD, List.getElem?_eq_getElem hj]; rfl] at hx1
      obtain rfl : v = .int os[j] t1 := by
        have hv' : uo[j]? = some v := by simpa using hv
        rw [hx1] at hv'; exact (Option.some.inj hv').symm
      refine hno12 ?_
      (repeat' (first | (k_unfold; (try dsimp only)) | (((fail_if_success (with_reducible show wpAny _ _ (exec (Stmt.For _ _ _ _ _) _) _ _ _));(fail_if_success (with_reducible show wpAny _ _ (exec (Stmt.While _ _ _ _) _) _ _ _));(fail_if_success (with_reducible show wpAny _ _ (exec (Stmt.Assign _ (PySem.Expr.ListComp _ _ _ _) _) _) _ _ _));(fail_if_success (with_reducible show wpAny _ _ (eval (PySem.Expr.ListComp _ _ _ _) _) _ _ _));(fail_if_success (with_reducible show LCg.CompSrc _ _ _ _ _ _ _ _ _ _ _ _ _ _));(fail_if_success (with_reducible show LCg.CompEnd _ _ _ _ _ _ _ _ _ _ _ _ _ _));(fail_if_success (with_reducible show UnrEndW _ _ _ _ _ _))); (fail_if_success (with_reducible show wpAny _ _ (subscriptTail _ _ _ _) _ _ _)); (first | (walk1; (all_goals (try dsimp only))) | (dsimp only; walk1) | (leave1; try dsimp only)))))
      rename Fr _ _ _ _ => F6
      rename News _ _ _ _ => N6
      refine pairEnd3 F6 N6 hoff2 ?_ ?_ ?_ (.inl hlog) ⟨by omega, _, rfl, allc ?_ htl2, pmono hpy1 fun _ _ => isPair.mono fun _ _ h => .tail _ h, ?_⟩
      · omega
      · omega
      · omega
      · show @LT.lt Nat _ _ _
        omega
      · rw [List.take_add_one, List.getElem?_eq_getElem hj, List.map_append]
        exact Paired.snoc (pmono hpy2 fun _ _ => isPair.mono fun _ _ h => .tail _ h) ⟨_, _, _, _, rfl, .head _⟩
  · rintro k i ys news v I oI C oC D m₂ h tk E' ⟨hki, tl, rfl, htl, hpy⟩ hv hO hx F N hoff hne
    refine Classical.byContradiction fun hno13 => ?_
    obtain ⟨t, rfl⟩ := hv
    rw [show (0 : Int) + (i : Int) = (i : Int) by omega] at hx
    refine hno13 ?_
    (repeat' (first | (k_unfold; (try dsimp only)) | (((fail_if_success (with_reducible show wpAny _ _ (exec (Stmt.For _ _ _ _ _) _) _ _ _));(fail_if_success (with_reducible show wpAny _ _ (exec (Stmt.While _ _ _ _) _) _ _ _));(fail_if_success (with_reducible show wpAny _ _ (exec (Stmt.Assign _ (PySem.Expr.ListComp _ _ _ _) _) _) _ _ _));(fail_if_success (with_reducible show wpAny _ _ (eval (PySem.Expr.ListComp _ _ _ _) _) _ _ _));(fail_if_success (with_reducible show LCg.CompSrc _ _ _ _ _ _ _ _ _ _ _ _ _ _));(fail_if_success (with_reducible show LCg.CompEnd _ _ _ _ _ _ _ _ _ _ _ _ _ _));(fail_if_success (with_reducible show UnrEndW _ _ _ _ _ _))); (fail_if_success (with_reducible show wpAny _ _ (subscriptTail _ _ _ _) _ _ _)); (first | (walk1; (all_goals (try dsimp only))) | (dsimp only; walk1) | (leave1; try dsimp only)))))
    refine Classical.byContradiction fun hno14 => ?_
    obtain ⟨t1, hx1⟩ := pgetI huo (i := i) (by omega)
    rename Fr _ _ _ _ => F5
    refine hno14 ?_
    refine subL1 (vs := uo) (hlog.at fun o e => F5.keep _ _ e) (by omega) (by omega) hx1 ?_
    (repeat' (first | (k_unfold; (try dsimp only)) | (((fail_if_success (with_reducible show wpAny _ _ (exec (Stmt.For _ _ _ _ _) _) _ _ _));(fail_if_success (with_reducible show wpAny _ _ (exec (Stmt.While _ _ _ _) _) _ _ _));(fail_if_success (with_reducible show wpAny _ _ (exec (Stmt.Assign _ (PySem.Expr.ListComp _ _ _ _) _) _) _ _ _));(fail_if_success (with_reducible show wpAny _ _ (eval (PySem.Expr.ListComp _ _ _ _) _) _ _ _));(fail_if_success (with_reducible show LCg.CompSrc _ _ _ _ _ _ _ _ _ _ _ _ _ _));(fail_if_success (with_reducible show LCg.CompEnd _ _ _ _ _ _ _ _ _ _ _ _ _ _));(fail_if_success (with_reducible show UnrEndW _ _ _ _ _ _))); (fail_if_success (with_reducible show wpAny _ _ (subscriptTail _ _ _ _) _ _ _)); (first | (walk1; (all_goals (try dsimp only))) | (dsimp only; walk1) | (leave1; try dsimp only)))))
    refine subPrev (hlog.at fun o e => F5.keep _ _ e) huo (by omega) (by omega) ?_
    intro t2
    (repeat' (first | (k_unfold; (try dsimp only)) | (((fail_if_success (with_reducible show wpAny _ _ (exec (Stmt.For _ _ _ _ _) _) _ _ _));(fail_if_success (with_reducible show wpAny _ _ (exec (Stmt.While _ _ _ _) _) _ _ _));(fail_if_success (with_reducible show wpAny _ _ (exec (Stmt.Assign _ (PySem.Expr.ListComp _ _ _ _) _) _) _ _ _));(fail_if_success (with_reducible show wpAny _ _ (eval (PySem.Expr.ListComp _ _ _ _) _) _ _ _));(fail_if_success (with_reducible show LCg.CompSrc _ _ _ _ _ _ _ _ _ _ _ _ _ _));(fail_if_success (with_reducible show LCg.CompEnd _ _ _ _ _ _ _ _ _ _ _ _ _ _));(fail_if_success (with_reducible show UnrEndW _ _ _ _ _ _))); (fail_if_success (with_reducible show wpAny _ _ (subscriptTail _ _ _ _) _ _ _)); (first | (walk1; (all_goals (try dsimp only))) | (dsimp only; walk1) | (leave1; try dsimp only)))))
    rename Fr _ _ _ _ => F6
    rename News _ _ _ _ => N6
    refine pairEnd F6 N6 hoff ?_ ?_ ?_ trivial ⟨by omega, _, rfl, allc ?_ htl, ?_⟩
    · omega
    · omega
    · omega
    · show @LT.lt Nat _ _ _
      omega
    · rw [List.range_succ, List.map_append]
      exact Paired.snoc (pmono hpy fun _ _ => isPair.mono fun _ _ h => .tail _ h) ⟨_, _, _, _, rfl, .head _⟩
end
section
open PySem PySem.W PySem.Calls PyProof.Rows
/-- Spec with less room asked -/
def SpecS (w : World) (f : Addr) (vs : List Value) (pre : Heap → Prop) (post : Heap → Value → Prop) : Prop :=
  ∀ (dp un : Nat) (fr : Option (List Env)) (gd : Option (List Code)) (s : Shared) (Q E : Value → Shared → Prop),
    (hd.heap_39 w.params).In s.heap → TopX s.heap → dp + 4 < recursionLimit → un + 60 < cLine → pre s.heap →
    (∀ r h' tk', Keep s.heap h' → post h' r → Q r { s with heap := h', toks := tk' }) →
    wpAny (model PySem.Challenge.rw_rl0160_01.prog w) (AR dp un fr gd) (call (.ref f) vs) Q E s
theorem eqTup2 {prog : Program} {w : World} {A : Around} {E : Value → Shared → Prop} {s : Shared} {B T : Addr} {a b : Str × Str} {ta tb ua ub : Tok} {k n : Nat} {Q : Value → Shared → Prop}
    (hB : s.heap.get? B = some { cls := .type "tuple", data := .seq [.str a.1 ta, .str a.2 tb].toArray k }) (hT : s.heap.get? T = some { cls := .type "tuple", data := .seq [.str b.1 ua, .str b.2 ub].toArray n })
    (hu : A.units < cLine) (h : Q (.bool (decide (a = b))) s) : wpAny (model prog w) A (compareOp .Eq (.ref B) (.ref T)) Q E s := by
  refine SeqAt.eq_tupleAt (items := #[.str a.1 ta, .str a.2 tb]) (items2 := #[.str b.1 ua, .str b.2 ub]) ⟨_, hB, rfl, k, rfl⟩ ⟨_, hT, rfl, n, rfl⟩ hu (e := fun j => if j = 0 then a.1 == b.1 else a.2 == b.2) ?_ ?_
  · intro j h1 h2
    have h1' : j < 2 := h1
    obtain rfl | rfl : j = 0 ∨ j = 1 := by omega
    · exact SeqAt.EqAt.str_str _ _ _ _
    · exact SeqAt.EqAt.str_str _ _ _ _
  · have e : ((List.range (min (#[Value.str a.1 ta, .str a.2 tb]).size (#[Value.str b.1 ua, .str b.2 ub]).size)).all (fun j => if j = 0 then a.1 == b.1 else a.2 == b.2) && (#[Value.str a.1 ta, .str a.2 tb]).size == (#[Value.str b.1 ua, .str b.2 ub]).size) = decide (a = b) := by
      show ((List.range 2).all _ && true) = _
      rw [Bool.eq_iff_iff]
      simp only [List.range, List.range.loop, List.all_cons, List.all_nil, Bool.and_true, Bool.and_eq_true, decide_eq_true_eq, if_true, beq_iff_eq]
      constructor
      · rintro ⟨h1, h2⟩; exact Prod.ext h1 (by simpa using h2)
      · rintro rfl; exact ⟨rfl, by simp⟩
    rw [e]; exact h
def suburiF (b t : Str × Str) : Bool := if b = t then true else if b.1 ≠ t.1 then false else if (Txt.slice b.2 (some (-1)) none != Str.ofString "/") = true then Txt.startswith t.2 (b.2 ++ Str.ofString "/") else Txt.startswith t.2 b.2
theorem sub_t (w : World) (self b t : Value) (pb pt : Str × Str) (hl1 : pb.1.length ≤ 1000) (hl2 : pb.2.length ≤ 1000) (hl3 : pt.1.length ≤ 1000) (hl4 : pt.2.length ≤ 1000) :
    SpecS w 64 [self, b, t] (fun g => isTup2 (fun a o => g.get? a = some o) b pb ∧ isTup2 (fun a o => g.get? a = some o) t pt) (fun h r => r = .bool (suburiF pb pt)) := by
  intro dp un fr gd s Q E
  w_top off
  k_fill
  intro X T hd hu hpre ret
  refine Classical.byContradiction fun hno1 => ?_
  obtain ⟨⟨B, tb1, tb2, kb, rfl, hB⟩, ⟨T', tt1, tt2, kt, rfl, hT⟩⟩ := hpre
  refine hno1 ?_
  (refine' enterP (args := ⟨_, []⟩) ?k1 ?k2 ?k3 ?k4 ?k5 ?k6 ?k7 ?k8 ?_ ?c2 ?c3 ?c4 ?c5; (case k1 => assumption); (case k2 => assumption); (case k3 => (simp only [recursionLimit] at *; omega)); (case k4 => k_is); (case k5 => k_is); (case k6 => exact BindsTo.of_eq rfl); (case c5 => decide); (case k7 => exact locs rfl); (case c2 => exact rfl); (case c3 => exact rfl); (case c4 => exact rfl))
  case k8 => with_unfolding_all exact (rfl : _ = fun y => List.lookup y [(Str.ofString "test", Value.ref T'), (Str.ofString "base", Value.ref B), (Str.ofString "self", self)])
  intro g L h1 mean mg mb hg F1 N1 X1 T1
  clear X T
  subst hg
  rw [look3] at F1
  (repeat' (first | (k_unfold; (try dsimp only)) | (((fail_if_success (with_reducible show wpAny _ _ (exec (Stmt.For _ _ _ _ _) _) _ _ _));(fail_if_success (with_reducible show wpAny _ _ (exec (Stmt.While _ _ _ _) _) _ _ _));(fail_if_success (with_reducible show wpAny _ _ (exec (Stmt.Assign _ (PySem.Expr.ListComp _ _ _ _) _) _) _ _ _));(fail_if_success (with_reducible show wpAny _ _ (eval (PySem.Expr.ListComp _ _ _ _) _) _ _ _));(fail_if_success (with_reducible show LCg.CompSrc _ _ _ _ _ _ _ _ _ _ _ _ _ _));(fail_if_success (with_reducible show LCg.CompEnd _ _ _ _ _ _ _ _ _ _ _ _ _ _));(fail_if_success (with_reducible show UnrEndW _ _ _ _ _ _))); (fail_if_success (with_reducible show wpAny _ _ (subscriptTail _ _ _ _) _ _ _)); (first | (walk1; (all_goals (try dsimp only))) | (dsimp only; walk1) | (leave1; try dsimp only)))))
  refine eqTup2 (F1.keep _ _ hB) (F1.keep _ _ hT) (by simp only [Around.deeper]; omega) ?_
  (repeat' (first | (k_unfold; (try dsimp only)) | (((fail_if_success (with_reducible show wpAny _ _ (exec (Stmt.For _ _ _ _ _) _) _ _ _));(fail_if_success (with_reducible show wpAny _ _ (exec (Stmt.While _ _ _ _) _) _ _ _));(fail_if_success (with_reducible show wpAny _ _ (exec (Stmt.Assign _ (PySem.Expr.ListComp _ _ _ _) _) _) _ _ _));(fail_if_success (with_reducible show wpAny _ _ (eval (PySem.Expr.ListComp _ _ _ _) _) _ _ _));(fail_if_success (with_reducible show LCg.CompSrc _ _ _ _ _ _ _ _ _ _ _ _ _ _));(fail_if_success (with_reducible show LCg.CompEnd _ _ _ _ _ _ _ _ _ _ _ _ _ _));(fail_if_success (with_reducible show UnrEndW _ _ _ _ _ _))); (fail_if_success (with_reducible show wpAny _ _ (subscriptTail _ _ _ _) _ _ _)); (first | (walk1; (all_goals (try dsimp only))) | (dsimp only; walk1) | (leave1; try dsimp only)))))
  · exact ret _ _ _ F1.keep (by rename (pb = pt) => e; unfold suburiF; rw [if_pos e])
  rename (¬ pb = pt) => hne
  refine subT (vs := [_, _]) ⟨_, F1.keep _ _ hB, rfl, kb, rfl⟩ (by decide) (show (_ : Int) < ((2 : Nat) : Int) by decide) (by decide) rfl ?_
  (repeat' (first | (k_unfold; (try dsimp only)) | (((fail_if_success (with_reducible show wpAny _ _ (exec (Stmt.For _ _ _ _ _) _) _ _ _));(fail_if_success (with_reducible show wpAny _ _ (exec (Stmt.While _ _ _ _) _) _ _ _));(fail_if_success (with_reducible show wpAny _ _ (exec (Stmt.Assign _ (PySem.Expr.ListComp _ _ _ _) _) _) _ _ _));(fail_if_success (with_reducible show wpAny _ _ (eval (PySem.Expr.ListComp _ _ _ _) _) _ _ _));(fail_if_success (with_reducible show LCg.CompSrc _ _ _ _ _ _ _ _ _ _ _ _ _ _));(fail_if_success (with_reducible show LCg.CompEnd _ _ _ _ _ _ _ _ _ _ _ _ _ _));(fail_if_success (with_reducible show UnrEndW _ _ _ _ _ _))); (fail_if_success (with_reducible show wpAny _ _ (subscriptTail _ _ _ _) _ _ _)); (first | (walk1; (all_goals (try dsimp only))) | (dsimp only; walk1) | (leave1; try dsimp only)))))
  refine subT (vs := [_, _]) ⟨_, F1.keep _ _ hT, rfl, kt, rfl⟩ (by decide) (show (_ : Int) < ((2 : Nat) : Int) by decide) (by decide) rfl ?_
  (repeat' (first | (k_unfold; (try dsimp only)) | (((fail_if_success (with_reducible show wpAny _ _ (exec (Stmt.For _ _ _ _ _) _) _ _ _));(fail_if_success (with_reducible show wpAny _ _ (exec (Stmt.While _ _ _ _) _) _ _ _));(fail_if_success (with_reducible show wpAny _ _ (exec (Stmt.Assign _ (PySem.Expr.ListComp _ _ _ _) _) _) _ _ _));(fail_if_success (with_reducible show wpAny _ _ (eval (PySem.Expr.ListComp _ _ _ _) _) _ _ _));(fail_if_success (with_reducible show LCg.CompSrc _ _ _ _ _ _ _ _ _ _ _ _ _ _));(fail_if_success (with_reducible show LCg.CompEnd _ _ _ _ _ _ _ _ _ _ _ _ _ _));(fail_if_success (with_reducible show UnrEndW _ _ _ _ _ _))); (fail_if_success (with_reducible show wpAny _ _ (subscriptTail _ _ _ _) _ _ _)); (first | (walk1; (all_goals (try dsimp only))) | (dsimp only; walk1) | (leave1; try dsimp only)))))
  · exact ret _ _ _ F1.keep (by rename (_ = true) => e; unfold suburiF; rw [if_neg hne, if_pos (by simpa using e)])
  rename ((_ : Bool) = false) => heq
  have heq' : pb.1 = pt.1 := by simpa using heq
  refine subT (vs := [_, _]) ⟨_, F1.keep _ _ hB, rfl, kb, rfl⟩ (by decide) (show (_ : Int) < ((2 : Nat) : Int) by decide) (by decide) rfl ?_
  (repeat' (first | (k_unfold; (try dsimp only)) | (((fail_if_success (with_reducible show wpAny _ _ (exec (Stmt.For _ _ _ _ _) _) _ _ _));(fail_if_success (with_reducible show wpAny _ _ (exec (Stmt.While _ _ _ _) _) _ _ _));(fail_if_success (with_reducible show wpAny _ _ (exec (Stmt.Assign _ (PySem.Expr.ListComp _ _ _ _) _) _) _ _ _));(fail_if_success (with_reducible show wpAny _ _ (eval (PySem.Expr.ListComp _ _ _ _) _) _ _ _));(fail_if_success (with_reducible show LCg.CompSrc _ _ _ _ _ _ _ _ _ _ _ _ _ _));(fail_if_success (with_reducible show LCg.CompEnd _ _ _ _ _ _ _ _ _ _ _ _ _ _));(fail_if_success (with_reducible show UnrEndW _ _ _ _ _ _))); (fail_if_success (with_reducible show wpAny _ _ (subscriptTail _ _ _ _) _ _ _)); (first | (walk1; (all_goals (try dsimp only))) | (dsimp only; walk1) | (leave1; try dsimp only)))))
  walk1
  dsimp only
  (repeat' (first | (k_unfold; (try dsimp only)) | (((fail_if_success (with_reducible show wpAny _ _ (exec (Stmt.For _ _ _ _ _) _) _ _ _));(fail_if_success (with_reducible show wpAny _ _ (exec (Stmt.While _ _ _ _) _) _ _ _));(fail_if_success (with_reducible show wpAny _ _ (exec (Stmt.Assign _ (PySem.Expr.ListComp _ _ _ _) _) _) _ _ _));(fail_if_success (with_reducible show wpAny _ _ (eval (PySem.Expr.ListComp _ _ _ _) _) _ _ _));(fail_if_success (with_reducible show LCg.CompSrc _ _ _ _ _ _ _ _ _ _ _ _ _ _));(fail_if_success (with_reducible show LCg.CompEnd _ _ _ _ _ _ _ _ _ _ _ _ _ _));(fail_if_success (with_reducible show UnrEndW _ _ _ _ _ _))); (fail_if_success (with_reducible show wpAny _ _ (subscriptTail _ _ _ _) _ _ _)); (first | (walk1; (all_goals (try dsimp only))) | (dsimp only; walk1) | (leave1; try dsimp only)))))
  all_goals (
    rename Fr _ _ _ _ => F5
    rename News _ _ _ _ => N5
    refine subT (vs := [_, _]) ⟨_, F5.keep _ _ hT, rfl, kt, rfl⟩ (by decide) (show (_ : Int) < ((2 : Nat) : Int) by decide) (by decide) rfl ?_
    (repeat' (first | (k_unfold; (try dsimp only)) | (((fail_if_success (with_reducible show wpAny _ _ (exec (Stmt.For _ _ _ _ _) _) _ _ _));(fail_if_success (with_reducible show wpAny _ _ (exec (Stmt.While _ _ _ _) _) _ _ _));(fail_if_success (with_reducible show wpAny _ _ (exec (Stmt.Assign _ (PySem.Expr.ListComp _ _ _ _) _) _) _ _ _));(fail_if_success (with_reducible show wpAny _ _ (eval (PySem.Expr.ListComp _ _ _ _) _) _ _ _));(fail_if_success (with_reducible show LCg.CompSrc _ _ _ _ _ _ _ _ _ _ _ _ _ _));(fail_if_success (with_reducible show LCg.CompEnd _ _ _ _ _ _ _ _ _ _ _ _ _ _));(fail_if_success (with_reducible show UnrEndW _ _ _ _ _ _))); (fail_if_success (with_reducible show wpAny _ _ (subscriptTail _ _ _ _) _ _ _)); (first | (walk1; (all_goals (try dsimp only))) | (dsimp only; walk1) | (leave1; try dsimp only))))))
  · rename Fr _ _ _ _ => F6
    rename ((_ != _) = true) => e
    exact ret _ _ _ F6.keep (by unfold suburiF; rw [if_neg hne, if_neg (fun h => h heq'), if_pos e])
  · rename Fr _ _ _ _ => F6
    rename ((Txt.slice _ _ _ != _) = false) => e
    exact ret _ _ _ F6.keep (by unfold suburiF; rw [if_neg hne, if_neg (fun h => h heq'), if_neg (by rw [e]; exact Bool.noConfusion)])
end
section
open PySem PySem.W PySem.Calls PyProof.Rows
def isStrL (P : Addr → Obj → Prop) (v : Value) (xs : List Str) : Prop := ∃ D vs k, v = .ref D ∧ P D (listOf vs.toArray k) ∧ Paired IsS vs xs
theorem valueAt_find {α : Type} {R : Value → α → Prop} {vs : List (Str × Value)} {d : List (Str × α)} (h : Paired (PairR R) vs d) {k : Str} {v : Value} (e : valueAt vs k = some v) : ∃ q, d.find? (fun q => q.1 = k) = some q ∧ R v q.2 := by
  unfold valueAt at e
  induction h with
  | nil => simp at e
  | @cons p q _ _ h _ ih =>
    rw [List.find?_cons] at e ⊢
    by_cases hk : p.1 = k
    · have hk' : q.1 = k := h.1.symm.trans hk
      simp only [hk, decide_true, Option.map_some, Option.some.injEq] at e
      simp only [hk', decide_true]
      exact ⟨q, rfl, e ▸ h.2⟩
    · have hk' : q.1 ≠ k := fun e' => hk (h.1.trans e')
      simp only [hk, decide_false] at e
      simp only [hk', decide_false]
      exact ih e
theorem keysEq {α : Type} {R : Value → α → Prop} {vs : List (Str × Value)} {d : List (Str × α)} (h : Paired (PairR R) vs d) : vs.map (·.1) = d.map (·.1) := by
  induction h with
  | nil => rfl
  | cons h _ ih => rw [List.map_cons, List.map_cons, ih, h.1]
def coverF (kvs : List (Str × (Str × Str))) (low : Str × (Str × Str)) : Str → Bool := fun k => match kvs.find? (fun q => q.1 = k) with
  | some q => suburiF q.2 low.2
  | none => false
def overF (kvs : List (Str × (Str × Str))) : List (Str × List Str) := kvs.foldl (fun d low => putA d low.1 ((kvs.map (·.1)).filter (coverF kvs low))) []
def ovJ (w : World) (g : Heap) (kvs0 : List (Str × (Str × Str))) (I : Addr) (ws : List (Str × Value)) (fin : List (Str × List Str)) (x dx L : Addr) (odx oask opl : Obj) (xs : List Itm) (m : Str → Option Value) (news : List (Addr × Obj)) : Prop :=
  ∃ (us : List (Str × Value)) (ks : List (Str × (Str × Str))) (dd : List (Str × List Str)) (vs : List (Str × Value)) (dO : Addr) (oO olow : Obj) (xl : Option Value) (tl : List (Addr × Obj)),
    xs = us.map (fun p => Itm.tok fun t => .str p.1 t) ∧ (∀ p ∈ us, p ∈ ws) ∧ Paired (PairR (isTup2 fun a o => g.get? a = some o)) us ks ∧ (∀ p ∈ ks, p.2.1.length ≤ 1000 ∧ p.2.2.length ≤ 1000) ∧ ks.foldl (fun d low => putA d low.1 ((kvs0.map (·.1)).filter (coverF kvs0 low))) dd = fin ∧
    news = (dO, oO) :: (x, instObj 67 dx) :: (dx, odx) :: (L + 1 + 1 + 1, olow) :: (L + 1 + 1, oask) :: (L + 1, opl) :: tl ∧ olow.data = .cell xl ∧ oO.IsDictOf (PySem.strKind PySem.Challenge.rw_rl0160_01.prog w) vs ∧ Paired (PairR (isStrL fun a o => (a, o) ∈ tl)) vs dd ∧
    ((∀ q ∈ tl, q.1 ≠ dO ∧ q.1 ≠ x ∧ q.1 ≠ dx ∧ q.1 ≠ L + 1 + 1 + 1 ∧ q.1 ≠ L + 1 + 1 ∧ q.1 ≠ L + 1 ∧ q.1 ≠ I) ∧ @LT.lt Nat _ x dO ∧ @LT.lt Nat _ dO I ∧ (dO == sysModules) = false) ∧ dd.length + ks.length ≤ 5 ∧ m "over" = some (.ref dO)
theorem over_t (w : World) (l : Value) (kvs : List (Str × (Str × Str))) (hn : kvs.length ≤ 5) (hlen : ∀ p ∈ kvs, p.2.1.length ≤ 1000 ∧ p.2.2.length ≤ 1000) :
    SpecF w 121 [l] (fun g => DictAtR w (isTup2 fun a o => g.get? a = some o) g l kvs) (fun h r => DictAtR w (isStrL fun a o => h.get? a = some o) h r (overF kvs)) := by
  intro dp un fr gd s Q E
  w_top off
  k_fill
  intro X T hd hu hl ret
  refine Classical.byContradiction fun hno1 => ?_
  obtain ⟨la, lo, ws, rfl, hsys, hla, hlo, hus⟩ := hl
  have hD : s.heap.DictOf (PySem.strKind PySem.Challenge.rw_rl0160_01.prog w) la ws := Heap.dictOf_iff.mpr ⟨lo, hla, hlo⟩
  refine hno1 ?_
  (refine' enterC (args := ⟨_, []⟩) ?k1 ?k2 ?k3 ?k4 ?k5 ?k6 ?k7 ?k8 ?_ ?c2 ?c3 ?c4; (case k1 => assumption); (case k2 => assumption); (case k3 => (simp only [recursionLimit] at *; omega)); (case k4 => k_is); (case k5 => k_is); (case k6 => exact BindsTo.of_eq rfl); (case k7 => exact rfl); (case k8 => decide +kernel); (case c2 => exact rfl); (case c3 => exact rfl); (case c4 => exact rfl))
  intro g L h1 tk cells mean mg mb hg F1 N1 Y1 X1 T1
  clear X T
  subst hg
  refine Classical.byContradiction fun hno2 => ?_
  obtain ⟨oc1, oc2, oc3, rfl, hd1, hd2, hd3⟩ := CellsAre.three (show CellsAre _ [(Str.ofString "low", L + 1 + 1 + 1), (Str.ofString "asked", L + 1 + 1), (Str.ofString "places", L + 1)] cells from Y1)
  replace hd1 : oc1.data = .cell none := hd1
  replace hd2 : oc2.data = .cell none := hd2
  replace hd3 : oc3.data = .cell (some (.ref la)) := hd3
  clear Y1
  replace F1 := fr_map F1 (by with_unfolding_all exact (rfl : _ = fun y => none))
  refine hno2 ?_
  (repeat' (first | (k_unfold; (try dsimp only)) | (((fail_if_success (with_reducible show wpAny _ _ (exec (Stmt.For _ _ _ _ _) _) _ _ _));(fail_if_success (with_reducible show wpAny _ _ (exec (Stmt.While _ _ _ _) _) _ _ _));(fail_if_success (with_reducible show wpAny _ _ (exec (Stmt.Assign _ (PySem.Expr.ListComp _ _ _ _) _) _) _ _ _));(fail_if_success (with_reducible show wpAny _ _ (eval (PySem.Expr.ListComp _ _ _ _) _) _ _ _));(fail_if_success (with_reducible show LCg.CompSrc _ _ _ _ _ _ _ _ _ _ _ _ _ _));(fail_if_success (with_reducible show LCg.CompEnd _ _ _ _ _ _ _ _ _ _ _ _ _ _));(fail_if_success (with_reducible show UnrEndW _ _ _ _ _ _))); (fail_if_success (with_reducible show wpAny _ _ (subscriptTail _ _ _ _) _ _ _)); (first | (walk1; (all_goals (try dsimp only))) | (dsimp only; walk1) | (leave1; try dsimp only)))))
  show wpAny _ _ (call (.ref 67) []) _ _ _
  rename Fr _ _ _ _ => F2
  rename News _ _ _ _ => N2
  refine' makeI (nm := Str.ofString "self") (f := 35) (C := 67) (K := Mine.hd.heap_39 w.params) ?k1 ?k2 ?k3 ?k4 ?k5 ?k6 ?k7 ?k8 ?k9 ?k10 ?body ?rest ?c1 ?c2 ?c3 ?c4
  case k1 => exact X1.keeps F2.keep
  case k2 => exact TopX.keeps ⟨_, _, _, T1⟩ F2.keep
  case k3 => k_is
  case k4 => k_is
  case k5 => k_is
  case k6 =>
    have hw : (Code.builtin "type.__call__" ⟨[.ref 67], []⟩).weight ≤ 5 := by decide +kernel
    simp only [recursionLimit] at *; show dp + 1 + (Code.builtin "type.__call__" ⟨[.ref 67], []⟩).weight < _; omega
  case k7 => k_is
  case k8 => k_is
  case k9 => intro x s'; exact BindsTo.of_eq rfl
  case k10 => exact rfl
  case c1 => exact rfl
  case c2 => exact rfl
  case c3 => exact rfl
  case c4 => decide
  case body =>
    intro x dx L' h3 tk3 F3 N3 hlt
    dsimp only at F3 N3
    have hlt' : @LT.lt Nat _ dx x := hlt
    have X2 := X1.keeps F2.keep
    have T2 := T1.keeps F2.keep
    (repeat' (first | (k_unfold; (try dsimp only)) | (((fail_if_success (with_reducible show wpAny _ _ (exec (Stmt.For _ _ _ _ _) _) _ _ _));(fail_if_success (with_reducible show wpAny _ _ (exec (Stmt.While _ _ _ _) _) _ _ _));(fail_if_success (with_reducible show wpAny _ _ (exec (Stmt.Assign _ (PySem.Expr.ListComp _ _ _ _) _) _) _ _ _));(fail_if_success (with_reducible show wpAny _ _ (eval (PySem.Expr.ListComp _ _ _ _) _) _ _ _));(fail_if_success (with_reducible show LCg.CompSrc _ _ _ _ _ _ _ _ _ _ _ _ _ _));(fail_if_success (with_reducible show LCg.CompEnd _ _ _ _ _ _ _ _ _ _ _ _ _ _));(fail_if_success (with_reducible show UnrEndW _ _ _ _ _ _))); (fail_if_success (with_reducible show wpAny _ _ (subscriptTail _ _ _ _) _ _ _)); (first | (walk1; (all_goals (try dsimp only))) | (dsimp only; walk1) | (leave1; try dsimp only)))))
    · rename Fr _ _ _ _ => F4
      rename News _ _ _ _ => N4
      exact MadeP.of F4 N4 (.tail _ (.head _)) (.tail _ (.tail _ (.head _)))
  case rest =>
    intro x dx h3 tk3 hsh t v hk hle hlt hx hdx
    dsimp only at hk hle
    have F3 := F2.keeps hk
    have N3 : News s.heap L h3 ((x, instObj 67 dx) :: (dx, dictOf [⟨hsh, .str (Str.ofString "passwd") t, v⟩] 1) :: (L + 1 + 1 + 1, oc1) :: (L + 1 + 1, oc2) :: (L + 1, oc3) :: []) := by
      have hgt : ∀ a, h1.objs.size ≤ a → a ≠ L ∧ s.heap.get? a = none := fun a ha => by
        refine ⟨(Nat.ne_of_lt (Nat.lt_of_lt_of_le F2.ns.lt ha)).symm, ?_⟩
        cases e : s.heap.get? a with
        | none => rfl
        | some o => exact absurd (Heap.lt_size (F2.keep _ _ e)) (Nat.not_lt.mpr ha)
      refine allc ⟨hx, hgt _ (Nat.le_of_lt (Nat.lt_of_le_of_lt hle hlt))⟩ (allc ⟨hdx, hgt _ hle⟩ (fun p hp => ⟨hk _ _ (N2 p hp).1, (N2 p hp).2⟩))
    have hlt' : @LT.lt Nat _ dx x := hlt
    have hl3 : @LT.lt Nat _ (L + 1 + 1 + 1) dx := Nat.lt_of_lt_of_le (Heap.lt_size (N2 _ (.head _)).1) hle
    (repeat' (first | (k_unfold; (try dsimp only)) | (((fail_if_success (with_reducible show wpAny _ _ (exec (Stmt.For _ _ _ _ _) _) _ _ _));(fail_if_success (with_reducible show wpAny _ _ (exec (Stmt.While _ _ _ _) _) _ _ _));(fail_if_success (with_reducible show wpAny _ _ (exec (Stmt.Assign _ (PySem.Expr.ListComp _ _ _ _) _) _) _ _ _));(fail_if_success (with_reducible show wpAny _ _ (eval (PySem.Expr.ListComp _ _ _ _) _) _ _ _));(fail_if_success (with_reducible show LCg.CompSrc _ _ _ _ _ _ _ _ _ _ _ _ _ _));(fail_if_success (with_reducible show LCg.CompEnd _ _ _ _ _ _ _ _ _ _ _ _ _ _));(fail_if_success (with_reducible show UnrEndW _ _ _ _ _ _))); (fail_if_success (with_reducible show wpAny _ _ (subscriptTail _ _ _ _) _ _ _)); (first | (walk1; (all_goals (try dsimp only))) | (dsimp only; walk1) | (leave1; try dsimp only)))))
    rename (Obj.data _ = _) => hask
    rename Obj => oask
    rename Fr _ _ _ _ => F4
    rename News _ _ _ _ => N4
    rename (x < _ ∧ _) => hlx
    replace N4 := newsSub N4 (fun q hq => List.Mem.tail _ hq)
    refine For_turns F4 ?_
    (repeat' (first | (k_unfold; (try dsimp only)) | (((fail_if_success (with_reducible show wpAny _ _ (exec (Stmt.For _ _ _ _ _) _) _ _ _));(fail_if_success (with_reducible show wpAny _ _ (exec (Stmt.While _ _ _ _) _) _ _ _));(fail_if_success (with_reducible show wpAny _ _ (exec (Stmt.Assign _ (PySem.Expr.ListComp _ _ _ _) _) _) _ _ _));(fail_if_success (with_reducible show wpAny _ _ (eval (PySem.Expr.ListComp _ _ _ _) _) _ _ _));(fail_if_success (with_reducible show LCg.CompSrc _ _ _ _ _ _ _ _ _ _ _ _ _ _));(fail_if_success (with_reducible show LCg.CompEnd _ _ _ _ _ _ _ _ _ _ _ _ _ _));(fail_if_success (with_reducible show UnrEndW _ _ _ _ _ _))); (fail_if_success (with_reducible show wpAny _ _ (subscriptTail _ _ _ _) _ _ _)); (first | (walk1; (all_goals (try dsimp only))) | (dsimp only; walk1) | (leave1; try dsimp only)))))
    rename Fr _ _ _ _ => F5
    rename News _ _ _ _ => N5
    refine iterKeysG rfl F5 N5 hD hsys ?_
    intro I hI
    refine' itemsInd (ovJ w s.heap kvs I ws (overF kvs) x dx L (dictOf [⟨hsh, .str (Str.ofString "passwd") t, v⟩] 1) oask oc3) ?done ?step _ _ _ ?init
    case init =>
      refine ⟨ws, kvs, [], [], _, _, _, none, [], rfl, fun _ h => h, hus, hlen, rfl, rfl, hd1, by assumption, .nil, ⟨(fun _ h => nomatch h), hlx.1, hI _ (.head _), by assumption⟩, by simpa using hn, rfl⟩
    case done =>
      intro m1 news1 h6 tk6 hJ3 F6 N6
      refine Classical.byContradiction fun hno4 => ?_
      obtain ⟨us, ks, dd, vs, dO, oO, olow, xl, tl, hxs, hmem, hus2, hkl, hfin, rfl, holow, hvs, hpd, ⟨hdis, hxO, hOI, hsysO⟩, hlen2, hm1⟩ := hJ3
      cases hus2 with
      | cons => simp at hxs
      | nil =>
      obtain rfl : dd = overF kvs := hfin
      replace F6 := fr_at F6 hm1
      refine hno4 ?_
      (repeat' (first | (k_unfold; (try dsimp only)) | (((fail_if_success (with_reducible show wpAny _ _ (exec (Stmt.For _ _ _ _ _) _) _ _ _));(fail_if_success (with_reducible show wpAny _ _ (exec (Stmt.While _ _ _ _) _) _ _ _));(fail_if_success (with_reducible show wpAny _ _ (exec (Stmt.Assign _ (PySem.Expr.ListComp _ _ _ _) _) _) _ _ _));(fail_if_success (with_reducible show wpAny _ _ (eval (PySem.Expr.ListComp _ _ _ _) _) _ _ _));(fail_if_success (with_reducible show LCg.CompSrc _ _ _ _ _ _ _ _ _ _ _ _ _ _));(fail_if_success (with_reducible show LCg.CompEnd _ _ _ _ _ _ _ _ _ _ _ _ _ _));(fail_if_success (with_reducible show UnrEndW _ _ _ _ _ _))); (fail_if_success (with_reducible show wpAny _ _ (subscriptTail _ _ _ _) _ _ _)); (first | (walk1; (all_goals (try dsimp only))) | (dsimp only; walk1) | (leave1; try dsimp only)))))
      refine ret _ _ _ F6.keep (freshOf N6 (.head _)) ⟨dO, oO, vs, rfl, hsysO, (N6 _ (.head _)).1, hvs, pmono hpd ?_⟩
      intro a b hJ5
      refine Classical.byContradiction fun hno6 => ?_
      obtain ⟨e, D, vs', k', e2, hm, hp⟩ := hJ5
      refine hno6 ?_
      exact ⟨e, D, vs', k', e2, (N6 _ (.tail _ (.tail _ (.tail _ (.tail _ (.tail _ (.tail _ hm))))))).1, hp⟩
    case step =>
      intro _ r m1 news1 v1 h tk its hJ7 hv F6 hi N6
      refine Classical.byContradiction fun hno8 => ?_
      obtain ⟨us, ks, dd, vs, dO, oO, olow, xl, tl, hxs, hmem, hus2, hkl, hfin, rfl, holow, hvs, hpd, hdis, hlen2, hm1⟩ := hJ7
      cases hus2 with
      | nil => simp at hxs
      | @cons u1 k1 us2 ks2 hu1 hus3 =>
      simp only [List.map_cons, List.cons.injEq] at hxs
      obtain ⟨rfl, rfl⟩ := hxs
      obtain ⟨io, rfl, hio⟩ := objs1 hi
      obtain ⟨hk3, hk4⟩ := hkl k1 (.head _)
      obtain ⟨tv, rfl⟩ := hv
      obtain ⟨hdis, hxO, hOI, hsysO⟩ := hdis
      replace N6 := show News _ _ _ ((I, io) :: (dO, oO) :: (x, instObj 67 dx) :: (dx, dictOf [⟨hsh, .str (Str.ofString "passwd") t, v⟩] 1) :: (L + 1 + 1 + 1, olow) :: (L + 1 + 1, oask) :: (L + 1, oc3) :: tl) from N6
      replace F6 := fr_ats [("over", _)] F6 (all1 hm1)
      simp only [kstB] at F6
      have q1 : @LT.lt Nat _ (L + 1 + 1 + 1) dO := Nat.lt_trans (Nat.lt_trans hl3 hlt') hxO
      have q2 : @LT.lt Nat _ (L + 1 + 1 + 1) I := Nat.lt_trans q1 hOI
      have q3 : @LT.lt Nat _ x I := Nat.lt_trans hxO hOI
      refine hno8 ?_
      (repeat' (first | (k_unfold; (try dsimp only)) | (((fail_if_success (with_reducible show wpAny _ _ (exec (Stmt.For _ _ _ _ _) _) _ _ _));(fail_if_success (with_reducible show wpAny _ _ (exec (Stmt.While _ _ _ _) _) _ _ _));(fail_if_success (with_reducible show wpAny _ _ (exec (Stmt.Assign _ (PySem.Expr.ListComp _ _ _ _) _) _) _ _ _));(fail_if_success (with_reducible show wpAny _ _ (eval (PySem.Expr.ListComp _ _ _ _) _) _ _ _));(fail_if_success (with_reducible show LCg.CompSrc _ _ _ _ _ _ _ _ _ _ _ _ _ _));(fail_if_success (with_reducible show LCg.CompEnd _ _ _ _ _ _ _ _ _ _ _ _ _ _));(fail_if_success (with_reducible show UnrEndW _ _ _ _ _ _))); (fail_if_success (with_reducible show wpAny _ _ (subscriptTail _ _ _ _) _ _ _)); (first | (walk1; (all_goals (try dsimp only))) | (dsimp only; walk1) | (leave1; try dsimp only)))))
      refine storeX_C (c := L + 1 + 1 + 1) (o := olow) F6 N6 rfl (.tail (Nat.ne_of_gt q2) (.tail (Nat.ne_of_gt q1) (.tail (Nat.ne_of_gt (Nat.lt_trans hl3 hlt')) (.tail (Nat.ne_of_gt hl3) (.head (allc (Nat.ne_of_lt (Nat.lt_succ_self _)) (allc (Nat.ne_of_lt (Nat.lt_succ_of_lt (Nat.lt_succ_self _))) (fun q hq => (hdis q hq).2.2.2.1)))))))) holow ?_
      intro h12 olow2 F12 N12 how2
      (repeat' (first | (k_unfold; (try dsimp only)) | (((fail_if_success (with_reducible show wpAny _ _ (exec (Stmt.For _ _ _ _ _) _) _ _ _));(fail_if_success (with_reducible show wpAny _ _ (exec (Stmt.While _ _ _ _) _) _ _ _));(fail_if_success (with_reducible show wpAny _ _ (exec (Stmt.Assign _ (PySem.Expr.ListComp _ _ _ _) _) _) _ _ _));(fail_if_success (with_reducible show wpAny _ _ (eval (PySem.Expr.ListComp _ _ _ _) _) _ _ _));(fail_if_success (with_reducible show LCg.CompSrc _ _ _ _ _ _ _ _ _ _ _ _ _ _));(fail_if_success (with_reducible show LCg.CompEnd _ _ _ _ _ _ _ _ _ _ _ _ _ _));(fail_if_success (with_reducible show UnrEndW _ _ _ _ _ _))); (fail_if_success (with_reducible show wpAny _ _ (subscriptTail _ _ _ _) _ _ _)); (first | (walk1; (all_goals (try dsimp only))) | (dsimp only; walk1) | (leave1; try dsimp only)))))
      refine wpAny_Assign_Subscript ?_ (by with_unfolding_all rfl)
      refine compKeys (d := la) (vs := ws) (coverF kvs k1) rfl F12 N12 (hD.keep F12.keep) hsys (by rw [hus.length]; omega) (by with_unfolding_all exact rfl) (by decide) rfl (by decide) rfl ?_ ?_ ?_ ?_
      · intro Q' q; (repeat' (first | (k_unfold; (try dsimp only)) | (((fail_if_success (with_reducible show wpAny _ _ (exec (Stmt.For _ _ _ _ _) _) _ _ _));(fail_if_success (with_reducible show wpAny _ _ (exec (Stmt.While _ _ _ _) _) _ _ _));(fail_if_success (with_reducible show wpAny _ _ (exec (Stmt.Assign _ (PySem.Expr.ListComp _ _ _ _) _) _) _ _ _));(fail_if_success (with_reducible show wpAny _ _ (eval (PySem.Expr.ListComp _ _ _ _) _) _ _ _));(fail_if_success (with_reducible show LCg.CompSrc _ _ _ _ _ _ _ _ _ _ _ _ _ _));(fail_if_success (with_reducible show LCg.CompEnd _ _ _ _ _ _ _ _ _ _ _ _ _ _));(fail_if_success (with_reducible show UnrEndW _ _ _ _ _ _))); (fail_if_success (with_reducible show wpAny _ _ (subscriptTail _ _ _ _) _ _ _)); (first | (walk1; (all_goals (try dsimp only))) | (dsimp only; walk1) | (leave1; try dsimp only))))); exact q
      · intro C k t3 s3 m3 E3 hkm hx3 F13 N13
        replace F13 := fr_at (k := "high") F13 hx3
        refine Classical.byContradiction fun hno9 => ?_
        obtain ⟨pw, hpw, rfl⟩ := List.mem_map.mp hkm
        have hv1 := valueAt_mem (Heap.DictOf.nodup' hD) hpw
        have hv2 := valueAt_mem (Heap.DictOf.nodup' hD) (hmem u1 (.head _))
        obtain ⟨q, hq, hq2⟩ := valueAt_find hus hv1
        refine hno9 ?_
        (repeat' (first | (k_unfold; (try dsimp only)) | (((fail_if_success (with_reducible show wpAny _ _ (exec (Stmt.For _ _ _ _ _) _) _ _ _));(fail_if_success (with_reducible show wpAny _ _ (exec (Stmt.While _ _ _ _) _) _ _ _));(fail_if_success (with_reducible show wpAny _ _ (exec (Stmt.Assign _ (PySem.Expr.ListComp _ _ _ _) _) _) _ _ _));(fail_if_success (with_reducible show wpAny _ _ (eval (PySem.Expr.ListComp _ _ _ _) _) _ _ _));(fail_if_success (with_reducible show LCg.CompSrc _ _ _ _ _ _ _ _ _ _ _ _ _ _));(fail_if_success (with_reducible show LCg.CompEnd _ _ _ _ _ _ _ _ _ _ _ _ _ _));(fail_if_success (with_reducible show UnrEndW _ _ _ _ _ _))); (fail_if_success (with_reducible show wpAny _ _ (subscriptTail _ _ _ _) _ _ _)); (fail_if_success (with_reducible show wpAny _ _ (call (Value.ref _) _) _ _ _)); (first | (walk1; (all_goals (try dsimp only))) | (dsimp only; walk1) | (leave1; try dsimp only)))))
        rotate_left 4
        · refine dictItem (hD.keep F13.keep) hv1 ?_
          (repeat' (first | (k_unfold; (try dsimp only)) | (((fail_if_success (with_reducible show wpAny _ _ (exec (Stmt.For _ _ _ _ _) _) _ _ _));(fail_if_success (with_reducible show wpAny _ _ (exec (Stmt.While _ _ _ _) _) _ _ _));(fail_if_success (with_reducible show wpAny _ _ (exec (Stmt.Assign _ (PySem.Expr.ListComp _ _ _ _) _) _) _ _ _));(fail_if_success (with_reducible show wpAny _ _ (eval (PySem.Expr.ListComp _ _ _ _) _) _ _ _));(fail_if_success (with_reducible show LCg.CompSrc _ _ _ _ _ _ _ _ _ _ _ _ _ _));(fail_if_success (with_reducible show LCg.CompEnd _ _ _ _ _ _ _ _ _ _ _ _ _ _));(fail_if_success (with_reducible show UnrEndW _ _ _ _ _ _))); (fail_if_success (with_reducible show wpAny _ _ (subscriptTail _ _ _ _) _ _ _)); (fail_if_success (with_reducible show wpAny _ _ (call (Value.ref _) _) _ _ _)); (first | (walk1; (all_goals (try dsimp only))) | (dsimp only; walk1) | (leave1; try dsimp only)))))
          refine dictItem (hD.keep F13.keep) hv2 ?_
          (repeat' (first | (k_unfold; (try dsimp only)) | (((fail_if_success (with_reducible show wpAny _ _ (exec (Stmt.For _ _ _ _ _) _) _ _ _));(fail_if_success (with_reducible show wpAny _ _ (exec (Stmt.While _ _ _ _) _) _ _ _));(fail_if_success (with_reducible show wpAny _ _ (exec (Stmt.Assign _ (PySem.Expr.ListComp _ _ _ _) _) _) _ _ _));(fail_if_success (with_reducible show wpAny _ _ (eval (PySem.Expr.ListComp _ _ _ _) _) _ _ _));(fail_if_success (with_reducible show LCg.CompSrc _ _ _ _ _ _ _ _ _ _ _ _ _ _));(fail_if_success (with_reducible show LCg.CompEnd _ _ _ _ _ _ _ _ _ _ _ _ _ _));(fail_if_success (with_reducible show UnrEndW _ _ _ _ _ _))); (fail_if_success (with_reducible show wpAny _ _ (subscriptTail _ _ _ _) _ _ _)); (fail_if_success (with_reducible show wpAny _ _ (call (Value.ref _) _) _ _ _)); (first | (walk1; (all_goals (try dsimp only))) | (dsimp only; walk1) | (leave1; try dsimp only)))))
          refine Classical.byContradiction fun hno10 => ?_
          obtain ⟨hq3, hq4⟩ := hlen q (List.mem_of_find?_eq_some hq)
          refine hno10 ?_
          refine sub_t w (.ref x) pw.2 u1.2 q.2 k1.2 hq3 hq4 hk3 hk4 _ _ _ _ _ _ _ (X1.keeps F13.keep) (TopX.keeps ⟨_, _, _, T1⟩ F13.keep) ?rm ?un ⟨?p1, ?p2⟩ ?_
          case rm => show dp + 1 + 4 < recursionLimit; omega
          case un => show un + 3 + 60 < cLine; omega
          case p1 =>
            refine Classical.byContradiction fun hno11 => ?_
            obtain ⟨B, t1, t2, k, e, hB⟩ := hq2
            refine hno11 ?_
            exact ⟨B, t1, t2, k, e, F13.keep _ _ hB⟩
          case p2 =>
            refine Classical.byContradiction fun hno12 => ?_
            obtain ⟨B, t1, t2, k, e, hB⟩ := hu1.2
            refine hno12 ?_
            exact ⟨B, t1, t2, k, e, F13.keep _ _ hB⟩
          rintro r3 h15 tk15 hk15 rfl
          (repeat' (first | (k_unfold; (try dsimp only)) | (((fail_if_success (with_reducible show wpAny _ _ (exec (Stmt.For _ _ _ _ _) _) _ _ _));(fail_if_success (with_reducible show wpAny _ _ (exec (Stmt.While _ _ _ _) _) _ _ _));(fail_if_success (with_reducible show wpAny _ _ (exec (Stmt.Assign _ (PySem.Expr.ListComp _ _ _ _) _) _) _ _ _));(fail_if_success (with_reducible show wpAny _ _ (eval (PySem.Expr.ListComp _ _ _ _) _) _ _ _));(fail_if_success (with_reducible show LCg.CompSrc _ _ _ _ _ _ _ _ _ _ _ _ _ _));(fail_if_success (with_reducible show LCg.CompEnd _ _ _ _ _ _ _ _ _ _ _ _ _ _));(fail_if_success (with_reducible show UnrEndW _ _ _ _ _ _))); (fail_if_success (with_reducible show wpAny _ _ (subscriptTail _ _ _ _) _ _ _)); (fail_if_success (with_reducible show wpAny _ _ (call (Value.ref _) _) _ _ _)); (first | (walk1; (all_goals (try dsimp only))) | (dsimp only; walk1) | (leave1; try dsimp only)))))
          exact TestPost.of (by show suburiF q.2 k1.2 = (match kvs.find? (fun q => q.1 = pw.1) with | some q => suburiF q.2 k1.2 | none => false); rw [hq]) hk15
        all_goals first | exact L | exact (Str.ofString "") | exact Value.none | exact []
      · intro C k t3 s3 m3 E3 hx3 F13 N13
        replace F13 := fr_at (k := "high") F13 hx3
        (repeat' (first | (k_unfold; (try dsimp only)) | (((fail_if_success (with_reducible show wpAny _ _ (exec (Stmt.For _ _ _ _ _) _) _ _ _));(fail_if_success (with_reducible show wpAny _ _ (exec (Stmt.While _ _ _ _) _) _ _ _));(fail_if_success (with_reducible show wpAny _ _ (exec (Stmt.Assign _ (PySem.Expr.ListComp _ _ _ _) _) _) _ _ _));(fail_if_success (with_reducible show wpAny _ _ (eval (PySem.Expr.ListComp _ _ _ _) _) _ _ _));(fail_if_success (with_reducible show LCg.CompSrc _ _ _ _ _ _ _ _ _ _ _ _ _ _));(fail_if_success (with_reducible show LCg.CompEnd _ _ _ _ _ _ _ _ _ _ _ _ _ _));(fail_if_success (with_reducible show UnrEndW _ _ _ _ _ _))); (fail_if_success (with_reducible show wpAny _ _ (subscriptTail _ _ _ _) _ _ _)); (fail_if_success (with_reducible show wpAny _ _ (call (Value.ref _) _) _ _ _)); (first | (walk1; (all_goals (try dsimp only))) | (dsimp only; walk1) | (leave1; try dsimp only)))))
        all_goals first | exact ⟨_, rfl⟩ | exact ⟨_, _, rfl, fun _ _ e => e⟩ | exact L | exact (Str.ofString "") | exact Value.none | exact []
      · intro D h14 tk14 k14 ys hys hneD F14 N14
        have n1 : @Ne Nat D dO := (hneD (dO, oO) (.tail _ (.head _))).symm
        have n2 : @Ne Nat dO I := Nat.ne_of_lt hOI
        have n3 : ∀ q ∈ tl, q.1 ≠ dO := fun q hq => (hdis q hq).1
        (repeat' (first | (k_unfold; (try dsimp only)) | (((fail_if_success (with_reducible show wpAny _ _ (exec (Stmt.For _ _ _ _ _) _) _ _ _));(fail_if_success (with_reducible show wpAny _ _ (exec (Stmt.While _ _ _ _) _) _ _ _));(fail_if_success (with_reducible show wpAny _ _ (exec (Stmt.Assign _ (PySem.Expr.ListComp _ _ _ _) _) _) _ _ _));(fail_if_success (with_reducible show wpAny _ _ (eval (PySem.Expr.ListComp _ _ _ _) _) _ _ _));(fail_if_success (with_reducible show LCg.CompSrc _ _ _ _ _ _ _ _ _ _ _ _ _ _));(fail_if_success (with_reducible show LCg.CompEnd _ _ _ _ _ _ _ _ _ _ _ _ _ _));(fail_if_success (with_reducible show UnrEndW _ _ _ _ _ _))); (fail_if_success (with_reducible show wpAny _ _ (subscriptTail _ _ _ _) _ _ _)); (fail_if_success (with_reducible show wpAny _ _ (call (Value.ref _) _) _ _ _)); (first | (walk1; (all_goals (try dsimp only))) | (dsimp only; walk1) | (leave1; try dsimp only)))))
        rename Fr _ _ _ _ => F15
        rename News _ _ _ _ => N15
        have hl9 := hpd.length
        refine kda_set F15 N15 (.tail n1 (.tail n2.symm (.head (allc (Nat.ne_of_lt hxO) (allc (Nat.ne_of_lt (Nat.lt_trans hlt' hxO)) (allc (Nat.ne_of_lt q1) (allc (Nat.ne_of_lt (Nat.lt_trans (Nat.lt_succ_self _) q1)) (allc (Nat.ne_of_lt (Nat.lt_trans (Nat.lt_succ_of_lt (Nat.lt_succ_self _)) q1)) n3)))))))) hvs (PySem.strKind_is _ _ _ _) ?_ ?_
        · simp only [List.length_cons] at hlen2; rw [sizeLine_eq]; omega
        intro h16 o16 F16 N16 hdo16
        (repeat' (first | (k_unfold; (try dsimp only)) | (((fail_if_success (with_reducible show wpAny _ _ (exec (Stmt.For _ _ _ _ _) _) _ _ _));(fail_if_success (with_reducible show wpAny _ _ (exec (Stmt.While _ _ _ _) _) _ _ _));(fail_if_success (with_reducible show wpAny _ _ (exec (Stmt.Assign _ (PySem.Expr.ListComp _ _ _ _) _) _) _ _ _));(fail_if_success (with_reducible show wpAny _ _ (eval (PySem.Expr.ListComp _ _ _ _) _) _ _ _));(fail_if_success (with_reducible show LCg.CompSrc _ _ _ _ _ _ _ _ _ _ _ _ _ _));(fail_if_success (with_reducible show LCg.CompEnd _ _ _ _ _ _ _ _ _ _ _ _ _ _));(fail_if_success (with_reducible show UnrEndW _ _ _ _ _ _))); (fail_if_success (with_reducible show wpAny _ _ (subscriptTail _ _ _ _) _ _ _)); (fail_if_success (with_reducible show wpAny _ _ (call (Value.ref _) _) _ _ _)); (first | (walk1; (all_goals (try dsimp only))) | (dsimp only; walk1) | (leave1; try dsimp only)))))
        refine turnEnd (keep := []) (its := [(I, io)]) ((dO, o16) :: (x, instObj 67 dx) :: (dx, dictOf [⟨hsh, .str (Str.ofString "passwd") t, v⟩] 1) :: (L + 1 + 1 + 1, olow2) :: (L + 1 + 1, oask) :: (L + 1, oc3) :: (D, listOf ys.toArray k14) :: tl) F16 N16 ?e1 ?e2 trivial ⟨us2, ks2, _, _, dO, o16, olow2, _, (D, listOf ys.toArray k14) :: tl, rfl, fun q hq => hmem q (.tail _ hq), hus3, fun q hq => hkl q (.tail _ hq), hfin, rfl, how2, hdo16, ?e3, ⟨?e4, hxO, hOI, hsysO⟩, ?e5, rfl⟩
        case e1 =>
          intro p hp
          simp only [List.cons_append, List.nil_append, List.mem_cons] at hp ⊢
          rcases hp with h | h | h | h | h | h | h | h | h
          · exact .inr (.inl h)
          · exact .inr (.inr (.inl h))
          · exact .inr (.inr (.inr (.inl h)))
          · exact .inr (.inr (.inr (.inr (.inl h))))
          · exact .inr (.inr (.inr (.inr (.inr (.inl h)))))
          · exact .inr (.inr (.inr (.inr (.inr (.inr (.inl h))))))
          · exact .inr (.inr (.inr (.inr (.inr (.inr (.inr (.inl h)))))))
          · exact .inl h
          · exact .inr (.inr (.inr (.inr (.inr (.inr (.inr (.inr h)))))))
        case e2 =>
          exact allc (all1 n2) (allc (all1 (Nat.ne_of_lt q3)) (allc (all1 (Nat.ne_of_lt (Nat.lt_trans hlt' q3))) (allc (all1 (Nat.ne_of_lt q2)) (allc (all1 (Nat.ne_of_lt (Nat.lt_trans (Nat.lt_succ_self _) q2))) (allc (all1 (Nat.ne_of_lt (Nat.lt_trans (Nat.lt_succ_of_lt (Nat.lt_succ_self _)) q2))) (allc (all1 (hneD (I, io) (.head _)).symm) (fun q hq => all1 (hdis q hq).2.2.2.2.2.2)))))))
        case e3 =>
          have e := hu1.1
          rw [e]
          refine stored_put (pmono hpd fun a b hab => ⟨hab.1, ?_⟩) _ ⟨D, ys, k14, rfl, .head _, ?_⟩
          · obtain ⟨D', vs', k', e2, hm, hp⟩ := hab.2
            exact ⟨D', vs', k', e2, .tail _ hm, hp⟩
          · rw [← keysEq hus]; exact hys
        case e4 =>
          refine allc ⟨n1, ?_, ?_, ?_, ?_, ?_, ?_⟩ hdis
          · exact (hneD (x, instObj 67 dx) (.tail _ (.tail _ (.head _)))).symm
          · exact (hneD (dx, _) (.tail _ (.tail _ (.tail _ (.head _))))).symm
          · exact (hneD (L + 1 + 1 + 1, olow2) (.tail _ (.tail _ (.tail _ (.tail _ (.head _)))))).symm
          · exact (hneD (L + 1 + 1, oask) (.tail _ (.tail _ (.tail _ (.tail _ (.tail _ (.head _))))))).symm
          · exact (hneD (L + 1, oc3) (.tail _ (.tail _ (.tail _ (.tail _ (.tail _ (.tail _ (.head _)))))))).symm
          · exact (hneD (I, io) (.head _)).symm
        case e5 =>
          exact Nat.le_trans (Nat.add_le_add_right (putA_length _ _ _) _) (by simp only [List.length_cons] at hlen2; omega)
end
section
open PySem PySem.W PySem.Calls PyProof.Rows
structure WRow where
  low : Str
  high : Str
  pl : Str × Str
  more : List Str
  less : List Str
def isWood (P : Addr → Obj → Prop) (G : Addr → Obj → Prop) (v : Value) (r : WRow) : Prop :=
  ∃ T t1 t2 pv mv lv k, v = .ref T ∧ P T { cls := .type "tuple", data := .seq [.str r.low t1, .str r.high t2, pv, mv, lv].toArray k } ∧ isTup2 G pv r.pl ∧ isStrL P mv r.more ∧ isStrL P lv r.less
def getO (ov : List (Str × List Str)) (k : Str) : List Str := match ov.find? (fun q => q.1 = k) with
  | some q => q.2
  | none => []
def highStep (ov : List (Str × List Str)) (low : Str) (h o : Str) : Str := if o ≠ low ∧ (h = Str.ofString "" ∨ (getO ov h).length < (getO ov o).length) then o else h
def highF (ov : List (Str × List Str)) (low : Str) : Str := (getO ov low).foldl (highStep ov low) (Str.ofString "")
def aboveF (ov : List (Str × List Str)) (high : Str) : List Str := if high.length = 0 then [] else getO ov high
def rowF (ov : List (Str × List Str)) (p : Str × (Str × Str)) : WRow := ⟨p.1, highF ov p.1, p.2, (getO ov p.1).filter (fun k => !(aboveF ov (highF ov p.1)).contains k), (aboveF ov (highF ov p.1)).filter (fun k => !(getO ov p.1).contains k)⟩
def woodF (plc : List (Str × (Str × Str))) (ov : List (Str × List Str)) : List WRow := plc.map (rowF ov)
def wdJ (g : Heap) (I L lp : Addr) (oov : Obj) (wsp : List (Str × Value)) (ov : List (Str × List Str)) (fin : List WRow) (xs : List Itm) (m : Str → Option Value) (news : List (Addr × Obj)) : Prop :=
  ∃ (us : List (Str × Value)) (ks : List (Str × (Str × Str))) (wl : Addr) (vs : List Value) (k : Nat) (rows : List WRow) (oab olow : Obj) (xa xl : Option Value) (tl : List (Addr × Obj)),
    xs = us.map (fun p => Itm.tok fun t => .str p.1 t) ∧ (∀ p ∈ us, p ∈ wsp) ∧ Paired (PairR (isTup2 fun a o => g.get? a = some o)) us ks ∧ rows ++ ks.map (rowF ov) = fin ∧
    news = (wl, listOf vs.toArray k) :: (L + 1 + 1 + 1, oab) :: (L + 1 + 1, olow) :: (L + 1, oov) :: tl ∧ oab.data = .cell xa ∧ olow.data = .cell xl ∧ Paired (isWood (fun a o => (a, o) ∈ tl) (fun a o => g.get? a = some o)) vs rows ∧
    ((∀ q ∈ tl, q.1 ≠ wl ∧ q.1 ≠ L + 1 + 1 + 1 ∧ q.1 ≠ L + 1 + 1 ∧ q.1 ≠ L + 1 ∧ q.1 ≠ I) ∧ @LT.lt Nat _ (L + 1 + 1 + 1) wl ∧ @LT.lt Nat _ wl I) ∧ rows.length + ks.length ≤ 5 ∧ m "wood" = some (.ref wl) ∧ m "places" = some (.ref lp)
def hiJ (ov : List (Str × List Str)) (low fin : Str) (wl lp : Addr) (N0 : List (Addr × Obj)) (xs : List Itm) (m : Str → Option Value) (news : List (Addr × Obj)) : Prop :=
  ∃ (us : List Value) (ks : List Str) (hi : Str) (t : Tok), xs = us.map .val ∧ Paired IsS us ks ∧ (∀ k ∈ ks, k ∈ ov.map (·.1)) ∧ (hi = Str.ofString "" ∨ hi ∈ ov.map (·.1)) ∧ ks.foldl (highStep ov low) hi = fin ∧ news = N0 ∧ m "high" = some (.str hi t) ∧ m "wood" = some (.ref wl) ∧ m "places" = some (.ref lp)
def eqK (k : Str) : Value → Bool
  | .str x _ => x == k
  | _ => false
theorem anyK {vs : List Value} {ks : List Str} (h : Paired IsS vs ks) (k : Str) : vs.toArray.any (eqK k) = ks.contains k := by
  rw [List.any_toArray]
  induction h with
  | nil => rfl
  | @cons v x _ _ h _ ih =>
    obtain ⟨t, rfl⟩ := h
    rw [List.any_cons, List.contains_cons, ih]
    show (x == k || _) = _
    rw [BEq.comm (a := x) (b := k)]
theorem notInK {prog : Program} {w : World} {A : Around} {E : Value → Shared → Prop} {s : Shared} {l : Addr} {vs : List Value} {ks : List Str} {k : Str} {t : Tok} {Q : Value → Shared → Prop}
    (hl : s.heap.IsList l vs.toArray) (hp : Paired IsS vs ks) (h : Q (.bool (!ks.contains k)) s) : wpAny (model prog w) A (compareOp .NotIn (.str k t) (.ref l)) Q E s := by
  refine SeqAt.notIn_listAt (eqK k) hl (fun y hy => ?_) ?_
  · obtain ⟨x, _, t', rfl⟩ := pmem hp (by simpa using hy)
    exact SeqAt.EqAt.str_str _ _ _ _
  · rw [anyK hp]; exact h
def DisW (L I wl a : Addr) : Prop := a ≠ wl ∧ a ≠ L + 1 + 1 + 1 ∧ a ≠ L + 1 + 1 ∧ a ≠ L + 1 ∧ a ≠ I
theorem wdEnd {g h' : Heap} {L I lp wl T D D2 : Addr} {m' : Str → Option Value} {io oab olow oov tp : Obj} {vs : List Value} {kw tk k23 k26 : Nat} {tl tl2 : List (Addr × Obj)} {s₁ : Shared} {wsp us2 : List (Str × Value)} {ks2 : List (Str × (Str × Str))} {ov : List (Str × List Str)} {fin rows : List WRow} {k1 : Str × (Str × Str)} {ys ys2 : List Value} {xa xl : Option Value}
    (F : Fr g L h' m') (N : News g L h' ((T, tp) :: (D2, listOf ys2.toArray k26) :: (D, listOf ys.toArray k23) :: (I, io) :: (wl, listOf (vs ++ [Value.ref T]).toArray (kw + 1)) :: (L + 1 + 1 + 1, oab) :: (L + 1 + 1, olow) :: (L + 1, oov) :: tl2))
    (htp : ∃ t1 t2 pv k, tp = { cls := .type "tuple", data := .seq [.str k1.1 t1, .str (highF ov k1.1) t2, pv, .ref D, .ref D2].toArray k } ∧ isTup2 (fun a o => g.get? a = some o) pv k1.2)
    (hys : Paired IsS ys (rowF ov k1).more) (hys2 : Paired IsS ys2 (rowF ov k1).less) (hT : DisW L I wl T) (hD : DisW L I wl D) (hD2 : DisW L I wl D2) (htl2 : ∀ p ∈ tl, p ∈ tl2) (hdis2 : ∀ q ∈ tl2, q.1 ≠ wl ∧ q.1 ≠ L + 1 + 1 + 1 ∧ q.1 ≠ L + 1 + 1 ∧ q.1 ≠ L + 1 ∧ q.1 ≠ I)
    (hab : oab.data = .cell xa) (how : olow.data = .cell xl) (q1 : @LT.lt Nat _ (L + 1 + 1 + 1) wl) (q2 : @LT.lt Nat _ wl I) (hmem : ∀ p ∈ us2, p ∈ wsp) (hus3 : Paired (PairR (isTup2 fun a o => g.get? a = some o)) us2 ks2)
    (hpd : Paired (isWood (fun a o => (a, o) ∈ tl) (fun a o => g.get? a = some o)) vs rows) (hfin : rows ++ (k1 :: ks2).map (rowF ov) = fin) (hlen2 : rows.length + (k1 :: ks2).length ≤ 5) (hm1 : m' "wood" = some (.ref wl)) (hm2 : m' "places" = some (.ref lp)) :
    UnrEndW g L s₁ [(I, io)] (fun m' n' => SubL [] n' ∧ wdJ g I L lp oov wsp ov fin (us2.map fun p => Itm.tok fun t => .str p.1 t) m' n') { s₁ with heap := h', toks := tk } := by
  have q3 : @LT.lt Nat _ (L + 1 + 1 + 1) I := Nat.lt_trans q1 q2
  refine turnEnd (keep := []) (its := [(I, io)]) ((wl, listOf (vs ++ [Value.ref T]).toArray (kw + 1)) :: (L + 1 + 1 + 1, oab) :: (L + 1 + 1, olow) :: (L + 1, oov) :: (T, tp) :: (D2, listOf ys2.toArray k26) :: (D, listOf ys.toArray k23) :: tl2) F N ?e1 ?e2 trivial
    ⟨us2, ks2, wl, vs ++ [Value.ref T], kw + 1, rows ++ [rowF ov k1], oab, olow, xa, xl, (T, tp) :: (D2, listOf ys2.toArray k26) :: (D, listOf ys.toArray k23) :: tl2, rfl, hmem, hus3, ?e3, rfl, hab, how, ?e4, ⟨allc hT (allc hD2 (allc hD hdis2)), q1, q2⟩, ?e5, hm1, hm2⟩
  case e1 =>
    intro p hp
    simp only [List.cons_append, List.nil_append, List.mem_cons] at hp ⊢
    rcases hp with h | h | h | h | h | h | h | h | h <;> simp [h]
  case e2 =>
    refine allc (all1 (Nat.ne_of_lt q2)) (allc (all1 (Nat.ne_of_lt q3)) (allc (all1 (Nat.ne_of_lt (Nat.lt_trans (Nat.lt_succ_self _) q3))) (allc (all1 (Nat.ne_of_lt (Nat.lt_trans (Nat.lt_succ_of_lt (Nat.lt_succ_self _)) q3))) (allc (all1 hT.2.2.2.2) (allc (all1 hD2.2.2.2.2) (allc (all1 hD.2.2.2.2) fun q hq => all1 (hdis2 q hq).2.2.2.2))))))
  case e3 => rw [List.append_assoc]; exact hfin
  case e4 =>
    refine Paired.snoc (pmono hpd ?_) ?_
    · rintro v r ⟨T', t1, t2, pv, mv, lv, k, e, hT', hp, ⟨Dm, us, km, em, hm, hpm⟩, ⟨Dl, ul, kl, el, hl, hpl⟩⟩
      exact ⟨T', t1, t2, pv, mv, lv, k, e, .tail _ (.tail _ (.tail _ (htl2 _ hT'))), hp, ⟨Dm, us, km, em, .tail _ (.tail _ (.tail _ (htl2 _ hm))), hpm⟩, ⟨Dl, ul, kl, el, .tail _ (.tail _ (.tail _ (htl2 _ hl))), hpl⟩⟩
    · obtain ⟨t1, t2, pv, k, rfl, hp⟩ := htp
      exact ⟨T, t1, t2, pv, _, _, k, rfl, .head _, hp, ⟨D, ys, k23, rfl, .tail _ (.tail _ (.head _)), hys⟩, ⟨D2, ys2, k26, rfl, .tail _ (.head _), hys2⟩⟩
  case e5 =>
    simp only [List.length_append, List.length_cons, List.length_nil] at hlen2 ⊢
    omega
/-- what stands after `above = ...` -/
def AbPost (g : Heap) (L I wl : Addr) (m : Str → Option Value) (io wlo olow oov : Obj) (tl : List (Addr × Obj)) (s : Shared) (ab : List Str) (f : Flow) (s₁ : Shared) : Prop :=
  f = .next ∧ ∃ h tk oab A vsA tl', s₁ = { s with heap := h, toks := tk } ∧ Fr g L h m ∧ News g L h ((I, io) :: (wl, wlo) :: (L + 1 + 1 + 1, oab) :: (L + 1 + 1, olow) :: (L + 1, oov) :: tl') ∧ oab.data = .cell (some (.ref A)) ∧ (∀ p ∈ tl, p ∈ tl') ∧
    (∀ q ∈ tl', q.1 ≠ wl ∧ q.1 ≠ L + 1 + 1 + 1 ∧ q.1 ≠ L + 1 + 1 ∧ q.1 ≠ L + 1 ∧ q.1 ≠ I) ∧ Paired IsS vsA ab ∧ (∀ L' h' m', Fr g L' h' m' → (∀ p ∈ tl', h'.get? p.1 = some p.2) → h'.IsList A vsA.toArray)
theorem cutAb {M : Model} {A : Around} {E : Value → Shared → Prop} {s : Shared} {g : Heap} {L I wl : Addr} {m : Str → Option Value} {io wlo olow oov oab : Obj} {tl : List (Addr × Obj)} {t : Sem Flow} {Q : Flow → Shared → Prop} (ab : List Str) (_F : Fr g L s.heap m) (_N : News g L s.heap ((I, io) :: (wl, wlo) :: (L + 1 + 1 + 1, oab) :: (L + 1 + 1, olow) :: (L + 1, oov) :: tl))
    (ev : wpAny M A t (AbPost g L I wl m io wlo olow oov tl s ab) E s) (rest : ∀ f s₁, AbPost g L I wl m io wlo olow oov tl s ab f s₁ → Q f s₁) : wpAny M A t Q E s := wpAny_mono ev rest fun _ _ e => e
theorem hiEnd {ov : List (Str × List Str)} {low fin z hi2 ok : Str} {wl lp I2 L : Addr} {N0 : List (Addr × Obj)} {jo : Obj} {g h' : Heap} {tk : Nat} {s₁ : Shared} {m' : Str → Option Value} {us2 : List Value} {ks2 : List Str} {t : Tok}
    (F : Fr g L h' m') (N : News g L h' ((I2, jo) :: N0)) (hN : ∀ p ∈ N0, @LT.lt Nat _ p.1 I2) (hus3 : Paired IsS us2 ks2) (hks : ∀ k ∈ ok :: ks2, k ∈ ov.map (·.1)) (hz : z = highStep ov low hi2 ok) (hhi : hi2 = Str.ofString "" ∨ hi2 ∈ ov.map (·.1))
    (hfin2 : (ok :: ks2).foldl (highStep ov low) hi2 = fin) (h1 : m' "high" = some (.str z t)) (h2 : m' "wood" = some (.ref wl)) (h3 : m' "places" = some (.ref lp)) :
    UnrEndW g L s₁ [(I2, jo)] (fun m' n' => SubL [] n' ∧ hiJ ov low fin wl lp N0 (us2.map .val) m' n') { s₁ with heap := h', toks := tk } := by
  refine turnEnd (keep := []) (its := [(I2, jo)]) N0 F N (fun _ h => h) (fun p hp => all1 (Nat.ne_of_lt (hN p hp))) trivial ⟨us2, ks2, z, t, rfl, hus3, fun k hk => hks k (.tail _ hk), ?_, ?_, rfl, h1, h2, h3⟩
  · rw [hz]; unfold highStep
    split
    · exact .inr (hks ok (.head _))
    · exact hhi
  · rw [hz]; exact hfin2
theorem wood_t (w : World) (lpv lov : Value) (plc : List (Str × (Str × Str))) (ov : List (Str × List Str)) (hn : plc.length ≤ 5) (hkeys : plc.map (·.1) = ov.map (·.1)) (hin : ∀ p ∈ ov, ∀ k ∈ p.2, k ∈ ov.map (·.1)) (hnl : ∀ p ∈ ov, p.2.length ≤ 5) (hlk : ∀ k ∈ ov.map (·.1), k.length ≤ 1000) :
    Spec w 126 [lpv, lov] (fun g => DictAtR w (isTup2 fun a o => g.get? a = some o) g lpv plc ∧ DictAtR w (isStrL fun a o => g.get? a = some o) g lov ov) (fun h r => ListAt (isWood (fun a o => h.get? a = some o) (fun a o => h.get? a = some o)) h r (woodF plc ov)) := by
  intro dp un fr gd s Q E
  w_top off
  k_fill
  intro X T hd hu hpre ret
  refine Classical.byContradiction fun hno1 => ?_
  obtain ⟨⟨lp, op, wsp, rfl, hsysp, hlp, hop, husp⟩, ⟨lo, oo, wso, rfl, hsyso, hlo, hoo, huso⟩⟩ := hpre
  have hDp : s.heap.DictOf (PySem.strKind PySem.Challenge.rw_rl0160_01.prog w) lp wsp := Heap.dictOf_iff.mpr ⟨op, hlp, hop⟩
  have hDo : s.heap.DictOf (PySem.strKind PySem.Challenge.rw_rl0160_01.prog w) lo wso := Heap.dictOf_iff.mpr ⟨oo, hlo, hoo⟩
  have lookO : ∀ k ∈ ov.map (·.1), ∃ D us kk, valueAt wso k = some (.ref D) ∧ s.heap.get? D = some (listOf us.toArray kk) ∧ Paired IsS us (getO ov k) := by
    intro k hk
    rw [← keysEq huso] at hk
    obtain ⟨p, hp, rfl⟩ := List.mem_map.mp hk
    have hv := valueAt_mem (Heap.DictOf.nodup' hDo) hp
    obtain ⟨q, hq, D, us, kk, e, hD, hpr⟩ := valueAt_find huso hv
    rw [e] at hv
    exact ⟨D, us, kk, hv, hD, by unfold getO; rw [hq]; exact hpr⟩
  have getIn : ∀ k, ∀ x ∈ getO ov k, x ∈ ov.map (·.1) := by
    intro k x hx
    unfold getO at hx
    split at hx
    · rename_i q hq
      exact hin q (List.mem_of_find?_eq_some hq) x hx
    · exact nomatch hx
  have getLen : ∀ k, (getO ov k).length ≤ 5 := by
    intro k
    unfold getO
    split
    · rename_i q hq
      exact hnl q (List.mem_of_find?_eq_some hq)
    · decide
  refine hno1 ?_
  (refine' enterC (args := ⟨_, []⟩) ?k1 ?k2 ?k3 ?k4 ?k5 ?k6 ?k7 ?k8 ?_ ?c2 ?c3 ?c4; (case k1 => assumption); (case k2 => assumption); (case k3 => (simp only [recursionLimit] at *; omega)); (case k4 => k_is); (case k5 => k_is); (case k6 => exact BindsTo.of_eq rfl); (case k7 => exact rfl); (case k8 => decide +kernel); (case c2 => exact rfl); (case c3 => exact rfl); (case c4 => exact rfl))
  intro g L h1 tk cells mean mg mb hg F1 N1 Y1 X1 T1
  clear X T
  subst hg
  refine Classical.byContradiction fun hno2 => ?_
  obtain ⟨oc1, oc2, oc3, rfl, hd1, hd2, hd3⟩ := CellsAre.three (show CellsAre _ [(Str.ofString "above", L + 1 + 1 + 1), (Str.ofString "low", L + 1 + 1), (Str.ofString "over", L + 1)] cells from Y1)
  replace hd1 : oc1.data = .cell none := hd1
  replace hd2 : oc2.data = .cell none := hd2
  replace hd3 : oc3.data = .cell (some (.ref lo)) := hd3
  clear Y1
  replace F1 := fr_map F1 (by with_unfolding_all exact (rfl : _ = fun y => if y = Str.ofString "places" then some (Value.ref lp) else none))
  refine hno2 ?_
  (repeat' (first | (k_unfold; (try dsimp only)) | (((fail_if_success (with_reducible show wpAny _ _ (exec (Stmt.For _ _ _ _ _) _) _ _ _));(fail_if_success (with_reducible show wpAny _ _ (exec (Stmt.While _ _ _ _) _) _ _ _));(fail_if_success (with_reducible show wpAny _ _ (exec (Stmt.Assign _ (PySem.Expr.ListComp _ _ _ _) _) _) _ _ _));(fail_if_success (with_reducible show wpAny _ _ (eval (PySem.Expr.ListComp _ _ _ _) _) _ _ _));(fail_if_success (with_reducible show LCg.CompSrc _ _ _ _ _ _ _ _ _ _ _ _ _ _));(fail_if_success (with_reducible show LCg.CompEnd _ _ _ _ _ _ _ _ _ _ _ _ _ _));(fail_if_success (with_reducible show UnrEndW _ _ _ _ _ _))); (fail_if_success (with_reducible show wpAny _ _ (subscriptTail _ _ _ _) _ _ _)); (fail_if_success (with_reducible show wpAny _ _ (call (Value.ref _) _) _ _ _)); (first | (walk1; (all_goals (try dsimp only))) | (dsimp only; walk1) | (leave1; try dsimp only)))))
  rename (_ ∧ _ ∧ _) => hlx
  rename Fr _ _ _ _ => F4
  rename News _ _ _ _ => N4
  refine For_turns F4 ?_
  (repeat' (first | (k_unfold; (try dsimp only)) | (((fail_if_success (with_reducible show wpAny _ _ (exec (Stmt.For _ _ _ _ _) _) _ _ _));(fail_if_success (with_reducible show wpAny _ _ (exec (Stmt.While _ _ _ _) _) _ _ _));(fail_if_success (with_reducible show wpAny _ _ (exec (Stmt.Assign _ (PySem.Expr.ListComp _ _ _ _) _) _) _ _ _));(fail_if_success (with_reducible show wpAny _ _ (eval (PySem.Expr.ListComp _ _ _ _) _) _ _ _));(fail_if_success (with_reducible show LCg.CompSrc _ _ _ _ _ _ _ _ _ _ _ _ _ _));(fail_if_success (with_reducible show LCg.CompEnd _ _ _ _ _ _ _ _ _ _ _ _ _ _));(fail_if_success (with_reducible show UnrEndW _ _ _ _ _ _))); (fail_if_success (with_reducible show wpAny _ _ (subscriptTail _ _ _ _) _ _ _)); (fail_if_success (with_reducible show wpAny _ _ (call (Value.ref _) _) _ _ _)); (first | (walk1; (all_goals (try dsimp only))) | (dsimp only; walk1) | (leave1; try dsimp only)))))
  rename Fr _ _ _ _ => F5
  rename News _ _ _ _ => N5
  refine iterKeysG rfl F5 N5 hDp hsysp ?_
  intro I hI
  refine' itemsInd (wdJ s.heap I L lp oc3 wsp ov (woodF plc ov)) ?done ?step _ _ _ ?init
  case init =>
    refine ⟨wsp, plc, _, [], 0, [], _, _, none, none, [], rfl, fun _ h => h, husp, rfl, rfl, hd1, hd2, .nil, ⟨(fun _ h => nomatch h), hlx.1, hI _ (.head _)⟩, by simpa using hn, rfl, rfl⟩
  case done =>
    intro m1 news1 h6 tk6 hJ3 F6 N6
    refine Classical.byContradiction fun hno4 => ?_
    obtain ⟨us, ks, wl, vs, kw, rows, oab, olow, xa, xl, tl, hxs, hmem, hus2, hfin, rfl, hoab, holow, hpd, hdis, hlen2, hm1, hm2⟩ := hJ3
    cases hus2 with
    | cons => simp at hxs
    | nil =>
    rw [List.map_nil, List.append_nil] at hfin
    subst hfin
    replace F6 := fr_at F6 hm1
    refine hno4 ?_
    (repeat' (first | (k_unfold; (try dsimp only)) | (((fail_if_success (with_reducible show wpAny _ _ (exec (Stmt.For _ _ _ _ _) _) _ _ _));(fail_if_success (with_reducible show wpAny _ _ (exec (Stmt.While _ _ _ _) _) _ _ _));(fail_if_success (with_reducible show wpAny _ _ (exec (Stmt.Assign _ (PySem.Expr.ListComp _ _ _ _) _) _) _ _ _));(fail_if_success (with_reducible show wpAny _ _ (eval (PySem.Expr.ListComp _ _ _ _) _) _ _ _));(fail_if_success (with_reducible show LCg.CompSrc _ _ _ _ _ _ _ _ _ _ _ _ _ _));(fail_if_success (with_reducible show LCg.CompEnd _ _ _ _ _ _ _ _ _ _ _ _ _ _));(fail_if_success (with_reducible show UnrEndW _ _ _ _ _ _))); (fail_if_success (with_reducible show wpAny _ _ (subscriptTail _ _ _ _) _ _ _)); (fail_if_success (with_reducible show wpAny _ _ (call (Value.ref _) _) _ _ _)); (first | (walk1; (all_goals (try dsimp only))) | (dsimp only; walk1) | (leave1; try dsimp only)))))
    refine ret _ _ _ F6.keep ⟨wl, vs, kw, rfl, (N6 _ (.head _)).1, pmono hpd ?_⟩
    have up : ∀ a o, (a, o) ∈ tl → h6.get? a = some o := fun a o h => (N6 _ (.tail _ (.tail _ (.tail _ (.tail _ h))))).1
    intro v r hJ5
    refine Classical.byContradiction fun hno6 => ?_
    obtain ⟨T', t1, t2, pv, mv, lv, k, e, hT', ⟨B, b1, b2, kb, eb, hB⟩, ⟨Dm, us, km, em, hm, hpm⟩, ⟨Dl, ul, kl, el, hl, hpl⟩⟩ := hJ5
    refine hno6 ?_
    exact ⟨T', t1, t2, pv, mv, lv, k, e, up _ _ hT', ⟨B, b1, b2, kb, eb, F6.keep _ _ hB⟩, ⟨Dm, us, km, em, up _ _ hm, hpm⟩, ⟨Dl, ul, kl, el, up _ _ hl, hpl⟩⟩
  case step =>
    intro _ r m1 news1 v1 h tk its hJ7 hv F6 hi N6
    refine Classical.byContradiction fun hno8 => ?_
    obtain ⟨us, ks, wl, vs, kw, rows, oab, olow, xa, xl, tl, hxs, hmem, hus2, hfin, rfl, hoab, holow, hpd, hdis, hlen2, hm1, hm2⟩ := hJ7
    cases hus2 with
    | nil => simp at hxs
    | @cons u1 k1 us2 ks2 hu1 hus3 =>
    simp only [List.map_cons, List.cons.injEq] at hxs
    obtain ⟨rfl, rfl⟩ := hxs
    obtain ⟨io, rfl, hio⟩ := objs1 hi
    obtain ⟨tv, rfl⟩ := hv
    obtain ⟨hdis, q1, q2⟩ := hdis
    replace N6 := show News _ _ _ ((I, io) :: (wl, listOf vs.toArray kw) :: (L + 1 + 1 + 1, oab) :: (L + 1 + 1, olow) :: (L + 1, oc3) :: tl) from N6
    replace F6 := fr_ats [("wood", _), ("places", _)] F6 (allc hm1 (all1 hm2))
    simp only [kstB] at F6
    have q3 : @LT.lt Nat _ (L + 1 + 1 + 1) I := Nat.lt_trans q1 q2
    refine hno8 ?_
    (repeat' (first | (k_unfold; (try dsimp only)) | (((fail_if_success (with_reducible show wpAny _ _ (exec (Stmt.For _ _ _ _ _) _) _ _ _));(fail_if_success (with_reducible show wpAny _ _ (exec (Stmt.While _ _ _ _) _) _ _ _));(fail_if_success (with_reducible show wpAny _ _ (exec (Stmt.Assign _ (PySem.Expr.ListComp _ _ _ _) _) _) _ _ _));(fail_if_success (with_reducible show wpAny _ _ (eval (PySem.Expr.ListComp _ _ _ _) _) _ _ _));(fail_if_success (with_reducible show LCg.CompSrc _ _ _ _ _ _ _ _ _ _ _ _ _ _));(fail_if_success (with_reducible show LCg.CompEnd _ _ _ _ _ _ _ _ _ _ _ _ _ _));(fail_if_success (with_reducible show UnrEndW _ _ _ _ _ _))); (fail_if_success (with_reducible show wpAny _ _ (subscriptTail _ _ _ _) _ _ _)); (fail_if_success (with_reducible show wpAny _ _ (call (Value.ref _) _) _ _ _)); (first | (walk1; (all_goals (try dsimp only))) | (dsimp only; walk1) | (leave1; try dsimp only)))))
    refine storeX_C (c := L + 1 + 1) (o := olow) F6 N6 rfl (.tail (Nat.ne_of_gt (Nat.lt_trans (Nat.lt_succ_self _) q3)) (.tail (Nat.ne_of_gt (Nat.lt_trans (Nat.lt_succ_self _) q1)) (.tail (Nat.ne_of_gt (Nat.lt_succ_self _)) (.head (allc (Nat.ne_of_lt (Nat.lt_succ_self _)) (fun q hq => (hdis q hq).2.2.1)))))) holow ?_
    intro h12 olow2 F12 N12 how2
    (repeat' (first | (k_unfold; (try dsimp only)) | (((fail_if_success (with_reducible show wpAny _ _ (exec (Stmt.For _ _ _ _ _) _) _ _ _));(fail_if_success (with_reducible show wpAny _ _ (exec (Stmt.While _ _ _ _) _) _ _ _));(fail_if_success (with_reducible show wpAny _ _ (exec (Stmt.Assign _ (PySem.Expr.ListComp _ _ _ _) _) _) _ _ _));(fail_if_success (with_reducible show wpAny _ _ (eval (PySem.Expr.ListComp _ _ _ _) _) _ _ _));(fail_if_success (with_reducible show LCg.CompSrc _ _ _ _ _ _ _ _ _ _ _ _ _ _));(fail_if_success (with_reducible show LCg.CompEnd _ _ _ _ _ _ _ _ _ _ _ _ _ _));(fail_if_success (with_reducible show UnrEndW _ _ _ _ _ _))); (fail_if_success (with_reducible show wpAny _ _ (subscriptTail _ _ _ _) _ _ _)); (fail_if_success (with_reducible show wpAny _ _ (call (Value.ref _) _) _ _ _)); (first | (walk1; (all_goals (try dsimp only))) | (dsimp only; walk1) | (leave1; try dsimp only)))))
    have hu1k : u1.1 ∈ ov.map (·.1) := by
      rw [← hkeys, ← keysEq husp]
      exact List.mem_map_of_mem (hmem u1 (.head _))
    refine Classical.byContradiction fun hno9 => ?_
    obtain ⟨Dl, ul, kl, hvl, hgl, hpl⟩ := lookO _ hu1k
    rename Fr _ _ _ _ => F13
    rename News _ _ _ _ => N13
    refine hno9 ?_
    refine For_turns F13 ?_
    (repeat' (first | (k_unfold; (try dsimp only)) | (((fail_if_success (with_reducible show wpAny _ _ (exec (Stmt.For _ _ _ _ _) _) _ _ _));(fail_if_success (with_reducible show wpAny _ _ (exec (Stmt.While _ _ _ _) _) _ _ _));(fail_if_success (with_reducible show wpAny _ _ (exec (Stmt.Assign _ (PySem.Expr.ListComp _ _ _ _) _) _) _ _ _));(fail_if_success (with_reducible show wpAny _ _ (eval (PySem.Expr.ListComp _ _ _ _) _) _ _ _));(fail_if_success (with_reducible show LCg.CompSrc _ _ _ _ _ _ _ _ _ _ _ _ _ _));(fail_if_success (with_reducible show LCg.CompEnd _ _ _ _ _ _ _ _ _ _ _ _ _ _));(fail_if_success (with_reducible show UnrEndW _ _ _ _ _ _))); (fail_if_success (with_reducible show wpAny _ _ (subscriptTail _ _ _ _) _ _ _)); (fail_if_success (with_reducible show wpAny _ _ (call (Value.ref _) _) _ _ _)); (first | (walk1; (all_goals (try dsimp only))) | (dsimp only; walk1) | (leave1; try dsimp only)))))
    refine dictItem (hDo.keep F13.keep) hvl ?_
    refine iterListG rfl F13 N13 ⟨_, hgl, rfl, kl, rfl⟩ ?_
    intro I2 hI2
    refine' itemsInd (hiJ ov u1.1 (highF ov u1.1) wl lp ((I, io) :: (wl, listOf vs.toArray kw) :: (L + 1 + 1 + 1, oab) :: (L + 1 + 1, olow2) :: (L + 1, oc3) :: tl)) ?done2 ?step2 _ _ _ ?init2
    case init2 => exact ⟨ul, _, _, _, rfl, hpl, getIn _, .inl rfl, rfl, rfl, rfl, rfl, rfl⟩
    case done2 =>
      intro m2 _ h14 tk14 hJ10 F14 N14
      refine Classical.byContradiction fun hno11 => ?_
      obtain ⟨us, ks, hi2, tj, hxs, hus2, hks, hhi, hfin2, rfl, hm3, hm4, hm5⟩ := hJ10
      cases hus2 with
      | cons => simp at hxs
      | nil =>
      obtain rfl : hi2 = highF ov u1.1 := hfin2
      replace F14 := fr_ats [("high", _), ("wood", _), ("places", _)] F14 (allc hm3 (allc hm4 (all1 hm5)))
      simp only [kstB] at F14
      have hhl : (highF ov u1.1).length ≤ 1000 := by
        rcases hhi with h | h
        · rw [h]; decide
        · exact hlk _ h
      refine hno11 ?_
      (repeat' (first | (k_unfold; (try dsimp only)) | (((fail_if_success (with_reducible show wpAny _ _ (exec (Stmt.For _ _ _ _ _) _) _ _ _));(fail_if_success (with_reducible show wpAny _ _ (exec (Stmt.While _ _ _ _) _) _ _ _));(fail_if_success (with_reducible show wpAny _ _ (exec (Stmt.Assign _ (PySem.Expr.ListComp _ _ _ _) _) _) _ _ _));(fail_if_success (with_reducible show wpAny _ _ (eval (PySem.Expr.ListComp _ _ _ _) _) _ _ _));(fail_if_success (with_reducible show LCg.CompSrc _ _ _ _ _ _ _ _ _ _ _ _ _ _));(fail_if_success (with_reducible show LCg.CompEnd _ _ _ _ _ _ _ _ _ _ _ _ _ _));(fail_if_success (with_reducible show UnrEndW _ _ _ _ _ _))); (fail_if_success (with_reducible show wpAny _ _ (subscriptTail _ _ _ _) _ _ _)); (fail_if_success (with_reducible show wpAny _ _ (exec (Stmt.Assign _ (PySem.Expr.IfExp _ _ _ _) _) _) _ _ _)); (first | (walk1; (all_goals (try dsimp only))) | (dsimp only; walk1) | (leave1; try dsimp only)))))
      rename Fr _ _ _ _ => F15
      rename News _ _ _ _ => N15
      refine cutAb (aboveF ov (highF ov u1.1)) F15 N15 ?ab ?rest
      case ab =>
        (repeat' (first | (k_unfold; (try dsimp only)) | (((fail_if_success (with_reducible show wpAny _ _ (exec (Stmt.For _ _ _ _ _) _) _ _ _));(fail_if_success (with_reducible show wpAny _ _ (exec (Stmt.While _ _ _ _) _) _ _ _));(fail_if_success (with_reducible show wpAny _ _ (exec (Stmt.Assign _ (PySem.Expr.ListComp _ _ _ _) _) _) _ _ _));(fail_if_success (with_reducible show wpAny _ _ (eval (PySem.Expr.ListComp _ _ _ _) _) _ _ _));(fail_if_success (with_reducible show LCg.CompSrc _ _ _ _ _ _ _ _ _ _ _ _ _ _));(fail_if_success (with_reducible show LCg.CompEnd _ _ _ _ _ _ _ _ _ _ _ _ _ _));(fail_if_success (with_reducible show UnrEndW _ _ _ _ _ _))); (fail_if_success (with_reducible show wpAny _ _ (subscriptTail _ _ _ _) _ _ _)); (fail_if_success (with_reducible show wpAny _ _ (call (Value.ref _) _) _ _ _)); (first | (walk1; (all_goals (try dsimp only))) | (dsimp only; walk1) | (leave1; try dsimp only)))))
        rotate_left 1
        · rename ((_ : Int) = 0) => hz0
          rename (_ ∧ _ ∧ _) => hlx2
          rename Fr _ _ _ _ => F16
          rename News _ _ _ _ => N16
          refine Classical.byContradiction fun hno12 => ?_
          obtain ⟨hx1, hx2, hx3, hx4, hx5, hx6⟩ := hlx2
          refine hno12 ?_
          refine storeX_C (c := L + 1 + 1 + 1) (o := oab) F16 N16 rfl (.tail (Nat.ne_of_gt hx3) (.tail (Nat.ne_of_gt q3) (.tail (Nat.ne_of_gt q1) (.head (allc (Nat.ne_of_lt (Nat.lt_succ_self _)) (allc (Nat.ne_of_lt (Nat.lt_succ_of_lt (Nat.lt_succ_self _))) (fun q hq => (hdis q hq).2.1))))))) hoab ?_
          intro h17 oab2 F17 N17 hab2
          (repeat' (first | (k_unfold; (try dsimp only)) | (((fail_if_success (with_reducible show wpAny _ _ (exec (Stmt.For _ _ _ _ _) _) _ _ _));(fail_if_success (with_reducible show wpAny _ _ (exec (Stmt.While _ _ _ _) _) _ _ _));(fail_if_success (with_reducible show wpAny _ _ (exec (Stmt.Assign _ (PySem.Expr.ListComp _ _ _ _) _) _) _ _ _));(fail_if_success (with_reducible show wpAny _ _ (eval (PySem.Expr.ListComp _ _ _ _) _) _ _ _));(fail_if_success (with_reducible show LCg.CompSrc _ _ _ _ _ _ _ _ _ _ _ _ _ _));(fail_if_success (with_reducible show LCg.CompEnd _ _ _ _ _ _ _ _ _ _ _ _ _ _));(fail_if_success (with_reducible show UnrEndW _ _ _ _ _ _))); (fail_if_success (with_reducible show wpAny _ _ (subscriptTail _ _ _ _) _ _ _)); (fail_if_success (with_reducible show wpAny _ _ (call (Value.ref _) _) _ _ _)); (first | (walk1; (all_goals (try dsimp only))) | (dsimp only; walk1) | (leave1; try dsimp only)))))
          refine ⟨rfl, h17, _, oab2, _, [], (_, listOf (#[]) 0) :: tl, rfl, F17, newsSub N17 ?_, hab2, fun p h => .tail _ h, allc ⟨Nat.ne_of_gt hx2, Nat.ne_of_gt hx3, Nat.ne_of_gt hx4, Nat.ne_of_gt hx5, Nat.ne_of_gt hx1⟩ hdis, ?_, fun L' h' m' F hh => ⟨_, hh _ (.head _), rfl, 0, rfl⟩⟩
          · intro p hp
            simp only [List.mem_cons] at hp ⊢
            rcases hp with h | h | h | h | h | h | h
            · exact .inr (.inl h)
            · exact .inr (.inr (.inl h))
            · exact .inr (.inr (.inr (.inl h)))
            · exact .inr (.inr (.inr (.inr (.inl h))))
            · exact .inr (.inr (.inr (.inr (.inr (.inl h)))))
            · exact .inl h
            · exact .inr (.inr (.inr (.inr (.inr (.inr h)))))
          · unfold aboveF
            rw [if_pos (by omega)]
            exact .nil
        · rename ((_ : Int) ≠ 0) => hz0
          have hhk : highF ov u1.1 ∈ ov.map (·.1) := hhi.resolve_left (fun e => hz0 (by rw [e]; rfl))
          refine Classical.byContradiction fun hno13 => ?_
          obtain ⟨Dh, uh, kh, hvh, hgh, hph⟩ := lookO _ hhk
          rename Fr _ _ _ _ => F16
          refine hno13 ?_
          refine dictItem (hDo.keep F16.keep) hvh ?_
          (repeat' (first | (k_unfold; (try dsimp only)) | (((fail_if_success (with_reducible show wpAny _ _ (exec (Stmt.For _ _ _ _ _) _) _ _ _));(fail_if_success (with_reducible show wpAny _ _ (exec (Stmt.While _ _ _ _) _) _ _ _));(fail_if_success (with_reducible show wpAny _ _ (exec (Stmt.Assign _ (PySem.Expr.ListComp _ _ _ _) _) _) _ _ _));(fail_if_success (with_reducible show wpAny _ _ (eval (PySem.Expr.ListComp _ _ _ _) _) _ _ _));(fail_if_success (with_reducible show LCg.CompSrc _ _ _ _ _ _ _ _ _ _ _ _ _ _));(fail_if_success (with_reducible show LCg.CompEnd _ _ _ _ _ _ _ _ _ _ _ _ _ _));(fail_if_success (with_reducible show UnrEndW _ _ _ _ _ _))); (fail_if_success (with_reducible show wpAny _ _ (subscriptTail _ _ _ _) _ _ _)); (fail_if_success (with_reducible show wpAny _ _ (call (Value.ref _) _) _ _ _)); (first | (walk1; (all_goals (try dsimp only))) | (dsimp only; walk1) | (leave1; try dsimp only)))))
          rename News _ _ _ _ => N16
          refine storeX_C (c := L + 1 + 1 + 1) (o := oab) F16 N16 rfl (.tail (Nat.ne_of_gt q3) (.tail (Nat.ne_of_gt q1) (.head (allc (Nat.ne_of_lt (Nat.lt_succ_self _)) (allc (Nat.ne_of_lt (Nat.lt_succ_of_lt (Nat.lt_succ_self _))) (fun q hq => (hdis q hq).2.1)))))) hoab ?_
          intro h17 oab2 F17 N17 hab2
          (repeat' (first | (k_unfold; (try dsimp only)) | (((fail_if_success (with_reducible show wpAny _ _ (exec (Stmt.For _ _ _ _ _) _) _ _ _));(fail_if_success (with_reducible show wpAny _ _ (exec (Stmt.While _ _ _ _) _) _ _ _));(fail_if_success (with_reducible show wpAny _ _ (exec (Stmt.Assign _ (PySem.Expr.ListComp _ _ _ _) _) _) _ _ _));(fail_if_success (with_reducible show wpAny _ _ (eval (PySem.Expr.ListComp _ _ _ _) _) _ _ _));(fail_if_success (with_reducible show LCg.CompSrc _ _ _ _ _ _ _ _ _ _ _ _ _ _));(fail_if_success (with_reducible show LCg.CompEnd _ _ _ _ _ _ _ _ _ _ _ _ _ _));(fail_if_success (with_reducible show UnrEndW _ _ _ _ _ _))); (fail_if_success (with_reducible show wpAny _ _ (subscriptTail _ _ _ _) _ _ _)); (fail_if_success (with_reducible show wpAny _ _ (call (Value.ref _) _) _ _ _)); (first | (walk1; (all_goals (try dsimp only))) | (dsimp only; walk1) | (leave1; try dsimp only)))))
          refine ⟨rfl, h17, _, oab2, Dh, uh, tl, rfl, F17, N17, hab2, fun _ h => h, hdis, ?_, fun L' h' m' F _ => ⟨_, F.keep _ _ hgh, rfl, kh, rfl⟩⟩
          unfold aboveF
          rw [if_neg (by omega)]
          exact hph
      case rest =>
        intro f s1 hJ14
        refine Classical.byContradiction fun hno15 => ?_
        obtain ⟨rfl, h20, tk20, oab2, A, vsA, tl2, rfl, F20, N20, hab2, htl2, hdis2, hpA, hAt⟩ := hJ14
        refine hno15 ?_
        (repeat' (first | (k_unfold; (try dsimp only)) | (((fail_if_success (with_reducible show wpAny _ _ (exec (Stmt.For _ _ _ _ _) _) _ _ _));(fail_if_success (with_reducible show wpAny _ _ (exec (Stmt.While _ _ _ _) _) _ _ _));(fail_if_success (with_reducible show wpAny _ _ (exec (Stmt.Assign _ (PySem.Expr.ListComp _ _ _ _) _) _) _ _ _));(fail_if_success (with_reducible show wpAny _ _ (eval (PySem.Expr.ListComp _ _ _ _) _) _ _ _));(fail_if_success (with_reducible show LCg.CompSrc _ _ _ _ _ _ _ _ _ _ _ _ _ _));(fail_if_success (with_reducible show LCg.CompEnd _ _ _ _ _ _ _ _ _ _ _ _ _ _));(fail_if_success (with_reducible show UnrEndW _ _ _ _ _ _))); (fail_if_success (with_reducible show wpAny _ _ (subscriptTail _ _ _ _) _ _ _)); (fail_if_success (with_reducible show wpAny _ _ (call (Value.ref _) _) _ _ _)); (first | (walk1; (all_goals (try dsimp only))) | (dsimp only; walk1) | (leave1; try dsimp only)))))
        rename Fr _ _ _ _ => F21
        rename News _ _ _ _ => N21
        have hull := hpl.length
        have hgl5 := getLen u1.1
        refine compListA (y := Str.ofString "more") (l := Dl) (vs := ul) (strP (fun k => !(aboveF ov (highF ov u1.1)).contains k)) StrFn rfl F21 N21 (by exact ⟨_, F21.keep _ _ hgl, rfl, kl, rfl⟩) (by omega) (by with_unfolding_all exact rfl) (by decide) rfl (by decide) rfl (by with_unfolding_all rfl) rfl rfl ?_ ?_ ?_ ?_
        · intro Q' q
          (repeat' (first | (k_unfold; (try dsimp only)) | (((fail_if_success (with_reducible show wpAny _ _ (exec (Stmt.For _ _ _ _ _) _) _ _ _));(fail_if_success (with_reducible show wpAny _ _ (exec (Stmt.While _ _ _ _) _) _ _ _));(fail_if_success (with_reducible show wpAny _ _ (exec (Stmt.Assign _ (PySem.Expr.ListComp _ _ _ _) _) _) _ _ _));(fail_if_success (with_reducible show wpAny _ _ (eval (PySem.Expr.ListComp _ _ _ _) _) _ _ _));(fail_if_success (with_reducible show LCg.CompSrc _ _ _ _ _ _ _ _ _ _ _ _ _ _));(fail_if_success (with_reducible show LCg.CompEnd _ _ _ _ _ _ _ _ _ _ _ _ _ _));(fail_if_success (with_reducible show UnrEndW _ _ _ _ _ _))); (fail_if_success (with_reducible show wpAny _ _ (subscriptTail _ _ _ _) _ _ _)); (fail_if_success (with_reducible show wpAny _ _ (call (Value.ref _) _) _ _ _)); (first | (walk1; (all_goals (try dsimp only))) | (dsimp only; walk1) | (leave1; try dsimp only)))))
          refine dictItem (hDo.keep F21.keep) hvl ?_
          exact q _
        · intro C v s3 m3 E3 hv hx3 F22 N22
          refine Classical.byContradiction fun hno16 => ?_
          obtain ⟨k, hk, t, rfl⟩ := pmem hpl hv
          replace F22 := fr_at (k := "other") F22 hx3
          refine hno16 ?_
          (repeat' (first | (k_unfold; (try dsimp only)) | (((fail_if_success (with_reducible show wpAny _ _ (exec (Stmt.For _ _ _ _ _) _) _ _ _));(fail_if_success (with_reducible show wpAny _ _ (exec (Stmt.While _ _ _ _) _) _ _ _));(fail_if_success (with_reducible show wpAny _ _ (exec (Stmt.Assign _ (PySem.Expr.ListComp _ _ _ _) _) _) _ _ _));(fail_if_success (with_reducible show wpAny _ _ (eval (PySem.Expr.ListComp _ _ _ _) _) _ _ _));(fail_if_success (with_reducible show LCg.CompSrc _ _ _ _ _ _ _ _ _ _ _ _ _ _));(fail_if_success (with_reducible show LCg.CompEnd _ _ _ _ _ _ _ _ _ _ _ _ _ _));(fail_if_success (with_reducible show UnrEndW _ _ _ _ _ _))); (fail_if_success (with_reducible show wpAny _ _ (subscriptTail _ _ _ _) _ _ _)); (fail_if_success (with_reducible show wpAny _ _ (call (Value.ref _) _) _ _ _)); (first | (walk1; (all_goals (try dsimp only))) | (dsimp only; walk1) | (leave1; try dsimp only)))))
          rotate_left 4
          · refine notInK (hAt _ _ _ F22 fun p hp => (N22 p (.tail _ (.tail _ (.tail _ (.tail _ (.tail _ hp)))))).1) hpA ?_
            (repeat' (first | (k_unfold; (try dsimp only)) | (((fail_if_success (with_reducible show wpAny _ _ (exec (Stmt.For _ _ _ _ _) _) _ _ _));(fail_if_success (with_reducible show wpAny _ _ (exec (Stmt.While _ _ _ _) _) _ _ _));(fail_if_success (with_reducible show wpAny _ _ (exec (Stmt.Assign _ (PySem.Expr.ListComp _ _ _ _) _) _) _ _ _));(fail_if_success (with_reducible show wpAny _ _ (eval (PySem.Expr.ListComp _ _ _ _) _) _ _ _));(fail_if_success (with_reducible show LCg.CompSrc _ _ _ _ _ _ _ _ _ _ _ _ _ _));(fail_if_success (with_reducible show LCg.CompEnd _ _ _ _ _ _ _ _ _ _ _ _ _ _));(fail_if_success (with_reducible show UnrEndW _ _ _ _ _ _))); (fail_if_success (with_reducible show wpAny _ _ (subscriptTail _ _ _ _) _ _ _)); (fail_if_success (with_reducible show wpAny _ _ (call (Value.ref _) _) _ _ _)); (first | (walk1; (all_goals (try dsimp only))) | (dsimp only; walk1) | (leave1; try dsimp only)))))
            exact TestPost.of rfl (fun _ _ e => e)
          all_goals first | exact L | exact (Str.ofString "") | exact Value.none | exact []
        · intro C v s3 m3 E3 hv hpv hx3 F22 N22
          refine Classical.byContradiction fun hno17 => ?_
          obtain ⟨k, hk, t, rfl⟩ := pmem hpl hv
          replace F22 := fr_at (k := "other") F22 hx3
          refine hno17 ?_
          (repeat' (first | (k_unfold; (try dsimp only)) | (((fail_if_success (with_reducible show wpAny _ _ (exec (Stmt.For _ _ _ _ _) _) _ _ _));(fail_if_success (with_reducible show wpAny _ _ (exec (Stmt.While _ _ _ _) _) _ _ _));(fail_if_success (with_reducible show wpAny _ _ (exec (Stmt.Assign _ (PySem.Expr.ListComp _ _ _ _) _) _) _ _ _));(fail_if_success (with_reducible show wpAny _ _ (eval (PySem.Expr.ListComp _ _ _ _) _) _ _ _));(fail_if_success (with_reducible show LCg.CompSrc _ _ _ _ _ _ _ _ _ _ _ _ _ _));(fail_if_success (with_reducible show LCg.CompEnd _ _ _ _ _ _ _ _ _ _ _ _ _ _));(fail_if_success (with_reducible show UnrEndW _ _ _ _ _ _))); (fail_if_success (with_reducible show wpAny _ _ (subscriptTail _ _ _ _) _ _ _)); (fail_if_success (with_reducible show wpAny _ _ (call (Value.ref _) _) _ _ _)); (first | (walk1; (all_goals (try dsimp only))) | (dsimp only; walk1) | (leave1; try dsimp only)))))
          all_goals first | exact L | exact (Str.ofString "") | exact Value.none | exact [] | exact ElPost.of (fun k' t' e => ⟨t', by rw [e]⟩) (fun _ _ e => e)
        · intro D h23 tk23 k23 ys hys hneD F23 N23
          (repeat' (first | (k_unfold; (try dsimp only)) | (((fail_if_success (with_reducible show wpAny _ _ (exec (Stmt.For _ _ _ _ _) _) _ _ _));(fail_if_success (with_reducible show wpAny _ _ (exec (Stmt.While _ _ _ _) _) _ _ _));(fail_if_success (with_reducible show wpAny _ _ (exec (Stmt.Assign _ (PySem.Expr.ListComp _ _ _ _) _) _) _ _ _));(fail_if_success (with_reducible show wpAny _ _ (eval (PySem.Expr.ListComp _ _ _ _) _) _ _ _));(fail_if_success (with_reducible show LCg.CompSrc _ _ _ _ _ _ _ _ _ _ _ _ _ _));(fail_if_success (with_reducible show LCg.CompEnd _ _ _ _ _ _ _ _ _ _ _ _ _ _));(fail_if_success (with_reducible show UnrEndW _ _ _ _ _ _))); (fail_if_success (with_reducible show wpAny _ _ (subscriptTail _ _ _ _) _ _ _)); (fail_if_success (with_reducible show wpAny _ _ (call (Value.ref _) _) _ _ _)); (first | (walk1; (all_goals (try dsimp only))) | (dsimp only; walk1) | (leave1; try dsimp only)))))
          rename Fr _ _ _ _ => F24
          rename News _ _ _ _ => N24
          have hvAl := hpA.length
          have hab5 : (aboveF ov (highF ov u1.1)).length ≤ 5 := by
            unfold aboveF
            split
            · decide
            · exact getLen _
          refine compListA (y := Str.ofString "less") (l := A) (vs := vsA) (strP (fun k => !(getO ov u1.1).contains k)) StrFn rfl F24 N24 (hAt _ _ _ F24 fun p hp => (N24 p (.tail _ (.tail _ (.tail _ (.tail _ (.tail _ (.tail _ hp))))))).1) (by omega) (by with_unfolding_all exact rfl) (by decide) rfl (by decide) rfl (by with_unfolding_all rfl) rfl rfl ?_ ?_ ?_ ?_
          · intro Q' q
            (repeat' (first | (k_unfold; (try dsimp only)) | (((fail_if_success (with_reducible show wpAny _ _ (exec (Stmt.For _ _ _ _ _) _) _ _ _));(fail_if_success (with_reducible show wpAny _ _ (exec (Stmt.While _ _ _ _) _) _ _ _));(fail_if_success (with_reducible show wpAny _ _ (exec (Stmt.Assign _ (PySem.Expr.ListComp _ _ _ _) _) _) _ _ _));(fail_if_success (with_reducible show wpAny _ _ (eval (PySem.Expr.ListComp _ _ _ _) _) _ _ _));(fail_if_success (with_reducible show LCg.CompSrc _ _ _ _ _ _ _ _ _ _ _ _ _ _));(fail_if_success (with_reducible show LCg.CompEnd _ _ _ _ _ _ _ _ _ _ _ _ _ _));(fail_if_success (with_reducible show UnrEndW _ _ _ _ _ _))); (fail_if_success (with_reducible show wpAny _ _ (subscriptTail _ _ _ _) _ _ _)); (fail_if_success (with_reducible show wpAny _ _ (call (Value.ref _) _) _ _ _)); (first | (walk1; (all_goals (try dsimp only))) | (dsimp only; walk1) | (leave1; try dsimp only)))))
            exact q _
          · intro C v s3 m3 E3 hv hx3 F25 N25
            refine Classical.byContradiction fun hno18 => ?_
            obtain ⟨k, hk, t, rfl⟩ := pmem hpA hv
            replace F25 := fr_at (k := "other") F25 hx3
            refine hno18 ?_
            (repeat' (first | (k_unfold; (try dsimp only)) | (((fail_if_success (with_reducible show wpAny _ _ (exec (Stmt.For _ _ _ _ _) _) _ _ _));(fail_if_success (with_reducible show wpAny _ _ (exec (Stmt.While _ _ _ _) _) _ _ _));(fail_if_success (with_reducible show wpAny _ _ (exec (Stmt.Assign _ (PySem.Expr.ListComp _ _ _ _) _) _) _ _ _));(fail_if_success (with_reducible show wpAny _ _ (eval (PySem.Expr.ListComp _ _ _ _) _) _ _ _));(fail_if_success (with_reducible show LCg.CompSrc _ _ _ _ _ _ _ _ _ _ _ _ _ _));(fail_if_success (with_reducible show LCg.CompEnd _ _ _ _ _ _ _ _ _ _ _ _ _ _));(fail_if_success (with_reducible show UnrEndW _ _ _ _ _ _))); (fail_if_success (with_reducible show wpAny _ _ (subscriptTail _ _ _ _) _ _ _)); (fail_if_success (with_reducible show wpAny _ _ (call (Value.ref _) _) _ _ _)); (first | (walk1; (all_goals (try dsimp only))) | (dsimp only; walk1) | (leave1; try dsimp only)))))
            rotate_left 4
            · refine dictItem (hDo.keep F25.keep) hvl ?_
              (repeat' (first | (k_unfold; (try dsimp only)) | (((fail_if_success (with_reducible show wpAny _ _ (exec (Stmt.For _ _ _ _ _) _) _ _ _));(fail_if_success (with_reducible show wpAny _ _ (exec (Stmt.While _ _ _ _) _) _ _ _));(fail_if_success (with_reducible show wpAny _ _ (exec (Stmt.Assign _ (PySem.Expr.ListComp _ _ _ _) _) _) _ _ _));(fail_if_success (with_reducible show wpAny _ _ (eval (PySem.Expr.ListComp _ _ _ _) _) _ _ _));(fail_if_success (with_reducible show LCg.CompSrc _ _ _ _ _ _ _ _ _ _ _ _ _ _));(fail_if_success (with_reducible show LCg.CompEnd _ _ _ _ _ _ _ _ _ _ _ _ _ _));(fail_if_success (with_reducible show UnrEndW _ _ _ _ _ _))); (fail_if_success (with_reducible show wpAny _ _ (subscriptTail _ _ _ _) _ _ _)); (fail_if_success (with_reducible show wpAny _ _ (call (Value.ref _) _) _ _ _)); (first | (walk1; (all_goals (try dsimp only))) | (dsimp only; walk1) | (leave1; try dsimp only)))))
              refine notInK (vs := ul) ⟨_, F25.keep _ _ hgl, rfl, kl, rfl⟩ hpl ?_
              (repeat' (first | (k_unfold; (try dsimp only)) | (((fail_if_success (with_reducible show wpAny _ _ (exec (Stmt.For _ _ _ _ _) _) _ _ _));(fail_if_success (with_reducible show wpAny _ _ (exec (Stmt.While _ _ _ _) _) _ _ _));(fail_if_success (with_reducible show wpAny _ _ (exec (Stmt.Assign _ (PySem.Expr.ListComp _ _ _ _) _) _) _ _ _));(fail_if_success (with_reducible show wpAny _ _ (eval (PySem.Expr.ListComp _ _ _ _) _) _ _ _));(fail_if_success (with_reducible show LCg.CompSrc _ _ _ _ _ _ _ _ _ _ _ _ _ _));(fail_if_success (with_reducible show LCg.CompEnd _ _ _ _ _ _ _ _ _ _ _ _ _ _));(fail_if_success (with_reducible show UnrEndW _ _ _ _ _ _))); (fail_if_success (with_reducible show wpAny _ _ (subscriptTail _ _ _ _) _ _ _)); (fail_if_success (with_reducible show wpAny _ _ (call (Value.ref _) _) _ _ _)); (first | (walk1; (all_goals (try dsimp only))) | (dsimp only; walk1) | (leave1; try dsimp only)))))
              exact TestPost.of rfl (fun _ _ e => e)
            all_goals first | exact L | exact (Str.ofString "") | exact Value.none | exact []
          · intro C v s3 m3 E3 hv hpv hx3 F25 N25
            refine Classical.byContradiction fun hno19 => ?_
            obtain ⟨k, hk, t, rfl⟩ := pmem hpA hv
            replace F25 := fr_at (k := "other") F25 hx3
            refine hno19 ?_
            (repeat' (first | (k_unfold; (try dsimp only)) | (((fail_if_success (with_reducible show wpAny _ _ (exec (Stmt.For _ _ _ _ _) _) _ _ _));(fail_if_success (with_reducible show wpAny _ _ (exec (Stmt.While _ _ _ _) _) _ _ _));(fail_if_success (with_reducible show wpAny _ _ (exec (Stmt.Assign _ (PySem.Expr.ListComp _ _ _ _) _) _) _ _ _));(fail_if_success (with_reducible show wpAny _ _ (eval (PySem.Expr.ListComp _ _ _ _) _) _ _ _));(fail_if_success (with_reducible show LCg.CompSrc _ _ _ _ _ _ _ _ _ _ _ _ _ _));(fail_if_success (with_reducible show LCg.CompEnd _ _ _ _ _ _ _ _ _ _ _ _ _ _));(fail_if_success (with_reducible show UnrEndW _ _ _ _ _ _))); (fail_if_success (with_reducible show wpAny _ _ (subscriptTail _ _ _ _) _ _ _)); (fail_if_success (with_reducible show wpAny _ _ (call (Value.ref _) _) _ _ _)); (first | (walk1; (all_goals (try dsimp only))) | (dsimp only; walk1) | (leave1; try dsimp only)))))
            all_goals first | exact L | exact (Str.ofString "") | exact Value.none | exact [] | exact ElPost.of (fun k' t' e => ⟨t', by rw [e]⟩) (fun _ _ e => e)
          · intro D2 h26 tk26 k26 ys2 hys2 hneD2 F26 N26
            have hvp := valueAt_mem (Heap.DictOf.nodup' hDp) (hmem u1 (.head _))
            (repeat' (first | (k_unfold; (try dsimp only)) | (((fail_if_success (with_reducible show wpAny _ _ (exec (Stmt.For _ _ _ _ _) _) _ _ _));(fail_if_success (with_reducible show wpAny _ _ (exec (Stmt.While _ _ _ _) _) _ _ _));(fail_if_success (with_reducible show wpAny _ _ (exec (Stmt.Assign _ (PySem.Expr.ListComp _ _ _ _) _) _) _ _ _));(fail_if_success (with_reducible show wpAny _ _ (eval (PySem.Expr.ListComp _ _ _ _) _) _ _ _));(fail_if_success (with_reducible show LCg.CompSrc _ _ _ _ _ _ _ _ _ _ _ _ _ _));(fail_if_success (with_reducible show LCg.CompEnd _ _ _ _ _ _ _ _ _ _ _ _ _ _));(fail_if_success (with_reducible show UnrEndW _ _ _ _ _ _))); (fail_if_success (with_reducible show wpAny _ _ (subscriptTail _ _ _ _) _ _ _)); (fail_if_success (with_reducible show wpAny _ _ (call (Value.ref _) _) _ _ _)); (first | (walk1; (all_goals (try dsimp only))) | (dsimp only; walk1) | (leave1; try dsimp only)))))
            refine dictItem (hDp.keep F26.keep) hvp ?_
            (repeat' (first | (k_unfold; (try dsimp only)) | (((fail_if_success (with_reducible show wpAny _ _ (exec (Stmt.For _ _ _ _ _) _) _ _ _));(fail_if_success (with_reducible show wpAny _ _ (exec (Stmt.While _ _ _ _) _) _ _ _));(fail_if_success (with_reducible show wpAny _ _ (exec (Stmt.Assign _ (PySem.Expr.ListComp _ _ _ _) _) _) _ _ _));(fail_if_success (with_reducible show wpAny _ _ (eval (PySem.Expr.ListComp _ _ _ _) _) _ _ _));(fail_if_success (with_reducible show LCg.CompSrc _ _ _ _ _ _ _ _ _ _ _ _ _ _));(fail_if_success (with_reducible show LCg.CompEnd _ _ _ _ _ _ _ _ _ _ _ _ _ _));(fail_if_success (with_reducible show UnrEndW _ _ _ _ _ _))); (fail_if_success (with_reducible show wpAny _ _ (subscriptTail _ _ _ _) _ _ _)); (fail_if_success (with_reducible show wpAny _ _ (call (Value.ref _) _) _ _ _)); (first | (walk1; (all_goals (try dsimp only))) | (dsimp only; walk1) | (leave1; try dsimp only)))))
            rename Fr _ _ _ _ => F28
            rename News _ _ _ _ => N28
            rename (_ ∧ _ ∧ _) => hlT
            refine Classical.byContradiction fun hno20 => ?_
            obtain ⟨z1, z2, z3, z4, z5, z6, z7, z8⟩ := hlT
            have hvl9 := hpd.length
            have yD : DisW L I wl D := ⟨(hneD (wl, _) (.tail _ (.head _))).symm, (hneD (L + 1 + 1 + 1, _) (.tail _ (.tail _ (.head _)))).symm, (hneD (L + 1 + 1, _) (.tail _ (.tail _ (.tail _ (.head _))))).symm, (hneD (L + 1, _) (.tail _ (.tail _ (.tail _ (.tail _ (.head _)))))).symm, (hneD (I, _) (.head _)).symm⟩
            have yD2 : DisW L I wl D2 := ⟨(hneD2 (wl, _) (.tail _ (.tail _ (.head _)))).symm, (hneD2 (L + 1 + 1 + 1, _) (.tail _ (.tail _ (.tail _ (.head _))))).symm, (hneD2 (L + 1 + 1, _) (.tail _ (.tail _ (.tail _ (.tail _ (.head _)))))).symm, (hneD2 (L + 1, _) (.tail _ (.tail _ (.tail _ (.tail _ (.tail _ (.head _))))))).symm, (hneD2 (I, _) (.tail _ (.head _))).symm⟩
            refine hno20 ?_
            refine appendL (vs := vs) F28 N28 (by simp only [List.length_cons] at hlen2; omega) (.tail (Nat.ne_of_gt z4) (.tail yD2.1 (.tail yD.1 (.tail (Nat.ne_of_gt q2) (.head (allc (Nat.ne_of_lt q1) (allc (Nat.ne_of_lt (Nat.lt_trans (Nat.lt_succ_self _) q1)) (allc (Nat.ne_of_lt (Nat.lt_trans (Nat.lt_succ_of_lt (Nat.lt_succ_self _)) q1)) (fun q hq => (hdis2 q hq).1))))))))) ?_
            intro h30 F30 N30
            (repeat' (first | (k_unfold; (try dsimp only)) | (((fail_if_success (with_reducible show wpAny _ _ (exec (Stmt.For _ _ _ _ _) _) _ _ _));(fail_if_success (with_reducible show wpAny _ _ (exec (Stmt.While _ _ _ _) _) _ _ _));(fail_if_success (with_reducible show wpAny _ _ (exec (Stmt.Assign _ (PySem.Expr.ListComp _ _ _ _) _) _) _ _ _));(fail_if_success (with_reducible show wpAny _ _ (eval (PySem.Expr.ListComp _ _ _ _) _) _ _ _));(fail_if_success (with_reducible show LCg.CompSrc _ _ _ _ _ _ _ _ _ _ _ _ _ _));(fail_if_success (with_reducible show LCg.CompEnd _ _ _ _ _ _ _ _ _ _ _ _ _ _));(fail_if_success (with_reducible show UnrEndW _ _ _ _ _ _))); (fail_if_success (with_reducible show wpAny _ _ (subscriptTail _ _ _ _) _ _ _)); (fail_if_success (with_reducible show wpAny _ _ (call (Value.ref _) _) _ _ _)); (first | (walk1; (all_goals (try dsimp only))) | (dsimp only; walk1) | (leave1; try dsimp only)))))
            have hu1e : u1.1 = k1.1 := hu1.1
            rw [hu1e] at hys hys2 hpA hpl N30
            refine wdEnd F30 N30 ⟨_, _, _, _, rfl, hu1.2⟩ (pstr (pfilter hpl) hys) (pstr (pfilter hpA) hys2) ⟨Nat.ne_of_gt z4, Nat.ne_of_gt z5, Nat.ne_of_gt z6, Nat.ne_of_gt z7, Nat.ne_of_gt z3⟩ yD yD2 htl2 hdis2 hab2 how2 q1 q2 (fun q hq => hmem q (.tail _ hq)) hus3 hpd hfin hlen2 rfl rfl
    case step2 =>
      intro _ r2 m2 _ v2 h14 tk14 its2 hJ21 hv F14 hj N14
      refine Classical.byContradiction fun hno22 => ?_
      obtain ⟨us, ks, hi2, tj, hxs, hus2, hks, hhi, hfin2, rfl, hm3, hm4, hm5⟩ := hJ21
      cases hus2 with
      | nil => simp at hxs
      | @cons o1 ok us2 ks2 hu1 hus3 =>
      simp only [List.map_cons, List.cons.injEq] at hxs
      obtain ⟨rfl, rfl⟩ := hxs
      obtain ⟨to, rfl⟩ := hu1
      obtain rfl : v2 = .str ok to := hv
      obtain ⟨jo, rfl, hjo⟩ := objs1 hj
      have hko := hks ok (.head _)
      obtain ⟨Do, uo, ko, hvo, hgo, hpo⟩ := lookO _ hko
      replace N14 := show News _ _ _ ((I2, jo) :: (I, io) :: (wl, listOf vs.toArray kw) :: (L + 1 + 1 + 1, oab) :: (L + 1 + 1, olow2) :: (L + 1, oc3) :: tl) from N14
      replace F14 := fr_ats [("high", _), ("wood", _), ("places", _)] F14 (allc hm3 (allc hm4 (all1 hm5)))
      simp only [kstB] at F14
      refine hno22 ?_
      (repeat' (first | (k_unfold; (try dsimp only)) | (((fail_if_success (with_reducible show wpAny _ _ (exec (Stmt.For _ _ _ _ _) _) _ _ _));(fail_if_success (with_reducible show wpAny _ _ (exec (Stmt.While _ _ _ _) _) _ _ _));(fail_if_success (with_reducible show wpAny _ _ (exec (Stmt.Assign _ (PySem.Expr.ListComp _ _ _ _) _) _) _ _ _));(fail_if_success (with_reducible show wpAny _ _ (eval (PySem.Expr.ListComp _ _ _ _) _) _ _ _));(fail_if_success (with_reducible show LCg.CompSrc _ _ _ _ _ _ _ _ _ _ _ _ _ _));(fail_if_success (with_reducible show LCg.CompEnd _ _ _ _ _ _ _ _ _ _ _ _ _ _));(fail_if_success (with_reducible show UnrEndW _ _ _ _ _ _))); (fail_if_success (with_reducible show wpAny _ _ (subscriptTail _ _ _ _) _ _ _)); (fail_if_success (with_reducible show wpAny _ _ (call (Value.ref _) _) _ _ _)); (first | (walk1; (all_goals (try dsimp only))) | (dsimp only; walk1) | (leave1; try dsimp only)))))
      · rename Fr _ _ _ _ => F15
        rename News _ _ _ _ => N15
        rename ((_ : Bool) = true) => hz
        revert hz
        rename ((_ : Bool) = true) => he
        intro hz
        refine hiEnd F15 N15 hI2 hus3 hks ?_ hhi hfin2 rfl rfl rfl
        unfold highStep
        rw [if_pos ⟨by simpa using he, .inl (by simpa using hz)⟩]
      · rename ((_ : Bool) = false) => hnz
        have hnz' : hi2 ≠ Str.ofString "" := by simpa using hnz
        have hhk : hi2 ∈ ov.map (·.1) := hhi.resolve_left hnz'
        refine Classical.byContradiction fun hno23 => ?_
        obtain ⟨Dh, uh, kh, hvh, hgh, hph⟩ := lookO _ hhk
        rename Fr _ _ _ _ => F15
        have hLo : s.heap.IsList Do uo.toArray := ⟨_, hgo, rfl, ko, rfl⟩
        have hLh : s.heap.IsList Dh uh.toArray := ⟨_, hgh, rfl, kh, rfl⟩
        refine hno23 ?_
        refine dictItem (hDo.keep F15.keep) hvo ?_
        (repeat' (first | (k_unfold; (try dsimp only)) | (((fail_if_success (with_reducible show wpAny _ _ (exec (Stmt.For _ _ _ _ _) _) _ _ _));(fail_if_success (with_reducible show wpAny _ _ (exec (Stmt.While _ _ _ _) _) _ _ _));(fail_if_success (with_reducible show wpAny _ _ (exec (Stmt.Assign _ (PySem.Expr.ListComp _ _ _ _) _) _) _ _ _));(fail_if_success (with_reducible show wpAny _ _ (eval (PySem.Expr.ListComp _ _ _ _) _) _ _ _));(fail_if_success (with_reducible show LCg.CompSrc _ _ _ _ _ _ _ _ _ _ _ _ _ _));(fail_if_success (with_reducible show LCg.CompEnd _ _ _ _ _ _ _ _ _ _ _ _ _ _));(fail_if_success (with_reducible show UnrEndW _ _ _ _ _ _))); (fail_if_success (with_reducible show wpAny _ _ (subscriptTail _ _ _ _) _ _ _)); (fail_if_success (with_reducible show wpAny _ _ (call (Value.ref _) _) _ _ _)); (first | (walk1; (all_goals (try dsimp only))) | (dsimp only; walk1) | (leave1; try dsimp only)))))
        refine kun_lenL (items := uo.toArray) (k := ((getO ov ok).length : Int)) (hLo.at fun o e => F15.keep _ _ e) (by rw [List.size_toArray, hpo.length]) (by have := getLen ok; omega) ?_
        (repeat' (first | (k_unfold; (try dsimp only)) | (((fail_if_success (with_reducible show wpAny _ _ (exec (Stmt.For _ _ _ _ _) _) _ _ _));(fail_if_success (with_reducible show wpAny _ _ (exec (Stmt.While _ _ _ _) _) _ _ _));(fail_if_success (with_reducible show wpAny _ _ (exec (Stmt.Assign _ (PySem.Expr.ListComp _ _ _ _) _) _) _ _ _));(fail_if_success (with_reducible show wpAny _ _ (eval (PySem.Expr.ListComp _ _ _ _) _) _ _ _));(fail_if_success (with_reducible show LCg.CompSrc _ _ _ _ _ _ _ _ _ _ _ _ _ _));(fail_if_success (with_reducible show LCg.CompEnd _ _ _ _ _ _ _ _ _ _ _ _ _ _));(fail_if_success (with_reducible show UnrEndW _ _ _ _ _ _))); (fail_if_success (with_reducible show wpAny _ _ (subscriptTail _ _ _ _) _ _ _)); (fail_if_success (with_reducible show wpAny _ _ (call (Value.ref _) _) _ _ _)); (first | (walk1; (all_goals (try dsimp only))) | (dsimp only; walk1) | (leave1; try dsimp only)))))
        refine dictItem (hDo.keep F15.keep) hvh ?_
        (repeat' (first | (k_unfold; (try dsimp only)) | (((fail_if_success (with_reducible show wpAny _ _ (exec (Stmt.For _ _ _ _ _) _) _ _ _));(fail_if_success (with_reducible show wpAny _ _ (exec (Stmt.While _ _ _ _) _) _ _ _));(fail_if_success (with_reducible show wpAny _ _ (exec (Stmt.Assign _ (PySem.Expr.ListComp _ _ _ _) _) _) _ _ _));(fail_if_success (with_reducible show wpAny _ _ (eval (PySem.Expr.ListComp _ _ _ _) _) _ _ _));(fail_if_success (with_reducible show LCg.CompSrc _ _ _ _ _ _ _ _ _ _ _ _ _ _));(fail_if_success (with_reducible show LCg.CompEnd _ _ _ _ _ _ _ _ _ _ _ _ _ _));(fail_if_success (with_reducible show UnrEndW _ _ _ _ _ _))); (fail_if_success (with_reducible show wpAny _ _ (subscriptTail _ _ _ _) _ _ _)); (fail_if_success (with_reducible show wpAny _ _ (call (Value.ref _) _) _ _ _)); (first | (walk1; (all_goals (try dsimp only))) | (dsimp only; walk1) | (leave1; try dsimp only)))))
        refine kun_lenL (items := uh.toArray) (k := ((getO ov hi2).length : Int)) (hLh.at fun o e => F15.keep _ _ e) (by rw [List.size_toArray, hph.length]) (by have := getLen hi2; omega) ?_
        have heS : ok ≠ u1.1 := by
          rename ((_ : Bool) = true) => he
          simpa using he
        (repeat' (first | (k_unfold; (try dsimp only)) | (((fail_if_success (with_reducible show wpAny _ _ (exec (Stmt.For _ _ _ _ _) _) _ _ _));(fail_if_success (with_reducible show wpAny _ _ (exec (Stmt.While _ _ _ _) _) _ _ _));(fail_if_success (with_reducible show wpAny _ _ (exec (Stmt.Assign _ (PySem.Expr.ListComp _ _ _ _) _) _) _ _ _));(fail_if_success (with_reducible show wpAny _ _ (eval (PySem.Expr.ListComp _ _ _ _) _) _ _ _));(fail_if_success (with_reducible show LCg.CompSrc _ _ _ _ _ _ _ _ _ _ _ _ _ _));(fail_if_success (with_reducible show LCg.CompEnd _ _ _ _ _ _ _ _ _ _ _ _ _ _));(fail_if_success (with_reducible show UnrEndW _ _ _ _ _ _))); (fail_if_success (with_reducible show wpAny _ _ (subscriptTail _ _ _ _) _ _ _)); (fail_if_success (with_reducible show wpAny _ _ (call (Value.ref _) _) _ _ _)); (first | (walk1; (all_goals (try dsimp only))) | (dsimp only; walk1) | (leave1; try dsimp only)))))
        · rename Fr _ _ _ _ => F16
          rename News _ _ _ _ => N16
          rename (_ < _) => hlt
          refine hiEnd F16 N16 hI2 hus3 hks ?_ hhi hfin2 rfl rfl rfl
          unfold highStep
          rw [if_pos ⟨heS, .inr (by omega)⟩]
        · rename Fr _ _ _ _ => F16
          rename News _ _ _ _ => N16
          rename (¬ _ < _) => hlt
          refine hiEnd F16 N16 hI2 hus3 hks ?_ hhi hfin2 rfl rfl rfl
          unfold highStep
          rw [if_neg]
          rintro ⟨_, h | h⟩
          · exact hnz' h
          · exact hlt (by omega)
      · rename Fr _ _ _ _ => F15
        rename News _ _ _ _ => N15
        rename ((_ : Bool) = false) => he
        refine hiEnd F15 N15 hI2 hus3 hks ?_ hhi hfin2 rfl rfl rfl
        unfold highStep
        rw [if_neg (fun h => h.1 (by simpa using he))]
end
section
open PySem PySem.W PySem.Calls PyProof.Rows
/-- every object of a heap beside the frame's own and the ground's -/
def exOf (g h : Heap) (L : Addr) : List (Addr × Obj) := (List.range h.objs.size).filterMap fun a => if a = L ∨ (g.get? a).isSome = true then none else (h.get? a).map (fun o => (a, o))
theorem exOf_mem {g h : Heap} {L : Addr} {p : Addr × Obj} : p ∈ exOf g h L ↔ h.get? p.1 = some p.2 ∧ p.1 ≠ L ∧ g.get? p.1 = none := by
  unfold exOf
  rw [List.mem_filterMap]
  constructor
  · rintro ⟨a, _, e⟩
    split at e
    · cases e
    · rename_i hn
      cases ho : h.get? a with
      | none => rw [ho] at e; cases e
      | some o =>
        rw [ho] at e
        simp only [Option.map_some, Option.some.injEq] at e
        subst e
        refine ⟨ho, fun e => hn (.inl e), ?_⟩
        cases hg : g.get? a with
        | none => rfl
        | some o' => exact absurd (.inr (by rw [hg]; rfl)) hn
  · rintro ⟨h1, h2, h3⟩
    refine ⟨p.1, List.mem_range.mpr (Heap.lt_size h1), ?_⟩
    rw [if_neg (by rw [h3]; rintro (e | e); exact h2 e; exact nomatch e), h1]
    rfl
theorem exNews (g h : Heap) (L : Addr) : News g L h (exOf g h L) := fun _ hp => exOf_mem.mp hp
def KeepL (L : Addr) (h h2 : Heap) : Prop := ∀ a o, a ≠ L → h.get? a = some o → h2.get? a = some o
theorem exKeep {g h h2 : Heap} {L : Addr} {m m2 : Str → Option Value} {all : List (Addr × Obj)} (F : Fr g L h m) (F2 : Fr g L h2 m2) (N2 : News g L h2 all) (hs : ∀ p ∈ exOf g h L, p ∈ all) : KeepL L h h2 := by
  intro a o hL e
  cases hg : g.get? a with
  | none => exact (N2 _ (hs (a, o) (exOf_mem.mpr ⟨e, hL, hg⟩))).1
  | some o' =>
    have h1 := F.keep a o' hg
    rw [e] at h1
    exact h1 ▸ F2.keep a o' hg
theorem seqNe {h : Heap} {L a : Addr} {m : Str → Option Value} {c : Value} {v : Array Value} {k : Nat} (n : h.Ns L m) (e : h.get? a = some { cls := c, data := .seq v k }) : a ≠ L := by
  rintro rfl
  obtain ⟨o, es, ep, ho, hd, _⟩ := n
  rw [e] at ho
  cases ho
  cases hd
theorem oldNe {h : Heap} {L d : Addr} {m : Str → Option Value} (n : h.Ns L m) (e : h.get? d = none) : d ≠ L := by
  rintro rfl
  obtain ⟨o, es, ep, ho, hd, _⟩ := n
  rw [e] at ho
  cases ho
def KeepS (h h2 : Heap) : Prop := ∀ a c v k, h.get? a = some { cls := c, data := .seq v k } → h2.get? a = some { cls := c, data := .seq v k }
theorem KeepL.seq {h h2 : Heap} {L : Addr} {m : Str → Option Value} (k : KeepL L h h2) (n : h.Ns L m) : KeepS h h2 := fun a _ _ _ e => k a _ (seqNe n e) e
theorem Keep.seq {h h2 : Heap} (k : Keep h h2) : KeepS h h2 := fun a _ _ _ e => k a _ e
theorem ListAt.up {α : Type} {R R' : Value → α → Prop} {h h2 : Heap} {r : Value} {xs : List α} (x : ListAt R h r xs) (k : KeepS h h2) (hr : ∀ v a, R v a → R' v a) : ListAt R' h2 r xs :=
  let ⟨d, vs, n, e, hd, hp⟩ := x; ⟨d, vs, n, e, k _ _ _ _ hd, pmono hp hr⟩
def Kept (g : Heap) (L : Addr) (h : Heap) (ex : List (Addr × Obj)) : Prop := ∀ h2 m2 all, Fr g L h2 m2 → News g L h2 all → (∀ p ∈ ex, p ∈ all) → KeepL L h h2 ∧ KeepS h h2
theorem opened {g h : Heap} {L : Addr} {m : Str → Option Value} (F : Fr g L h m) : ∃ ex, News g L h ex ∧ Kept g L h ex ∧ ∀ a o, h.get? a = some o → a ≠ L → g.get? a = none → (a, o) ∈ ex :=
  ⟨exOf g h L, exNews g h L, fun _ _ _ F2 N2 hs => ⟨exKeep F F2 N2 hs, (exKeep F F2 N2 hs).seq F.ns⟩, fun a o e hL hg => exOf_mem.mpr ⟨e, hL, hg⟩⟩
theorem isRow.up {h h2 : Heap} (k : KeepS h h2) (v : Value) (r : Row) : isRow (fun a o => h.get? a = some o) v r → isRow (fun a o => h2.get? a = some o) v r
  | ⟨T, t1, t2, t3, t4, t5, n, e, hT⟩ => ⟨T, t1, t2, t3, t4, t5, n, e, k _ _ _ _ hT⟩
theorem pathOf {rows : List Row} (h : GrownOk rows) : ∀ r ∈ rows, ∃ n : Int, 0 ≤ n ∧ n < 2 ∧ r.path = r.stem ++ Txt.mul (Str.ofString "/") n := by
  induction h with
  | nil => exact fun _ h => nomatch h
  | snoc _ hr ih =>
    intro r h
    rcases List.mem_append.mp h with h | h
    · exact ih r h
    · rw [List.mem_singleton.mp h]
      obtain ⟨_, _, _, _, n, h1, h2, h3⟩ := hr
      exact ⟨n, h1, h2, h3⟩
theorem pathLen {rows : List Row} (h : GrownOk rows) (hl : ∀ r ∈ rows, r.host.length ≤ 100 ∧ r.stem.length ≤ 100) : ∀ r ∈ rows, r.host.length ≤ 100 ∧ r.path.length ≤ 102 := by
  intro r hr
  refine ⟨(hl r hr).1, ?_⟩
  obtain ⟨n, h1, h2, e⟩ := pathOf h r hr
  rw [e, Str.length_append]
  have := (hl r hr).2
  have h3 : (Txt.mul (Str.ofString "/") n).length ≤ 1 := by
    obtain rfl | rfl : n = 0 ∨ n = 1 := by omega
    all_goals decide
  omega
theorem upOf {rows : List Row} (h : GrownOk rows) : ∀ r ∈ rows, -1 ≤ r.up ∧ r.up < rows.length := by
  induction h with
  | nil => exact fun _ h => nomatch h
  | @snoc rows r0 _ hr ih =>
    intro r h
    have hl : (rows ++ [r0]).length = rows.length + 1 := by simp
    rw [hl]
    rcases List.mem_append.mp h with h | h
    · have := ih r h
      omega
    · rw [List.mem_singleton.mp h]
      obtain ⟨h1, nm, _, hc, _⟩ := hr
      refine ⟨h1, ?_⟩
      rcases hc with ⟨h0, p, hp, _⟩ | ⟨h0, _⟩ | ⟨h0, _⟩
      · have := (List.getElem?_eq_some_iff.mp hp).1
        omega
      · omega
      · omega
end
section
open PySem PySem.W PySem.Calls PyProof.Rows
def keyF (i : Int) : Str := Str.ofString "k" ++ Str.ofString (toString i)
def toldRow (rows : List Row) (i : Int) : WRow := match rows[i.toNat]? with
  | some r => ⟨keyF i, if 0 ≤ r.up then keyF r.up else Str.ofString "", (r.host, r.path), [keyF i], []⟩
  | none => ⟨Str.ofString "", Str.ofString "", (Str.ofString "", Str.ofString ""), [], []⟩
def toldF (rows : List Row) (os : List Int) : List WRow := os.map (toldRow rows)
/-- what the plain law gives to the walk -/
def PlainOk (rows : List Row) (os : List Int) (ag : Nat) : Prop := ∃ kvs : List KV,
  (headerF rows os ag).length ≤ 100000 ∧ phl (headerF rows os ag) = kvs.map joinKV ∧ (∀ p ∈ kvs, KVok p) ∧ kvs.length ≤ 1000 ∧
  (∀ p ∈ keqv kvs, p.2.length ≤ 100000) ∧ (keqv kvs).length ≤ 1000 ∧
  (placesF (keqv kvs)).length ≤ 5 ∧ (∀ p ∈ placesF (keqv kvs), p.2.1.length ≤ 1000 ∧ p.2.2.length ≤ 1000) ∧
  (placesF (keqv kvs)).map (·.1) = (overF (placesF (keqv kvs))).map (·.1) ∧ (∀ p ∈ overF (placesF (keqv kvs)), ∀ k ∈ p.2, k ∈ (overF (placesF (keqv kvs))).map (·.1)) ∧
  (∀ p ∈ overF (placesF (keqv kvs)), p.2.length ≤ 5) ∧ (∀ k ∈ (overF (placesF (keqv kvs))).map (·.1), k.length ≤ 1000) ∧
  woodF (placesF (keqv kvs)) (overF (placesF (keqv kvs))) = toldF rows os
end
section
open PySem PySem.W PySem.Calls PyProof.Rows
open PySem.SeqAt
theorem allTrue (n : Nat) : (List.range n).all (fun _ => true) = true := by simp
theorem eqStrs {A : Around} {s : Shared} {u v : Value} {xs : List Str} (hu : A.units < cLine) (h1 : isStrL (fun a o => s.heap.get? a = some o) u xs) (h2 : isStrL (fun a o => s.heap.get? a = some o) v xs) : EqAt A s u v true := by
  obtain ⟨D, vs, k, rfl, hD, hp⟩ := h1
  obtain ⟨D2, vs2, k2, rfl, hD2, hp2⟩ := h2
  by_cases e : D = D2
  · subst e; exact EqAt.same _
  · refine EqAt.of_refs e ?_
    have l1 := hp.length
    have l2 := hp2.length
    have hs : vs.toArray.size = vs2.toArray.size := by rw [List.size_toArray, List.size_toArray]; omega
    have r := RcAt.lists (A := A) (s := s) (e := fun _ => true) (l := D) (b := D2) (items := vs.toArray) (items2 := vs2.toArray) ⟨_, hD, rfl, k, rfl⟩ ⟨_, hD2, rfl, k2, rfl⟩ hs hu (fun j h1 h2 => ?_)
    · rw [allTrue] at r; exact r
    · have hj : j < vs.length := by simpa using h1
      have hj2 : j < vs2.length := by simpa using h2
      have hjx : j < xs.length := by omega
      obtain ⟨a, ha, ta, rfl⟩ := pget hp (List.getElem?_eq_getElem hjx)
      obtain ⟨b, hb, tb, rfl⟩ := pget hp2 (List.getElem?_eq_getElem hjx)
      have ea : vs.toArray[j] = .str xs[j] ta := by
        have := List.getElem?_eq_getElem hj
        rw [ha] at this
        simpa using (Option.some.inj this).symm
      have eb : vs2.toArray[j] = .str xs[j] tb := by
        have := List.getElem?_eq_getElem hj2
        rw [hb] at this
        simpa using (Option.some.inj this).symm
      rw [ea, eb]
      have := EqAt.str_str (A := A.in1) (s := s) xs[j] ta xs[j] tb
      rwa [beq_self_eq_true] at this
theorem eqPair {A : Around} {s : Shared} {u v : Value} {p : Str × Str} (hu : A.units < cLine) (h1 : isTup2 (fun a o => s.heap.get? a = some o) u p) (h2 : isTup2 (fun a o => s.heap.get? a = some o) v p) : EqAt A s u v true := by
  obtain ⟨D, a1, a2, k, rfl, hD⟩ := h1
  obtain ⟨D2, b1, b2, k2, rfl, hD2⟩ := h2
  by_cases e : D = D2
  · subst e; exact EqAt.same _
  · refine EqAt.of_refs e ?_
    have r := RcAt.tuples (A := A) (s := s) (e := fun _ => true) (l := D) (b := D2) (items := #[.str p.1 a1, .str p.2 a2]) (items2 := #[.str p.1 b1, .str p.2 b2]) ⟨_, hD, rfl, k, rfl⟩ ⟨_, hD2, rfl, k2, rfl⟩ hu (fun j h1 h2 => ?_)
    · exact r
    · have h1' : j < 2 := h1
      obtain rfl | rfl : j = 0 ∨ j = 1 := by omega
      · have := EqAt.str_str (A := A.in1) (s := s) p.1 a1 p.1 b1
        rwa [beq_self_eq_true] at this
      · have := EqAt.str_str (A := A.in1) (s := s) p.2 a2 p.2 b2
        rwa [beq_self_eq_true] at this
theorem eqRow {A : Around} {s : Shared} {u v : Value} {p : WRow} (hu : A.in1.units < cLine) (hu0 : A.units < cLine) (h1 : isWood (fun a o => s.heap.get? a = some o) (fun a o => s.heap.get? a = some o) u p) (h2 : isWood (fun a o => s.heap.get? a = some o) (fun a o => s.heap.get? a = some o) v p) : EqAt A s u v true := by
  obtain ⟨D, a1, a2, pa, ma, la, k, rfl, hD, hpa, hma, hla⟩ := h1
  obtain ⟨D2, b1, b2, pb, mb, lb, k2, rfl, hD2, hpb, hmb, hlb⟩ := h2
  by_cases e : D = D2
  · subst e; exact EqAt.same _
  · refine EqAt.of_refs e ?_
    have r := RcAt.tuples (A := A) (s := s) (e := fun _ => true) (l := D) (b := D2) (items := #[.str p.low a1, .str p.high a2, pa, ma, la]) (items2 := #[.str p.low b1, .str p.high b2, pb, mb, lb]) ⟨_, hD, rfl, k, rfl⟩ ⟨_, hD2, rfl, k2, rfl⟩ hu0 (fun j h1 h2 => ?_)
    · exact r
    · have h1' : j < 5 := h1
      obtain rfl | rfl | rfl | rfl | rfl : j = 0 ∨ j = 1 ∨ j = 2 ∨ j = 3 ∨ j = 4 := le4N (Nat.le_of_lt_succ h1')
      · have := EqAt.str_str (A := A.in1) (s := s) p.low a1 p.low b1
        rwa [beq_self_eq_true] at this
      · have := EqAt.str_str (A := A.in1) (s := s) p.high a2 p.high b2
        rwa [beq_self_eq_true] at this
      · exact eqPair hu hpa hpb
      · exact eqStrs hu hma hmb
      · exact eqStrs hu hla hlb
theorem eqWood {prog : Program} {w : World} {A : Around} {E : Value → Shared → Prop} {s : Shared} {D D2 : Addr} {vs vs2 : List Value} {k k2 : Nat} {xs : List WRow} {Q : Value → Shared → Prop}
    (hu : A.units < cLine) (hu1 : A.in1.units < cLine) (hu2 : A.in1.in1.units < cLine) (hD : s.heap.get? D = some (listOf vs.toArray k)) (hD2 : s.heap.get? D2 = some (listOf vs2.toArray k2))
    (hp : Paired (isWood (fun a o => s.heap.get? a = some o) (fun a o => s.heap.get? a = some o)) vs xs) (hp2 : Paired (isWood (fun a o => s.heap.get? a = some o) (fun a o => s.heap.get? a = some o)) vs2 xs)
    (h : Q (.bool true) s) : wpAny (model prog w) A (compareOp .Eq (.ref D) (.ref D2)) Q E s := by
  have l1 := hp.length
  have l2 := hp2.length
  have hs : vs.toArray.size = vs2.toArray.size := by rw [List.size_toArray, List.size_toArray]; omega
  refine eq_listAt (e := fun _ => true) (items := vs.toArray) (items2 := vs2.toArray) ⟨_, hD, rfl, k, rfl⟩ ⟨_, hD2, rfl, k2, rfl⟩ hs hu (fun j h1 h2 => ?_) (by rw [allTrue]; exact h)
  have hj : j < vs.length := by simpa using h1
  have hj2 : j < vs2.length := by simpa using h2
  have hjx : j < xs.length := by omega
  obtain ⟨a, ha, ra⟩ := pget hp (List.getElem?_eq_getElem hjx)
  obtain ⟨b, hb, rb⟩ := pget hp2 (List.getElem?_eq_getElem hjx)
  have ea : vs.toArray[j] = a := by
    have := List.getElem?_eq_getElem hj
    rw [ha] at this
    simpa using (Option.some.inj this).symm
  have eb : vs2.toArray[j] = b := by
    have := List.getElem?_eq_getElem hj2
    rw [hb] at this
    simpa using (Option.some.inj this).symm
  rw [ea, eb]
  exact eqRow hu2 hu1 ra rb
end
section
open PySem PySem.W PySem.Calls PyProof.Rows
open PySem.Builtin PySem.Builtin.Str
/-- the trailing x -/
def trail (l : List Nat) : Nat := (l.reverse.takeWhile (· == 120)).length
theorem trail_eq {b q : List Nat} {k : Nat} (hq : q ≠ []) (hx : 120 ∉ q) : trail (b ++ q ++ List.replicate k 120) = k := by
  unfold trail
  obtain ⟨q', c, rfl⟩ : ∃ q' c, q = q' ++ [c] := ⟨q.dropLast, q.getLast hq, (List.dropLast_concat_getLast hq).symm⟩
  have hc : c ≠ 120 := fun e => hx (by rw [e]; simp)
  have e1 : (b ++ (q' ++ [c]) ++ List.replicate k 120).reverse = List.replicate k 120 ++ c :: (b ++ q').reverse := by
    simp [List.reverse_append]
  rw [e1]
  have := takeWhile_pre (p := (· == 120)) (pre := List.replicate k 120) (c := c) (r := (b ++ q').reverse) (fun x hx => by simp [(List.mem_replicate.mp hx).2]) (by simpa using hc)
  rw [this, List.length_replicate]
/-- the shape of a row -/
structure Shape (rows : List Row) (j : Nat) (r : Row) : Prop where
  path : ∃ n : Nat, n < 2 ∧ LL r.path = LL r.stem ++ List.replicate n 47
  kind : (∃ p : Nat, r.up = (p : Int) ∧ p < j ∧ ∃ rp, rows[p]? = some rp ∧ r.host = rp.host ∧ ∃ sg, 120 ∉ sg ∧ LL r.stem = LL rp.stem ++ (47 :: sg) ++ List.replicate (j + 1) 120) ∨
    (r.up < 0 ∧ r.host = Str.ofString "w" ++ Str.ofString (toString (j : Int)) ∧ LL r.stem = []) ∨
    (r.up < 0 ∧ (r.host = Str.ofString "h" ∨ r.host = Str.ofString "") ∧ ∃ sg, 120 ∉ sg ∧ LL r.stem = (47 :: sg) ++ List.replicate (j + 1) 120)
theorem mulX : ∀ j : Nat, j ≤ 4 → LL (Txt.mul (Str.ofString "x") ((j : Int) + 1)) = List.replicate (j + 1) 120 := by
  intro j hj
  obtain rfl | rfl | rfl | rfl | rfl : j = 0 ∨ j = 1 ∨ j = 2 ∨ j = 3 ∨ j = 4 := le4N hj
  all_goals decide
theorem menuX : ∀ nm ∈ menuS, 120 ∉ LL nm := by decide
theorem shapeOf {pre : List Row} {j : Nat} {r : Row} (hj : j ≤ 4) (hl : j = pre.length) (h : RowOk pre j r) : Shape pre j r := by
  obtain ⟨hup, nm, hnm, hc, n, hn0, hn2, hp⟩ := h
  refine ⟨?_, ?_⟩
  · obtain rfl | rfl : n = 0 ∨ n = 1 := by omega
    · exact ⟨0, by decide, by rw [hp, LL_app]; rfl⟩
    · exact ⟨1, by decide, by rw [hp, LL_app]; rfl⟩
  · have hx : LL (Str.ofString "/" ++ (nm ++ Txt.mul (Str.ofString "x") ((j : Int) + 1))) = (47 :: LL nm) ++ List.replicate (j + 1) 120 := by
      rw [LL_app, LL_app, mulX j hj]; rfl
    rcases hc with ⟨h0, p, hp, hh, hs⟩ | ⟨h0, hh, hs⟩ | ⟨h0, hh, hs⟩
    · refine .inl ⟨r.up.toNat, by omega, ?_, p, hp, hh, LL nm, menuX nm hnm, ?_⟩
      · have := (List.getElem?_eq_some_iff.mp hp).1; omega
      · rw [hs, LL_app, LL_app, LL_app, mulX j hj, List.append_assoc, List.append_assoc]; rfl
    · exact .inr (.inl ⟨h0, hh, by rw [hs]; rfl⟩)
    · exact .inr (.inr ⟨h0, hh, LL nm, menuX nm hnm, by rw [hs]; exact hx⟩)
theorem Shape.more {rows q : List Row} {j : Nat} {r : Row} (h : Shape rows j r) : Shape (rows ++ q) j r := by
  refine ⟨h.path, ?_⟩
  rcases h.kind with ⟨p, h1, h2, rp, h3, h4⟩ | h | h
  · exact .inl ⟨p, h1, h2, rp, by rw [List.getElem?_append_left (List.getElem?_eq_some_iff.mp h3).1]; exact h3, h4⟩
  · exact .inr (.inl h)
  · exact .inr (.inr h)
theorem shapes {rows : List Row} (h : GrownOk rows) (hn : rows.length ≤ 5) : ∀ (j : Nat) (r : Row), rows[j]? = some r → Shape rows j r := by
  induction h with
  | nil => exact fun j r e => by simp at e
  | @snoc rows r0 _ hr ih =>
    intro j r e
    have hl : (rows ++ [r0]).length = rows.length + 1 := by simp
    by_cases hj : j < rows.length
    · rw [List.getElem?_append_left hj] at e
      exact (ih (by omega) j r e).more
    · have hj2 : j = rows.length := by
        have := (List.getElem?_eq_some_iff.mp e).1
        omega
      subst hj2
      have e2 : r0 = r := by
        rw [List.getElem?_append_right (Nat.le_refl _), Nat.sub_self] at e
        exact Option.some.inj e
      subst e2
      exact (shapeOf (by omega) rfl hr).more
/-- b is t or above it -/
inductive Anc (rows : List Row) : Nat → Nat → Prop
  | self (j : Nat) : Anc rows j j
  | up {b p j : Nat} {r : Row} : rows[j]? = some r → r.up = (p : Int) → Anc rows b p → Anc rows b j
theorem digitsW : ∀ i j : Nat, i ≤ 4 → j ≤ 4 → Str.ofString "w" ++ Str.ofString (toString (i : Int)) = Str.ofString "w" ++ Str.ofString (toString (j : Int)) → i = j := by
  intro i j hi hj
  obtain rfl | rfl | rfl | rfl | rfl : i = 0 ∨ i = 1 ∨ i = 2 ∨ i = 3 ∨ i = 4 := le4N hi
  all_goals (obtain rfl | rfl | rfl | rfl | rfl : j = 0 ∨ j = 1 ∨ j = 2 ∨ j = 3 ∨ j = 4 := le4N hj)
  all_goals first | (intro _; rfl) | (intro h; exact absurd h (by decide))
theorem wNot : ∀ j : Nat, j ≤ 4 → Str.ofString "w" ++ Str.ofString (toString (j : Int)) ≠ Str.ofString "h" ∧ Str.ofString "w" ++ Str.ofString (toString (j : Int)) ≠ Str.ofString "" := by
  intro j hj
  obtain rfl | rfl | rfl | rfl | rfl : j = 0 ∨ j = 1 ∨ j = 2 ∨ j = 3 ∨ j = 4 := le4N hj
  all_goals decide
end
section
open PySem PySem.W PySem.Calls PyProof.Rows
open PySem.Builtin PySem.Builtin.Str
theorem last_app {l l' : List Nat} (h : l' ≠ []) : (l ++ l').getLast? = l'.getLast? := by
  rw [List.getLast?_append]
  cases e : l'.getLast? with
  | none => exact absurd (List.getLast?_eq_none_iff.mp e) h
  | some a => rfl
theorem nil_of_pre {a : List Nat} (h : a ++ [47] <+: [] ++ [47]) : a = [] := by
  have := h.length_le
  rw [List.length_append, List.length_append] at this
  simp only [List.length_cons, List.length_nil] at this
  exact List.length_eq_zero_iff.mp (by omega)
theorem repPre : ∀ (m : Nat) (v : List Nat), v ++ [47] <+: List.replicate m 120 ++ [47] → v = List.replicate m 120
  | 0, v, h => by
    have := h.length_le
    simp at this
    rw [this]; rfl
  | m + 1, [], h => by
    rw [List.replicate_succ, List.nil_append, List.cons_append, List.cons_prefix_cons] at h
    exact absurd h.1 (by decide)
  | m + 1, x :: v, h => by
    rw [List.replicate_succ, List.cons_append, List.cons_append, List.cons_prefix_cons] at h
    rw [h.1, repPre m v h.2, List.replicate_succ]
theorem preCases {sb base sg : List Nat} {k : Nat} (hsb : sb ≠ [] → sb.getLast? = some 120) (hsg : 120 ∉ sg) (h : sb ++ [47] <+: base ++ (47 :: sg) ++ List.replicate k 120 ++ [47]) :
    (sb ++ [47] <+: base ++ [47]) ∨ sb = base ++ (47 :: sg) ++ List.replicate k 120 := by
  have e : base ++ (47 :: sg) ++ List.replicate k 120 ++ [47] = (base ++ [47]) ++ (sg ++ List.replicate k 120 ++ [47]) := by simp
  have h2 : base ++ [47] <+: base ++ (47 :: sg) ++ List.replicate k 120 ++ [47] := e ▸ List.prefix_append _ _
  rcases List.prefix_or_prefix_of_prefix h h2 with h1 | h1
  · exact .inl h1
  · obtain ⟨w, hw⟩ := h1
    rcases List.eq_nil_or_concat w with rfl | ⟨w', c, rfl⟩
    · exact .inl (by rw [← hw]; simp)
    · have hw2 : (base ++ [47] ++ w') ++ [c] = sb ++ [47] := by rw [← hw]; simp
      obtain ⟨hs, hc⟩ := List.append_inj' hw2 rfl
      rw [← hs, e, List.append_assoc (base ++ [47]), List.prefix_append_right_inj] at h
      have hlast : w' ≠ [] → w'.getLast? = some 120 := by
        intro hne
        have := hsb (by rw [← hs]; simp)
        rw [← hs, last_app hne] at this
        exact this
      have hne : w' ≠ [] := by
        rintro rfl
        have := hsb (by rw [← hs]; simp)
        rw [← hs, List.append_nil, last_app (by simp)] at this
        exact absurd this (by decide)
      have h3 : w' <+: sg ++ (List.replicate k 120 ++ [47]) := by
        rw [List.append_assoc] at h
        exact (List.prefix_append w' [47]).trans h
      rcases List.prefix_or_prefix_of_prefix h3 (List.prefix_append sg _) with h4 | h4
      · exact absurd (h4.subset (List.mem_of_getLast? (hlast hne))) hsg
      · obtain ⟨v, rfl⟩ := h4
        rw [List.append_assoc, List.append_assoc, List.prefix_append_right_inj] at h
        refine .inr ?_
        rw [← hs, repPre k v h]
        simp
section
variable {rows : List Row}
theorem Shape.form {j : Nat} {r : Row} (h : Shape rows j r) : (LL r.stem = [] ∧ r.up < 0 ∧ r.host = Str.ofString "w" ++ Str.ofString (toString (j : Int))) ∨
    ∃ base sg, 120 ∉ sg ∧ LL r.stem = base ++ (47 :: sg) ++ List.replicate (j + 1) 120 ∧
      ((∃ p rp, r.up = ((p : Nat) : Int) ∧ p < j ∧ rows[p]? = some rp ∧ r.host = rp.host ∧ base = LL rp.stem) ∨ (r.up < 0 ∧ (r.host = Str.ofString "h" ∨ r.host = Str.ofString "") ∧ base = [])) := by
  rcases h.kind with ⟨p, h1, h2, rp, h3, h4, sg, h5, h6⟩ | ⟨h1, h2, h3⟩ | ⟨h1, h2, sg, h3, h4⟩
  · exact .inr ⟨_, sg, h5, h6, .inl ⟨p, rp, h1, h2, h3, h4, rfl⟩⟩
  · exact .inl ⟨h3, h1, h2⟩
  · exact .inr ⟨[], sg, h3, by rw [List.nil_append]; exact h4, .inr ⟨h1, h2, rfl⟩⟩
theorem Shape.trail {j : Nat} {r : Row} (h : Shape rows j r) (hne : LL r.stem ≠ []) : trail (LL r.stem) = j + 1 ∧ (LL r.stem).getLast? = some 120 := by
  rcases h.form with ⟨h1, _⟩ | ⟨base, sg, h1, h2, _⟩
  · exact absurd h1 hne
  · rw [h2]
    refine ⟨trail_eq (by simp) (by simp [h1]), ?_⟩
    rw [List.replicate_succ', ← List.append_assoc, last_app (by simp)]
    rfl
theorem lt_of_get {j : Nat} {r : Row} (e : rows[j]? = some r) : j < rows.length := (List.getElem?_eq_some_iff.mp e).1
theorem anc_of (hn : rows.length ≤ 5) (S : ∀ (j : Nat) (r : Row), rows[j]? = some r → Shape rows j r) : ∀ (t b : Nat) (rb rt : Row), rows[b]? = some rb → rows[t]? = some rt → rb.host = rt.host → (LL rb.stem ++ [47]) <+: (LL rt.stem ++ [47]) → Anc rows b t := by
  intro t
  induction t using Nat.strongRecOn with
  | ind t ih =>
    intro b rb rt hb ht hh hp
    have Sb := S b rb hb
    have St := S t rt ht
    have lb := lt_of_get hb
    have lt' := lt_of_get ht
    rcases St.form with ⟨h1, h2, h3⟩ | ⟨base, sg, h1, h2, h3⟩
    · rw [h1] at hp
      have hz : LL rb.stem = [] := nil_of_pre hp
      rcases Sb.form with ⟨_, _, h6⟩ | ⟨base, sg, _, h5, _⟩
      · have : b = t := digitsW b t (by omega) (by omega) (by rw [← h6, hh, h3])
        rw [this]; exact .self t
      · rw [hz] at h5
        simp at h5
    · rw [h2] at hp
      rcases preCases (fun hne => (Sb.trail hne).2) h1 hp with h4 | h4
      · rcases h3 with ⟨p, rp, hu, hpt, hrp, hhp, rfl⟩ | ⟨hu, hho, rfl⟩
        · exact .up ht hu (ih p hpt b rb rp hb hrp (hh.trans hhp) h4)
        · have hz : LL rb.stem = [] := nil_of_pre h4
          rcases Sb.form with ⟨_, _, h6⟩ | ⟨base, sg, _, h5, _⟩
          · rw [hh] at h6
            rcases hho with h7 | h7
            · exact absurd (h6.symm.trans h7) (wNot b (by omega)).1
            · exact absurd (h6.symm.trans h7) (wNot b (by omega)).2
          · rw [hz] at h5
            simp at h5
      · have hne : LL rb.stem ≠ [] := by rw [h4]; simp
        have hne2 : LL rt.stem ≠ [] := by rw [h2]; simp
        have t1 := (Sb.trail hne).1
        have t2 := (St.trail hne2).1
        rw [h4] at t1
        rw [h2] at t2
        have : b = t := by omega
        rw [this]; exact .self t
theorem cov_of (S : ∀ (j : Nat) (r : Row), rows[j]? = some r → Shape rows j r) {b t : Nat} (h : Anc rows b t) : ∀ rb rt : Row, rows[b]? = some rb → rows[t]? = some rt → rb.host = rt.host ∧ (b = t ∨ (LL rb.stem ++ [47]) <+: LL rt.stem) := by
  induction h with
  | self =>
    intro rb rt h1 h2
    rw [h1] at h2
    exact ⟨by rw [Option.some.inj h2], .inl rfl⟩
  | @up p j r e hu _ ih =>
    intro rb rt h1 h2
    rw [e] at h2
    obtain rfl := Option.some.inj h2
    rcases (S j r e).form with ⟨_, h4, _⟩ | ⟨base, sg, h3, h4, ⟨p', rp, hu', hpt, hrp, hhp, rfl⟩ | ⟨hu', _⟩⟩
    · omega
    · have : p' = p := by omega
      subst this
      obtain ⟨i1, i2⟩ := ih rb rp h1 hrp
      refine ⟨i1.trans hhp.symm, .inr ?_⟩
      rw [h4]
      rcases i2 with rfl | i2
      · rw [h1] at hrp
        obtain rfl := Option.some.inj hrp
        exact ⟨sg ++ List.replicate (j + 1) 120, by simp⟩
      · rw [List.append_assoc]
        exact i2.trans (List.prefix_append _ _)
    · omega
end
end
section
open PySem PySem.W PySem.Calls PyProof.Rows
open PySem.Builtin PySem.Builtin.Str
theorem starts_iff (x y : Str) : Txt.startswith x y = true ↔ LL y <+: LL x := by
  unfold Txt.startswith
  rw [Bool.and_eq_true, StrLaws.subAt_eq, List.drop_zero, beq_iff_eq, decide_eq_true_eq]
  constructor
  · rintro ⟨_, h⟩
    exact ⟨(LL x).drop y.length, by show y.cps.toList ++ _ = _; rw [← h]; exact List.take_append_drop _ _⟩
  · rintro ⟨r, h⟩
    have hl : (LL y).length = y.length := LL_len y
    refine ⟨?_, ?_⟩
    · have := congrArg List.length h
      rw [List.length_append, LL_len, LL_len] at this
      omega
    · show (LL x).take y.length = LL y
      rw [← h, ← hl, List.take_left]
theorem slice_last {x : Str} {l : List Nat} {c : Nat} (h : LL x = l ++ [c]) : Txt.slice x (some (-1)) none = ⟨#[c]⟩ := by
  have hl : x.length = l.length + 1 := by rw [← LL_len, h]; simp
  have e := StrLaws.sliceText_from_neg (x := x) (i := -1) (by decide) (by omega)
  rw [show Txt.slice x (some (-1)) none = StrLaws.sliceText x (some (-1)) none from rfl, e]
  rw [show x.cps.toList = l ++ [c] from h, hl]
  rw [show (-1 + ((l.length + 1 : Nat) : Int)).toNat = l.length by omega, List.drop_left]
  rw [show (((l ++ [c]).length : Nat) : Int) = (l.length : Int) + 1 by simp]
  rw [show ((l.length : Int) + 1 - (-1 + ((l.length + 1 : Nat) : Int))).toNat = 1 by omega]
  rfl
theorem slice_nil {x : Str} (h : LL x = []) : Txt.slice x (some (-1)) none = Str.ofString "" := by
  have : x = Str.ofString "" := strExt h
  subst this
  decide
theorem sl_ne {c : Nat} : ((⟨#[c]⟩ : Str) != Str.ofString "/") = true ↔ c ≠ 47 := by
  rw [bne_iff_ne, ne_eq, ne_eq]
  refine not_congr ⟨fun e => ?_, fun e => by rw [e]; rfl⟩
  have h : [c] = [47] := congrArg LL e
  injection h
theorem sub_iff (b t : Str × Str) {sb : List Nat} (hb : (LL b.2 = sb ∧ (sb ≠ [] → sb.getLast? = some 120)) ∨ LL b.2 = sb ++ [47]) : suburiF b t = true ↔ (b = t ∨ b.1 = t.1 ∧ (sb ++ [47]) <+: LL t.2) := by
  unfold suburiF
  split
  · rename_i h; simp [h]
  · rename_i h
    split
    · rename_i h1
      constructor
      · intro e; exact nomatch e
      · rintro (e | e)
        · exact absurd e h
        · exact absurd e.1 h1
    · rename_i h1
      have h1' : b.1 = t.1 := Classical.not_not.mp h1
      have key : (b = t ∨ b.1 = t.1 ∧ (sb ++ [47]) <+: LL t.2) ↔ (sb ++ [47]) <+: LL t.2 := ⟨fun e => (e.resolve_left h).2, fun e => .inr ⟨h1', e⟩⟩
      rw [key]
      rcases hb with ⟨hb, hl⟩ | hb
      · have hs : (Txt.slice b.2 (some (-1)) none != Str.ofString "/") = true := by
          rcases List.eq_nil_or_concat sb with rfl | ⟨l, c, rfl⟩
          · rw [slice_nil hb]; decide
          · have hc : c = 120 := by simpa using hl (by simp)
            rw [slice_last (hb.trans (List.concat_eq_append ..)), sl_ne, hc]; decide
        rw [if_pos hs, starts_iff, LL_app, hb]
        exact Iff.rfl
      · rw [if_neg, starts_iff, hb]
        rw [slice_last hb, sl_ne]
        decide
section
variable {rows : List Row}
def plOf (r : Row) : Str × Str := (r.host, r.path)
theorem pathForm {j : Nat} {r : Row} (h : Shape rows j r) : (LL r.path = LL r.stem ∧ (LL r.stem ≠ [] → (LL r.stem).getLast? = some 120)) ∨ LL r.path = LL r.stem ++ [47] := by
  obtain ⟨n, hn, e⟩ := h.path
  obtain rfl | rfl : n = 0 ∨ n = 1 := by omega
  · exact .inl ⟨by rw [e]; simp, fun hne => (h.trail hne).2⟩
  · exact .inr e
theorem cov_iff (hn : rows.length ≤ 5) (S : ∀ (j : Nat) (r : Row), rows[j]? = some r → Shape rows j r) {b t : Nat} {rb rt : Row} (hb : rows[b]? = some rb) (ht : rows[t]? = some rt) : suburiF (plOf rb) (plOf rt) = true ↔ Anc rows b t := by
  have Sb := S b rb hb
  have St := S t rt ht
  rw [sub_iff (plOf rb) (plOf rt) (sb := LL rb.stem) (pathForm Sb)]
  constructor
  · rintro (e | ⟨h1, h2⟩)
    · have e1 : rb.host = rt.host := congrArg Prod.fst e
      have e2 : rb.path = rt.path := congrArg Prod.snd e
      refine anc_of hn S t b rb rt hb ht e1 ?_
      have bad : ∀ {j : Nat} {r : Row} {l : List Nat}, Shape rows j r → LL r.stem = l ++ [47] → False := by
        intro j r l s e
        have := (s.trail (by rw [e]; simp)).2
        rw [e] at this
        simp at this
      rcases pathForm Sb with ⟨pb, _⟩ | pb <;> rcases pathForm St with ⟨pt, _⟩ | pt
      · rw [← pb, ← pt, e2]; exact List.prefix_refl _
      · exact (bad Sb (by rw [← pb, e2]; exact pt)).elim
      · exact (bad St (by rw [← pt, ← e2]; exact pb)).elim
      · rw [← pb, ← pt, e2]; exact List.prefix_refl _
    · refine anc_of hn S t b rb rt hb ht h1 (h2.trans ?_)
      show LL rt.path <+: _
      rcases pathForm St with ⟨pt, _⟩ | pt
      · rw [pt]; exact List.prefix_append _ _
      · rw [pt]; exact List.prefix_refl _
  · intro h
    obtain ⟨h1, h2⟩ := cov_of S h rb rt hb ht
    rcases h2 with rfl | h2
    · rw [hb] at ht
      exact .inl (by rw [Option.some.inj ht])
    · refine .inr ⟨h1, h2.trans ?_⟩
      show _ <+: LL rt.path
      rcases pathForm St with ⟨pt, _⟩ | pt
      · rw [pt]; exact List.prefix_refl _
      · rw [pt]; exact List.prefix_append _ _
end
end
section
open PySem PySem.W PySem.Calls PyProof.Rows
open PySem.Builtin PySem.Builtin.Str
theorem sgEq (c d : Nat) : ((⟨#[c]⟩ : Str) == ⟨#[d]⟩) = decide (c = d) := by
  rw [Bool.eq_iff_iff, beq_iff_eq, decide_eq_true_eq]
  refine ⟨fun e => ?_, fun e => by rw [e]⟩
  have h : [c] = [d] := congrArg LL e
  injection h
theorem psStep_eq (p : PS) (c : Nat) : psStep p c =
  if p.esc then { p with part := p.part ++ ⟨#[c]⟩, esc := false }
  else if p.quo then
    if c = 92 then { p with esc := true }
    else if c = 34 then { p with part := p.part ++ ⟨#[c]⟩, quo := false }
    else { p with part := p.part ++ ⟨#[c]⟩ }
  else if c = 44 then { p with res := p.res ++ [p.part], part := Str.ofString "" }
  else if c = 34 then { p with part := p.part ++ ⟨#[c]⟩, quo := true }
  else { p with part := p.part ++ ⟨#[c]⟩ } := by
  unfold psStep
  rw [show Str.ofString "\\" = ⟨#[92]⟩ from rfl, show Str.ofString "\"" = ⟨#[34]⟩ from rfl, show Str.ofString "," = ⟨#[44]⟩ from rfl]
  simp only [sgEq, decide_eq_true_eq]
theorem addSg (a : Str) (c : Nat) (l : List Nat) : a ++ (⟨#[c]⟩ : Str) ++ (⟨l.toArray⟩ : Str) = a ++ (⟨(c :: l).toArray⟩ : Str) := by
  apply strExt
  rw [LL_app, LL_app, LL_app]
  simp [LL]
theorem addNil (a : Str) : a = a ++ (⟨([] : List Nat).toArray⟩ : Str) := by
  apply strExt
  rw [LL_app]
  simp [LL]
theorem feedBare (res : List Str) : ∀ (l : List Nat) (part : Str), (∀ c ∈ l, c ≠ 44 ∧ c ≠ 34) → l.foldl psStep ⟨res, part, false, false⟩ = ⟨res, part ++ ⟨l.toArray⟩, false, false⟩
  | [], part, _ => by rw [← addNil]; rfl
  | c :: l, part, h => by
    obtain ⟨h1, h2⟩ := h c (.head _)
    rw [List.foldl_cons, psStep_eq, if_neg Bool.false_ne_true, if_neg Bool.false_ne_true, if_neg h1, if_neg h2]
    rw [feedBare res l _ (fun x hx => h x (.tail _ hx)), addSg]
theorem found_isEmpty (x : Str) (c : Nat) : (occurrences x ⟨#[c]⟩ 0 x.length 1).isEmpty = false ↔ c ∈ LL x := by
  have := StrLaws.found_one x c
  rw [← decide_eq_true_iff (p := c ∈ LL x), show decide (c ∈ LL x) = decide (c ∈ x.cps.toList) from rfl, ← this]
  cases (occurrences x ⟨#[c]⟩ 0 x.length 1).isEmpty <;> simp
theorem signLL (way : Int) (c : Nat) : LL (signF way c) = [92, c] ∨ (LL (signF way c) = [c] ∧ c ≠ 34 ∧ c ≠ 92) := by
  unfold signF
  split
  · exact .inl rfl
  · rename_i h
    refine .inr ⟨rfl, ?_⟩
    have : c ∉ LL (Str.ofString "\"\\") := fun hm => h (.inr ((found_isEmpty _ c).mpr hm))
    have e : LL (Str.ofString "\"\\") = [34, 92] := rfl
    rw [e] at this
    simp only [List.mem_cons, List.not_mem_nil, or_false, not_or] at this
    exact this
theorem feedSigns (way : Int) (res : List Str) : ∀ (l : List Nat) (part : Str), (l.flatMap fun c => LL (signF way c)).foldl psStep ⟨res, part, false, true⟩ = ⟨res, part ++ ⟨l.toArray⟩, false, true⟩
  | [], part => by rw [← addNil]; rfl
  | c :: l, part => by
    rw [List.flatMap_cons, List.foldl_append]
    have : (LL (signF way c)).foldl psStep ⟨res, part, false, true⟩ = ⟨res, part ++ ⟨#[c]⟩, false, true⟩ := by
      rcases signLL way c with e | ⟨e, h1, h2⟩
      · rw [e]
        simp only [List.foldl_cons, List.foldl_nil]
        rw [psStep_eq _ 92, psStep_eq]
        simp
      · rw [e]
        simp only [List.foldl_cons, List.foldl_nil]
        rw [psStep_eq, if_neg Bool.false_ne_true, if_pos rfl, if_neg h2, if_neg h1]
    rw [this, feedSigns way res l, addSg]
theorem join_flat {α : Type} (f : α → Str) (l : List α) : LL (Txt.join (Str.ofString "") (l.map f)) = l.flatMap fun a => LL (f a) := by
  show LL (glued (Str.ofString "") (l.map f)) = _
  rw [StrLaws.glued_eq_join]
  induction l with
  | nil => rfl
  | cons a r ih =>
    cases r with
    | nil => simp [Str.join]
    | cons b r =>
      rw [List.flatMap_cons, ← ih]
      show LL (f a ++ Str.ofString "" ++ Str.join (Str.ofString "") ((b :: r).map f)) = _
      rw [LL_app, LL_app, show LL (Str.ofString "") = [] from rfl, List.append_nil]
def qv (way : Int) (place : Str) : Str := if way ≠ 2 ∨ hasF place (Str.ofString ",") ∨ hasF place (Str.ofString "\"") then Str.ofString "\"" ++ place ++ Str.ofString "\"" else place
theorem bareOk {way : Int} {place : Str} (h : ¬ (way ≠ 2 ∨ hasF place (Str.ofString ",") ∨ hasF place (Str.ofString "\""))) : ∀ c ∈ LL place, c ≠ 44 ∧ c ≠ 34 := by
  intro c hc
  refine ⟨fun e => h (.inr (.inl ?_)), fun e => h (.inr (.inr ?_))⟩
  · exact (found_isEmpty place 44).mpr (e ▸ hc)
  · exact (found_isEmpty place 34).mpr (e ▸ hc)
theorem mkLL (x : Str) : (⟨(LL x).toArray⟩ : Str) = x := strExt (by simp [LL])
theorem feedPlace (res : List Str) (part : Str) (way : Int) (place : Str) : (LL (placeF way place)).foldl psStep ⟨res, part, false, false⟩ = ⟨res, part ++ qv way place, false, false⟩ := by
  unfold placeF qv
  split
  · unfold quoteF
    rw [LL_app, LL_app, join_flat, List.foldl_append, List.foldl_append]
    have e1 : (LL (Str.ofString "\"")).foldl psStep ⟨res, part, false, false⟩ = ⟨res, part ++ Str.ofString "\"", false, true⟩ := by
      show [34].foldl psStep _ = _
      simp only [List.foldl_cons, List.foldl_nil]
      rw [psStep_eq]; rfl
    rw [e1, feedSigns]
    show [34].foldl psStep _ = _
    simp only [List.foldl_cons, List.foldl_nil]
    rw [psStep_eq, if_neg Bool.false_ne_true, if_pos rfl, if_neg (by decide), if_pos rfl]
    rw [show (⟨place.cps.toList.toArray⟩ : Str) = place from mkLL place]
    have e2 : part ++ Str.ofString "\"" ++ place ++ (⟨#[34]⟩ : Str) = part ++ (Str.ofString "\"" ++ place ++ Str.ofString "\"") := by
      apply strExt
      rw [LL_app, LL_app, LL_app, LL_app, LL_app, LL_app]
      simp only [List.append_assoc]
      rfl
    rw [← e2]
  · rename_i h
    rw [feedBare res _ _ (bareOk h), mkLL]
theorem keyOk : ∀ i : Int, 0 ≤ i → i ≤ 4 → (∀ c ∈ LL (keyF i ++ Str.ofString "="), c ≠ 44 ∧ c ≠ 34) ∧ 61 ∉ LL (keyF i) ∧ (keyF i).length = 2 ∧ ∃ r, LL (keyF i) = 107 :: r := by
  intro i h0 h4
  obtain rfl | rfl | rfl | rfl | rfl : i = 0 ∨ i = 1 ∨ i = 2 ∨ i = 3 ∨ i = 4 := le4I h0 h4
  all_goals exact ⟨by decide, by decide, by decide, _, rfl⟩
theorem keyInj : ∀ i j : Int, 0 ≤ i → i ≤ 4 → 0 ≤ j → j ≤ 4 → keyF i = keyF j → i = j := by
  intro i j h0 h4 g0 g4
  obtain rfl | rfl | rfl | rfl | rfl : i = 0 ∨ i = 1 ∨ i = 2 ∨ i = 3 ∨ i = 4 := le4I h0 h4
  all_goals (obtain rfl | rfl | rfl | rfl | rfl : j = 0 ∨ j = 1 ∨ j = 2 ∨ j = 3 ∨ j = 4 := le4I g0 g4)
  all_goals first | (intro _; rfl) | (intro h; exact absurd h (by decide))
def wayOf (r : Row) : Int := (r.look.fdiv 2).fmod 3
def kvOf (r : Row) (i : Int) : KV := (keyF i, qv (wayOf r) (r.host ++ r.path))
theorem feedPiece (res : List Str) (part : Str) (r : Row) (i : Int) (h0 : 0 ≤ i) (h4 : i ≤ 4) : (LL (pieceF r i)).foldl psStep ⟨res, part, false, false⟩ = ⟨res, part ++ joinKV (kvOf r i), false, false⟩ := by
  have e : pieceF r i = keyF i ++ Str.ofString "=" ++ placeF (wayOf r) (r.host ++ r.path) := rfl
  rw [e, LL_app, List.foldl_append, feedBare res _ _ (keyOk i h0 h4).1, mkLL, feedPlace]
  unfold joinKV kvOf eqS
  rw [Str.append_assoc part]
end
section
open PySem PySem.W PySem.Calls PyProof.Rows
open PySem.Builtin PySem.Builtin.Str
theorem spaces : Unicode.isSpace 120 = false ∧ Unicode.isSpace 47 = false ∧ Unicode.isSpace 34 = false ∧ Unicode.isSpace 107 = false ∧ Unicode.isSpace 32 = true := by decide +kernel
theorem wLast : ∀ j : Nat, j ≤ 4 → ∃ r d, LL (Str.ofString "w" ++ Str.ofString (toString (j : Int))) = r ++ [d] ∧ Unicode.isSpace d = false := by
  intro j hj
  obtain rfl | rfl | rfl | rfl | rfl : j = 0 ∨ j = 1 ∨ j = 2 ∨ j = 3 ∨ j = 4 := le4N hj
  · exact ⟨[119], 48, rfl, by decide +kernel⟩
  · exact ⟨[119], 49, rfl, by decide +kernel⟩
  · exact ⟨[119], 50, rfl, by decide +kernel⟩
  · exact ⟨[119], 51, rfl, by decide +kernel⟩
  · exact ⟨[119], 52, rfl, by decide +kernel⟩
theorem placeLast {rows : List Row} {j : Nat} {r : Row} (hj : j ≤ 4) (h : Shape rows j r) : ∃ l d, LL (r.host ++ r.path) = l ++ [d] ∧ Unicode.isSpace d = false := by
  obtain ⟨s1, s2, _⟩ := spaces
  obtain ⟨n, hn, e⟩ := h.path
  obtain rfl | rfl : n = 0 ∨ n = 1 := by omega
  · rcases h.form with ⟨h1, _, h3⟩ | ⟨base, sg, _, h2, _⟩
    · obtain ⟨l, d, h4, h5⟩ := wLast j hj
      refine ⟨l, d, ?_, h5⟩
      rw [LL_app, e, h1, h3, h4]; simp
    · refine ⟨LL r.host ++ (base ++ (47 :: sg) ++ List.replicate j 120), 120, ?_, s1⟩
      rw [LL_app, e, h2, List.replicate_succ']
      simp
  · exact ⟨LL r.host ++ LL r.stem, 47, by rw [LL_app, e]; simp, s2⟩
theorem stripKV {pre : Str} {r : Row} {i : Int} (h0 : 0 ≤ i) (h4 : i ≤ 4) (hp : LL pre = [] ∨ LL pre = [32]) (hl : ∃ l d, LL (r.host ++ r.path) = l ++ [d] ∧ Unicode.isSpace d = false) : Txt.strip (pre ++ joinKV (kvOf r i)) = joinKV (kvOf r i) := by
  obtain ⟨_, _, s3, s4, s5⟩ := spaces
  obtain ⟨_, _, _, rk, hk⟩ := keyOk i h0 h4
  obtain ⟨l, d, hl, hd⟩ := hl
  have e1 : LL (joinKV (kvOf r i)) = 107 :: (rk ++ [61] ++ LL (qv (wayOf r) (r.host ++ r.path))) := by
    unfold joinKV kvOf
    rw [LL_app, LL_app, hk]; rfl
  have e2 : ∃ l' d', LL (joinKV (kvOf r i)) = l' ++ [d'] ∧ Unicode.isSpace d' = false := by
    unfold qv at e1
    split at e1
    · refine ⟨107 :: (rk ++ [61] ++ (LL (Str.ofString "\"") ++ LL (r.host ++ r.path))), 34, ?_, s3⟩
      rw [e1, LL_app, LL_app, show LL (Str.ofString "\"") = [34] from rfl]
      simp
    · refine ⟨107 :: (rk ++ [61] ++ l), d, ?_, hd⟩
      rw [e1, hl]; simp
  obtain ⟨l', d', e2, hd'⟩ := e2
  refine strip_eq (pre := LL pre) (LL_app _ _) ?_ e1 s4 e2 hd'
  intro c hc
  rcases hp with h | h
  · rw [h] at hc; exact nomatch hc
  · rw [h] at hc
    rw [List.mem_singleton.mp hc]; exact s5
def kvPair (rows : List Row) (p : Int × Int) : KV := match rows[p.2.toNat]? with
  | some r => kvOf r p.1
  | none => (Str.ofString "", Str.ofString "")
def HInv (h : Str) (ks : List KV) : Prop := (h = Str.ofString "" ∧ ks = []) ∨ (0 < h.length ∧ ∃ res part, (LL h).foldl psStep ⟨[], Str.ofString "", false, false⟩ = ⟨res, part, false, false⟩ ∧ (res ++ [part]).map Txt.strip = ks.map joinKV ∧ 0 < part.length)
theorem feedSep (res : List Str) (part h : Str) (look : Int) (hh : 0 < h.length) : ∃ part2, (LL (sepF look h)).foldl psStep ⟨res, part, false, false⟩ = ⟨res ++ [part], part2, false, false⟩ ∧ (LL part2 = [] ∨ LL part2 = [32]) := by
  unfold sepF
  rw [if_neg (by omega)]
  split
  · refine ⟨Str.ofString "" ++ ⟨#[32]⟩, ?_, .inr rfl⟩
    show [44, 32].foldl psStep _ = _
    simp only [List.foldl_cons, List.foldl_nil]
    rw [psStep_eq _ 44, if_neg Bool.false_ne_true, if_neg Bool.false_ne_true, if_pos rfl]
    rw [psStep_eq, if_neg Bool.false_ne_true, if_neg Bool.false_ne_true, if_neg (by decide), if_neg (by decide)]
  · refine ⟨Str.ofString "", ?_, .inl rfl⟩
    show [44].foldl psStep _ = _
    simp only [List.foldl_cons, List.foldl_nil]
    rw [psStep_eq _ 44, if_neg Bool.false_ne_true, if_neg Bool.false_ne_true, if_pos rfl]
theorem joinKV_pos (p : KV) : 0 < (joinKV p).length := by
  unfold joinKV
  rw [Str.length_append, Str.length_append]
  have : eqS.length = 1 := rfl
  omega
theorem pieceF_pos (r : Row) (i : Int) : 0 < (pieceF r i).length := by
  unfold pieceF
  rw [Str.length_append, Str.length_append]
  have : (Str.ofString "=").length = 1 := rfl
  omega
theorem HInv.step {rows : List Row} {h : Str} {ks : List KV} {p : Int × Int} {r : Row} (H : HInv h ks) (hr : rows[p.2.toNat]? = some r) (h0 : 0 ≤ p.1) (h4 : p.1 ≤ 4) (hl : ∃ l d, LL (r.host ++ r.path) = l ++ [d] ∧ Unicode.isSpace d = false) : HInv (stepH rows h p) (ks ++ [kvPair rows p]) := by
  have ek : kvPair rows p = kvOf r p.1 := by unfold kvPair; rw [hr]
  rw [stepH_some hr, ek]
  right
  have hpos := pieceF_pos r p.1
  refine ⟨by rw [Str.length_append, Str.length_append]; omega, ?_⟩
  rcases H with ⟨rfl, rfl⟩ | ⟨hh, res, part, e, es, hp⟩
  · have e0 : sepF r.look (Str.ofString "") = Str.ofString "" := by unfold sepF; exact if_pos rfl
    refine ⟨[], Str.ofString "" ++ joinKV (kvOf r p.1), ?_, ?_, ?_⟩
    · rw [e0, LL_app, LL_app, show LL (Str.ofString "") = [] from rfl, List.nil_append, List.nil_append, feedPiece _ _ _ _ h0 h4]
    · simp only [List.nil_append, List.map_cons, List.map_nil]
      rw [stripKV h0 h4 (.inl rfl) hl]
    · rw [Str.length_append]
      have := joinKV_pos (kvOf r p.1)
      omega
  · obtain ⟨part2, e2, h2⟩ := feedSep res part h r.look hh
    refine ⟨res ++ [part], part2 ++ joinKV (kvOf r p.1), ?_, ?_, ?_⟩
    · rw [LL_app, LL_app, List.foldl_append, List.foldl_append, e, e2, feedPiece _ _ _ _ h0 h4]
    · rw [List.map_append, es, List.map_append]
      simp only [List.map_cons, List.map_nil]
      rw [stripKV h0 h4 h2 hl]
    · rw [Str.length_append]
      have := joinKV_pos (kvOf r p.1)
      omega
def PairOk (rows : List Row) (p : Int × Int) : Prop := (0 ≤ p.1 ∧ p.1 ≤ 4) ∧ ∃ r, rows[p.2.toNat]? = some r ∧ ∃ l d, LL (r.host ++ r.path) = l ++ [d] ∧ Unicode.isSpace d = false
theorem HInv.fold {rows : List Row} : ∀ (ps : List (Int × Int)) (h : Str) (ks : List KV), HInv h ks → (∀ p ∈ ps, PairOk rows p) → HInv (ps.foldl (stepH rows) h) (ks ++ ps.map (kvPair rows))
  | [], h, ks, H, _ => by rw [List.map_nil, List.append_nil]; exact H
  | p :: ps, h, ks, H, hp => by
    obtain ⟨⟨h0, h4⟩, r, hr, hl⟩ := hp p (.head _)
    have := HInv.fold ps _ _ (H.step hr h0 h4 hl) (fun q hq => hp q (.tail _ hq))
    rw [List.append_assoc] at this
    exact this
theorem phl_header {rows : List Row} (ps : List (Int × Int)) (hne : ps ≠ []) (hp : ∀ p ∈ ps, PairOk rows p) : phl (ps.foldl (stepH rows) (Str.ofString "")) = (ps.map (kvPair rows)).map joinKV := by
  have H := HInv.fold ps _ [] (.inl ⟨rfl, rfl⟩) hp
  rw [List.nil_append] at H
  rcases H with ⟨_, h⟩ | ⟨_, res, part, e, es, hpos⟩
  · exact absurd (List.map_eq_nil_iff.mp h) hne
  · rw [← es]
    unfold phl phlAll phlFin
    rw [show ∀ x : Str, x.cps.toList = LL x from fun _ => rfl, e]
    rw [if_neg (by show ¬ part.length = 0; omega)]
theorem foldH_len {rows : List Row} (hrl : ∀ r ∈ rows, r.host.length ≤ 100 ∧ r.path.length ≤ 102) : ∀ (ps : List (Int × Int)) (h : Str), (∀ p ∈ ps, PairOk rows p) → (ps.foldl (stepH rows) h).length ≤ h.length + 1000 * ps.length
  | [], h, _ => by simp
  | p :: ps, h, hp => by
    obtain ⟨h04, r, hr, hl⟩ := hp p (.head _)
    have h1 := foldH_len hrl ps (stepH rows h p) (fun q hq => hp q (.tail _ hq))
    rw [List.foldl_cons]
    have hrr := hrl r (List.mem_of_getElem? hr)
    have h2 := pieceF_len hrr.1 hrr.2 h04
    have h3 := sepF_len r.look h
    rw [stepH_some hr] at h1 ⊢
    rw [Str.length_append, Str.length_append] at h1
    rw [List.length_cons]
    omega
end
section
open PySem PySem.W PySem.Calls PyProof.Rows
open PySem.Builtin PySem.Builtin.Str
theorem putA_new {α : Type} {d : List (Str × α)} {k : Str} {a : α} (h : k ∉ d.map (·.1)) : putA d k a = d ++ [(k, a)] := by
  unfold putA
  rw [if_neg]
  intro e
  obtain ⟨q, hq, e⟩ := List.any_eq_true.mp e
  exact h (List.mem_map.mpr ⟨q, hq, of_decide_eq_true e⟩)
theorem map_other {α : Type} {d : List (Str × α)} {k : Str} {a : α} (h : k ∉ d.map (·.1)) : d.map (fun kv => if kv.1 = k then (kv.1, a) else kv) = d := by
  induction d with
  | nil => rfl
  | cons q r ih =>
    rw [List.map_cons, List.mem_cons, not_or] at h
    rw [List.map_cons, ih h.2, if_neg (fun e => h.1 e.symm)]
theorem putA_mid {α : Type} {A B : List (Str × α)} {k : Str} {a b : α} (hA : k ∉ A.map (·.1)) (hB : k ∉ B.map (·.1)) : putA (A ++ (k, b) :: B) k a = A ++ (k, a) :: B := by
  unfold putA
  rw [if_pos (by simp), List.map_append, List.map_cons, map_other hA, map_other hB, if_pos rfl]
theorem foldPut {α β : Type} (k : β → Str) (g : β → α) : ∀ (rem : List β) (A B : List (Str × α)), (B.map (·.1)) <+: rem.map k → (A.map (·.1) ++ rem.map k).Nodup →
    rem.foldl (fun d p => putA d (k p) (g p)) (A ++ B) = A ++ rem.map (fun p => (k p, g p))
  | [], A, B, hp, _ => by
    have : B = [] := by simpa using hp
    rw [this]; rfl
  | p :: rem, A, B, hp, hn => by
    rw [List.map_cons] at hn
    have hn2 : k p ∉ A.map (·.1) ∧ k p ∉ rem.map k := by
      rw [List.nodup_append] at hn
      exact ⟨fun h => hn.2.2 _ h _ (.head _) rfl, (List.nodup_cons.mp hn.2.1).1⟩
    have hn3 : ((A ++ [(k p, g p)]).map (·.1) ++ rem.map k).Nodup := by
      rw [List.map_append, List.append_assoc]; exact hn
    rw [List.foldl_cons]
    cases B with
    | nil =>
      rw [List.append_nil, putA_new hn2.1]
      have := foldPut k g rem (A ++ [(k p, g p)]) [] (List.nil_prefix) hn3
      rw [List.append_nil] at this
      rw [this, List.append_assoc]; rfl
    | cons q B =>
      rw [List.map_cons, List.map_cons, List.cons_prefix_cons] at hp
      obtain ⟨h1, h2⟩ := hp
      obtain ⟨kq, b⟩ := q
      simp only at h1
      subst h1
      rw [putA_mid hn2.1 (fun h => hn2.2 (h2.subset h))]
      have := foldPut k g rem (A ++ [(k p, g p)]) B h2 hn3
      rw [List.append_assoc] at this
      rw [show A ++ (k p, g p) :: B = A ++ ([(k p, g p)] ++ B) from rfl, this, List.append_assoc]; rfl
theorem findKey {α β : Type} (k : β → Str) (g : β → α) {b : β} : ∀ {l : List β}, b ∈ l → (∀ x ∈ l, k x = k b → x = b) → (l.map (fun o => (k o, g o))).find? (fun q => q.1 = k b) = some (k b, g b)
  | x :: l, hm, hi => by
    rw [List.map_cons, List.find?_cons]
    by_cases e : k x = k b
    · have := hi x (.head _) e
      subst this
      simp
    · simp only [e, decide_false]
      rcases List.mem_cons.mp hm with rfl | hm
      · exact absurd rfl e
      · exact findKey k g hm (fun y hy => hi y (.tail _ hy))
theorem filter_le {α : Type} {p q : α → Bool} : ∀ {l : List α}, (∀ x ∈ l, p x = true → q x = true) → (l.filter p).length ≤ (l.filter q).length
  | [], _ => Nat.le_refl _
  | x :: l, h => by
    have ih := filter_le (l := l) (fun y hy => h y (.tail _ hy))
    rw [List.filter_cons, List.filter_cons]
    split
    · rename_i hp
      rw [if_pos (h x (.head _) hp)]
      exact Nat.succ_le_succ ih
    · split
      · exact Nat.le_succ_of_le ih
      · exact ih
theorem filter_lt {α : Type} {p q : α → Bool} {a : α} (hq : q a = true) (hp : ¬ p a = true) : ∀ {l : List α}, a ∈ l → (∀ x ∈ l, p x = true → q x = true) → (l.filter p).length < (l.filter q).length
  | x :: l, hm, h => by
    have ihl := filter_le (l := l) (p := p) (q := q) (fun y hy => h y (.tail _ hy))
    rw [List.filter_cons, List.filter_cons]
    rcases List.mem_cons.mp hm with rfl | hm
    · rw [if_neg hp, if_pos hq]
      exact Nat.lt_succ_of_le ihl
    · have ih := filter_lt hq hp (l := l) hm (fun y hy => h y (.tail _ hy))
      split
      · rename_i h1
        rw [if_pos (h x (.head _) h1)]
        exact Nat.succ_lt_succ ih
      · split
        · exact Nat.lt_succ_of_lt ih
        · exact ih
theorem filter_one {α : Type} {q : α → Bool} {t : α} : ∀ {l : List α}, l.Nodup → t ∈ l → (∀ b ∈ l, q b = true ↔ b = t) → l.filter q = [t]
  | x :: l, hn, hm, h => by
    rw [List.nodup_cons] at hn
    rw [List.filter_cons]
    rcases List.mem_cons.mp hm with e | hm
    · subst e
      rw [if_pos ((h t (.head _)).mpr rfl)]
      rw [List.filter_eq_nil_iff.mpr]
      intro a ha e
      exact hn.1 ((h a (.tail _ ha)).mp e ▸ ha)
    · rw [if_neg, filter_one hn.2 hm (fun b hb => h b (.tail _ hb))]
      intro e
      exact hn.1 ((h x (.head _)).mp e ▸ hm)
/-- unquoted -/
theorem item_0 {x : Str} {c : Nat} {l : List Nat} (h : LL x = c :: l) : Txt.item x 0 = ⟨#[c]⟩ := by
  unfold Txt.item Txt.charAt
  have : x.cps[0]? = some c := by rw [← Array.getElem?_toList]; show (LL x)[0]? = _; rw [h]; rfl
  rw [StrLaws.at_nonneg (n := c) (Int.le_refl 0) (by exact this)]
  rfl
theorem item_1 {x : Str} {c : Nat} {l : List Nat} (h : LL x = l ++ [c]) : Txt.item x (-1) = ⟨#[c]⟩ := by
  have hl : x.length = l.length + 1 := by rw [← LL_len, h]; simp
  unfold Txt.item Txt.charAt
  have e : (-1 + (x.length : Int)).toNat = l.length := by omega
  have : x.cps[(-1 + (x.length : Int)).toNat]? = some c := by
    rw [e, ← Array.getElem?_toList]
    show (LL x)[l.length]? = _
    rw [h, List.getElem?_append_right (Nat.le_refl _), Nat.sub_self]; rfl
  rw [StrLaws.at_neg (n := c) (by decide) (by omega) this]
  rfl
theorem unq_qv {way : Int} {place : Str} (hp : LL place ≠ []) : unq (qv way place) = place := by
  unfold qv
  split
  · have h1 : LL (Str.ofString "\"" ++ place ++ Str.ofString "\"") = 34 :: (LL place ++ [34]) := by rw [LL_app, LL_app]; rfl
    have h2 : LL (Str.ofString "\"" ++ place ++ Str.ofString "\"") = (34 :: LL place) ++ [34] := h1
    generalize hv : Str.ofString "\"" ++ place ++ Str.ofString "\"" = v at h1 h2
    unfold unq
    rw [item_0 h1, item_1 h2, show quS = ⟨#[34]⟩ from rfl, if_pos (by decide)]
    have hl : v.length = (LL place).length + 2 := by rw [← LL_len, h1]; simp
    rw [show Txt.slice v (some 1) (some (-1)) = StrLaws.sliceText v (some 1) (some (-1)) from rfl, StrLaws.sliceText_neg_hi v (some 1) (by decide) (by omega), StrLaws.sliceText_plain (by
      have : v.cps.toList.length = v.length := LL_len v
      omega)]
    apply strExt
    show ((v.cps.toList.drop (1 : Int).toNat).take (-1 + (v.length : Int) - 1).toNat).toArray.toList = _
    rw [show v.cps.toList = 34 :: (LL place ++ [34]) from h1, show (-1 + (v.length : Int) - 1).toNat = (LL place).length by omega]
    simp
  · rename_i h
    obtain ⟨c, l, hc⟩ := List.exists_cons_of_ne_nil hp
    have hb := (bareOk h c (by rw [hc]; exact .head _)).2
    unfold unq
    rw [item_0 hc, if_neg]
    rw [Bool.and_eq_true, show quS = ⟨#[34]⟩ from rfl, sgEq]
    exact fun e => hb (of_decide_eq_true e.1)
/-- host and path back -/
theorem part_eq {host path : Str} (hh : 47 ∉ LL host) (hp : LL path = [] ∨ ∃ l, LL path = 47 :: l) : part (host ++ path) = (host, path) := by
  unfold part Txt.partition
  rw [show slS = ⟨#[47]⟩ from rfl]
  rcases hp with hp | ⟨l, hp⟩
  · have hx : LL (host ++ path) = LL host := by rw [LL_app, hp, List.append_nil]
    rw [occ_no (by rw [hx]; exact hh)]
    refine Prod.ext (strExt hx) (strExt ?_)
    rw [hp]; rfl
  · have hx : LL (host ++ path) = LL host ++ 47 :: l := by rw [LL_app, hp]
    rw [occ_mid hx hh]
    refine Prod.ext (strExt (sub_pre hx)) (strExt ?_)
    show LL (⟨#[47]⟩ ++ strSub (host ++ path) ((LL host).length + 1) (host ++ path).length) = LL path
    have hx2 : LL (host ++ path) = (LL host ++ [47]) ++ l := by rw [hx]; simp
    have := sub_post hx2
    rw [List.length_append] at this
    rw [LL_app, hp]
    show [47] ++ LL (strSub (host ++ path) ((LL host).length + [47].length) (host ++ path).length) = _
    rw [this]; rfl
end
section
open PySem PySem.W PySem.Calls PyProof.Rows
open PySem.Builtin PySem.Builtin.Str
def rw0 (rows : List Row) (j : Nat) : Row := (rows[j]?).getD ⟨0, Str.ofString "", Str.ofString "", Str.ofString "", 0⟩
theorem rw0_get {rows : List Row} {j : Nat} (h : j < rows.length) : rows[j]? = some (rw0 rows j) := by
  unfold rw0
  rw [List.getElem?_eq_getElem h]; rfl
def key (j : Nat) : Str := keyF (j : Int)
def plc (rows : List Row) (j : Nat) : Str × Str := plOf (rw0 rows j)
def plcT (rows : List Row) (j : Nat) : Str := (rw0 rows j).host ++ (rw0 rows j).path
theorem key_inj {i j : Nat} (hi : i ≤ 4) (hj : j ≤ 4) (h : key i = key j) : i = j := by
  have := keyInj i j (by omega) (by omega) (by omega) (by omega) h
  omega
theorem wSlash : ∀ j : Nat, j ≤ 4 → 47 ∉ LL (Str.ofString "w" ++ Str.ofString (toString (j : Int))) := by
  intro j hj
  obtain rfl | rfl | rfl | rfl | rfl : j = 0 ∨ j = 1 ∨ j = 2 ∨ j = 3 ∨ j = 4 := le4N hj
  all_goals decide
section
variable {rows : List Row} {js : List Nat}
theorem hostOk (hn : rows.length ≤ 5) (S : ∀ (j : Nat) (r : Row), rows[j]? = some r → Shape rows j r) : ∀ (j : Nat) (r : Row), rows[j]? = some r → 47 ∉ LL r.host ∧ (LL r.stem = [] ∨ ∃ l, LL r.stem = 47 :: l) := by
  intro j
  induction j using Nat.strongRecOn with
  | ind j ih =>
    intro r e
    have hj := lt_of_get e
    rcases (S j r e).form with ⟨h1, _, h3⟩ | ⟨base, sg, _, h2, ⟨p, rp, hu, hpt, hrp, hhp, rfl⟩ | ⟨_, hho, rfl⟩⟩
    · rw [h3]
      exact ⟨wSlash j (by omega), .inl h1⟩
    · obtain ⟨i1, i2⟩ := ih p hpt rp hrp
      rw [hhp]
      refine ⟨i1, .inr ?_⟩
      rcases i2 with h | ⟨l, h⟩
      · rw [h2, h]; exact ⟨sg ++ List.replicate (j + 1) 120, rfl⟩
      · rw [h2, h]; exact ⟨l ++ (47 :: sg) ++ List.replicate (j + 1) 120, rfl⟩
    · refine ⟨?_, .inr ⟨sg ++ List.replicate (j + 1) 120, by rw [h2]; rfl⟩⟩
      rcases hho with h | h <;> rw [h] <;> decide
theorem pathHead (hn : rows.length ≤ 5) (S : ∀ (j : Nat) (r : Row), rows[j]? = some r → Shape rows j r) {j : Nat} {r : Row} (e : rows[j]? = some r) : LL r.path = [] ∨ ∃ l, LL r.path = 47 :: l := by
  obtain ⟨n, hn2, hp⟩ := (S j r e).path
  rcases (hostOk hn S j r e).2 with h | ⟨l, h⟩
  · rw [hp, h]
    obtain rfl | rfl : n = 0 ∨ n = 1 := by omega
    · exact .inl rfl
    · exact .inr ⟨[], rfl⟩
  · rw [hp, h]
    exact .inr ⟨_, rfl⟩
theorem plcT_ne (hn : rows.length ≤ 5) (S : ∀ (j : Nat) (r : Row), rows[j]? = some r → Shape rows j r) {j : Nat} (h : j < rows.length) : LL (plcT rows j) ≠ [] := by
  obtain ⟨l, d, e, _⟩ := placeLast (by omega) (S j _ (rw0_get h))
  unfold plcT
  rw [e]; simp
theorem part_plc (hn : rows.length ≤ 5) (S : ∀ (j : Nat) (r : Row), rows[j]? = some r → Shape rows j r) {j : Nat} (h : j < rows.length) : part (plcT rows j) = plc rows j :=
  part_eq (hostOk hn S j _ (rw0_get h)).1 (pathHead hn S (rw0_get h))
/-- the drawn order as numbers -/
structure Ord (rows : List Row) (js : List Nat) : Prop where
  perm : js.Perm (List.range rows.length)
theorem Ord.nodup (o : Ord rows js) : js.Nodup := o.perm.nodup_iff.mpr List.nodup_range
theorem Ord.mem (o : Ord rows js) {j : Nat} : j ∈ js ↔ j < rows.length := o.perm.mem_iff.trans List.mem_range
theorem Ord.len (o : Ord rows js) : js.length = rows.length := by
  have := o.perm.length_eq
  rwa [List.length_range] at this
theorem nodup_map {α β : Type} {f : α → β} : ∀ {l : List α}, l.Nodup → (∀ x ∈ l, ∀ y ∈ l, f x = f y → x = y) → (l.map f).Nodup
  | [], _, _ => List.nodup_nil
  | x :: l, hn, hi => by
    rw [List.nodup_cons] at hn
    rw [List.map_cons, List.nodup_cons]
    refine ⟨fun h => ?_, nodup_map hn.2 (fun a ha b hb => hi a (.tail _ ha) b (.tail _ hb))⟩
    obtain ⟨y, hy, e⟩ := List.mem_map.mp h
    exact hn.1 (hi y (.tail _ hy) x (.head _) e ▸ hy)
theorem Ord.keys (o : Ord rows js) (hn : rows.length ≤ 5) : (js.map key).Nodup :=
  nodup_map o.nodup fun x hx y hy e => key_inj (by have := o.mem.mp hx; omega) (by have := o.mem.mp hy; omega) e
theorem Ord.kinj (o : Ord rows js) (hn : rows.length ≤ 5) {b : Nat} (hb : b ∈ js) : ∀ x ∈ js, key x = key b → x = b :=
  fun x hx e => key_inj (by have := o.mem.mp hx; omega) (by have := o.mem.mp hb; omega) e
theorem foldNew {α : Type} {β : Type} (k : β → Str) (g : β → α) (l : List β) (h : (l.map k).Nodup) : l.foldl (fun d p => putA d (k p) (g p)) [] = l.map (fun p => (k p, g p)) := by
  have := foldPut k g l [] [] List.nil_prefix h
  exact this
def osOf (js : List Nat) : List Int := js.map fun (j : Nat) => (j : Int)
def pairsOf (js : List Nat) (ag : Nat) : List (Int × Int) := (List.range ag).map (prAt (osOf js)) ++ (osOf js).map dup
theorem kvPair_fst {p : Int × Int} (h : PairOk rows p) : (kvPair rows p).1 = keyF p.1 := by
  obtain ⟨_, r, hr, _⟩ := h
  unfold kvPair; rw [hr]; rfl
theorem Ord.pairs (o : Ord rows js) (hn : rows.length ≤ 5) (S : ∀ (j : Nat) (r : Row), rows[j]? = some r → Shape rows j r) {ag : Nat} (hag : ag ≤ rows.length) : ∀ p ∈ pairsOf js ag, PairOk rows p := by
  have hob : ∀ x ∈ osOf js, 0 ≤ x ∧ x < (rows.length : Int) := by
    intro x hx
    obtain ⟨j, hj, rfl⟩ := List.mem_map.mp hx
    have := o.mem.mp hj
    omega
  have fin : ∀ p : Int × Int, (0 ≤ p.1 ∧ p.1 < (rows.length : Int)) → (0 ≤ p.2 ∧ p.2 < (rows.length : Int)) → PairOk rows p := by
    intro p h1 h2
    have hr := rw0_get (rows := rows) (j := p.2.toNat) (by omega)
    exact ⟨by omega, _, hr, placeLast (by omega) (S _ _ hr)⟩
  intro p hp
  rcases List.mem_append.mp hp with hp | hp
  · obtain ⟨t, ht, rfl⟩ := List.mem_map.mp hp
    have ht' := List.mem_range.mp ht
    have hl : (osOf js).length = rows.length := by unfold osOf; rw [List.length_map, o.len]
    have h9 := prAt_ok hob (t := t) (by omega)
    exact fin _ h9.1 h9.2
  · obtain ⟨x, hx, rfl⟩ := List.mem_map.mp hp
    exact fin _ (hob x hx) (hob x hx)
theorem Ord.keqv (o : Ord rows js) (hn : rows.length ≤ 5) (S : ∀ (j : Nat) (r : Row), rows[j]? = some r → Shape rows j r) {ag : Nat} (hag : ag ≤ rows.length) :
    keqv ((pairsOf js ag).map (kvPair rows)) = js.map (fun j => (key j, plcT rows j)) := by
  have P := o.pairs hn S hag
  unfold Mine.keqv
  rw [List.foldl_map]
  unfold pairsOf at P ⊢
  rw [List.foldl_append, List.foldl_map, List.foldl_map]
  have ek : (List.range ag).map (fun t => (kvPair rows (prAt (osOf js) t)).1) = (js.take ag).map key := by
    apply List.ext_getElem
    · rw [List.length_map, List.length_range, List.length_map, List.length_take, o.len]; omega
    · intro t h1 h2
      rw [List.length_map, List.length_range] at h1
      have htj : t < js.length := by rw [o.len]; omega
      rw [List.getElem_map, List.getElem_range, List.getElem_map, List.getElem_take]
      rw [kvPair_fst (P _ (List.mem_append.mpr (.inl (List.mem_map.mpr ⟨t, List.mem_range.mpr h1, rfl⟩))))]
      show keyF ((osOf js).getD t 0) = keyF _
      rw [List.getD_eq_getElem?_getD]
      unfold osOf
      rw [List.getElem?_map, List.getElem?_eq_getElem htj]
      rfl
  have hk := o.keys hn
  have htake : (js.take ag).map key <+: js.map key := (List.take_prefix ag js).map key
  rw [foldNew (fun t => (kvPair rows (prAt (osOf js) t)).1) (fun t => unq (kvPair rows (prAt (osOf js) t)).2) (List.range ag) (by rw [ek]; exact hk.sublist htake.sublist)]
  unfold osOf at ek P ⊢
  rw [List.foldl_map]
  have e2 : ∀ (l : List Nat) (d : List (Str × Str)), (∀ j ∈ l, j ∈ js) → l.foldl (fun d (j : Nat) => putA d (kvPair rows (dup (j : Int))).1 (unq (kvPair rows (dup (j : Int))).2)) d = l.foldl (fun d j => putA d (key j) (plcT rows j)) d := by
    intro l
    induction l with
    | nil => intro d _; rfl
    | cons j l ih =>
      intro d h
      have hj := o.mem.mp (h j (.head _))
      have hr := rw0_get hj
      have ev : kvPair rows (dup (j : Int)) = kvOf (rw0 rows j) (j : Int) := by
        unfold kvPair dup
        simp only [Int.toNat_natCast]
        rw [hr]
      rw [List.foldl_cons, List.foldl_cons, ev]
      rw [show unq (kvOf (rw0 rows j) (j : Int)).2 = plcT rows j from unq_qv (plcT_ne hn S hj)]
      exact ih _ (fun x hx => h x (.tail _ hx))
  rw [e2 js _ (fun _ h => h)]
  have := foldPut key (plcT rows) js [] ((List.range ag).map (fun t => ((kvPair rows (prAt (js.map fun (j : Nat) => (j : Int)) t)).1, unq (kvPair rows (prAt (js.map fun (j : Nat) => (j : Int)) t)).2))) (by
    rw [List.map_map]
    show (List.range ag).map (fun t => (kvPair rows (prAt (js.map fun (j : Nat) => (j : Int)) t)).1) <+: _
    rw [ek]; exact htake) hk
  exact this
theorem Ord.places (o : Ord rows js) (hn : rows.length ≤ 5) (S : ∀ (j : Nat) (r : Row), rows[j]? = some r → Shape rows j r) : placesF (js.map (fun j => (key j, plcT rows j))) = js.map (fun j => (key j, plc rows j)) := by
  unfold placesF
  rw [List.foldl_map, foldNew key (fun j => part (plcT rows j)) js (o.keys hn)]
  apply List.map_congr_left
  intro j hj
  rw [part_plc hn S (o.mem.mp hj)]
def cov (rows : List Row) (b t : Nat) : Bool := suburiF (plc rows b) (plc rows t)
def coverers (rows : List Row) (js : List Nat) (t : Nat) : List Str := (js.filter (fun b => cov rows b t)).map key
theorem Ord.over (o : Ord rows js) (hn : rows.length ≤ 5) : overF (js.map (fun j => (key j, plc rows j))) = js.map (fun j => (key j, coverers rows js j)) := by
  unfold overF
  rw [List.foldl_map, foldNew key _ js (o.keys hn)]
  apply List.map_congr_left
  intro t ht
  refine Prod.ext rfl ?_
  show ((js.map (fun j => (key j, plc rows j))).map (·.1)).filter _ = _
  rw [List.map_map, show ((fun q : Str × (Str × Str) => q.1) ∘ fun j => (key j, plc rows j)) = key from rfl, List.filter_map]
  unfold coverers
  congr 1
  apply List.filter_congr
  intro b hb
  show coverF _ (key t, plc rows t) (key b) = _
  unfold coverF
  rw [findKey key (plc rows) hb (o.kinj hn hb)]
  rfl
theorem Ord.getO (o : Ord rows js) (hn : rows.length ≤ 5) {t : Nat} (ht : t ∈ js) : getO (js.map (fun j => (key j, coverers rows js j))) (key t) = coverers rows js t := by
  unfold Mine.getO
  rw [findKey key (coverers rows js) ht (o.kinj hn ht)]
end
end
section
open PySem PySem.W PySem.Calls PyProof.Rows
open PySem.Builtin PySem.Builtin.Str
section
variable {rows : List Row} {js : List Nat}
theorem Anc.trans {a b c : Nat} (h : Anc rows a b) (k : Anc rows b c) : Anc rows a c := by
  induction k with
  | self => exact h
  | up e hu _ ih => exact .up e hu ih
theorem Anc.le (S : ∀ (j : Nat) (r : Row), rows[j]? = some r → Shape rows j r) {b t : Nat} (h : Anc rows b t) : b ≤ t := by
  induction h with
  | self => exact Nat.le_refl _
  | @up p j r e hu _ ih =>
    rcases (S j r e).kind with ⟨p', h1, h2, _⟩ | ⟨h1, _⟩ | ⟨h1, _⟩
    · omega
    · omega
    · omega
theorem Anc.cases {b t : Nat} {r : Row} (h : Anc rows b t) (e : rows[t]? = some r) : b = t ∨ ∃ p : Nat, r.up = (p : Int) ∧ Anc rows b p := by
  cases h with
  | self => exact .inl rfl
  | up e2 hu k =>
    rw [e] at e2
    obtain rfl := Option.some.inj e2
    exact .inr ⟨_, hu, k⟩
theorem covA (o : Ord rows js) (hn : rows.length ≤ 5) (S : ∀ (j : Nat) (r : Row), rows[j]? = some r → Shape rows j r) {b t : Nat} (hb : b ∈ js) (ht : t ∈ js) : cov rows b t = true ↔ Anc rows b t :=
  cov_iff hn S (rw0_get (o.mem.mp hb)) (rw0_get (o.mem.mp ht))
theorem key_ne (j : Nat) : key j ≠ Str.ofString "" := by
  intro e
  have := congrArg Str.length e
  unfold key keyF at this
  rw [Str.length_append] at this
  have h1 : (Str.ofString "k").length = 1 := rfl
  have h0 : (Str.ofString "").length = 0 := rfl
  omega
theorem key_len (j : Nat) : (key j).length ≠ 0 := by
  intro e
  exact key_ne j (strExt (List.length_eq_zero_iff.mp ((LL_len _).trans e)))
/-- the parent is found -/
theorem foldHigh (o : Ord rows js) (hn : rows.length ≤ 5) (S : ∀ (j : Nat) (r : Row), rows[j]? = some r → Shape rows j r) {t p : Nat} {r : Row} (ht : t ∈ js) (hr : rows[t]? = some r) (hu : r.up = (p : Int)) (hpt : p < t) :
    ∀ (l : List Nat) (h : Str), (∀ x ∈ l, x ∈ js ∧ Anc rows x t) → (((h = Str.ofString "" ∨ ∃ x, h = key x ∧ x ∈ js ∧ Anc rows x p) ∧ p ∈ l) ∨ h = key p) →
      l.foldl (fun h x => highStep (js.map (fun j => (key j, coverers rows js j))) (key t) h (key x)) h = key p := by
  have hpj : p ∈ js := o.mem.mpr (by have := o.mem.mp ht; omega)
  have hlen : ∀ x, (coverers rows js x).length = (js.filter (fun b => cov rows b x)).length := fun x => by unfold coverers; rw [List.length_map]
  have le : ∀ x ∈ js, Anc rows x p → (coverers rows js x).length ≤ (coverers rows js p).length := by
    intro x hx ha
    rw [hlen, hlen]
    refine filter_le (p := fun b => cov rows b x) (q := fun b => cov rows b p) fun b hb hc => ?_
    exact (covA o hn S hb hpj).mpr (((covA o hn S hb hx).mp hc).trans ha)
  have lt : ∀ x ∈ js, Anc rows x p → x ≠ p → (coverers rows js x).length < (coverers rows js p).length := by
    intro x hx ha hne
    rw [hlen, hlen]
    refine filter_lt (p := fun b => cov rows b x) (q := fun b => cov rows b p) (a := p) ((covA o hn S hpj hpj).mpr (.self p)) ?_ hpj fun b hb hc => ?_
    · intro hc
      have h1 := ((covA o hn S hpj hx).mp hc).le S
      have h2 := ha.le S
      omega
    · exact (covA o hn S hb hpj).mpr (((covA o hn S hb hx).mp hc).trans ha)
  intro l
  induction l with
  | nil =>
    intro h _ hh
    rcases hh with ⟨_, hm⟩ | hh
    · exact nomatch hm
    · exact hh
  | cons x l ih =>
    intro h hl hh
    rw [List.foldl_cons]
    obtain ⟨hx, hxt⟩ := hl x (.head _)
    refine ih _ (fun y hy => hl y (.tail _ hy)) ?_
    have hxt' : key x ≠ key t → Anc rows x p := by
      intro hne
      rcases hxt.cases hr with e | ⟨p', hu', ha⟩
      · exact absurd (by rw [e]) hne
      · have : p' = p := by omega
        exact this ▸ ha
    rcases hh with ⟨hh, hm⟩ | hh
    · by_cases hxp : x = p
      · right
        subst hxp
        unfold highStep
        have hne : key x ≠ key t := fun e => by
          have := o.kinj hn ht x hx e
          omega
        rcases hh with hh | ⟨y, hh, hy, ha⟩
        · rw [if_pos ⟨hne, .inl hh⟩]
        · by_cases hyx : y = x
          · subst hyx
            rw [hh]; split <;> rfl
          · rw [if_pos]
            refine ⟨hne, .inr ?_⟩
            rw [hh, o.getO hn hy, o.getO hn hx]
            exact lt y hy ha hyx
      · left
        refine ⟨?_, by rcases List.mem_cons.mp hm with e | e; exact absurd e.symm hxp; exact e⟩
        unfold highStep
        split
        · rename_i hc
          exact .inr ⟨x, rfl, hx, hxt' hc.1⟩
        · exact hh
    · right
      unfold highStep
      split
      · rename_i hc
        rcases hc.2 with e | e
        · exact absurd (hh.symm.trans e) (key_ne p)
        · have ha := hxt' hc.1
          rw [hh, o.getO hn hpj, o.getO hn hx] at e
          have := le x hx ha
          omega
      · exact hh
theorem foldRoot {ov : List (Str × List Str)} {t : Nat} : ∀ (l : List Nat), (∀ x ∈ l, x = t) → l.foldl (fun h x => highStep ov (key t) h (key x)) (Str.ofString "") = Str.ofString ""
  | [], _ => rfl
  | x :: l, h => by
    rw [List.foldl_cons, h x (.head _)]
    have : highStep ov (key t) (Str.ofString "") (key t) = Str.ofString "" := by
      unfold highStep
      rw [if_neg (fun h => h.1 rfl)]
    rw [this]
    exact foldRoot l (fun y hy => h y (.tail _ hy))
theorem mem_cov (o : Ord rows js) (hn : rows.length ≤ 5) (S : ∀ (j : Nat) (r : Row), rows[j]? = some r → Shape rows j r) {b t : Nat} (hb : b ∈ js) (ht : t ∈ js) : key b ∈ coverers rows js t ↔ Anc rows b t := by
  unfold coverers
  rw [List.mem_map]
  constructor
  · rintro ⟨x, hx, e⟩
    obtain ⟨h1, h2⟩ := List.mem_filter.mp hx
    have := o.kinj hn hb x h1 e
    subst this
    exact (covA o hn S hb ht).mp h2
  · intro h
    exact ⟨b, List.mem_filter.mpr ⟨hb, (covA o hn S hb ht).mpr h⟩, rfl⟩
theorem one (o : Ord rows js) (hn : rows.length ≤ 5) (S : ∀ (j : Nat) (r : Row), rows[j]? = some r → Shape rows j r) {t : Nat} (ht : t ∈ js) {U : List Str} (h : ∀ b ∈ js, Anc rows b t → (key b ∉ U ↔ b = t)) : (coverers rows js t).filter (fun k => !U.contains k) = [key t] := by
  unfold coverers
  rw [List.filter_map, List.filter_filter, filter_one (t := t) o.nodup ht]
  · rfl
  · intro b hb
    rw [Bool.and_eq_true, covA o hn S hb ht]
    show (!U.contains (key b)) = true ∧ _ ↔ _
    rw [Bool.not_eq_true', List.contains_eq_mem, decide_eq_false_iff_not]
    constructor
    · rintro ⟨h1, h2⟩; exact (h b hb h2).mp h1
    · intro e
      subst e
      exact ⟨(h b hb (.self b)).mpr rfl, .self b⟩
theorem Ord.row (o : Ord rows js) (hn : rows.length ≤ 5) (S : ∀ (j : Nat) (r : Row), rows[j]? = some r → Shape rows j r) {t : Nat} (ht : t ∈ js) :
    rowF (js.map (fun j => (key j, coverers rows js j))) (key t, plc rows t) = toldRow rows (t : Int) := by
  have hr := rw0_get (o.mem.mp ht)
  have etold : toldRow rows (t : Int) = ⟨key t, if 0 ≤ (rw0 rows t).up then keyF (rw0 rows t).up else Str.ofString "", plc rows t, [key t], []⟩ := by
    unfold toldRow
    rw [Int.toNat_natCast, hr]; rfl
  rw [etold]
  unfold rowF
  simp only []
  rw [o.getO hn ht]
  have hhigh : highF (js.map (fun j => (key j, coverers rows js j))) (key t) = ((js.filter (fun b => cov rows b t)).foldl (fun h x => highStep (js.map (fun j => (key j, coverers rows js j))) (key t) h (key x)) (Str.ofString "")) := by
    unfold highF
    rw [o.getO hn ht]
    unfold coverers
    rw [List.foldl_map]
  have hmem : ∀ x ∈ js.filter (fun b => cov rows b t), x ∈ js ∧ Anc rows x t := fun x hx => ⟨(List.mem_filter.mp hx).1, (covA o hn S (List.mem_filter.mp hx).1 ht).mp (List.mem_filter.mp hx).2⟩
  rcases (S t _ hr).kind with ⟨p, hu, hpt, _⟩ | hroot
  · have hpj : p ∈ js := o.mem.mpr (by have := o.mem.mp ht; omega)
    have hap : Anc rows p t := .up hr hu (.self p)
    have eh : highF (js.map (fun j => (key j, coverers rows js j))) (key t) = key p := by
      rw [hhigh]
      exact foldHigh o hn S ht hr hu hpt _ _ hmem (.inl ⟨.inl rfl, List.mem_filter.mpr ⟨hpj, (covA o hn S hpj ht).mpr hap⟩⟩)
    have ea : aboveF (js.map (fun j => (key j, coverers rows js j))) (key p) = coverers rows js p := by
      unfold aboveF
      rw [if_neg (key_len p), o.getO hn hpj]
    rw [eh, ea, if_pos (by omega), hu]
    rw [one o hn S ht (U := coverers rows js p) (fun b hb hbt => ?_)]
    · rw [List.filter_eq_nil_iff.mpr]
      · rfl
      · intro k hk
        unfold coverers at hk
        obtain ⟨b, hb, rfl⟩ := List.mem_map.mp hk
        obtain ⟨hbj, hbc⟩ := List.mem_filter.mp hb
        have hbt := ((covA o hn S hbj hpj).mp hbc).trans hap
        rw [Bool.not_eq_true', List.contains_eq_mem, decide_eq_false_iff_not]
        exact fun h => h ((mem_cov o hn S hbj ht).mpr hbt)
    · rw [mem_cov o hn S hb hpj]
      constructor
      · intro hnp
        rcases hbt.cases hr with e | ⟨p', hu', ha⟩
        · exact e
        · have : p' = p := by omega
          exact absurd (this ▸ ha) hnp
      · rintro rfl ha
        have := ha.le S
        omega
  · have hup : (rw0 rows t).up < 0 := by rcases hroot with ⟨h, _⟩ | ⟨h, _⟩ <;> exact h
    have onlyT : ∀ b, Anc rows b t → b = t := by
      intro b hb
      rcases hb.cases hr with e | ⟨p', hu', _⟩
      · exact e
      · omega
    have eh : highF (js.map (fun j => (key j, coverers rows js j))) (key t) = Str.ofString "" := by
      rw [hhigh]
      exact foldRoot _ (fun x hx => onlyT x (hmem x hx).2)
    have ea : aboveF (js.map (fun j => (key j, coverers rows js j))) (Str.ofString "") = [] := by
      unfold aboveF
      exact if_pos rfl
    rw [eh, ea, if_neg (by omega)]
    rw [one o hn S ht (U := []) (fun b hb hbt => ⟨fun _ => onlyT b hbt, fun _ h => nomatch h⟩)]
    rfl
end
theorem plain (rows : List Row) (os : List Int) (ag : Nat) (hg : GrownOk rows) (h1 : 1 ≤ rows.length) (hn : rows.length ≤ 5) (hrl : ∀ r ∈ rows, r.host.length ≤ 100 ∧ r.path.length ≤ 102) (hp : os.Perm (rangeI rows.length)) (hag : ag ≤ rows.length) : PlainOk rows os ag := by
  have S := shapes hg hn
  obtain ⟨js, rfl, hj⟩ : ∃ js : List Nat, os = osOf js ∧ js.Perm (List.range rows.length) := by
    refine ⟨os.map Int.toNat, ?_, ?_⟩
    · unfold osOf
      rw [List.map_map]
      have : ∀ x ∈ os, (((fun (j : Nat) => (j : Int)) ∘ Int.toNat) x) = x := by
        intro x hx
        obtain ⟨j, _, rfl⟩ := List.mem_map.mp (hp.mem_iff.mp hx)
        rfl
      rw [List.map_congr_left this, List.map_id']
    · have := hp.map Int.toNat
      unfold rangeI at this
      rw [List.map_map] at this
      have e : (Int.toNat ∘ fun (i : Nat) => (i : Int)) = _root_.id := by funext i; rfl
      rw [e, List.map_id] at this
      exact this
  have o : Ord rows js := ⟨hj⟩
  have P := o.pairs hn S hag
  have hl := o.len
  have hpl : (pairsOf js ag).length ≤ 10 := by
    unfold pairsOf osOf
    rw [List.length_append, List.length_map, List.length_map, List.length_map, List.length_range]
    omega
  have hne : pairsOf js ag ≠ [] := by
    intro e
    have := congrArg List.length e
    unfold pairsOf osOf at this
    rw [List.length_append, List.length_map, List.length_map, List.length_map, List.length_range, List.length_nil] at this
    omega
  have hrow : ∀ j ∈ js, (rw0 rows j).host.length ≤ 100 ∧ (rw0 rows j).path.length ≤ 102 := fun j hj => hrl _ (List.mem_of_getElem? (rw0_get (o.mem.mp hj)))
  have ek := o.keqv hn S hag
  have epl := o.places hn S
  have eov := o.over hn
  refine ⟨(pairsOf js ag).map (kvPair rows), ?_, phl_header (pairsOf js ag) hne P, ?_, by rw [List.length_map]; omega, ?_⟩
  · have := foldH_len hrl (pairsOf js ag) (Str.ofString "") P
    have h0 : (Str.ofString "").length = 0 := rfl
    rw [h0] at this
    exact Nat.le_trans this (by omega)
  · intro q hq
    obtain ⟨p, hpm, rfl⟩ := List.mem_map.mp hq
    obtain ⟨⟨h0, h4⟩, r, hr, l, d, hd, _⟩ := P p hpm
    obtain ⟨_, k1, k2, _⟩ := keyOk p.1 h0 h4
    have ev : kvPair rows p = kvOf r p.1 := by unfold kvPair; rw [hr]
    rw [ev]
    have hrr := hrl r (List.mem_of_getElem? hr)
    have hq : 0 < (qv (wayOf r) (r.host ++ r.path)).length ∧ (qv (wayOf r) (r.host ++ r.path)).length ≤ 300 := by
      have hpp : 0 < (r.host ++ r.path).length := by
        rw [← LL_len, hd]; simp
      have hpq : (r.host ++ r.path).length ≤ 202 := by rw [Str.length_append]; omega
      have h34 : (Str.ofString "\"").length = 1 := rfl
      unfold qv
      split
      · rw [Str.length_append, Str.length_append]
        omega
      · omega
    exact ⟨k1, hq.1, by show (keyF p.1).length ≤ _; omega, by show (qv _ _).length ≤ _; omega⟩
  rw [ek, epl, eov]
  have mapfst : ∀ {α : Type} (g : Nat → α), (js.map (fun j => (key j, g j))).map (·.1) = js.map key := fun g => by rw [List.map_map]; rfl
  refine ⟨?_, by rw [List.length_map]; omega, by rw [List.length_map]; omega, ?_, by rw [mapfst, mapfst], ?_, ?_, ?_, ?_⟩
  · intro p hpm
    obtain ⟨j, hjm, rfl⟩ := List.mem_map.mp hpm
    have := hrow j hjm
    show ((rw0 rows j).host ++ (rw0 rows j).path).length ≤ _
    rw [Str.length_append]; omega
  · intro p hpm
    obtain ⟨j, hjm, rfl⟩ := List.mem_map.mp hpm
    have := hrow j hjm
    show (rw0 rows j).host.length ≤ 1000 ∧ (rw0 rows j).path.length ≤ 1000
    omega
  · intro p hpm k hk
    obtain ⟨j, hjm, rfl⟩ := List.mem_map.mp hpm
    rw [mapfst]
    obtain ⟨b, hb, rfl⟩ := List.mem_map.mp hk
    exact List.mem_map.mpr ⟨b, (List.mem_filter.mp hb).1, rfl⟩
  · intro p hpm
    obtain ⟨j, hjm, rfl⟩ := List.mem_map.mp hpm
    show (coverers rows js j).length ≤ 5
    unfold coverers
    rw [List.length_map]
    have := List.length_filter_le (fun b => cov rows b j) js
    omega
  · intro k hk
    rw [mapfst] at hk
    obtain ⟨j, hjm, rfl⟩ := List.mem_map.mp hk
    have hlt := o.mem.mp hjm
    have := (keyOk (j : Int) (by omega) (by omega)).2.2.1
    show (keyF (j : Int)).length ≤ 1000
    omega
  · unfold woodF toldF osOf
    rw [List.map_map, List.map_map]
    apply List.map_congr_left
    intro t ht
    exact o.row hn S ht
end
section
open PySem PySem.W PySem.Calls PyProof.Rows
def tdJ (rows : List Row) (I la ga d : Addr) (ex : List (Addr × Obj)) (fin : List WRow) (xs : List Itm) (m : Str → Option Value) (news : List (Addr × Obj)) : Prop :=
  ∃ (us : List Value) (is : List Int) (vs : List Value) (k : Nat) (done : List WRow) (tl : List (Addr × Obj)), xs = us.map .val ∧ Paired IsI us is ∧ (∀ i ∈ is, 0 ≤ i ∧ i < (rows.length : Int)) ∧ done ++ is.map (toldRow rows) = fin ∧
    news = (d, listOf vs.toArray k) :: tl ∧ (∀ p ∈ ex, p ∈ tl) ∧ (∀ q ∈ tl, q.1 ≠ d ∧ q.1 ≠ I) ∧ @LT.lt Nat _ d I ∧ Paired (isWood (fun a o => (a, o) ∈ tl) (fun a o => (a, o) ∈ tl)) vs done ∧ done.length + is.length ≤ 5 ∧ m "told" = some (.ref d) ∧ m "places" = some (.ref la) ∧ m "grown" = some (.ref ga)
theorem isWood.up {h h2 : Heap} (k : Keep h h2) (v : Value) (r : WRow) : isWood (fun a o => h.get? a = some o) (fun a o => h.get? a = some o) v r → isWood (fun a o => h2.get? a = some o) (fun a o => h2.get? a = some o) v r := by
  rintro ⟨T', t1, t2, pv, mv, lv, n, e, hT', ⟨B, b1, b2, kb, eb, hB⟩, ⟨Dm, um, km, em, hm, hpm⟩, ⟨Dl, ul, kl, el, hl, hpl⟩⟩
  exact ⟨T', t1, t2, pv, mv, lv, n, e, k _ _ hT', ⟨B, b1, b2, kb, eb, k _ _ hB⟩, ⟨Dm, um, km, em, k _ _ hm, hpm⟩, ⟨Dl, ul, kl, el, k _ _ hl, hpl⟩⟩
/-- the law's end: True, and what stood before stands -/
def LawEnd (s : Shared) (L : Addr) (fl : Flow) (s' : Shared) : Prop := fl = .ret (.bool true) ∧ ∃ h tk m, s' = { s with heap := h, toks := tk } ∧ Fr s.heap L h m
theorem tdEnd {g h' : Heap} {L I oa la ga d T E K P : Addr} {m' : Str → Option Value} {io tp pp lo : Obj} {vs : List Value} {k tk : Nat} {tl ex : List (Addr × Obj)} {s₁ : Shared} {us2 : List Value} {is2 : List Int} {i1 : Int} {rows : List Row} {row : Row} {fin done : List WRow} {z : Str} {tK : Tok}
    (F : Fr g L h' m') (N : News g L h' ((T, tp) :: (E, listOf (#[]) 0) :: (K, listOf #[.str (keyF i1) tK] 0) :: (P, pp) :: (I, io) :: (d, listOf (vs ++ [Value.ref T]).toArray (k + 1)) :: tl))
    (htp : ∃ t1 t2 n, tp = { cls := .type "tuple", data := .seq [.str (keyF i1) t1, .str z t2, .ref P, .ref K, .ref E].toArray n }) (hpp : ∃ t1 t2 n, pp = { cls := .type "tuple", data := .seq [.str row.host t1, .str row.path t2].toArray n })
    (hz : z = if 0 ≤ row.up then keyF row.up else Str.ofString "") (hrow : rows[i1.toNat]? = some row) (hoM : (oa, lo) ∈ ex)
    (hT : T ≠ d ∧ T ≠ I) (hE : E ≠ d ∧ E ≠ I) (hK : K ≠ d ∧ K ≠ I) (hP : P ≠ d ∧ P ≠ I) (hex : ∀ p ∈ ex, p ∈ tl) (hdis : ∀ q ∈ tl, q.1 ≠ d ∧ q.1 ≠ I) (hdI : @LT.lt Nat _ d I)
    (hus : Paired IsI us2 is2) (his : ∀ i ∈ i1 :: is2, 0 ≤ i ∧ i < (rows.length : Int)) (hfin : done ++ (i1 :: is2).map (toldRow rows) = fin) (hpd : Paired (isWood (fun a o => (a, o) ∈ tl) (fun a o => (a, o) ∈ tl)) vs done) (hlen : done.length + (i1 :: is2).length ≤ 5)
    (hm1 : m' "told" = some (.ref d)) (hm2 : m' "places" = some (.ref la)) (hm3 : m' "grown" = some (.ref ga)) :
    UnrEndW g L s₁ [(I, io)] (fun m' n' => SubL [(oa, lo)] n' ∧ tdJ rows I la ga d ex fin (us2.map .val) m' n') { s₁ with heap := h', toks := tk } := by
  have hdis2 : ∀ q ∈ (T, tp) :: (E, listOf (#[]) 0) :: (K, listOf #[.str (keyF i1) tK] 0) :: (P, pp) :: tl, q.1 ≠ d ∧ q.1 ≠ I := allc hT (allc hE (allc hK (allc hP hdis)))
  refine turnEnd (its := [(I, io)]) ((d, listOf (vs ++ [Value.ref T]).toArray (k + 1)) :: (T, tp) :: (E, listOf (#[]) 0) :: (K, listOf #[.str (keyF i1) tK] 0) :: (P, pp) :: tl) F N ?e1 ?e2 ?e3
    ⟨us2, is2, _, k + 1, done ++ [toldRow rows i1], _, rfl, hus, fun i hi => his i (.tail _ hi), ?e4, rfl, fun p hp => .tail _ (.tail _ (.tail _ (.tail _ (hex p hp)))), hdis2, hdI, ?e5, ?e6, hm1, hm2, hm3⟩
  case e1 =>
    intro p hp
    simp only [List.cons_append, List.nil_append, List.mem_cons] at hp ⊢
    rcases hp with h | h | h | h | h | h | h <;> simp [h]
  case e2 => exact allc (all1 (Nat.ne_of_lt hdI)) fun q hq => all1 (hdis2 q hq).2
  case e3 => exact ⟨.tail _ (.tail _ (.tail _ (.tail _ (.tail _ (hex _ hoM))))), trivial⟩
  case e4 => rw [List.append_assoc]; exact hfin
  case e5 =>
    refine Paired.snoc (pmono hpd ?_) ?_
    · rintro v r ⟨T', t1, t2, pv, mv, lv, k, e, hT', ⟨B, b1, b2, kb, eb, hB⟩, ⟨Dm, us, km, em, hm, hpm⟩, ⟨Dl, ul, kl, el, hl, hpl⟩⟩
      exact ⟨T', t1, t2, pv, mv, lv, k, e, .tail _ (.tail _ (.tail _ (.tail _ hT'))), ⟨B, b1, b2, kb, eb, .tail _ (.tail _ (.tail _ (.tail _ hB)))⟩, ⟨Dm, us, km, em, .tail _ (.tail _ (.tail _ (.tail _ hm))), hpm⟩, ⟨Dl, ul, kl, el, .tail _ (.tail _ (.tail _ (.tail _ hl))), hpl⟩⟩
    · obtain ⟨t1, t2, n, rfl⟩ := htp
      obtain ⟨p1, p2, np, rfl⟩ := hpp
      have er : toldRow rows i1 = ⟨keyF i1, z, (row.host, row.path), [keyF i1], []⟩ := by unfold toldRow; rw [hrow, hz]
      rw [er]
      exact ⟨T, t1, t2, _, _, _, n, rfl, .head _, ⟨P, p1, p2, np, rfl, .tail _ (.tail _ (.tail _ (.head _)))⟩, ⟨K, [.str (keyF i1) tK], 0, rfl, .tail _ (.tail _ (.head _)), .cons ⟨tK, rfl⟩ .nil⟩, ⟨E, [], 0, rfl, .tail _ (.head _), .nil⟩⟩
  case e6 =>
    simp only [List.length_append, List.length_cons, List.length_nil] at hlen ⊢
    omega
theorem law_t : PySem.Challenge.rw_rl0160_01.Holds := hd (by
  k_go0
  rename (Mine.hd.heap_39 _).In _ => X0
  rename Top _ _ _ _ _ _ => T0
  rename Fr _ _ _ _ => F1
  rename News _ _ _ _ => N1
  rename IntsAre _ _ => hI
  rename Heap.IsList _ _ _ => hL
  rename List Value => us
  rename List Int => ns
  rename (¬ _ < _) => hlen
  rename Heap.CodeRec _ _ _ => z1
  clear z1
  rename Dflts _ _ _ _ _ _ => z1
  clear z1
  rename Below _ _ _ _ => z1
  clear z1
  rename ReadsAllW _ _ _ _ _ _ => z1
  clear z1
  rename Reads _ _ _ _ => z1
  clear z1
  rename Well _ _ _ _ => z1
  clear z1
  rename ReadsAll _ _ _ _ => z1
  clear z1
  rename BMod _ _ _ _ _ => z1
  clear z1
  rename TopW _ _ _ => z1
  clear z1
  rename TopE _ _ _ _ => z1
  clear z1
  rename Tables _ _ _ _ => z1
  clear z1
  rename Glob _ _ _ _ _ _ _ _ => z1
  clear z1
  rename LooseAre _ _ _ => z1
  clear z1
  rename Flt.MathXP _ _ _ => z1
  clear z1
  have TX : TopX _ := ⟨_, _, _, T0⟩
  rename World => w
  rename Shared => s1
  generalize s1.heap.objs.size = L0 at *
  refine wpAny_mono (Q := LawEnd s1 L0) (E := fun _ _ => False) ?body ?good ?bad
  case bad => exact fun _ _ e => e.elim
  case good =>
    intro _ s' hJ1
    refine Classical.byContradiction fun hno2 => ?_
    obtain ⟨rfl, h, tk, m, rfl, F⟩ := hJ1
    clear F1 N1
    refine hno2 ?_
    dsimp only
    k_steps
  (repeat' (first | (k_unfold; (try dsimp only)) | (((fail_if_success (with_reducible show wpAny _ _ (exec (Stmt.For _ _ _ _ _) _) _ _ _));(fail_if_success (with_reducible show wpAny _ _ (exec (Stmt.While _ _ _ _) _) _ _ _));(fail_if_success (with_reducible show wpAny _ _ (exec (Stmt.Assign _ (PySem.Expr.ListComp _ _ _ _) _) _) _ _ _));(fail_if_success (with_reducible show wpAny _ _ (eval (PySem.Expr.ListComp _ _ _ _) _) _ _ _));(fail_if_success (with_reducible show LCg.CompSrc _ _ _ _ _ _ _ _ _ _ _ _ _ _));(fail_if_success (with_reducible show LCg.CompEnd _ _ _ _ _ _ _ _ _ _ _ _ _ _));(fail_if_success (with_reducible show UnrEndW _ _ _ _ _ _))); (fail_if_success (with_reducible show wpAny _ _ (subscriptTail _ _ _ _) _ _ _)); (fail_if_success (with_reducible show wpAny _ _ (call (Value.ref _) _) _ _ _)); (first | (walk1; (all_goals (try dsimp only))) | (dsimp only; walk1) | (leave1; try dsimp only)))))
  rename Fr _ _ _ _ => F2
  refine cells_t _ _ ns ?n1 _ _ _ _ _ _ _ (X0.keeps F2.keep) (TX.keeps F2.keep) ?r1 ?u1 ?p1 ?_
  case n1 => omega
  case r1 => (with_unfolding_all decide)
  case u1 => (with_unfolding_all decide)
  case p1 => exact ⟨_, us, rfl, hL.at fun o e => F2.keep _ _ e, pints hI⟩
  intro _ h3 tk3 hk3 hJ3
  refine Classical.byContradiction fun hno4 => ?_
  obtain ⟨cs, hcs, ca, vc, kc, rfl, hca, hpc⟩ := hJ3
  obtain ⟨ex3, N3, K3, A3⟩ := opened (F2.keeps hk3)
  have F3 := F2.keeps hk3
  clear F2 N1 hk3 A3
  refine hno4 ?_
  (repeat' (first | (k_unfold; (try dsimp only)) | (((fail_if_success (with_reducible show wpAny _ _ (exec (Stmt.For _ _ _ _ _) _) _ _ _));(fail_if_success (with_reducible show wpAny _ _ (exec (Stmt.While _ _ _ _) _) _ _ _));(fail_if_success (with_reducible show wpAny _ _ (exec (Stmt.Assign _ (PySem.Expr.ListComp _ _ _ _) _) _) _ _ _));(fail_if_success (with_reducible show wpAny _ _ (eval (PySem.Expr.ListComp _ _ _ _) _) _ _ _));(fail_if_success (with_reducible show LCg.CompSrc _ _ _ _ _ _ _ _ _ _ _ _ _ _));(fail_if_success (with_reducible show LCg.CompEnd _ _ _ _ _ _ _ _ _ _ _ _ _ _));(fail_if_success (with_reducible show UnrEndW _ _ _ _ _ _))); (fail_if_success (with_reducible show wpAny _ _ (subscriptTail _ _ _ _) _ _ _)); (fail_if_success (with_reducible show wpAny _ _ (call (Value.ref _) _) _ _ _)); (first | (walk1; (all_goals (try dsimp only))) | (dsimp only; walk1) | (leave1; try dsimp only)))))
  rename Fr _ _ _ _ => F4
  rename News _ _ _ _ => N4
  have k4 := (K3 _ _ _ F4 N4 (fun _ h => h)).2
  refine grown_t _ _ cs hcs _ _ _ _ _ _ _ (X0.keeps F4.keep) (TX.keeps F4.keep) ?r2 ?u2 ⟨ca, vc, kc, rfl, k4 _ _ _ _ hca, hpc⟩ ?_
  case r2 => (with_unfolding_all decide)
  case u2 => (with_unfolding_all decide)
  intro _ h5 tk5 hk5 hJ5
  refine Classical.byContradiction fun hno6 => ?_
  obtain ⟨rows, hgo, hr1, hr5, hrl, ga, vg, kg, rfl, hga, hpg⟩ := hJ5
  have hca5 := hk5 _ _ (k4 _ _ _ _ hca)
  obtain ⟨ex5, N5, K5, A5⟩ := opened (F4.keeps hk5)
  have F5 := F4.keeps hk5
  clear F4 N4 hk5 A5 K3 k4 hca
  refine hno6 ?_
  (repeat' (first | (k_unfold; (try dsimp only)) | (((fail_if_success (with_reducible show wpAny _ _ (exec (Stmt.For _ _ _ _ _) _) _ _ _));(fail_if_success (with_reducible show wpAny _ _ (exec (Stmt.While _ _ _ _) _) _ _ _));(fail_if_success (with_reducible show wpAny _ _ (exec (Stmt.Assign _ (PySem.Expr.ListComp _ _ _ _) _) _) _ _ _));(fail_if_success (with_reducible show wpAny _ _ (eval (PySem.Expr.ListComp _ _ _ _) _) _ _ _));(fail_if_success (with_reducible show LCg.CompSrc _ _ _ _ _ _ _ _ _ _ _ _ _ _));(fail_if_success (with_reducible show LCg.CompEnd _ _ _ _ _ _ _ _ _ _ _ _ _ _));(fail_if_success (with_reducible show UnrEndW _ _ _ _ _ _))); (fail_if_success (with_reducible show wpAny _ _ (subscriptTail _ _ _ _) _ _ _)); (fail_if_success (with_reducible show wpAny _ _ (call (Value.ref _) _) _ _ _)); (first | (walk1; (all_goals (try dsimp only))) | (dsimp only; walk1) | (leave1; try dsimp only)))))
  rename Fr _ _ _ _ => F6
  rename News _ _ _ _ => N6
  have k6 := (K5 _ _ _ F6 N6 (fun _ h => h)).2
  have hvg := hpg.length
  refine Classical.byContradiction fun hno7 => ?_
  obtain ⟨t0, hv0⟩ := pgetI hpc (i := 0) (by omega)
  refine hno7 ?_
  refine subL1 (vs := vc) ⟨_, k6 _ _ _ _ hca5, rfl, kc, rfl⟩ (by decide) (by decide) hv0 ?_
  (repeat' (first | (k_unfold; (try dsimp only)) | (((fail_if_success (with_reducible show wpAny _ _ (exec (Stmt.For _ _ _ _ _) _) _ _ _));(fail_if_success (with_reducible show wpAny _ _ (exec (Stmt.While _ _ _ _) _) _ _ _));(fail_if_success (with_reducible show wpAny _ _ (exec (Stmt.Assign _ (PySem.Expr.ListComp _ _ _ _) _) _) _ _ _));(fail_if_success (with_reducible show wpAny _ _ (eval (PySem.Expr.ListComp _ _ _ _) _) _ _ _));(fail_if_success (with_reducible show LCg.CompSrc _ _ _ _ _ _ _ _ _ _ _ _ _ _));(fail_if_success (with_reducible show LCg.CompEnd _ _ _ _ _ _ _ _ _ _ _ _ _ _));(fail_if_success (with_reducible show UnrEndW _ _ _ _ _ _))); (fail_if_success (with_reducible show wpAny _ _ (subscriptTail _ _ _ _) _ _ _)); (fail_if_success (with_reducible show wpAny _ _ (call (Value.ref _) _) _ _ _)); (fail_if_success (with_reducible show wpAny _ _ (call (Value.builtin "len") _) _ _ _)); (first | (walk1; (all_goals (try dsimp only))) | (dsimp only; walk1) | (leave1; try dsimp only)))))
  refine Calls.call_len_list ⟨_, k6 _ _ _ _ hga, rfl, kg, rfl⟩ (by rw [List.size_toArray]; omega) ?_
  rw [show vg.toArray.size = rows.length by rw [List.size_toArray]; exact hvg]
  (repeat' (first | (k_unfold; (try dsimp only)) | (((fail_if_success (with_reducible show wpAny _ _ (exec (Stmt.For _ _ _ _ _) _) _ _ _));(fail_if_success (with_reducible show wpAny _ _ (exec (Stmt.While _ _ _ _) _) _ _ _));(fail_if_success (with_reducible show wpAny _ _ (exec (Stmt.Assign _ (PySem.Expr.ListComp _ _ _ _) _) _) _ _ _));(fail_if_success (with_reducible show wpAny _ _ (eval (PySem.Expr.ListComp _ _ _ _) _) _ _ _));(fail_if_success (with_reducible show LCg.CompSrc _ _ _ _ _ _ _ _ _ _ _ _ _ _));(fail_if_success (with_reducible show LCg.CompEnd _ _ _ _ _ _ _ _ _ _ _ _ _ _));(fail_if_success (with_reducible show UnrEndW _ _ _ _ _ _))); (fail_if_success (with_reducible show wpAny _ _ (subscriptTail _ _ _ _) _ _ _)); (fail_if_success (with_reducible show wpAny _ _ (call (Value.ref _) _) _ _ _)); (first | (walk1; (all_goals (try dsimp only))) | (dsimp only; walk1) | (leave1; try dsimp only)))))
  refine order_t _ _ _ rows.length _ (by omega) _ _ _ _ _ _ _ (X0.keeps F6.keep) (TX.keeps F6.keep) ?r3 ?u3 trivial ?_
  case r3 => (with_unfolding_all decide)
  case u3 => (with_unfolding_all decide)
  intro _ h7 tk7 hk7 hfr hJ8
  refine Classical.byContradiction fun hno9 => ?_
  obtain ⟨os, hperm, oa, vo, ko, rfl, hoa, hpo⟩ := hJ8
  have hoNew : s1.heap.get? oa = none := by
    cases e : s1.heap.get? oa with
    | none => rfl
    | some o => exact absurd (hfr _ rfl) (by rw [show _ = some o from F6.keep _ _ e]; exact fun h => nomatch h)
  have hca7 := hk7 _ _ (k6 _ _ _ _ hca5)
  have hga7 := hk7 _ _ (k6 _ _ _ _ hga)
  replace hpg := pmono hpg (isRow.up (fun a c v k e => hk7 _ _ (k6 a c v k e)))
  obtain ⟨ex7, N7, K7, A7⟩ := opened (F6.keeps hk7)
  have F7 := F6.keeps hk7
  clear F6 N6 hk7 A7 K5 k6 hca5 hga hfr
  refine hno9 ?_
  (repeat' (first | (k_unfold; (try dsimp only)) | (((fail_if_success (with_reducible show wpAny _ _ (exec (Stmt.For _ _ _ _ _) _) _ _ _));(fail_if_success (with_reducible show wpAny _ _ (exec (Stmt.While _ _ _ _) _) _ _ _));(fail_if_success (with_reducible show wpAny _ _ (exec (Stmt.Assign _ (PySem.Expr.ListComp _ _ _ _) _) _) _ _ _));(fail_if_success (with_reducible show wpAny _ _ (eval (PySem.Expr.ListComp _ _ _ _) _) _ _ _));(fail_if_success (with_reducible show LCg.CompSrc _ _ _ _ _ _ _ _ _ _ _ _ _ _));(fail_if_success (with_reducible show LCg.CompEnd _ _ _ _ _ _ _ _ _ _ _ _ _ _));(fail_if_success (with_reducible show UnrEndW _ _ _ _ _ _))); (fail_if_success (with_reducible show wpAny _ _ (subscriptTail _ _ _ _) _ _ _)); (fail_if_success (with_reducible show wpAny _ _ (call (Value.ref _) _) _ _ _)); (first | (walk1; (all_goals (try dsimp only))) | (dsimp only; walk1) | (leave1; try dsimp only)))))
  rename Fr _ _ _ _ => F8
  rename News _ _ _ _ => N8
  have k8 := (K7 _ _ _ F8 N8 (fun _ h => h)).2
  refine Classical.byContradiction fun hno10 => ?_
  obtain ⟨t16, hv16⟩ := pgetI hpc (i := 16) (by omega)
  refine hno10 ?_
  refine subL1 (vs := vc) ⟨_, k8 _ _ _ _ hca7, rfl, kc, rfl⟩ (by decide) (by decide) hv16 ?_
  (repeat' (first | (k_unfold; (try dsimp only)) | (((fail_if_success (with_reducible show wpAny _ _ (exec (Stmt.For _ _ _ _ _) _) _ _ _));(fail_if_success (with_reducible show wpAny _ _ (exec (Stmt.While _ _ _ _) _) _ _ _));(fail_if_success (with_reducible show wpAny _ _ (exec (Stmt.Assign _ (PySem.Expr.ListComp _ _ _ _) _) _) _ _ _));(fail_if_success (with_reducible show wpAny _ _ (eval (PySem.Expr.ListComp _ _ _ _) _) _ _ _));(fail_if_success (with_reducible show LCg.CompSrc _ _ _ _ _ _ _ _ _ _ _ _ _ _));(fail_if_success (with_reducible show LCg.CompEnd _ _ _ _ _ _ _ _ _ _ _ _ _ _));(fail_if_success (with_reducible show UnrEndW _ _ _ _ _ _))); (fail_if_success (with_reducible show wpAny _ _ (subscriptTail _ _ _ _) _ _ _)); (fail_if_success (with_reducible show wpAny _ _ (call (Value.ref _) _) _ _ _)); (fail_if_success (with_reducible show wpAny _ _ (call (Value.builtin "len") _) _ _ _)); (first | (walk1; (all_goals (try dsimp only))) | (dsimp only; walk1) | (leave1; try dsimp only)))))
  refine Calls.call_len_list ⟨_, k8 _ _ _ _ hga7, rfl, kg, rfl⟩ (by rw [List.size_toArray]; omega) ?_
  rw [show vg.toArray.size = rows.length by rw [List.size_toArray]; exact hvg]
  (repeat' (first | (k_unfold; (try dsimp only)) | (((fail_if_success (with_reducible show wpAny _ _ (exec (Stmt.For _ _ _ _ _) _) _ _ _));(fail_if_success (with_reducible show wpAny _ _ (exec (Stmt.While _ _ _ _) _) _ _ _));(fail_if_success (with_reducible show wpAny _ _ (exec (Stmt.Assign _ (PySem.Expr.ListComp _ _ _ _) _) _) _ _ _));(fail_if_success (with_reducible show wpAny _ _ (eval (PySem.Expr.ListComp _ _ _ _) _) _ _ _));(fail_if_success (with_reducible show LCg.CompSrc _ _ _ _ _ _ _ _ _ _ _ _ _ _));(fail_if_success (with_reducible show LCg.CompEnd _ _ _ _ _ _ _ _ _ _ _ _ _ _));(fail_if_success (with_reducible show UnrEndW _ _ _ _ _ _))); (fail_if_success (with_reducible show wpAny _ _ (subscriptTail _ _ _ _) _ _ _)); (fail_if_success (with_reducible show wpAny _ _ (call (Value.ref _) _) _ _ _)); (first | (walk1; (all_goals (try dsimp only))) | (dsimp only; walk1) | (leave1; try dsimp only)))))
  refine Classical.byContradiction fun hno11 => ?_
  obtain ⟨_, _, hm1, _⟩ := fdiv_fmod_facts (cs.getD 16 0) ((rows.length : Int) + 1)
  obtain ⟨hm2, hm3⟩ := hm1 (by omega)
  obtain ⟨ag, hag⟩ := Int.eq_ofNat_of_zero_le hm2
  refine hno11 ?_
  rw [hag]
  have hagl : ag ≤ rows.length := by omega
  have hob : ∀ o ∈ os, 0 ≤ o ∧ o < (rows.length : Int) := fun o ho => by
    refine Classical.byContradiction fun hno12 => ?_
    obtain ⟨j, hj, rfl⟩ := List.mem_map.mp (hperm.mem_iff.mp ho)
    have := List.mem_range.mp hj
    refine hno12 ?_
    omega
  have hosl : os.length = rows.length := by
    have := hperm.length_eq
    simpa [rangeI] using this
  refine Classical.byContradiction fun hno13 => ?_
  obtain ⟨kvs, q1, q2, q3, q4, q5, q6, q7, q8, q9, q10, q11, q12, q13⟩ := plain rows os ag hgo hr1 hr5 (pathLen hgo hrl) hperm hagl
  refine hno13 ?_
  refine header_t _ _ _ rows os ag _ hr5 hosl hagl hob ?hrl _ _ _ _ _ _ _ (X0.keeps F8.keep) (TX.keeps F8.keep) ?r4 ?u4 ⟨⟨ga, vg, kg, rfl, k8 _ _ _ _ hga7, pmono hpg (isRow.up k8)⟩, ⟨oa, vo, ko, rfl, k8 _ _ _ _ hoa, hpo⟩⟩ ?_
  case hrl => exact pathLen hgo hrl
  case r4 => (with_unfolding_all decide)
  case u4 => (with_unfolding_all decide)
  rintro _ h9 tk9 hk9 ⟨th, rfl⟩
  have k9 : KeepS h7 h9 := fun a c v k e => hk9 _ _ (k8 a c v k e)
  refine Classical.byContradiction fun hno14 => ?_
  obtain ⟨ex9, N9, K9, A9⟩ := opened (F8.keeps hk9)
  have F9 := F8.keeps hk9
  have hga9 := k9 _ _ _ _ hga7
  have hoa9 := k9 _ _ _ _ hoa
  replace hpg := pmono hpg (isRow.up k9)
  clear F8 N8 hk9 A9 K7 k8 hca7 hga7 hoa k9 hpc hv0 hv16 hm1 hm2 hm3 hag
  refine hno14 ?_
  (repeat' (first | (k_unfold; (try dsimp only)) | (((fail_if_success (with_reducible show wpAny _ _ (exec (Stmt.For _ _ _ _ _) _) _ _ _));(fail_if_success (with_reducible show wpAny _ _ (exec (Stmt.While _ _ _ _) _) _ _ _));(fail_if_success (with_reducible show wpAny _ _ (exec (Stmt.Assign _ (PySem.Expr.ListComp _ _ _ _) _) _) _ _ _));(fail_if_success (with_reducible show wpAny _ _ (eval (PySem.Expr.ListComp _ _ _ _) _) _ _ _));(fail_if_success (with_reducible show LCg.CompSrc _ _ _ _ _ _ _ _ _ _ _ _ _ _));(fail_if_success (with_reducible show LCg.CompEnd _ _ _ _ _ _ _ _ _ _ _ _ _ _));(fail_if_success (with_reducible show UnrEndW _ _ _ _ _ _))); (fail_if_success (with_reducible show wpAny _ _ (subscriptTail _ _ _ _) _ _ _)); (fail_if_success (with_reducible show wpAny _ _ (call (Value.ref _) _) _ _ _)); (first | (walk1; (all_goals (try dsimp only))) | (dsimp only; walk1) | (leave1; try dsimp only)))))
  refine phl_t _ _ _ q1 _ _ _ _ _ _ _ (X0.keeps F9.keep) (TX.keeps F9.keep) ?r5 ?u5 trivial ?_
  case r5 => (with_unfolding_all decide)
  case u5 => (with_unfolding_all decide)
  rintro _ h10 tk10 hk10 hp10
  rw [q2] at hp10
  have F10 := F9.keeps hk10
  replace hga9 := hk10 _ _ hga9
  replace hoa9 := hk10 _ _ hoa9
  replace hpg := pmono hpg (isRow.up hk10.seq)
  clear K9 N9 F9 hk10
  refine Classical.byContradiction fun hno15 => ?_
  obtain ⟨pa, vp, kp, rfl, hpa, hpp⟩ := hp10
  obtain ⟨ex10, N10, K10, A10⟩ := opened F10
  refine hno15 ?_
  (repeat' (first | (k_unfold; (try dsimp only)) | (((fail_if_success (with_reducible show wpAny _ _ (exec (Stmt.For _ _ _ _ _) _) _ _ _));(fail_if_success (with_reducible show wpAny _ _ (exec (Stmt.While _ _ _ _) _) _ _ _));(fail_if_success (with_reducible show wpAny _ _ (exec (Stmt.Assign _ (PySem.Expr.ListComp _ _ _ _) _) _) _ _ _));(fail_if_success (with_reducible show wpAny _ _ (eval (PySem.Expr.ListComp _ _ _ _) _) _ _ _));(fail_if_success (with_reducible show LCg.CompSrc _ _ _ _ _ _ _ _ _ _ _ _ _ _));(fail_if_success (with_reducible show LCg.CompEnd _ _ _ _ _ _ _ _ _ _ _ _ _ _));(fail_if_success (with_reducible show UnrEndW _ _ _ _ _ _))); (fail_if_success (with_reducible show wpAny _ _ (subscriptTail _ _ _ _) _ _ _)); (fail_if_success (with_reducible show wpAny _ _ (call (Value.ref _) _) _ _ _)); (first | (walk1; (all_goals (try dsimp only))) | (dsimp only; walk1) | (leave1; try dsimp only)))))
  refine keqv_t _ _ kvs q3 q4 _ _ _ _ _ _ _ (X0.keeps F10.keep) (TX.keeps F10.keep) ?r6 ?u6 ⟨pa, vp, kp, rfl, hpa, hpp⟩ ?_
  case r6 => (with_unfolding_all decide)
  case u6 => (with_unfolding_all decide)
  intro _ h11 tk11 hk11 hfr hJ16
  refine Classical.byContradiction fun hno17 => ?_
  obtain ⟨ra, ro, vr, rfl, hrs, hra, hro, hpr⟩ := hJ16
  replace hga9 := hk11 _ _ hga9
  replace hoa9 := hk11 _ _ hoa9
  replace hpg := pmono hpg (isRow.up hk11.seq)
  have raL := oldNe F10.ns (hfr _ rfl)
  obtain ⟨ex11, N11, K11, A11⟩ := opened (F10.keeps hk11)
  have F11 := F10.keeps hk11
  clear F10 N10 K10 A10 hpa hfr hk11 hpp
  refine hno17 ?_
  (repeat' (first | (k_unfold; (try dsimp only)) | (((fail_if_success (with_reducible show wpAny _ _ (exec (Stmt.For _ _ _ _ _) _) _ _ _));(fail_if_success (with_reducible show wpAny _ _ (exec (Stmt.While _ _ _ _) _) _ _ _));(fail_if_success (with_reducible show wpAny _ _ (exec (Stmt.Assign _ (PySem.Expr.ListComp _ _ _ _) _) _) _ _ _));(fail_if_success (with_reducible show wpAny _ _ (eval (PySem.Expr.ListComp _ _ _ _) _) _ _ _));(fail_if_success (with_reducible show LCg.CompSrc _ _ _ _ _ _ _ _ _ _ _ _ _ _));(fail_if_success (with_reducible show LCg.CompEnd _ _ _ _ _ _ _ _ _ _ _ _ _ _));(fail_if_success (with_reducible show UnrEndW _ _ _ _ _ _))); (fail_if_success (with_reducible show wpAny _ _ (subscriptTail _ _ _ _) _ _ _)); (fail_if_success (with_reducible show wpAny _ _ (call (Value.ref _) _) _ _ _)); (first | (walk1; (all_goals (try dsimp only))) | (dsimp only; walk1) | (leave1; try dsimp only)))))
  rename Fr _ _ _ _ => F12
  rename News _ _ _ _ => N12
  have k12 := K11 _ _ _ F12 N12 (fun _ h => h)
  refine places_t _ _ (keqv kvs) q5 q6 _ _ _ _ _ _ _ (X0.keeps F12.keep) (TX.keeps F12.keep) ?r7 ?u7 ⟨ra, ro, vr, rfl, hrs, k12.1 _ _ raL hra, hro, hpr⟩ ?_
  case r7 => (with_unfolding_all decide)
  case u7 => (with_unfolding_all decide)
  intro _ h13 tk13 hk13 hfr hJ18
  refine Classical.byContradiction fun hno19 => ?_
  obtain ⟨la, lo, vl, rfl, hls, hla, hlo, hpl⟩ := hJ18
  replace hga9 := hk13 _ _ (k12.2 _ _ _ _ hga9)
  replace hoa9 := hk13 _ _ (k12.2 _ _ _ _ hoa9)
  replace hpg := pmono hpg (isRow.up (fun a c v k e => hk13 _ _ (k12.2 a c v k e)))
  have laL := oldNe F12.ns (hfr _ rfl)
  obtain ⟨ex13, N13, K13, A13⟩ := opened (F12.keeps hk13)
  have F13 := F12.keeps hk13
  have hoL := seqNe F13.ns hoa9
  have hoM := A13 _ _ hoa9 hoL hoNew
  clear F12 N12 K11 A11 hra hfr hk13 hpr k12 A13 hro
  refine hno19 ?_
  (repeat' (first | (k_unfold; (try dsimp only)) | (((fail_if_success (with_reducible show wpAny _ _ (exec (Stmt.For _ _ _ _ _) _) _ _ _));(fail_if_success (with_reducible show wpAny _ _ (exec (Stmt.While _ _ _ _) _) _ _ _));(fail_if_success (with_reducible show wpAny _ _ (exec (Stmt.Assign _ (PySem.Expr.ListComp _ _ _ _) _) _) _ _ _));(fail_if_success (with_reducible show wpAny _ _ (eval (PySem.Expr.ListComp _ _ _ _) _) _ _ _));(fail_if_success (with_reducible show LCg.CompSrc _ _ _ _ _ _ _ _ _ _ _ _ _ _));(fail_if_success (with_reducible show LCg.CompEnd _ _ _ _ _ _ _ _ _ _ _ _ _ _));(fail_if_success (with_reducible show UnrEndW _ _ _ _ _ _))); (fail_if_success (with_reducible show wpAny _ _ (subscriptTail _ _ _ _) _ _ _)); (fail_if_success (with_reducible show wpAny _ _ (call (Value.ref _) _) _ _ _)); (first | (walk1; (all_goals (try dsimp only))) | (dsimp only; walk1) | (leave1; try dsimp only)))))
  rename Fr _ _ _ _ => F14
  rename News _ _ _ _ => N14
  refine For_turns F14 ?_
  (repeat' (first | (k_unfold; (try dsimp only)) | (((fail_if_success (with_reducible show wpAny _ _ (exec (Stmt.For _ _ _ _ _) _) _ _ _));(fail_if_success (with_reducible show wpAny _ _ (exec (Stmt.While _ _ _ _) _) _ _ _));(fail_if_success (with_reducible show wpAny _ _ (exec (Stmt.Assign _ (PySem.Expr.ListComp _ _ _ _) _) _) _ _ _));(fail_if_success (with_reducible show wpAny _ _ (eval (PySem.Expr.ListComp _ _ _ _) _) _ _ _));(fail_if_success (with_reducible show LCg.CompSrc _ _ _ _ _ _ _ _ _ _ _ _ _ _));(fail_if_success (with_reducible show LCg.CompEnd _ _ _ _ _ _ _ _ _ _ _ _ _ _));(fail_if_success (with_reducible show UnrEndW _ _ _ _ _ _))); (fail_if_success (with_reducible show wpAny _ _ (subscriptTail _ _ _ _) _ _ _)); (fail_if_success (with_reducible show wpAny _ _ (call (Value.ref _) _) _ _ _)); (first | (walk1; (all_goals (try dsimp only))) | (dsimp only; walk1) | (leave1; try dsimp only)))))
  rename (∀ p ∈ ex13, p.1 < _) => hd13
  rename_i d0 hq1 hq2
  refine iter_listTurns (vs := vo) rfl F14 N14 (.tail _ hoM) rfl rfl ?_
  intro I hI
  refine' itemsInd (tdJ rows I la ga d0 ex13 (toldF rows os)) ?done ?step _ _ _ ?init
  case init =>
    refine ⟨vo, os, [], 0, [], ex13, rfl, hpo, hob, rfl, rfl, fun _ h => h, fun q hq => ⟨Nat.ne_of_lt (hd13 q hq), Nat.ne_of_lt (hI _ (.tail _ hq))⟩, hI _ (.head _), .nil, ?_, rfl, rfl, rfl⟩
    show 0 + os.length ≤ 5
    omega
  case done =>
    intro m1 news1 h tk hJ20 F15 N15
    refine Classical.byContradiction fun hno21 => ?_
    obtain ⟨us9, is9, vs, k, done, tl, hxs, hus, his, hfin, rfl, hex, hdis, hdI, hpd, hdl, hm1, hm2, hm3⟩ := hJ20
    cases hus with
    | cons => simp at hxs
    | nil =>
    rw [List.map_nil, List.append_nil] at hfin
    subst hfin
    replace F15 := fr_ats [("told", _), ("places", _)] F15 (allc hm1 (all1 hm2))
    simp only [kstB] at F15
    have k15 := K13 _ _ _ F15 N15 (fun p hp => .tail _ (hex p hp))
    have td := (N15 _ (.head _)).1
    replace hpd : Paired (isWood (fun a o => h.get? a = some o) (fun a o => h.get? a = some o)) vs (toldF rows os) := by
      have up : ∀ a o, (a, o) ∈ tl → h.get? a = some o := fun a o e => (N15 _ (.tail _ e)).1
      refine pmono hpd ?_
      rintro v r ⟨T', t1, t2, pv, mv, lv, k, e, hT', ⟨B, b1, b2, kb, eb, hB⟩, ⟨Dm, um, km, em, hm, hpm⟩, ⟨Dl, ul, kl, el, hl, hpl⟩⟩
      exact ⟨T', t1, t2, pv, mv, lv, k, e, up _ _ hT', ⟨B, b1, b2, kb, eb, up _ _ hB⟩, ⟨Dm, um, km, em, up _ _ hm, hpm⟩, ⟨Dl, ul, kl, el, up _ _ hl, hpl⟩⟩
    have hla2 : DictAtR w (isTup2 fun a o => h.get? a = some o) h (.ref la) (placesF (keqv kvs)) := by
      refine ⟨la, lo, vl, rfl, hls, k15.1 _ _ laL hla, hlo, pmono hpl ?_⟩
      rintro v r ⟨e1, B, b1, b2, kb, eb, hB⟩
      exact ⟨e1, B, b1, b2, kb, eb, k15.2 _ _ _ _ hB⟩
    refine hno21 ?_
    (repeat' (first | (k_unfold; (try dsimp only)) | (((fail_if_success (with_reducible show wpAny _ _ (exec (Stmt.For _ _ _ _ _) _) _ _ _));(fail_if_success (with_reducible show wpAny _ _ (exec (Stmt.While _ _ _ _) _) _ _ _));(fail_if_success (with_reducible show wpAny _ _ (exec (Stmt.Assign _ (PySem.Expr.ListComp _ _ _ _) _) _) _ _ _));(fail_if_success (with_reducible show wpAny _ _ (eval (PySem.Expr.ListComp _ _ _ _) _) _ _ _));(fail_if_success (with_reducible show LCg.CompSrc _ _ _ _ _ _ _ _ _ _ _ _ _ _));(fail_if_success (with_reducible show LCg.CompEnd _ _ _ _ _ _ _ _ _ _ _ _ _ _));(fail_if_success (with_reducible show UnrEndW _ _ _ _ _ _))); (fail_if_success (with_reducible show wpAny _ _ (subscriptTail _ _ _ _) _ _ _)); (fail_if_success (with_reducible show wpAny _ _ (call (Value.ref _) _) _ _ _)); (first | (walk1; (all_goals (try dsimp only))) | (dsimp only; walk1) | (leave1; try dsimp only)))))
    refine over_t w _ (placesF (keqv kvs)) q7 q8 _ _ _ _ _ _ _ (X0.keeps F15.keep) (TX.keeps F15.keep) ?r8 ?u8 hla2 ?_
    case r8 => (with_unfolding_all decide)
    case u8 => (with_unfolding_all decide)
    intro _ h21 tk21 hk21 hfr hJ22
    refine Classical.byContradiction fun hno23 => ?_
    obtain ⟨ova, oo, vv, rfl, hv1, hv2, hv3, hv4⟩ := hJ22
    have hov : DictAtR w (isStrL fun a o => h21.get? a = some o) h21 (.ref ova) (overF (placesF (keqv kvs))) := ⟨ova, oo, vv, rfl, hv1, hv2, hv3, hv4⟩
    clear hv1 hv2 hv3 hv4
    obtain ⟨ex21, N21, K21, A21⟩ := opened (F15.keeps hk21)
    have F21 := F15.keeps hk21
    have td21 := hk21 _ _ td
    have hpd21 := pmono hpd (isWood.up hk21)
    clear K21 A21 K13 k15 N15
    have hla3 : DictAtR w (isTup2 fun a o => h21.get? a = some o) h21 (.ref la) (placesF (keqv kvs)) := by
      obtain ⟨la', lo', vl', e, hs', hg', ho', hp'⟩ := hla2
      refine ⟨la', lo', vl', e, hs', hk21 _ _ hg', ho', pmono hp' ?_⟩
      rintro v r ⟨e1, B, b1, b2, kb, eb, hB⟩
      exact ⟨e1, B, b1, b2, kb, eb, hk21 _ _ hB⟩
    refine hno23 ?_
    (repeat' (first | (k_unfold; (try dsimp only)) | (((fail_if_success (with_reducible show wpAny _ _ (exec (Stmt.For _ _ _ _ _) _) _ _ _));(fail_if_success (with_reducible show wpAny _ _ (exec (Stmt.While _ _ _ _) _) _ _ _));(fail_if_success (with_reducible show wpAny _ _ (exec (Stmt.Assign _ (PySem.Expr.ListComp _ _ _ _) _) _) _ _ _));(fail_if_success (with_reducible show wpAny _ _ (eval (PySem.Expr.ListComp _ _ _ _) _) _ _ _));(fail_if_success (with_reducible show LCg.CompSrc _ _ _ _ _ _ _ _ _ _ _ _ _ _));(fail_if_success (with_reducible show LCg.CompEnd _ _ _ _ _ _ _ _ _ _ _ _ _ _));(fail_if_success (with_reducible show UnrEndW _ _ _ _ _ _))); (fail_if_success (with_reducible show wpAny _ _ (subscriptTail _ _ _ _) _ _ _)); (fail_if_success (with_reducible show wpAny _ _ (call (Value.ref _) _) _ _ _)); (first | (walk1; (all_goals (try dsimp only))) | (dsimp only; walk1) | (leave1; try dsimp only)))))
    refine wood_t w _ _ (placesF (keqv kvs)) (overF (placesF (keqv kvs))) q7 q9 q10 q11 q12 _ _ _ _ _ _ _ (X0.keeps F21.keep) (TX.keeps F21.keep) ?r9 ?u9 ?p9 ?_
    case p9 => exact ⟨hla3, hov⟩
    case r9 => (with_unfolding_all decide)
    case u9 => (with_unfolding_all decide)
    rintro _ h22 tk22 hk22 hw22
    rw [q13] at hw22
    refine Classical.byContradiction fun hno24 => ?_
    obtain ⟨wa, vw, kw, rfl, hwa, hpw⟩ := hw22
    have td22 := hk22 _ _ td21
    have hpd22 := pmono hpd21 (isWood.up hk22)
    obtain ⟨ex22, N22, K22, A22⟩ := opened (F21.keeps hk22)
    have F22 := F21.keeps hk22
    clear K22 A22 F21 N21
    refine hno24 ?_
    (repeat' (first | (k_unfold; (try dsimp only)) | (((fail_if_success (with_reducible show wpAny _ _ (exec (Stmt.For _ _ _ _ _) _) _ _ _));(fail_if_success (with_reducible show wpAny _ _ (exec (Stmt.While _ _ _ _) _) _ _ _));(fail_if_success (with_reducible show wpAny _ _ (exec (Stmt.Assign _ (PySem.Expr.ListComp _ _ _ _) _) _) _ _ _));(fail_if_success (with_reducible show wpAny _ _ (eval (PySem.Expr.ListComp _ _ _ _) _) _ _ _));(fail_if_success (with_reducible show LCg.CompSrc _ _ _ _ _ _ _ _ _ _ _ _ _ _));(fail_if_success (with_reducible show LCg.CompEnd _ _ _ _ _ _ _ _ _ _ _ _ _ _));(fail_if_success (with_reducible show UnrEndW _ _ _ _ _ _))); (fail_if_success (with_reducible show wpAny _ _ (subscriptTail _ _ _ _) _ _ _)); (fail_if_success (with_reducible show wpAny _ _ (call (Value.ref _) _) _ _ _)); (first | (walk1; (all_goals (try dsimp only))) | (dsimp only; walk1) | (leave1; try dsimp only)))))
    refine eqWood ?v1 ?v2 ?v3 hwa td22 hpw hpd22 ?_
    case v1 => (simp only [Around.deeper, Around.in1, callerA]; decide)
    case v2 => (simp only [Around.deeper, Around.in1, callerA]; decide)
    case v3 => (simp only [Around.deeper, Around.in1, callerA]; decide)
    (repeat' (first | (k_unfold; (try dsimp only)) | (((fail_if_success (with_reducible show wpAny _ _ (exec (Stmt.For _ _ _ _ _) _) _ _ _));(fail_if_success (with_reducible show wpAny _ _ (exec (Stmt.While _ _ _ _) _) _ _ _));(fail_if_success (with_reducible show wpAny _ _ (exec (Stmt.Assign _ (PySem.Expr.ListComp _ _ _ _) _) _) _ _ _));(fail_if_success (with_reducible show wpAny _ _ (eval (PySem.Expr.ListComp _ _ _ _) _) _ _ _));(fail_if_success (with_reducible show LCg.CompSrc _ _ _ _ _ _ _ _ _ _ _ _ _ _));(fail_if_success (with_reducible show LCg.CompEnd _ _ _ _ _ _ _ _ _ _ _ _ _ _));(fail_if_success (with_reducible show UnrEndW _ _ _ _ _ _))); (fail_if_success (with_reducible show wpAny _ _ (subscriptTail _ _ _ _) _ _ _)); (fail_if_success (with_reducible show wpAny _ _ (call (Value.ref _) _) _ _ _)); (first | (walk1; (all_goals (try dsimp only))) | (dsimp only; walk1) | (leave1; try dsimp only)))))
    exact ⟨rfl, _, _, _, rfl, F22⟩
  case step =>
    clear F14 N14
    intro _ r m1 news1 v h tk its hJ25 hv F15 hi N15
    refine Classical.byContradiction fun hno26 => ?_
    obtain ⟨us9, is9, vs, k, done, tl, hxs, hus, his, hfin, rfl, hex, hdis, hdI, hpd, hdl, hm1, hm2, hm3⟩ := hJ25
    cases hus with
    | nil => simp at hxs
    | @cons v1 i1 us2 is2 hv1 hus2 =>
    simp only [List.map_cons, List.cons.injEq] at hxs
    obtain ⟨rfl, rfl⟩ := hxs
    obtain rfl : v = v1 := hv
    obtain ⟨ti, rfl⟩ := hv1
    obtain ⟨io, rfl, hio⟩ := objs1 hi
    obtain ⟨hi0, hi1⟩ := his i1 (.head _)
    have hil : i1.toNat < rows.length := by omega
    have hvl := hpd.length
    replace N15 := show News _ _ _ ((I, io) :: (d0, listOf vs.toArray k) :: tl) from N15
    replace F15 := fr_ats [("told", _), ("places", _), ("grown", _)] F15 (allc hm1 (allc hm2 (all1 hm3)))
    simp only [kstB] at F15
    have k15 := (K13 _ _ _ F15 N15 (fun p hp => .tail _ (.tail _ (hex p hp)))).2
    obtain ⟨vR, hvR, TR, u1, u2, u3, u4, u5, kR, rfl, hTR⟩ := pget hpg (List.getElem?_eq_getElem hil)
    obtain ⟨hup1, hup2⟩ := upOf hgo _ (List.getElem_mem hil)
    obtain ⟨hh1, hh2⟩ := pathLen hgo hrl _ (List.getElem_mem hil)
    have hrow : rows[i1.toNat]? = some rows[i1.toNat] := List.getElem?_eq_getElem hil
    generalize rows[i1.toNat] = row at *
    refine hno26 ?_
    (repeat' (first | (k_unfold; (try dsimp only)) | (((fail_if_success (with_reducible show wpAny _ _ (exec (Stmt.For _ _ _ _ _) _) _ _ _));(fail_if_success (with_reducible show wpAny _ _ (exec (Stmt.While _ _ _ _) _) _ _ _));(fail_if_success (with_reducible show wpAny _ _ (exec (Stmt.Assign _ (PySem.Expr.ListComp _ _ _ _) _) _) _ _ _));(fail_if_success (with_reducible show wpAny _ _ (eval (PySem.Expr.ListComp _ _ _ _) _) _ _ _));(fail_if_success (with_reducible show LCg.CompSrc _ _ _ _ _ _ _ _ _ _ _ _ _ _));(fail_if_success (with_reducible show LCg.CompEnd _ _ _ _ _ _ _ _ _ _ _ _ _ _));(fail_if_success (with_reducible show UnrEndW _ _ _ _ _ _))); (fail_if_success (with_reducible show wpAny _ _ (subscriptTail _ _ _ _) _ _ _)); (fail_if_success (with_reducible show wpAny _ _ (call (Value.ref _) _) _ _ _)); (first | (walk1; (all_goals (try dsimp only))) | (dsimp only; walk1) | (leave1; try dsimp only)))))
    rename Fr _ _ _ _ => F16
    rename News _ _ _ _ => N16
    have k16 := (K13 _ _ _ F16 N16 (fun p hp => .tail _ (.tail _ (hex p hp)))).2
    refine subL1 (vs := vg) ⟨_, k16 _ _ _ _ hga9, rfl, kg, rfl⟩ hi0 (by omega) hvR ?_
    (repeat' (first | (k_unfold; (try dsimp only)) | (((fail_if_success (with_reducible show wpAny _ _ (exec (Stmt.For _ _ _ _ _) _) _ _ _));(fail_if_success (with_reducible show wpAny _ _ (exec (Stmt.While _ _ _ _) _) _ _ _));(fail_if_success (with_reducible show wpAny _ _ (exec (Stmt.Assign _ (PySem.Expr.ListComp _ _ _ _) _) _) _ _ _));(fail_if_success (with_reducible show wpAny _ _ (eval (PySem.Expr.ListComp _ _ _ _) _) _ _ _));(fail_if_success (with_reducible show LCg.CompSrc _ _ _ _ _ _ _ _ _ _ _ _ _ _));(fail_if_success (with_reducible show LCg.CompEnd _ _ _ _ _ _ _ _ _ _ _ _ _ _));(fail_if_success (with_reducible show UnrEndW _ _ _ _ _ _))); (fail_if_success (with_reducible show wpAny _ _ (subscriptTail _ _ _ _) _ _ _)); (fail_if_success (with_reducible show wpAny _ _ (call (Value.ref _) _) _ _ _)); (first | (walk1; (all_goals (try dsimp only))) | (dsimp only; walk1) | (leave1; try dsimp only)))))
    refine unpackN_ F16 N16 (items := #[_, _, _, _, _]) ⟨_, k16 _ _ _ _ hTR, rfl, kR, rfl⟩ rfl rfl rfl ?_
    intro h17 F17 N17
    (repeat' (first | (k_unfold; (try dsimp only)) | (((fail_if_success (with_reducible show wpAny _ _ (exec (Stmt.For _ _ _ _ _) _) _ _ _));(fail_if_success (with_reducible show wpAny _ _ (exec (Stmt.While _ _ _ _) _) _ _ _));(fail_if_success (with_reducible show wpAny _ _ (exec (Stmt.Assign _ (PySem.Expr.ListComp _ _ _ _) _) _) _ _ _));(fail_if_success (with_reducible show wpAny _ _ (eval (PySem.Expr.ListComp _ _ _ _) _) _ _ _));(fail_if_success (with_reducible show LCg.CompSrc _ _ _ _ _ _ _ _ _ _ _ _ _ _));(fail_if_success (with_reducible show LCg.CompEnd _ _ _ _ _ _ _ _ _ _ _ _ _ _));(fail_if_success (with_reducible show UnrEndW _ _ _ _ _ _))); (fail_if_success (with_reducible show wpAny _ _ (subscriptTail _ _ _ _) _ _ _)); (fail_if_success (with_reducible show wpAny _ _ (call (Value.ref _) _) _ _ _)); (first | (walk1; (all_goals (try dsimp only))) | (dsimp only; walk1) | (leave1; try dsimp only)))))
    all_goals (
      rename (_ ∧ _ ∧ _) => hx
      refine Classical.byContradiction fun hno27 => ?_
      obtain ⟨x1, x2, x3, x4, x5, x6⟩ := hx
      rename (_ ∧ _ ∧ _) => hx
      obtain ⟨y1, y2, y3, y4, y5⟩ := hx
      rename (_ ∧ _ ∧ _) => hx
      obtain ⟨w1, w2, w3, w4⟩ := hx
      rename (_ ∧ _ ∧ _) => hx
      obtain ⟨v1, v2, v3⟩ := hx
      rename Fr _ _ _ _ => F18
      rename News _ _ _ _ => N18
      refine hno27 ?_
      refine appendL (vs := vs) F18 N18 (by simp only [List.length_cons] at hdl; omega) (.tail (Nat.ne_of_gt x5) (.tail (Nat.ne_of_gt y4) (.tail (Nat.ne_of_gt w3) (.tail (Nat.ne_of_gt v2) (.tail (Nat.ne_of_gt hdI) (.head fun q hq => (hdis q hq).1)))))) ?_
      intro h19 F19 N19
      (repeat' (first | (k_unfold; (try dsimp only)) | (((fail_if_success (with_reducible show wpAny _ _ (exec (Stmt.For _ _ _ _ _) _) _ _ _));(fail_if_success (with_reducible show wpAny _ _ (exec (Stmt.While _ _ _ _) _) _ _ _));(fail_if_success (with_reducible show wpAny _ _ (exec (Stmt.Assign _ (PySem.Expr.ListComp _ _ _ _) _) _) _ _ _));(fail_if_success (with_reducible show wpAny _ _ (eval (PySem.Expr.ListComp _ _ _ _) _) _ _ _));(fail_if_success (with_reducible show LCg.CompSrc _ _ _ _ _ _ _ _ _ _ _ _ _ _));(fail_if_success (with_reducible show LCg.CompEnd _ _ _ _ _ _ _ _ _ _ _ _ _ _));(fail_if_success (with_reducible show UnrEndW _ _ _ _ _ _))); (fail_if_success (with_reducible show wpAny _ _ (subscriptTail _ _ _ _) _ _ _)); (fail_if_success (with_reducible show wpAny _ _ (call (Value.ref _) _) _ _ _)); (first | (walk1; (all_goals (try dsimp only))) | (dsimp only; walk1) | (leave1; try dsimp only))))))
    · refine tdEnd F19 N19 ⟨_, _, _, rfl⟩ ⟨_, _, _, rfl⟩ ?hz hrow hoM ⟨Nat.ne_of_gt x5, Nat.ne_of_gt x4⟩ ⟨Nat.ne_of_gt y4, Nat.ne_of_gt y3⟩ ⟨Nat.ne_of_gt w3, Nat.ne_of_gt w2⟩ ⟨Nat.ne_of_gt v2, Nat.ne_of_gt v1⟩ hex hdis hdI hus2 his hfin hpd hdl rfl rfl rfl
      case hz =>
        rename (0 ≤ row.up) => h0
        rw [if_pos h0]
        rfl
    · refine tdEnd F19 N19 ⟨_, _, _, rfl⟩ ⟨_, _, _, rfl⟩ ?hz hrow hoM ⟨Nat.ne_of_gt x5, Nat.ne_of_gt x4⟩ ⟨Nat.ne_of_gt y4, Nat.ne_of_gt y3⟩ ⟨Nat.ne_of_gt w3, Nat.ne_of_gt w2⟩ ⟨Nat.ne_of_gt v2, Nat.ne_of_gt v1⟩ hex hdis hdI hus2 his hfin hpd hdl rfl rfl rfl
      case hz =>
        rename (¬ 0 ≤ row.up) => h0
        rw [if_neg h0])
end
end Mine
theorem PySem.Challenge.cw_rl0160_01_holds : PySem.Challenge.rw_rl0160_01.Holds := by
  exact Mine.law_t
