import PyProof.Rows.All
import Wide.All
import OpenK.AllK
import Wide.FinOn
import PySem.Challenge.RW_ek5002_01
set_option Elab.async false
set_option maxRecDepth 100000
set_option maxHeartbeats 8000000
namespace Mine
section
open PySem PySem.W PyProof.Rows
open_top hd for PySem.Challenge.rw_ek5002_01
end
section
open PySem PySem.W PySem.Calls PyProof.Rows
local macro_rules | `(tactic| w_left) => `(tactic| (w_on; have : PySem.Challenge.rw_ek5002_01 = PySem.Challenge.rw_ek5002_01 ∧ hd.heap_39 = hd.heap_39 := by (k_fill; exact ⟨rfl, rfl⟩)))
theorem call_int_le {prog : Program} {w : World} {A : Around} {E : Value → Shared → Prop} {s : Shared} {Q : Value → Shared → Prop} {x y : Int} {tx ty : Tok} (h : Q (.bool (decide (x ≤ y))) s) :
    wpAny (model prog w) A (call (.builtin "int.__le__") [.int x tx, .int y ty]) Q E s :=
  call_gives F.slot_int_le (typeIs_int s x tx) F.entry_int_le (F.args_int_le_2 _ _) (AutoIntG1.int___le___int_int_0 x tx y ty) h
local macro_rules | `(tactic| walk_at "getMethod type:int") => `(tactic| (k_here; refine' method_type ?F ?X ?m (by decide +kernel) ?e ?h ?_; (case F => k_asm); (case X => k_asm); (case m => exact meta_int); (case e => k_dflt k_is); (case h => k_handed)))
local macro_rules | `(tactic| walk_at "call builtin:int.__le__") => `(tactic| (k_here; refine' call_int_le ?_))
local macro_rules | `(tactic| walk_at "compareOp Is") => `(tactic| (k_here; (with_reducible show wpAny _ _ (compareOp CmpOp.Is (Value.bool _) Value.notImplemented) _ _ _); refine wpAny_is_other (by rfl) (by intro x; cases x) ?_))
theorem gt_call {w : World} {p : Program} {loose : List Str} {mean : ExcName → Option Value} {mg mb : Str → Option Value} {dp un : Nat} {gd : Option (List Code)} {cn : Str} {cs : Scope} {a : Addr} {ccd : Value} {cl : List (Str × Addr)} {outer : List Env} {A₀ : Around} {base h₀ : Heap} {L : Addr} {m : Str → Option Value} {news : List (Addr × Obj)} {s : Shared} {Q E : Value → Shared → Prop} {x y : Int} {tx ty : Tok}
    (B : Below A₀ base outer h₀) (F : Fr h₀ L s.heap m) (X : (hd.heap_39 w.params).In h₀) (N : News h₀ L s.heap news) (T : Top p loose mean mg mb h₀) (hk : cs.kind = .function) (hdp : dp + 1 < recursionLimit) (hun : un + 20 < cLine)
    (hret : ∀ h' tk', Fr h₀ L h' m → News h₀ L h' news → Q (.bool (decide (y < x))) { s with heap := h', toks := tk' }) :
    wpAny (model PySem.Challenge.rw_ek5002_01.row.prog w) (ktrTop dp un gd cn cs L a ccd cl outer) (call (.ref 21) [.int x tx, .int y ty]) Q E s := by
  w_left
  refine wpAny_call ?_
  k_dflt cell_enter
  k_steps
  rw [show (!decide (x ≤ y)) = decide (y < x) from by by_cases h : x ≤ y <;> simp [h] <;> omega]
  exact hret _ _ (by assumption) (by assumption)
end
section
open PySem PySem.W PySem.Calls PyProof.Rows
/-- the pairs that stand in the written part: the address, the two places -/
def pairOf (a : Addr) : Option (Nat × Nat) := match a with
  | 31 => some (0, 1) | 32 => some (2, 3) | 33 => some (0, 2) | 34 => some (1, 3) | 35 => some (1, 2)
  | 37 => some (0, 1) | 38 => some (0, 2) | 39 => some (0, 3) | 40 => some (1, 2) | 41 => some (1, 3) | 42 => some (2, 3)
  | _ => none
theorem pair_cases {a : Addr} {q : Nat × Nat} (h : pairOf a = some q) : (a = 31 ∧ q = (0, 1)) ∨ (a = 32 ∧ q = (2, 3)) ∨ (a = 33 ∧ q = (0, 2)) ∨ (a = 34 ∧ q = (1, 3)) ∨ (a = 35 ∧ q = (1, 2)) ∨
    (a = 37 ∧ q = (0, 1)) ∨ (a = 38 ∧ q = (0, 2)) ∨ (a = 39 ∧ q = (0, 3)) ∨ (a = 40 ∧ q = (1, 2)) ∨ (a = 41 ∧ q = (1, 3)) ∨ (a = 42 ∧ q = (2, 3)) := by
  unfold pairOf at h
  split at h <;> simp_all
/-- one comparator on a row -/
def cmpRow (q : Nat × Nat) (r : List Int) : List Int := if r.getD q.2 0 < r.getD q.1 0 then (r.set q.1 (r.getD q.2 0)).set q.2 (r.getD q.1 0) else r
local macro_rules | `(tactic| w_left) => `(tactic| (w_on; have : PySem.Challenge.rw_ek5002_01 = PySem.Challenge.rw_ek5002_01 ∧ hd.heap_39 = hd.heap_39 := by (k_fill; exact ⟨rfl, rfl⟩)))
local macro_rules | `(tactic| walk_at "call ref") => `(tactic| (k_here; k_dflt (refine' gt_call ?k1 ?k2 ?k3 ?k4 ?k5 ?kK ?kd ?ku ?_; (case k1 => k_asm); (case k2 => k_asm); (case k3 => k_asm); (case k4 => k_asm); (case k5 => k_asm); (case kK => first | exact rfl | assumption); (case kd => ktr_room); (case ku => ktr_units); intro h' tk' F' N')))
local macro_rules | `(tactic| k_mem) => `(tactic| first | exact List.Mem.head _ | with_reducible assumption | (refine List.mem_cons_of_mem _ ?_; k_mem))
theorem item_news {prog : Program} {w : World} {A : Around} {E : Value → Shared → Prop} {s : Shared} {h₀ : Heap} {L l : Addr} {news : List (Addr × Obj)} {value slice : PySem.Expr} {its : Array Value} {n : Nat} {k : Int} {u : Tok} {v : Value} {Q : Value → Shared → Prop}
    (N : News h₀ L s.heap news) (hm : (l, listOf its n) ∈ news) (h0 : 0 ≤ k) (hhi : k < 2 ^ 63) (hx : its.toList[k.toNat]? = some v) (h : Q v s)
    (hs : subscripted slice false (.ref l) (.int k u) = operate [.ref l, .int k u] (getItem (.ref l) (.int k u))) :
    wpAny (model prog w) A (subscriptTail value slice (.ref l) (.int k u)) Q E s := by
  have hl : s.heap.IsList l its := ⟨_, (N _ hm).1, rfl, n, rfl⟩
  exact tail_any hl.typeIs slot_list_getitem.lookup (wpAny_getItem_list hl h0 hhi (by simpa using hx) h) hs
local macro_rules | `(tactic| walk_at "subscriptTail") => `(tactic| (k_here; (with_reducible show wpAny _ _ (subscriptTail _ _ (Value.ref _) (Value.int _ _)) _ _ _); k_dflt (refine' item_news ?k1 ?k2 ?k3 ?k4 ?k5 ?_ ?k6; (case k1 => k_asm); (case k2 => k_mem); (case k3 => decide); (case k4 => decide); (case k5 => rfl); (case k6 => with_unfolding_all rfl); k_whole)))
theorem cmp_end {h₀ h' : Heap} {L row : Addr} {m : Str → Option Value} {news more : List (Addr × Obj)} {s : Shared} {Q : Value → Shared → Prop} {r0 r1 r2 r3 : Int} {q : Nat × Nat} {tk' : Nat} {b0 b1 b2 b3 : Int} {u0 u1 u2 u3 : Tok} {r : Addr} {n' : Nat}
    (hret : ∀ r n' b0 b1 b2 b3 t0 t1 t2 t3 h' tk', Fr h₀ L h' m → News h₀ L h' ((r, listOf #[.int b0 t0, .int b1 t1, .int b2 t2, .int b3 t3] n') :: news) → [b0, b1, b2, b3] = cmpRow q [r0, r1, r2, r3] → (∀ p ∈ news, p.1 ≠ row → p.1 ≠ r) → Q (.ref r) { s with heap := h', toks := tk' })
    (F : Fr h₀ L h' m) (N : News h₀ L h' ((r, listOf #[.int b0 u0, .int b1 u1, .int b2 u2, .int b3 u3] n') :: more)) (hs : ∀ p ∈ news, p ∈ more) (e : [b0, b1, b2, b3] = cmpRow q [r0, r1, r2, r3]) (hl : AllLt r news) : Q (.ref r) { s with heap := h', toks := tk' } :=
  hret r n' b0 b1 b2 b3 u0 u1 u2 u3 h' tk' F (cb_drop N (List.forall_mem_cons.mpr ⟨List.Mem.head _, fun p hp => List.Mem.tail _ (hs p hp)⟩)) e (fun p hp _ => Nat.ne_of_lt (kst_ltOf hl p hp))
theorem cmp_call {w : World} {p : Program} {loose : List Str} {mean : ExcName → Option Value} {mg mb : Str → Option Value} {dp un : Nat} {gd : Option (List Code)} {cn : Str} {cs : Scope} {a : Addr} {ccd : Value} {cl : List (Str × Addr)} {outer : List Env} {A₀ : Around} {base h₀ : Heap} {L : Addr} {m : Str → Option Value} {news : List (Addr × Obj)} {s : Shared} {Q E : Value → Shared → Prop} 
    {row pr : Addr} {n : Nat} {r0 r1 r2 r3 : Int} {t0 t1 t2 t3 : Tok} {q : Nat × Nat}
    (B : Below A₀ base outer h₀) (F : Fr h₀ L s.heap m) (X : (hd.heap_39 w.params).In h₀) (N : News h₀ L s.heap news) (T : Top p loose mean mg mb h₀) (hk : cs.kind = .function) (hdp : dp + 2 < recursionLimit) (hun : un + 40 < cLine)
    (hrow : (row, listOf #[.int r0 t0, .int r1 t1, .int r2 t2, .int r3 t3] n) ∈ news) (hq : pairOf pr = some q)
    (hret : ∀ r n' b0 b1 b2 b3 t0 t1 t2 t3 h' tk', Fr h₀ L h' m → News h₀ L h' ((r, listOf #[.int b0 t0, .int b1 t1, .int b2 t2, .int b3 t3] n') :: news) → [b0, b1, b2, b3] = cmpRow q [r0, r1, r2, r3] → (∀ p ∈ news, p.1 ≠ row → p.1 ≠ r) → Q (.ref r) { s with heap := h', toks := tk' }) :
    wpAny (model PySem.Challenge.rw_ek5002_01.row.prog w) (ktrTop dp un gd cn cs L a ccd cl outer) (call (.ref 50) [.ref row, .ref pr]) Q E s := by
  w_left
  rcases pair_cases hq with ⟨rfl, rfl⟩ | ⟨rfl, rfl⟩ | ⟨rfl, rfl⟩ | ⟨rfl, rfl⟩ | ⟨rfl, rfl⟩ | ⟨rfl, rfl⟩ | ⟨rfl, rfl⟩ | ⟨rfl, rfl⟩ | ⟨rfl, rfl⟩ | ⟨rfl, rfl⟩ | ⟨rfl, rfl⟩
  all_goals (
    refine wpAny_call ?_
    k_dflt cell_enter
    k_steps
    · rename News _ _ _ ((_, _) :: _) => kN
      refine cmp_end hret (by assumption) kN ?cm ?ce ?cf
      case cm => exact fun p9 h9 => by (repeat (first | exact h9 | refine List.mem_cons_of_mem _ ?_))
      case ce => simp [cmpRow, *]
      case cf =>
        (repeat (rename _ ∧ _ => hl9; have hl8 := hl9.2; clear hl9))
        assumption
    · refine hret row n r0 r1 r2 r3 t0 t1 t2 t3 _ _ (by assumption) ?_ ?_ ?_
      · intro p9 h9
        rcases List.mem_cons.mp h9 with rfl | h9
        · rename News _ _ _ news => kN; exact kN _ hrow
        · rename News _ _ _ news => kN; exact kN _ h9
      · simp [cmpRow, *]
      · exact fun _ _ z => z)
end
section
open PySem PySem.W PySem.Calls PyProof.Rows
section
variable {prog : Program} {w : World} {A : Around} {E : Value → Shared → Prop} {s : Shared} {env : Env} {h₀ : Heap} {x : Str} {body : List Stmt} {Q : Flow → Shared → Prop}
def TurnEnd (h₀ : Heap) (L I : Addr) (own : List (Addr × Obj)) (J : (Str → Option Value) → List (Addr × Obj) → Prop) (s₁ s₂ : Shared) : Prop :=
  ∃ h' tk m' news' nx, s₂ = { s₁ with heap := h', toks := tk } ∧ Fr h₀ L h' m' ∧ News h₀ L h' news' ∧ (∀ p ∈ own, p ∈ news') ∧ (∀ p ∈ nx, p ∈ news') ∧ (∀ p ∈ nx, p.1 ≠ I) ∧ J m' nx
def TurnPost (h₀ : Heap) (L I : Addr) (own : List (Addr × Obj)) (J : (Str → Option Value) → List (Addr × Obj) → Prop) (s₁ : Shared) (Q : Flow → Shared → Prop) (f : Flow) (s₂ : Shared) : Prop :=
  match f with
  | .ret v => Q (.ret v) s₂
  | .brk => Q .next s₂
  | _ => TurnEnd h₀ L I own J s₁ s₂
theorem turn_end {L I : Addr} {own news' nx : List (Addr × Obj)} {J : (Str → Option Value) → List (Addr × Obj) → Prop} {s₁ : Shared} {h' : Heap} {tk : Nat} {m' : Str → Option Value} (F : Fr h₀ L h' m') (N : News h₀ L h' news')
    (ho : ∀ p ∈ own, p ∈ news') (hn : ∀ p ∈ nx, p ∈ news') (hI : ∀ p ∈ nx, p.1 ≠ I) (hJ : J m' nx) : TurnPost h₀ L I own J s₁ Q .next { s₁ with heap := h', toks := tk } := ⟨h', tk, m', news', nx, rfl, F, N, ho, hn, hI, hJ⟩
theorem news_ne {L I : Addr} {h : Heap} {news : List (Addr × Obj)} {o : Obj} (N : News h₀ L h news) (hI : (I, o) ∈ news) (hc : o.cls ≠ .type "list") {a : Addr} {us : Array Value} {n : Nat} (ha : (a, listOf us n) ∈ news) : a ≠ I := by
  rintro rfl
  have e1 : h.get? a = some o := (N _ hI).1
  have e2 : h.get? a = some (listOf us n) := (N _ ha).1
  rw [e2] at e1
  cases e1
  exact hc rfl
/-- the ledger less one address -/
def less (I : Addr) (news : List (Addr × Obj)) : List (Addr × Obj) := news.filter fun p => decide (p.1 ≠ I)
theorem less_sub {I : Addr} {news : List (Addr × Obj)} : ∀ p ∈ less I news, p ∈ news := fun p hp => (List.mem_filter.mp hp).1
theorem less_ne {I : Addr} {news : List (Addr × Obj)} : ∀ p ∈ less I news, p.1 ≠ I := fun p hp => of_decide_eq_true (List.mem_filter.mp hp).2
theorem less_mem {I : Addr} {news : List (Addr × Obj)} {p : Addr × Obj} (hp : p ∈ news) (h : p.1 ≠ I) : p ∈ less I news := List.mem_filter.mpr ⟨hp, decide_eq_true h⟩
theorem turnPost_step {L I : Addr} {own : List (Addr × Obj)} {J : (Str → Option Value) → List (Addr × Obj) → Prop} {s₁ s₂ : Shared} {f : Flow} (h : TurnPost h₀ L I own J s₁ Q f s₂) :
    LoopStepV h₀ L [I] own J s₁ (fun v s' => Q (.ret v) s') (fun s' => Q .next s') f s₂ := by
  have fin : TurnEnd h₀ L I own J s₁ s₂ → LoopStepU h₀ L [I] own J s₁ .next s₂ := by
    rintro ⟨h', tk, m', news', nx, e, F', N', ho, hn, hI, hJ⟩
    exact ⟨rfl, h', tk, m', nx, e, F', fun p hp => N' p ((List.mem_append.mp hp).elim (ho p) (hn p)), fun p hp hq => hI p hp (List.mem_singleton.mp hq), hJ⟩
  cases f with
  | ret v => exact .ret h
  | brk => exact .brk h
  | next => exact .next (fin h)
  | cont => exact .cont (fin h)
/-- a for over an iterator that walks: the iterator stands at I -/
theorem loopAt_any {I : Addr} {fp : List Addr} {n : Nat} {P : Nat → Value → Prop} {St : Nat → Heap → Prop} {m₀ : Str → Option Value} {news : List (Addr × Obj)} {it : Value}
    (J : Nat → (Str → Option Value) → List (Addr × Obj) → Prop)
    (W : Walks prog w A I fp [I] n P St) (hLf : env.locals ∉ fp) (hI : h₀.get? I = none) (hit : it = .ref I)
    (hst : St 0 s.heap) (F : Fr h₀ env.locals s.heap m₀) (N : News h₀ env.locals s.heap news) (hn : ∀ p ∈ news, p.1 ≠ I) (hj : J 0 m₀ news)
    (hkeepI : ∀ i h, St i h → ∃ o, h.get? I = some o ∧ o.cls ≠ .type "list")
    (turn : ∀ i v m₁ nx h tk own o, i < n → P i v → J i m₁ nx → (∀ p ∈ nx, p.1 ≠ I) → (∀ p ∈ own, p.1 ∈ fp) → ((I, o) ∈ own ∧ o.cls ≠ .type "list") → Fr h₀ env.locals h (fun y => if y = x then some v else m₁ y) → News h₀ env.locals h (own ++ nx) →
      wpAny (model prog w) A (execs body env) (TurnPost h₀ env.locals I own (J (i + 1)) { s with heap := h, toks := tk } Q) E { s with heap := h, toks := tk })
    (done : ∀ m₁ nx h tk, J n m₁ nx → (∀ p ∈ nx, p.1 ≠ I) → Fr h₀ env.locals h m₁ → News h₀ env.locals h nx → Q .next { s with heap := h, toks := tk }) :
    LoopAtV prog w A h₀ env x body Q E it s := by
  refine ⟨I, fp, [I], n, P, St, m₀, news, J, hit, W, hLf, ?_, ?_, hst, F, N, hj, ?_, ?_⟩
  · intro b hb; rw [List.mem_singleton.mp hb]; exact hI
  · intro p hp hq; exact hn p hp (List.mem_singleton.mp hq)
  · rintro i v m₁ news₁ s₁ own ⟨h, tk, rfl⟩ hlt hP hJ hoff hfp _ hown hst' F₁ N₁
    obtain ⟨o, ho, hoc⟩ := hkeepI _ _ hst'
    have hm : (I, o) ∈ own ∧ o.cls ≠ .type "list" := ⟨hown I (W.sub I (List.mem_singleton.mpr rfl)) hI o ho, hoc⟩
    exact wpAny_mono (turn i v m₁ news₁ h tk own o hlt hP hJ (fun p hp e => hoff p hp (List.mem_singleton.mpr e)) hfp hm F₁ N₁) (fun f s₂ p => turnPost_step p) fun _ _ e => e
  · intro h' tk m' news' F' N' hoff hJ
    exact done m' news' h' tk hJ (fun p hp e => hoff p hp (List.mem_singleton.mpr e)) F' N'
/-- over a list that stands now (in the base or in the ledger) -/
theorem iter_list {l : Addr} {vs : List Value} {m₀ : Str → Option Value} {news : List (Addr × Obj)} (J : Nat → (Str → Option Value) → List (Addr × Obj) → Prop)
    (hh : A.handled = none) (hl : s.heap.IsList l vs.toArray) (hlL : l ≠ env.locals) (F : Fr h₀ env.locals s.heap m₀) (N : News h₀ env.locals s.heap news) (hj : J 0 m₀ news)
    (turn : ∀ i v m₁ nx h tk own I o, vs[i]? = some v → J i m₁ nx → (∀ p ∈ nx, p.1 ≠ I) → (∀ p ∈ own, p.1 = I ∨ p.1 = l) → ((I, o) ∈ own ∧ o.cls ≠ .type "list") → Fr h₀ env.locals h (fun y => if y = x then some v else m₁ y) → News h₀ env.locals h (own ++ nx) →
      wpAny (model prog w) A (execs body env) (TurnPost h₀ env.locals I own (J (i + 1)) { s with heap := h, toks := tk } Q) E { s with heap := h, toks := tk })
    (done : ∀ m₁ nx h tk, J vs.length m₁ nx → Fr h₀ env.locals h m₁ → News h₀ env.locals h nx → Q .next { s with heap := h, toks := tk }) :
    wpAny (model prog w) A (pyIter (.ref l)) (fun it s₂ => LoopAtV prog w A h₀ env x body Q E it s₂) E s := by
  obtain ⟨ol, hol, hol2⟩ := id hl
  have hne : l ≠ s.heap.objs.size := Nat.ne_of_lt (Heap.lt_size hol)
  refine wpAny_pyIter_list hl ?_
  have W := Walks.list (prog := prog) (w := w) hh s.heap.objs.size l hne vs.toArray
  have hsz : vs.toArray.size = vs.length := by simp
  rw [hsz] at W
  refine loopAt_any (m₀ := m₀) (news := news) J W ?_ (next_is_new F) rfl ⟨⟨_, Heap.get?_push_size _ rfl, rfl, rfl⟩, hl.at fun o e => Heap.get?_push_of_some _ e⟩ (F.push _) (fun p hp => ⟨Heap.get?_push_of_some _ (N p hp).1, (N p hp).2⟩) (fun p hp e => absurd (Heap.lt_size (N p hp).1) (by rw [e]; exact Nat.lt_irrefl _)) hj ?_ ?_ ?_
  · intro hm
    rcases List.mem_cons.mp hm with e | hm
    · exact absurd F.ns.lt (e ▸ Nat.lt_irrefl _)
    · exact hlL (List.mem_singleton.mp hm).symm
  · rintro i h ⟨⟨o, ho, hc, _⟩, _⟩; exact ⟨o, ho, by rw [hc]; exact fun e => absurd (Value.type.inj e) (by decide)⟩
  · intro i v m₁ nx h tk own o hlt hP hJ hoff hfp hm F₁ N₁
    exact turn i v m₁ nx h tk own _ o (by simpa using hP) hJ hoff (fun p hp => by simpa using hfp p hp) hm F₁ N₁
  · intro m₁ nx h tk hJ _ F' N'
    exact done m₁ nx h tk hJ F' N'
/-- over a list's iterator that stands at its start, in the ledger -/
theorem iter_listiter {l it : Addr} {vs : List Value} {m₀ : Str → Option Value} {news : List (Addr × Obj)} (J : Nat → (Str → Option Value) → List (Addr × Obj) → Prop)
    (hh : A.handled = none) (hit : s.heap.IsListIter it l 0) (hl : s.heap.IsList l vs.toArray) (hlL : l ≠ env.locals) (hi0 : h₀.get? it = none) (hiL : it ≠ env.locals) (F : Fr h₀ env.locals s.heap m₀) (N : News h₀ env.locals s.heap news) (hn : ∀ p ∈ news, p.1 ≠ it) (hj : J 0 m₀ news)
    (turn : ∀ i v m₁ nx h tk own I o, vs[i]? = some v → J i m₁ nx → (∀ p ∈ nx, p.1 ≠ I) → ((I, o) ∈ own ∧ o.cls ≠ .type "list") → Fr h₀ env.locals h (fun y => if y = x then some v else m₁ y) → News h₀ env.locals h (own ++ nx) →
      wpAny (model prog w) A (execs body env) (TurnPost h₀ env.locals I own (J (i + 1)) { s with heap := h, toks := tk } Q) E { s with heap := h, toks := tk })
    (done : ∀ m₁ nx h tk, J vs.length m₁ nx → Fr h₀ env.locals h m₁ → News h₀ env.locals h nx → Q .next { s with heap := h, toks := tk }) :
    wpAny (model prog w) A (pyIter (.ref it)) (fun it' s₂ => LoopAtV prog w A h₀ env x body Q E it' s₂) E s := by
  have hne : l ≠ it := by
    rintro rfl
    obtain ⟨o, ho, hc, _⟩ := id hit
    obtain ⟨o', ho', hc', _⟩ := id hl
    rw [ho] at ho'; cases ho'
    rw [hc] at hc'; exact absurd (Value.type.inj hc') (by decide)
  refine wpAny_pyIter_listiter hit ?_
  have W := Walks.list (prog := prog) (w := w) hh it l hne vs.toArray
  have hsz : vs.toArray.size = vs.length := by simp
  rw [hsz] at W
  refine loopAt_any (m₀ := m₀) (news := news) J W ?_ hi0 rfl ⟨hit, hl⟩ F N hn hj ?_ ?_ ?_
  · intro hm
    rcases List.mem_cons.mp hm with e | hm
    · exact hiL e.symm
    · exact hlL (List.mem_singleton.mp hm).symm
  · rintro i h ⟨⟨o, ho, hc, _⟩, _⟩; exact ⟨o, ho, by rw [hc]; exact fun e => absurd (Value.type.inj e) (by decide)⟩
  · intro i v m₁ nx h tk own o hlt hP hJ hoff hfp hm F₁ N₁
    exact turn i v m₁ nx h tk own _ o (by simpa using hP) hJ hoff hm F₁ N₁
  · intro m₁ nx h tk hJ _ F' N'
    exact done m₁ nx h tk hJ F' N'
/-- over a range that goes up by ones from nought -/
theorem iter_range {r : Addr} {n : Nat} {t u v : Tok} {m₀ : Str → Option Value} {news : List (Addr × Obj)} (J : Nat → (Str → Option Value) → List (Addr × Obj) → Prop)
    (hh : A.handled = none) (hr : IsRange s.heap r 0 n 1 t u v) (hsm : Builtin.Range.small 0 n 1 = true) (hsz : Builtin.Range.rangeSize 0 n 1 = (n : Int)) (F : Fr h₀ env.locals s.heap m₀) (N : News h₀ env.locals s.heap news) (hj : J 0 m₀ news)
    (turn : ∀ (i : Nat) t m₁ nx h tk own I o, i < n → J i m₁ nx → (∀ p ∈ nx, p.1 ≠ I) → (∀ p ∈ own, p.1 = I) → ((I, o) ∈ own ∧ o.cls ≠ .type "list") → Fr h₀ env.locals h (fun y => if y = x then some (.int (i : Int) t) else m₁ y) → News h₀ env.locals h (own ++ nx) →
      wpAny (model prog w) A (execs body env) (TurnPost h₀ env.locals I own (J (i + 1)) { s with heap := h, toks := tk } Q) E { s with heap := h, toks := tk })
    (done : ∀ m₁ nx h tk, J n m₁ nx → Fr h₀ env.locals h m₁ → News h₀ env.locals h nx → Q .next { s with heap := h, toks := tk }) :
    wpAny (model prog w) A (pyIter (.ref r)) (fun it s₂ => LoopAtV prog w A h₀ env x body Q E it s₂) E s := by
  refine wpAny_pyIter_range hr hsm ?_
  have W := Walks.range (prog := prog) (w := w) hh s.heap.objs.size 0 1 n
  refine loopAt_any (m₀ := m₀) (news := news) J W ?_ (next_is_new F) rfl (by show IsRangeIter _ _ _ _ _; rw [hsz]; simpa using Heap.get?_push_size _ rfl) (F.push _) (fun p hp => ⟨Heap.get?_push_of_some _ (N p hp).1, (N p hp).2⟩) (fun p hp e => absurd (Heap.lt_size (N p hp).1) (by rw [e]; exact Nat.lt_irrefl _)) hj ?_ ?_ ?_
  · intro hm
    exact absurd F.ns.lt ((List.mem_singleton.mp hm) ▸ Nat.lt_irrefl _)
  · intro i h hst; exact ⟨_, hst, fun e => absurd (Value.type.inj e) (by decide)⟩
  · intro i v m₁ nx h tk own o hlt hP hJ hoff hfp hm F₁ N₁
    obtain ⟨t', rfl⟩ := hP
    refine turn i t' m₁ nx h tk own _ o hlt hJ hoff (fun p hp => by simpa using hfp p hp) hm ?_ N₁
    simpa using F₁
  · intro m₁ nx h tk hJ _ F' N'
    exact done m₁ nx h tk hJ F' N'
theorem iter_listT {target : Expr} {l : Addr} {vs : List Value} {m₀ : Str → Option Value} {news : List (Addr × Obj)} (J : Nat → (Str → Option Value) → List (Addr × Obj) → Prop)
    (hh : A.handled = none) (hl : s.heap.IsList l vs.toArray) (hlL : l ≠ env.locals) (F : Fr h₀ env.locals s.heap m₀) (N : News h₀ env.locals s.heap news) (hj : J 0 m₀ news)
    (turn : ∀ i v m₁ nx s₁ own I o, vs[i]? = some v → J i m₁ nx → (∀ p ∈ nx, p.1 ≠ I) → (∀ p ∈ own, p.1 = I ∨ p.1 = l) → ((I, o) ∈ own ∧ o.cls ≠ .type "list") → Fr h₀ env.locals s₁.heap m₁ → News h₀ env.locals s₁.heap (own ++ nx) →
      wpAny (model prog w) A (assign target env v) (fun _ s₃ => wpAny (model prog w) A (execs body env) (fun f s₂ => f = .next ∧ TurnEnd h₀ env.locals I own (J (i + 1)) s₁ s₂) E s₃) E s₁)
    (done : ∀ m₁ nx h tk, J vs.length m₁ nx → Fr h₀ env.locals h m₁ → News h₀ env.locals h nx → Q .next { s with heap := h, toks := tk }) :
    wpAny (model prog w) A (pyIter (.ref l)) (fun it s₂ => LoopAtT prog w A h₀ env target body Q E it s₂) E s := by
  obtain ⟨ol, hol, hol2⟩ := id hl
  have hne : l ≠ s.heap.objs.size := Nat.ne_of_lt (Heap.lt_size hol)
  refine wpAny_pyIter_list hl ?_
  have W := Walks.list (prog := prog) (w := w) hh s.heap.objs.size l hne vs.toArray
  have hsz : vs.toArray.size = vs.length := by simp
  rw [hsz] at W
  refine ⟨_, _, _, _, _, _, m₀, news, J, rfl, W, ?_, ?_, ?_, ⟨⟨_, Heap.get?_push_size _ rfl, rfl, rfl⟩, hl.at fun o e => Heap.get?_push_of_some _ e⟩, F.push _, (fun p hp => ⟨Heap.get?_push_of_some _ (N p hp).1, (N p hp).2⟩),
    (fun i s' v Q' st hQ' => letGo_listiter st.1 hQ'), hj, ?_, ?_⟩
  · intro hm
    rcases List.mem_cons.mp hm with e | hm
    · exact absurd F.ns.lt (e ▸ Nat.lt_irrefl _)
    · exact hlL (List.mem_singleton.mp hm).symm
  · intro b hb; rw [List.mem_singleton.mp hb]; exact next_is_new F
  · intro p hp hq; exact absurd (Heap.lt_size (N p hp).1) (by rw [List.mem_singleton.mp hq]; exact Nat.lt_irrefl _)
  · rintro i v m₁ news₁ s₁ own hlt hP hJ hoff hfp _ hown hst' F₁ N₁
    obtain ⟨⟨o, ho, hc, _⟩, _⟩ := id hst'
    have hm : (s.heap.objs.size, o) ∈ own ∧ o.cls ≠ .type "list" := ⟨hown _ (W.sub _ (List.mem_singleton.mpr rfl)) (next_is_new F) o ho, by rw [hc]; exact fun e => absurd (Value.type.inj e) (by decide)⟩
    refine wpAny_mono (turn i v m₁ news₁ s₁ own _ o (by simpa using hP) hJ (fun p hp e => hoff p hp (List.mem_singleton.mpr e)) (fun p hp => by simpa using hfp p hp) hm F₁ N₁) (fun _ s₃ h₃ => wpAny_mono h₃ (fun f s₂ p => ?_) fun _ _ e => e) fun _ _ e => e
    obtain ⟨rfl, h', tk, m', news', nx, e, F', N', ho, hn, hI, hJ⟩ := p
    exact ⟨rfl, h', tk, m', nx, e, F', fun p hp => N' p ((List.mem_append.mp hp).elim (ho p) (hn p)), fun p hp hq => hI p hp (List.mem_singleton.mp hq), hJ⟩
  · intro h' tk m' news' F' N' hoff hJ
    exact done m' news' h' tk hJ F' N'
end
end
section
open PySem PySem.W PySem.Calls PyProof.Rows
local macro_rules | `(tactic| w_left) => `(tactic| (w_on; have : PySem.Challenge.rw_ek5002_01 = PySem.Challenge.rw_ek5002_01 ∧ hd.heap_39 = hd.heap_39 := by (k_fill; exact ⟨rfl, rfl⟩)))
local macro_rules | `(tactic| k_mem) => `(tactic| first | exact List.Mem.head _ | with_reducible assumption | (refine List.mem_cons_of_mem _ ?_; k_mem))
abbrev iterObj (l : Addr) : Obj := { cls := .type "list_iterator", data := .fields #[.ref l, .int 0 0] }
theorem iter_call {prog : Program} {w : World} {A : Around} {E : Value → Shared → Prop} {s : Shared} {h₀ : Heap} {L l : Addr} {m : Str → Option Value} {news : List (Addr × Obj)} {its : Array Value} {n : Nat} {Q : Value → Shared → Prop} (F : Fr h₀ L s.heap m) (N : News h₀ L s.heap news) (hp : (l, listOf its n) ∈ news)
    (h : ∀ (I : Addr) h', Fr h₀ L h' m → News h₀ L h' ((I, iterObj l) :: news) → (∀ p ∈ news, p.1 < I) → Q (.ref I) { s with heap := h' }) :
    wpAny (model prog w) A (call (.builtin "iter") [.ref l]) Q E s := by
  refine call_function_entry (by decide +kernel) (by decide +kernel) kdk_entry_iter (kdk_args_iter _) ?_
  unfold Builtin.«iter»
  refine wpAny_bind (m := someArgs "iter" 1 2 _) (wpAny_of_eq (a := [Value.ref l]) (by first | rfl | kernel_rfl!) ?_)
  show wpAny _ _ (pyIter (.ref l) >>= _) _ _ _
  refine wpAny_bind (wpAny_pyIter_list ⟨_, (N _ hp).1, rfl, n, rfl⟩ ?_)
  exact wpAny_pure ⟨_, rfl, h _ _ (F.push _) (News.push F N _ rfl) (fun q hq => Heap.lt_size (N q hq).1)⟩
local macro_rules | `(tactic| walk_at "call builtin:iter") => `(tactic| (k_here; (with_reducible show wpAny _ _ (call (Value.builtin "iter") [Value.ref _]) _ _ _); k_dflt (refine' iter_call ?k1 ?k2 ?k3 ?_; (case k1 => k_asm); (case k2 => k_asm); (case k3 => k_mem); k_whole; intro I' h' F' N' l1; (try k_lt l1))))
local macro_rules | `(tactic| walk_at "exec For Name Name cons nil") => `(tactic| (k_here; (rename Fr _ _ _ _ => lF'); (with_unfolding_all refine' For_invVF lF' ?k1 ?k2 ?_; (case k1 => exact rfl); (case k2 => exact rfl); k_whole)))
theorem fix1 {m : Str → Option Value} {a : Str} {va : Value} (h1 : m a = some va) : m = fun y => if y = a then some va else m y := by
  funext y
  by_cases h : y = a
  · rw [if_pos h, h, h1]
  · rw [if_neg h]
theorem fix2 {m : Str → Option Value} {a b : Str} {va vb : Value} (h1 : m a = some va) (h2 : m b = some vb) : m = fun y => if y = a then some va else if y = b then some vb else m y := by
  funext y
  by_cases h : y = a
  · rw [if_pos h, h, h1]
  · rw [if_neg h]
    by_cases h' : y = b
    · rw [if_pos h', h', h2]
    · rw [if_neg h']
/-- a row through a net of pairs -/
def runNet (net : List (Nat × Nat)) (r : List Int) : List Int := net.foldl (fun r q => cmpRow q r) r
/-- the pairs that stand at the addresses -/
def Pairs (as : List Addr) (net : List (Nat × Nat)) : Prop := as.map pairOf = net.map some
theorem Pairs.length {as : List Addr} {net : List (Nat × Nat)} (h : Pairs as net) : as.length = net.length := by
  have := congrArg List.length h
  simpa using this
theorem Pairs.at {as : List Addr} {net : List (Nat × Nat)} (h : Pairs as net) {i : Nat} {a : Addr} (ha : as[i]? = some a) : ∃ q, pairOf a = some q ∧ net[i]? = some q := by
  have e := congrArg (fun l => l[i]?) h
  simp only [List.getElem?_map, ha, Option.map_some] at e
  cases hn : net[i]? with
  | none => rw [hn] at e; cases e
  | some q => rw [hn] at e; exact ⟨q, by simpa using e, rfl⟩
theorem runNet_take {net : List (Nat × Nat)} {i : Nat} {q : Nat × Nat} (h : net[i]? = some q) (r : List Int) : runNet (net.take (i + 1)) r = cmpRow q (runNet (net.take i) r) := by
  unfold runNet
  rw [List.take_add_one, h, List.foldl_append]; rfl
local macro_rules | `(tactic| walk_at "call ref") => `(tactic| (k_here; k_dflt (refine' cmp_call ?k1 ?k2 ?k3 ?k4 ?k5 ?kK ?kd ?ku ?kr ?kq ?_; (case k1 => k_asm); (case k2 => k_asm); (case k3 => k_asm); (case k4 => k_asm); (case k5 => k_asm); (case kK => first | exact rfl | assumption); (case kd => ktr_room); (case ku => ktr_units); (case kr => k_mem); (case kq => assumption); intro r' n' b0' b1' b2' b3' t0' t1' t2' t3' h' tk' F' N' e' f')))
theorem red_call {w : World} {p : Program} {loose : List Str} {mean : ExcName → Option Value} {mg mb : Str → Option Value} {dp un : Nat} {gd : Option (List Code)} {cn : Str} {cs : Scope} {a : Addr} {ccd : Value} {cl : List (Str × Addr)} {outer : List Env} {A₀ : Around} {base h₀ : Heap} {L : Addr} {m : Str → Option Value} {news : List (Addr × Obj)} {s : Shared} {Q E : Value → Shared → Prop} 
    {seq row : Addr} {n n2 : Nat} {as : List Addr} {net : List (Nat × Nat)} {r0 r1 r2 r3 : Int} {t0 t1 t2 t3 : Tok}
    (B : Below A₀ base outer h₀) (F : Fr h₀ L s.heap m) (X : (hd.heap_39 w.params).In h₀) (N : News h₀ L s.heap news) (T : Top p loose mean mg mb h₀) (hk : cs.kind = .function) (hdp : dp + 3 < recursionLimit) (hun : un + 80 < cLine)
    (hrow : (row, listOf #[.int r0 t0, .int r1 t1, .int r2 t2, .int r3 t3] n) ∈ news)
    (hseq : (seq, listOf (as.map Value.ref).toArray n2) ∈ news) (hnet : Pairs as net)
    (hret : ∀ r n' b0 b1 b2 b3 t0 t1 t2 t3 h' tk', Fr h₀ L h' m → News h₀ L h' ((r, listOf #[.int b0 t0, .int b1 t1, .int b2 t2, .int b3 t3] n') :: news) → [b0, b1, b2, b3] = runNet net [r0, r1, r2, r3] → (∀ p ∈ news, p.1 ≠ row → p.1 ≠ r) → Q (.ref r) { s with heap := h', toks := tk' }) :
    wpAny (model PySem.Challenge.rw_ek5002_01.row.prog w) (ktrTop dp un gd cn cs L a ccd cl outer) (call (.ref 30) [.ref 50, .ref seq, .ref row]) Q E s := by
  w_left
  refine wpAny_call ?_
  refine' code_def ?k1 ?k2 ?k3 ?k4 ?k5 ?kA ?kF ?kK ?k6 ?k7 ?k8 ?k9 ?kB ?_ ?c2 ?c3 ?c4 ?c5; (case kA => exact rfl); (case kF => exact rfl); (case kK => assumption); (case k1 => k_asm); (case k2 => k_asm); (case k3 => k_asm); (case k4 => k_asm); (case k5 => k_asm); (case k6 => k_is); (case k7 => k_is); (case k8 => ktr_room); (case k9 => first | exact BindsTo.of_eq rfl | exact binds_K (by k_in) rfl (by k_is) rfl rfl rfl); (case c5 => decide); (case kB => exact locs rfl); (case c2 => exact rfl); (case c3 => exact rfl); (case c4 => exact rfl); k_whole; intro g' L' h' FG' F' N' B' X' T'; (try dsimp only); (try k_lift B'); (try k_fold)
  k_steps
  rename Fr _ _ _ _ => F1
  rename News _ _ _ ((_, _) :: _) => N1
  rename Addr => I1
  have hI := N1 _ (List.Mem.head _)
  have hS := N1 _ (List.Mem.tail _ hseq)
  refine iter_listiter (l := seq) (vs := as.map Value.ref) (m₀ := _) (news := (row, listOf #[.int r0 t0, .int r1 t1, .int r2 t2, .int r3 t3] n) :: news)
    (fun i m nx => ∃ r n' b0 b1 b2 b3 u0 u1 u2 u3, nx = (r, listOf #[.int b0 u0, .int b1 u1, .int b2 u2, .int b3 u3] n') :: news ∧ [b0, b1, b2, b3] = runNet (net.take i) [r0, r1, r2, r3] ∧
      m (Str.ofString "value") = some (.ref r) ∧ m (Str.ofString "function") = some (.ref 50) ∧ (∀ p ∈ news, p.1 ≠ row → p.1 ≠ r)) rfl ⟨_, hI.1, rfl, rfl⟩ ⟨_, hS.1, rfl, n2, rfl⟩ hS.2.1 hI.2.2 hI.2.1 F1 (fun q hq => (List.mem_cons.mp hq).elim (fun e => e ▸ N1 _ (List.Mem.tail _ hrow)) (fun hq => N1 q (List.Mem.tail _ hq))) ?_ ?_ ?_ ?_
  · rename ∀ p ∈ news, p.1 < _ => hlt
    exact List.forall_mem_cons.mpr ⟨Nat.ne_of_lt (hlt _ hrow), fun q hq => Nat.ne_of_lt (hlt q hq)⟩
  · exact ⟨row, n, r0, r1, r2, r3, t0, t1, t2, t3, rfl, rfl, rfl, rfl, fun _ _ z => z⟩
  · rintro i v m₁ nx h tk own I o hv ⟨r, n', b0, b1, b2, b3, u0, u1, u2, u3, rfl, he, hval, hfun, hfr⟩ hoff hown F2 N2
    clear N1 F1 hI hS
    obtain ⟨a9, ha9, rfl⟩ : ∃ a, as[i]? = some a ∧ v = .ref a := by
      rw [List.getElem?_map] at hv
      cases e : as[i]? with
      | none => rw [e] at hv; cases hv
      | some a => rw [e] at hv; exact ⟨a, rfl, (Option.some.inj hv).symm⟩
    obtain ⟨q, hq, hq2⟩ := hnet.at ha9
    rw [fix2 hval hfun] at F2
    dsimp only at F2
    k_steps
    rename ∀ p ∈ own ++ _, p.1 ≠ r → p.1 ≠ _ => hf9
    rename [_, _, _, _] = cmpRow q _ => he9
    refine turn_end (by assumption) (by assumption) (fun p9 h9 => List.mem_cons_of_mem _ (List.mem_append_left _ h9)) (nx := (_, listOf #[_, _, _, _] _) :: news) (List.forall_mem_cons.mpr ⟨List.Mem.head _, fun p9 h9 => List.mem_cons_of_mem _ (List.mem_append_right _ (List.mem_cons_of_mem _ h9))⟩) ?_ ⟨_, _, _, _, _, _, _, _, _, _, rfl, ?_, rfl, rfl, ?_⟩
    · have hIr : I ≠ r := fun e => hoff _ (List.Mem.head _) e.symm
      have hIr' := hf9 (I, o) (List.mem_append_left _ hown.1) hIr
      exact List.forall_mem_cons.mpr ⟨fun e => hIr' e.symm, fun p9 h9 => hoff p9 (List.mem_cons_of_mem _ h9)⟩
    · rw [runNet_take hq2, ← he]; exact he9
    · exact fun p9 h9 hne => hf9 p9 (List.mem_append_right _ (List.mem_cons_of_mem _ h9)) (hfr p9 h9 hne)
  · rintro m₁ nx h tk ⟨r, n', b0, b1, b2, b3, u0, u1, u2, u3, rfl, he, hval, hfun, hfr⟩ F2 N2
    clear N1 F1 hI hS
    dsimp only
    rw [fix2 hval hfun] at F2
    k_steps
    refine hret r n' b0 b1 b2 b3 u0 u1 u2 u3 _ _ (by assumption) (by assumption) ?_ hfr
    rw [List.length_map, hnet.length, List.take_length] at he
    exact he
end
section
open PySem PySem.W PySem.Calls PyProof.Rows
local macro_rules | `(tactic| w_left) => `(tactic| (w_on; have : PySem.Challenge.rw_ek5002_01 = PySem.Challenge.rw_ek5002_01 ∧ hd.heap_39 = hd.heap_39 := by (k_fill; exact ⟨rfl, rfl⟩)))
local macro_rules | `(tactic| k_mem) => `(tactic| first | exact List.Mem.head _ | with_reducible assumption | (refine List.mem_cons_of_mem _ ?_; k_mem))
local macro_rules | `(tactic| walk_at "subscriptTail") => `(tactic| (k_here; (with_reducible show wpAny _ _ (subscriptTail _ _ (Value.ref _) (Value.int _ _)) _ _ _); k_dflt (refine' item_news ?k1 ?k2 ?k3 ?k4 ?k5 ?_ ?k6; (case k1 => k_asm); (case k2 => k_mem); (case k3 => decide); (case k4 => decide); (case k5 => rfl); (case k6 => with_unfolding_all rfl); k_whole)))
theorem set_news {prog : Program} {w : World} {A : Around} {E : Value → Shared → Prop} {s : Shared} {h₀ : Heap} {L D : Addr} {m : Str → Option Value} {pre post : List (Addr × Obj)} {vs ws : List Value} {n : Nat} {k : Int} {t : Tok} {v : Value} {Q : Unit → Shared → Prop}
    (F : Fr h₀ L s.heap m) (N : News h₀ L s.heap (pre ++ (D, listOf vs.toArray n) :: post)) (a : ∀ p ∈ pre, p.1 ≠ D) (b : ∀ p ∈ post, p.1 ≠ D) (h0 : 0 ≤ k) (h1 : k.toNat < vs.length) (hfit : k < 2 ^ 63) (e : vs.set k.toNat v = ws)
    (h : ∀ h', Fr h₀ L h' m → News h₀ L h' (pre ++ (D, listOf ws.toArray n) :: post) → Q () { s with heap := h' }) :
    wpAny (model prog w) A (setItem (.ref D) (.int k t) v) Q E s := by
  have z := N (D, listOf vs.toArray n) (List.mem_append.mpr (.inr (.head _)))
  have hs : vs.toArray.size = vs.length := by simp
  refine ki_setAt z.1 h0 hfit (by omega) (h _ (F.change (Heap.SameBut.update ..) z.2.1 z.2.2) (ki_turn _ N a b ?_ ?_))
  · show vs.toArray.setIfInBounds k.toNat v = ws.toArray
    rw [← e]
    apply Array.toList_inj.mp
    simp
  · rw [← e]; simp
local macro_rules | `(tactic| walk_at "setItem ref int") => `(tactic| (k_here; (with_reducible show wpAny _ _ (setItem (Value.ref _) (Value.int _ _) _) _ _ _); k_dflt (refine' set_news ?k1 ?k2 ?k3 ?k4 ?k5 ?k6 ?k7 ?k8 ?_; (case k1 => k_asm); (case k2 => k_asm); (case k3 => assumption); (case k4 => assumption); (case k5 => decide); (case k6 => exact Nat.le_of_ble_eq_true rfl); (case k7 => decide); (case k8 => rfl); k_whole); intro h' F' N'; (try k_sweep)))
def NetAt (news : List (Addr × Obj)) (l : Addr) (as : List Addr) : Prop := (∃ n, (l, listOf (as.map Value.ref).toArray n) ∈ news) ∨ (l = 36 ∧ as = [31, 32, 33, 34, 35])
theorem NetAt.isList {w : World} {news : List (Addr × Obj)} {l : Addr} {as : List Addr} {h₀ h : Heap} {L : Addr} {m : Str → Option Value} (a : NetAt news l as) (F : Fr h₀ L h m) (N : News h₀ L h news) (X : (hd.heap_39 w.params).In h₀) : h.IsList l (as.map Value.ref).toArray ∧ l ≠ L := by
  rcases a with ⟨n, hm⟩ | ⟨rfl, rfl⟩
  · exact ⟨⟨_, (N _ hm).1, rfl, n, rfl⟩, (N _ hm).2.1⟩
  · have hx : h₀.get? 36 = some (listOf #[Value.ref 31, Value.ref 32, Value.ref 33, Value.ref 34, Value.ref 35] 0) := X _ _ (by rfl)
    exact ⟨⟨_, F.keep _ _ hx, rfl, 0, rfl⟩, Nat.ne_of_lt (Nat.lt_of_lt_of_le (Heap.lt_size hx) F.above)⟩
theorem plain_call {w : World} {p : Program} {loose : List Str} {mean : ExcName → Option Value} {mg mb : Str → Option Value} {dp un : Nat} {gd : Option (List Code)} {cn : Str} {cs : Scope} {a : Addr} {ccd : Value} {cl : List (Str × Addr)} {outer : List Env} {A₀ : Around} {base h₀ : Heap} {L : Addr} {m : Str → Option Value} {news : List (Addr × Obj)} {s : Shared} {Q E : Value → Shared → Prop} 
    {netA row : Addr} {n : Nat} {as : List Addr} {net : List (Nat × Nat)} {r0 r1 r2 r3 : Int} {t0 t1 t2 t3 : Tok}
    (B : Below A₀ base outer h₀) (F : Fr h₀ L s.heap m) (X : (hd.heap_39 w.params).In h₀) (N : News h₀ L s.heap news) (T : Top p loose mean mg mb h₀) (hk : cs.kind = .function) (hdp : dp + 3 < recursionLimit) (hun : un + 80 < cLine)
    (hrow : (row, listOf #[.int r0 t0, .int r1 t1, .int r2 t2, .int r3 t3] n) ∈ news)
    (hseq : NetAt news netA as) (hnet : Pairs as net)
    (hret : ∀ r n' b0 b1 b2 b3 t0 t1 t2 t3 h' tk', Fr h₀ L h' m → News h₀ L h' ((r, listOf #[.int b0 t0, .int b1 t1, .int b2 t2, .int b3 t3] n') :: news) → [b0, b1, b2, b3] = runNet net [r0, r1, r2, r3] → (∀ p ∈ news, p.1 < r) → Q (.ref r) { s with heap := h', toks := tk' }) :
    wpAny (model PySem.Challenge.rw_ek5002_01.row.prog w) (ktrTop dp un gd cn cs L a ccd cl outer) (call (.ref 57) [.ref row, .ref netA]) Q E s := by
  w_left
  refine wpAny_call ?_
  k_dflt cell_enter
  k_steps
  rename Fr _ _ _ _ => F1
  rename News _ _ _ ((_, _) :: _) => N1
  rename (hd.heap_39 w.params).In _ => X1
  rename ∀ p ∈ news, p.1 < _ => hlt
  rename_i told c9 h8 h9
  have hL := hseq.isList F1 (fun q hq => N1 q (List.Mem.tail _ hq)) X1
  have hnt : netA ≠ told := by
    rcases hseq with ⟨n9, hm9⟩ | ⟨rfl, rfl⟩
    · exact Nat.ne_of_lt (hlt _ hm9)
    · rintro rfl
      have e1 := (N1 _ (List.Mem.head _)).2.2
      rw [X1 36 _ (by rfl)] at e1
      cases e1
  (with_unfolding_all refine' For_invTF F1 ?_ (by intro _; rfl))
  k_steps
  refine iter_listT (l := netA) (vs := as.map Value.ref) (m₀ := _) (news := (told, listOf #[.int r0 t0, .int r1 t1, .int r2 t2, .int r3 t3] _) :: news)
    (fun i m nx => ∃ n' b0 b1 b2 b3 u0 u1 u2 u3, nx = (told, listOf #[.int b0 u0, .int b1 u1, .int b2 u2, .int b3 u3] n') :: news ∧ [b0, b1, b2, b3] = runNet (net.take i) [r0, r1, r2, r3] ∧
      m (Str.ofString "told") = some (.ref told)) rfl hL.1 hL.2 F1 N1 ⟨_, r0, r1, r2, r3, t0, t1, t2, t3, rfl, rfl, rfl⟩ ?_ ?_
  · rintro i v m₁ nx s₁ own I o hv ⟨n', b0, b1, b2, b3, u0, u1, u2, u3, rfl, he, hval⟩ hoff hfp hown F2 N2
    clear N1 F1 hL
    obtain ⟨a9, ha9, rfl⟩ : ∃ a, as[i]? = some a ∧ v = .ref a := by
      rw [List.getElem?_map] at hv
      cases e : as[i]? with
      | none => rw [e] at hv; cases hv
      | some a => rw [e] at hv; exact ⟨a, rfl, (Option.some.inj hv).symm⟩
    obtain ⟨q, hq, hq2⟩ := hnet.at ha9
    rw [fix1 hval] at F2
    have hne : ∀ p ∈ own, p.1 ≠ told := fun p hp => (hfp p hp).elim (fun e => by rw [e]; exact Ne.symm (hoff _ (List.Mem.head _))) fun e => by rw [e]; exact hnt
    have hnn : ∀ p ∈ news, p.1 ≠ told := fun p hp => Nat.ne_of_lt (hlt p hp)
    have htI : told ≠ I := hoff _ (List.Mem.head _)
    have hnI : ∀ p ∈ news, p.1 ≠ I := fun p hp => hoff p (List.mem_cons_of_mem _ hp)
    rcases pair_cases hq with ⟨rfl, rfl⟩ | ⟨rfl, rfl⟩ | ⟨rfl, rfl⟩ | ⟨rfl, rfl⟩ | ⟨rfl, rfl⟩ | ⟨rfl, rfl⟩ | ⟨rfl, rfl⟩ | ⟨rfl, rfl⟩ | ⟨rfl, rfl⟩ | ⟨rfl, rfl⟩ | ⟨rfl, rfl⟩
    all_goals (
      k_steps
      rename News _ _ _ (own ++ (told, _) :: news) => N9
      refine ⟨_, _, _, _, (told, listOf #[.int _ _, .int _ _, .int _ _, .int _ _] _) :: news, rfl, (by assumption), N9, fun p9 h9 => List.mem_append_left _ h9, fun p9 h9 => List.mem_append_right _ h9, ?_, ⟨_, _, _, _, _, _, _, _, _, rfl, ?_, rfl⟩⟩
      · exact List.forall_mem_cons.mpr ⟨htI, hnI⟩
      · rw [runNet_take hq2, ← he]
        simp only [cmpRow, List.getD_cons_zero, List.getD_cons_succ]
        split <;> simp <;> omega)
  · rintro m₁ nx h tk ⟨n', b0, b1, b2, b3, u0, u1, u2, u3, rfl, he, hval⟩ F2 N2
    clear N1 F1 hL
    dsimp only
    rw [fix1 hval] at F2
    k_steps
    refine hret told n' b0 b1 b2 b3 u0 u1 u2 u3 _ _ (by assumption) (by assumption) ?_ hlt
    rw [List.length_map, hnet.length, List.take_length] at he
    exact he
end
section
open PySem PySem.W PySem.Calls PyProof.Rows
section
variable {prog : Program} {w : World} {A : Around} {s : Shared} {h₀ : Heap} {L : Addr} {m : Str → Option Value} {env : Env}
theorem compEnd_mono {I C D : Addr} {s₁ s₂ : Shared} {oI oC oD : Obj} {S : List (Addr × Obj) → Prop} {rest rest' : Value → List (Addr × Obj) → Prop} {y : Value} (h : LCg.CompEnd h₀ L m s₁ I oI C oC D oD S rest y s₂) (hr : ∀ n, rest y n → rest' y n) : LCg.CompEnd h₀ L m s₁ I oI C oC D oD S rest' y s₂ := by
  obtain ⟨h', tk, n', e, F, N, off, hS, r⟩ := h
  exact ⟨h', tk, n', e, F, N, off, hS, hr _ r⟩
theorem compRestT_ind {ct elt : PySem.Expr} {x : Str} {scope : Scope} {cl : List (Str × Addr)} {S : List (Addr × Obj) → Prop} {P : Nat → Value → Prop} {Fin : List Value → List (Addr × Obj) → Prop} {n : Nat} (J : Nat → List Value → List (Addr × Obj) → Prop)
    (step : ∀ i ys news v I oI C oC D m₂ h tk (E' : Value → Shared → Prop), i < n → J i ys news → P i v → LCg.NsObj oC m₂ → m₂ x = some v → Fr h₀ L h m → News h₀ L h ((I, oI) :: (C, oC) :: (D, LCg.lst ys) :: news) → LCg.Off3 I C D news → ((@Ne Nat I C) ∧ (@Ne Nat I D) ∧ (@Ne Nat C D)) →
      wpAny (model prog w) A (isTrue ct (compEnvC scope cl C env) (eval ct (compEnvC scope cl C env))) (fun ok s' => if ok = true then
        wpAny (model prog w) A (eval elt (compEnvC scope cl C env)) (LCg.CompEnd h₀ L m { s with heap := h, toks := tk } I oI C oC D (LCg.lst ys) S (fun y news' => J (i + 1) (ys ++ [y]) news')) E' s'
        else LCg.CompEnd h₀ L m { s with heap := h, toks := tk } I oI C oC D (LCg.lst ys) S (fun _ news' => J (i + 1) ys news') Value.none s') E' { s with heap := h, toks := tk })
    (fin : ∀ ys news, J n ys news → Fin ys news) : ∀ k i ys news, i + k = n → J i ys news → LCt.CompRestT prog w A h₀ L m env ct elt x scope cl s S P Fin k i ys news
  | 0, i, ys, news, e, hj => LCt.CompRestT.zero (fin _ _ (by rw [← e]; exact hj))
  | k + 1, i, ys, news, e, hj => LCt.CompRestT.succ fun v I oI C oC D m₂ h tk E' a b c d f g k' =>
    wpAny_mono (step i ys news v I oI C oC D m₂ h tk E' (by omega) hj a b c d f g k') (fun ok s' h' => by
      cases ok with
      | true =>
        simp only [if_true] at h' ⊢
        exact wpAny_mono h' (fun y s'' h'' => compEnd_mono h'' fun nn r => compRestT_ind J step fin k (i + 1) _ _ (by omega) r) fun _ _ z => z
      | false =>
        simp only [Bool.false_eq_true, if_false] at h' ⊢
        exact compEnd_mono h' fun nn r => compRestT_ind J step fin k (i + 1) _ _ (by omega) r) fun _ _ z => z
theorem compRest_ind {elt : PySem.Expr} {x : Str} {scope : Scope} {cl : List (Str × Addr)} {S : List (Addr × Obj) → Prop} {P : Nat → Value → Prop} {Fin : List Value → List (Addr × Obj) → Prop} {n : Nat} (J : Nat → List Value → List (Addr × Obj) → Prop)
    (step : ∀ i ys news v I oI C oC D m₂ h tk (E' : Value → Shared → Prop), i < n → J i ys news → P i v → LCg.NsObj oC m₂ → m₂ x = some v → Fr h₀ L h m → News h₀ L h ((I, oI) :: (C, oC) :: (D, LCg.lst ys) :: news) → LCg.Off3 I C D news → ((@Ne Nat I C) ∧ (@Ne Nat I D) ∧ (@Ne Nat C D)) →
      wpAny (model prog w) A (eval elt (compEnvC scope cl C env)) (LCg.CompEnd h₀ L m { s with heap := h, toks := tk } I oI C oC D (LCg.lst ys) S (fun y news' => J (i + 1) (ys ++ [y]) news')) E' { s with heap := h, toks := tk })
    (fin : ∀ ys news, J n ys news → Fin ys news) : ∀ k i ys news, i + k = n → J i ys news → LCg.CompRest prog w A h₀ L m env elt x scope cl s S P Fin k i ys news
  | 0, i, ys, news, e, hj => LCg.CompRest.zero (fin _ _ (by rw [← e]; exact hj))
  | k + 1, i, ys, news, e, hj => LCg.CompRest.succ fun v I oI C oC D m₂ h tk E' a b c d f g k' =>
    wpAny_mono (step i ys news v I oI C oC D m₂ h tk E' (by omega) hj a b c d f g k') (fun y s' h' => compEnd_mono h' fun nn r => compRest_ind J step fin k (i + 1) _ _ (by omega) r) fun _ _ z => z
end
end
section
open PySem PySem.W PySem.Calls PyProof.Rows
local macro_rules | `(tactic| w_left) => `(tactic| (w_on; have : PySem.Challenge.rw_ek5002_01 = PySem.Challenge.rw_ek5002_01 ∧ hd.heap_39 = hd.heap_39 := by (k_fill; exact ⟨rfl, rfl⟩)))
local macro_rules | `(tactic| k_mem) => `(tactic| first | exact List.Mem.head _ | with_reducible assumption | (refine List.mem_cons_of_mem _ ?_; k_mem))
local macro_rules | `(tactic| walk_at "subscriptTail") => `(tactic| (k_here; (with_reducible show wpAny _ _ (subscriptTail _ _ (Value.ref _) (Value.int _ _)) _ _ _); k_dflt (refine' item_news ?k1 ?k2 ?k3 ?k4 ?k5 ?_ ?k6; (case k1 => k_asm); (case k2 => k_mem); (case k3 => decide); (case k4 => decide); (case k5 => rfl); (case k6 => with_unfolding_all rfl); k_whole)))
local macro_rules | `(tactic| walk_at "eval ListComp") => `(tactic| (k_here; k_dflt (refine LCt.ListComp_T (F₀ := by k_asm) (by with_unfolding_all rfl) (by decide) (by rfl) (by decide) (by rfl) ?_)))
def codeL (lim : Int) (rs : List Int) (i : Nat) : List Int := ((List.range i).filter (fun k => decide (lim < rs.getD k 0))).map (fun k => (2 : Int) ^ (3 - k))
theorem codeL_yes {lim : Int} {rs : List Int} {i : Nat} (h : lim < rs.getD i 0) : codeL lim rs (i + 1) = codeL lim rs i ++ [(2 : Int) ^ (3 - i)] := by
  unfold codeL
  rw [List.range_succ, List.filter_append, List.map_append, List.filter_cons_of_pos (by simpa using h)]
  rfl
theorem codeL_no {lim : Int} {rs : List Int} {i : Nat} (h : ¬ lim < rs.getD i 0) : codeL lim rs (i + 1) = codeL lim rs i := by
  unfold codeL
  rw [List.range_succ, List.filter_append, List.map_append, List.filter_cons_of_neg (by simpa using h)]
  simp
theorem codeL_sum (lim r0 r1 r2 r3 : Int) : (codeL lim [r0, r1, r2, r3] 4).sum = (if lim < r0 then 8 else 0) + (if lim < r1 then 4 else 0) + (if lim < r2 then 2 else 0) + (if lim < r3 then 1 else 0) := by
  unfold codeL
  rw [show List.range 4 = [0, 1, 2, 3] from rfl]
  simp only [List.filter_cons, List.filter_nil, List.getD_cons_zero, List.getD_cons_succ, decide_eq_true_eq]
  repeat' split
  all_goals simp
theorem ce_end {h₀ : Heap} {L I C D : Addr} {m : Str → Option Value} {s₁ : Shared} {oI oC oD : Obj} {S : List (Addr × Obj) → Prop} {rest : Value → List (Addr × Obj) → Prop} {y : Value} {h' : Heap} {tk : Nat} {news' : List (Addr × Obj)}
    (F : Fr h₀ L h' m) (N : News h₀ L h' ((I, oI) :: (C, oC) :: (D, oD) :: news')) (off : LCg.Off3 I C D news') (hS : S news') (r : rest y news') :
    LCg.CompEnd h₀ L m s₁ I oI C oC D oD S rest y { s₁ with heap := h', toks := tk } := LCg.CompEnd.intro F N news' (fun _ z => z) off hS r
theorem code_call {w : World} {p : Program} {loose : List Str} {mean : ExcName → Option Value} {mg mb : Str → Option Value} {dp un : Nat} {gd : Option (List Code)} {cn : Str} {cs : Scope} {a : Addr} {ccd : Value} {cl : List (Str × Addr)} {outer : List Env} {A₀ : Around} {base h₀ : Heap} {L : Addr} {m : Str → Option Value} {news : List (Addr × Obj)} {s : Shared} {Q E : Value → Shared → Prop} 
    {row : Addr} {n : Nat} {r0 r1 r2 r3 lim : Int} {t0 t1 t2 t3 tl : Tok}
    (B : Below A₀ base outer h₀) (F : Fr h₀ L s.heap m) (X : (hd.heap_39 w.params).In h₀) (N : News h₀ L s.heap news) (T : Top p loose mean mg mb h₀) (hk : cs.kind = .function) (hdp : dp + 3 < recursionLimit) (hun : un + 80 < cLine)
    (hrow : (row, listOf #[.int r0 t0, .int r1 t1, .int r2 t2, .int r3 t3] n) ∈ news)
    (hret : ∀ c t h' tk', Fr h₀ L h' m → News h₀ L h' news → c = (if lim < r0 then 8 else 0) + (if lim < r1 then 4 else 0) + (if lim < r2 then 2 else 0) + (if lim < r3 then 1 else 0) → Q (.int c t) { s with heap := h', toks := tk' }) :
    wpAny (model PySem.Challenge.rw_ek5002_01.row.prog w) (ktrTop dp un gd cn cs L a ccd cl outer) (call (.ref 67) [.ref row, .int lim tl]) Q E s := by
  w_left
  refine wpAny_call ?_
  k_dflt (refine' code_defC ?k1 ?k2 ?k3 ?k4 ?k5 ?kA ?kF ?kK ?k6 ?k7 ?k8 ?k9 ?kB ?kD ?_ ?c2 ?c3 ?c4; (case kA => exact rfl); (case kF => exact rfl); (case kK => assumption); (case k1 => k_asm); (case k2 => k_asm); (case k3 => k_asm); (case k4 => k_asm); (case k5 => k_asm); (case k6 => k_is); (case k7 => k_is); (case k8 => ktr_room); (case k9 => first | exact BindsTo.of_eq rfl | exact binds_K (by k_in) rfl (by k_is) rfl rfl rfl | fail "k_enter: no rule for these arguments"); (case kB => exact rfl); (case kD => decide +kernel); (case c2 => exact rfl); (case c3 => exact rfl); (case c4 => exact rfl); k_whole; intro g' L' h' tk' cells' FG' F' N' Y' B' X' T' l1; (try k_lt l1); k_cells Y'; (try simp only [List.cons_append, List.nil_append] at N'); (try dsimp only); (try k_lift B'); (try k_fold))
  k_steps
  rename Fr _ _ _ _ => F1
  rename News _ _ _ (_ :: _ :: news) => N1
  rename IsRange _ _ _ _ _ _ _ _ => rg
  refine LCt.CompSrcT.range (by rfl) F1 N1 rg (by decide) (n := 4) (by decide) (by exact Nat.le_of_ble_eq_true rfl) ?_
  intro g1
  clear F1 N1 rg
  refine compRestT_ind (fun i ys nx => nx = _ ∧ IntsAre ys (codeL lim [r0, r1, r2, r3] i)) ?_ ?_ 4 0 [] _ rfl ⟨rfl, .nil⟩
  · rintro i ys nx v I oI C oC D m₂ h tk E' hi ⟨rfl, hys⟩ ⟨t9, rfl⟩ hC hx F2 N2 off ne
    rcases (show i = 0 ∨ i = 1 ∨ i = 2 ∨ i = 3 by omega) with rfl | rfl | rfl | rfl
    · change m₂ _ = some (.int 0 t9) at hx
      k_steps
      · rename lim < r0 => hc
        refine ce_end (by assumption) (by assumption) off trivial ⟨rfl, ?_⟩
        rw [codeL_yes hc]
        exact hys.append (.cons _ _ .nil)
      · rename ¬ lim < r0 => hc
        refine ce_end (by assumption) (by assumption) off trivial ⟨rfl, ?_⟩
        rw [codeL_no hc]
        exact hys
    · change m₂ _ = some (.int 1 t9) at hx
      k_steps
      · rename lim < r1 => hc
        refine ce_end (by assumption) (by assumption) off trivial ⟨rfl, ?_⟩
        rw [codeL_yes (i := 1) hc]
        exact hys.append (.cons _ _ .nil)
      · rename ¬ lim < r1 => hc
        refine ce_end (by assumption) (by assumption) off trivial ⟨rfl, ?_⟩
        rw [codeL_no (i := 1) hc]
        exact hys
    · change m₂ _ = some (.int 2 t9) at hx
      k_steps
      · rename lim < r2 => hc
        refine ce_end (by assumption) (by assumption) off trivial ⟨rfl, ?_⟩
        rw [codeL_yes (i := 2) hc]
        exact hys.append (.cons _ _ .nil)
      · rename ¬ lim < r2 => hc
        refine ce_end (by assumption) (by assumption) off trivial ⟨rfl, ?_⟩
        rw [codeL_no (i := 2) hc]
        exact hys
    · change m₂ _ = some (.int 3 t9) at hx
      k_steps
      · rename lim < r3 => hc
        refine ce_end (by assumption) (by assumption) off trivial ⟨rfl, ?_⟩
        rw [codeL_yes (i := 3) hc]
        exact hys.append (.cons _ _ .nil)
      · rename ¬ lim < r3 => hc
        refine ce_end (by assumption) (by assumption) off trivial ⟨rfl, ?_⟩
        rw [codeL_no (i := 3) hc]
        exact hys
  · rintro ys nx ⟨rfl, hys⟩
    unfold LCg.FinE
    intro D9 h9 tk9 F9 N9 off9
    k_steps
    rename News h₀ _ _ _ => kN
    exact hret _ _ _ _ (by assumption) (cb_drop kN fun p9 h9 => List.mem_cons_of_mem _ (List.mem_cons_of_mem _ (List.mem_cons_of_mem _ h9))) (codeL_sum ..)
end
section
open PySem PySem.W PySem.Calls PyProof.Rows PySem.Spec
abbrev two (elt ct iter1 iter2 : PySem.Expr) (x y : Str) (px py : Pos) (scope : Scope) (pos : Pos) : PySem.Expr := .ListComp elt [⟨.Name x px, iter1, [], 0⟩, ⟨.Name y py, iter2, [ct], 0⟩] scope pos
theorem compTurn_in (elt ct iter1 iter2 : PySem.Expr) (x y : Str) (px py : Pos) (scope : Scope) (pos : Pos) (it acc : Value) (env : Env) :
    compTurn (two elt ct iter1 iter2 x y px py scope pos) 1 it acc env = (do
      standAt iter2.pos
      match ← pyNext it with
      | none => pure (.done .next)
      | some v =>
        letOwnedTupleGo (.Name y py) it v
        assign (.Name y py) env v
        let mut ok := true
        for c in [ct] do
          if ok then ok ← isTrue c env (eval c env)
        if ok then
          (do let _ ← call (.builtin "list.append") [acc, ← eval elt env])
        again (.compLoop (two elt ct iter1 iter2 x y px py scope pos) 1 it acc env)) := by rfl
theorem compTurn_out (elt ct iter1 iter2 : PySem.Expr) (x y : Str) (px py : Pos) (scope : Scope) (pos : Pos) (it acc : Value) (env : Env) :
    compTurn (two elt ct iter1 iter2 x y px py scope pos) 0 it acc env = (do
      standAt iter1.pos
      match ← pyNext it with
      | none => pure (.done .next)
      | some v =>
        letOwnedTupleGo (.Name x px) it v
        assign (.Name x px) env v
        let xv ← eval iter2 env
        standAt iter2.pos
        let xv ← foldedSetIterable iter2 env xv
        let _ ← runOwn (.compStart (two elt ct iter1 iter2 x y px py scope pos) 1 (← holding [xv] (pyIter xv)) acc env) env
        again (.compLoop (two elt ct iter1 iter2 x y px py scope pos) 0 it acc env)) := by rfl
section
variable {prog : Program} {w : World} {A : Around} {E : Value → Shared → Prop} {R : Result → Shared → Prop} {s : Shared}
theorem codeAny_in {elt ct iter1 iter2 : PySem.Expr} {x y : Str} {px py : Pos} {scope : Scope} {pos : Pos} {it acc : Value} {env : Env} (I : Nat → Shared → Prop)
    (turn : ∀ n s, I n s → wpAny (model prog w) A (pyNext it) (fun r s₁ => match r with
      | none => R (.ok .next) s₁
      | some v => wpAny (model prog w) A (assign (.Name y py) env v) (fun _ s₂ =>
          wpAny (model prog w) A (isTrue ct env (eval ct env)) (fun ok s₃ =>
            if ok = true then wpAny (model prog w) A (eval elt env) (fun x s₄ =>
              wpAny (model prog w) A (call (.builtin "list.append") [acc, x]) (fun _ s₅ => ∃ m, m < n ∧ I m s₅) (notedBy (model prog w) A env fun e s' => R (.error e) s') s₄) (notedBy (model prog w) A env fun e s' => R (.error e) s') s₃
            else ∃ m, m < n ∧ I m s₃) (notedBy (model prog w) A env fun e s' => R (.error e) s') s₂) (notedBy (model prog w) A env fun e s' => R (.error e) s') s₁) (notedBy (model prog w) A env fun e s' => R (.error e) s') s)
    (n : Nat) (h : I n s) :
    codeAny (model prog w) A (.compLoop (two elt ct iter1 iter2 x y px py scope pos) 1 it acc env) R s := by
  refine codeAny_loop rfl I (fun n s hI => ?_) n h
  show wpAny _ A ((compTurn (two elt ct iter1 iter2 x y px py scope pos) 1 it acc env).onRaise (fun x => do noteFrame x env; theTreesLotGoes x)) _ _ s
  refine wpAny_noted ?_
  rw [compTurn_in]
  refine wpAny_bind (wpAny_standAt (wpAny_bind (wpAny_mono (turn n s hI) (fun r s₁ h₁ => ?_) fun _ _ h' => h')))
  cases r with
  | none => exact wpAny_pure h₁
  | some v =>
    refine wpAny_bind (wpAny_of_eq (a := ()) (by rfl) ?_)
    refine wpAny_bind (wpAny_mono h₁ (fun _ s₂ h₂ => wpAny_bind (wpAny_mono (wpAny_tests_one h₂) (fun ok s₃ h₃ => ?_) fun _ _ h' => h')) fun _ _ h' => h')
    cases ok with
    | false => exact wpAny_pure ⟨rfl, h₃⟩
    | true =>
      exact wpAny_bind (wpAny_bind (wpAny_mono h₃ (fun x s₄ h₄ => wpAny_bind (wpAny_mono h₄ (fun _ s₅ h₅ => wpAny_pure (wpAny_pure ⟨rfl, h₅⟩)) fun _ _ h' => h')) fun _ _ h' => h'))
theorem codeAny_out {elt ct iter1 iter2 : PySem.Expr} {x y : Str} {px py : Pos} {scope : Scope} {pos : Pos} {it acc : Value} {env : Env} (I : Nat → Shared → Prop) (hs : ∀ x, foldedSetIterable iter2 env x = pure x)
    (turn : ∀ n s, I n s → wpAny (model prog w) A (pyNext it) (fun r s₁ => match r with
      | none => R (.ok .next) s₁
      | some v => wpAny (model prog w) A (assign (.Name x px) env v) (fun _ s₂ =>
          wpAny (model prog w) A (eval iter2 env) (fun xv s₃ => wpAny (model prog w) A (pyIter xv) (fun it2 s₄ =>
            codeAny (model prog w) A (.compStart (two elt ct iter1 iter2 x y px py scope pos) 1 it2 acc env) (fun r s' => match r with | .ok _ => ∃ m, m < n ∧ I m s' | .error _ => False) s₄) (notedBy (model prog w) A env fun e s' => R (.error e) s') s₃)
            (notedBy (model prog w) A env fun e s' => R (.error e) s') s₂) (notedBy (model prog w) A env fun e s' => R (.error e) s') s₁) (notedBy (model prog w) A env fun e s' => R (.error e) s') s)
    (n : Nat) (h : I n s) :
    codeAny (model prog w) A (.compLoop (two elt ct iter1 iter2 x y px py scope pos) 0 it acc env) R s := by
  refine codeAny_loop rfl I (fun n s hI => ?_) n h
  show wpAny _ A ((compTurn (two elt ct iter1 iter2 x y px py scope pos) 0 it acc env).onRaise (fun x => do noteFrame x env; theTreesLotGoes x)) _ _ s
  refine wpAny_noted ?_
  rw [compTurn_out]
  refine wpAny_bind (wpAny_standAt (wpAny_bind (wpAny_mono (turn n s hI) (fun r s₁ h₁ => ?_) fun _ _ h' => h')))
  cases r with
  | none => exact wpAny_pure h₁
  | some v =>
    refine wpAny_bind (wpAny_of_eq (a := ()) (by rfl) ?_)
    refine wpAny_bind (wpAny_mono h₁ (fun _ s₂ h₂ => wpAny_bind (wpAny_mono h₂ (fun xv s₃ h₃ => ?_) fun _ _ h' => h')) fun _ _ h' => h')
    refine wpAny_bind (wpAny_standAt (wpAny_bind (wpAny_of_eq (hs xv) ?_)))
    refine wpAny_bind (wpAny_holding (wpAny_mono h₃ (fun it2 s₄ h₄ => ?_) fun _ _ h' => h'))
    refine wpAny_bind (wpAny_runOwn (A := A) (h := none) (codeAny_mono h₄ fun r s' hr => ?_))
    cases r with
    | error e => exact hr.elim
    | ok f => exact wpAny_pure ⟨rfl, hr⟩
theorem codeAny_compStart_in {elt ct iter1 iter2 : PySem.Expr} {x y : Str} {px py : Pos} {scope : Scope} {pos : Pos} {it acc : Value} {env : Env}
    (h0 : codeAny (model prog w) A (.compLoop (two elt ct iter1 iter2 x y px py scope pos) 1 it acc env) R s)
    (h : wpAny (model prog w) A (pyIter it) (fun it' s' => codeAny (model prog w) A (.compLoop (two elt ct iter1 iter2 x y px py scope pos) 1 it' acc env) R s')
      (notedBy (model prog w) A env fun x s' => R (.error x) s') s) :
    codeAny (model prog w) A (.compStart (two elt ct iter1 iter2 x y px py scope pos) 1 it acc env) R s := by
  refine codeAny_of_tree ?_
  show wpAny _ _ ((compStart (two elt ct iter1 iter2 x y px py scope pos) 1 it acc env).onRaise (fun x => do noteFrame x env; standAt theWindowsPlace)) _ _ s
  refine wpAny_notedAt ?_
  unfold compStart
  show wpAny _ _ (ask >>= _) _ _ s
  refine wpAny_bind (wpAny_askSetting (wpAny_ite ?_))
  split
  · first
      | exact wpAny_bind (wpAny_pure (wpAny_pure (And.intro rfl h0)))
      | exact wpAny_pure (And.intro rfl h0)
  · first
      | exact wpAny_bind (wpAny_rule (wpAny_bind (wpAny_standAt (wpAny_bind (wpAny_mono h (fun it' s' h' => wpAny_pure (And.intro rfl h')) fun _ _ x => x)))))
      | (refine wpAny_bind (wpAny_rule ?_); show wpAny _ _ (standAt iter2.pos >>= _) _ _ s; exact wpAny_bind (wpAny_standAt (wpAny_bind (wpAny_mono h (fun it' s' h' => wpAny_pure (And.intro rfl h')) fun _ _ x => x))))
end
end
section
open PySem PySem.W PySem.Calls PyProof.Rows PySem.Spec PyProof.Rows.LCg
section
variable {prog : Program} {w : World} {A : Around} {E : Value → Shared → Prop} {h₀ : Heap} {L : Addr} {m : Str → Option Value} {env : Env}
theorem inner_loop {R : Result → Shared → Prop} {elt ct iter1 iter2 : PySem.Expr} {x y : Str} {px py : Pos} {scope : Scope} {pos : Pos} {cl : List (Str × Addr)} {I C D : Addr} {fp : List Addr} {n : Nat} {P : Nat → Value → Prop} {St : Nat → Heap → Prop} {S : List (Addr × Obj) → Prop}
    (W : Walks prog w A I fp [I] n P St) (hIo : ∀ i h, St i h → ∃ o, h.get? I = some o)
    (hSt : ∀ i h h' o nw, St i h → h.get? I = some o → h'.get? I = some o → (∀ b o, h₀.get? b = some o → h'.get? b = some o) → News h₀ L h' nw → S nw → St i h')
    (hkind : scope.kind = .function) (hy : scope.names.lookup y = some .local)
    (K : (Str → Option Value) → Prop) (hK : ∀ m v, K m → K (fun z => if z = y then some v else m z))
    (hCf : C ∉ fp) (hDf : D ∉ fp) (hCI : I ≠ C) (hDI : I ≠ D) (hDC : D ≠ C) (hIL : L ≠ I) (hI₀ : h₀.get? I = none) (hC₀ : h₀.get? C = none) (hD₀ : h₀.get? D = none) (hCL : C ≠ L) (hDL : D ≠ L)
    (J : Nat → List Value → List (Addr × Obj) → Prop) (B : Nat) (hB : B + n ≤ sizeLine) {s : Shared}
    (step : ∀ i ys news v oI oC m₂ h tk (E' : Value → Shared → Prop), i < n → J i ys news → P i v → NsObj oC m₂ → m₂ y = some v → K m₂ → Fr h₀ L h m → News h₀ L h ((I, oI) :: (C, oC) :: (D, lst ys) :: news) → Off3 I C D news → ((@Ne Nat I C) ∧ (@Ne Nat I D) ∧ (@Ne Nat C D)) →
      wpAny (model prog w) A (isTrue ct (compEnvC scope cl C env) (eval ct (compEnvC scope cl C env))) (fun ok s' => if ok = true then
        wpAny (model prog w) A (eval elt (compEnvC scope cl C env)) (CompEnd h₀ L m { s with heap := h, toks := tk } I oI C oC D (lst ys) S (fun y news' => J (i + 1) (ys ++ [y]) news')) E' s'
        else CompEnd h₀ L m { s with heap := h, toks := tk } I oI C oC D (lst ys) S (fun _ news' => J (i + 1) ys news') Value.none s') E' { s with heap := h, toks := tk })
    {ys0 : List Value} {news0 : List (Addr × Obj)} {m0 : Str → Option Value} (hst : St 0 s.heap) (F : Fr h₀ L s.heap m) (N : News h₀ L s.heap ((D, lst ys0) :: news0)) (off : Off3 I C D news0) (hS : S news0) (hj : J 0 ys0 news0)
    (hn : s.heap.Ns C m0) (hk0 : K m0) (hlen : ys0.length ≤ B)
    (fin : ∀ h tk m' ys news', J n ys news' → ys.length ≤ B + n → Fr h₀ L h m → News h₀ L h ((D, lst ys) :: news') → Off3 I C D news' → S news' → h.Ns C m' → K m' → R (.ok .next) { s with heap := h, toks := tk }) :
    codeAny (model prog w) A (.compLoop (two elt ct iter1 iter2 x y px py scope pos) 1 (.ref I) (.ref D) (compEnvC scope cl C env)) R s := by
  refine codeAny_in
    (fun k s' => ∃ h' tk i ys m' news', s' = { s with heap := h', toks := tk } ∧ i ≤ n ∧ k = n + 1 - i ∧ ys.length ≤ B + i ∧ St i h' ∧ Fr h₀ L h' m ∧ h'.Ns C m' ∧ K m' ∧ News h₀ L h' ((D, lst ys) :: news') ∧
      Off3 I C D news' ∧ S news' ∧ J i ys news') ?_ (n + 1)
    ⟨s.heap, s.toks, 0, ys0, m0, news0, rfl, Nat.zero_le _, rfl, hlen, hst, F, hn, hk0, N, off, hS, hj⟩
  rintro k s' ⟨h', tk, i, ys, m', news', rfl, hi, rfl, hyl, hst', F', hn', hK', N', off', hS', R'⟩
  by_cases hlt : i < n
  · refine W.item i _ _ _ hlt hst' fun v h₂ tk₂ hPv hst₂ hk₂ => ?_
    refine wpAny_assign_Name (wpAny_storeName_local (lookup_relabel_local hy) (hn'.at' fun o e => hk₂ _ o (by simpa using Ne.symm hCI) e) (fun h₃ hn₃ hs₃ => ?_) (by simp [compEnvC, relabel, hkind]))
    have hst₃ : St (i + 1) h₃ := W.frame _ _ _ hst₂ fun b hb o e => hs₃.extBut b o (fun q => hCf (by have q' : b = C := q; rw [← q']; exact hb)) e
    obtain ⟨oI, heI⟩ := hIo _ _ hst₃
    obtain ⟨oC, heC, hoC⟩ := ns_obj hn₃
    have F₃ : Fr h₀ L h₃ m := (fr_but F' hk₂ hIL hI₀).change hs₃ hCL hC₀
    have off3 := off'.mem
    have N₂ : News h₀ L h₂ ((D, lst ys) :: news') := news_but N' hk₂ fun p hp => by
      rcases List.mem_cons.mp hp with rfl | hp
      · exact Ne.symm hDI
      · exact (off3 p hp).1
    have N₃ : News h₀ L h₃ ((I, oI) :: (C, oC) :: (D, lst ys) :: news') := fun p hp => by
      rcases List.mem_cons.mp hp with rfl | hp
      · exact ⟨heI, Ne.symm hIL, hI₀⟩
      · rcases List.mem_cons.mp hp with rfl | hp
        · exact ⟨heC, hCL, hC₀⟩
        · have z := N₂ p hp
          refine ⟨hs₃.extBut _ _ ?_ z.1, z.2⟩
          rcases List.mem_cons.mp hp with rfl | hp
          · exact hDC
          · exact (off3 p hp).2.1
    refine wpAny_mono (step i ys news' v oI oC _ h₃ _ _ hlt R' hPv hoC (by simp) (hK _ _ hK') F₃ N₃ off' ⟨hCI, hDI, Ne.symm hDC⟩) (fun ok s₄ h₄ => ?_) fun _ _ e => e
    cases ok with
    | true =>
      simp only [if_true] at h₄ ⊢
      refine wpAny_mono h₄ (fun y s₅ h₅ => ?_) fun _ _ e => e
      obtain ⟨h₄, tk₄, news₄, rfl, F₄, N₄, off₄, hS₄, R₄⟩ := h₅
      have zI := (N₄ (I, oI) List.mem_cons_self).1
      have zC := (N₄ (C, oC) (List.mem_cons_of_mem _ List.mem_cons_self)).1
      have zD := (N₄ (D, lst ys) (List.mem_cons_of_mem _ (List.mem_cons_of_mem _ List.mem_cons_self))).1
      have N₄' : News h₀ L h₄ news₄ := fun p hp => N₄ p (List.mem_cons_of_mem _ (List.mem_cons_of_mem _ (List.mem_cons_of_mem _ hp)))
      have hst₄ : St (i + 1) h₄ := hSt _ _ _ _ _ hst₃ heI zI F₄.keep N₄' hS₄
      refine append_at (hsz := by show ys.toArray.size ≤ sizeLine; rw [List.size_toArray]; omega) zD fun h₅ hs₅ hD₅ => ?_
      have off4 := off₄.mem
      refine ⟨n + 1 - (i + 1), by omega, h₅, tk₄, i + 1, ys ++ [y], _, news₄, rfl, hlt, rfl, by rw [List.length_append, List.length_singleton]; omega, W.frame _ _ _ hst₄ fun b hb o e => hs₅.extBut b o (fun q => hDf (q ▸ hb)) e, F₄.change hs₅ hDL hD₀,
        (hoC.ns zC).sameBut hs₅ (Ne.symm hDC), hK _ _ hK', fun p hp => ?_, off₄, hS₄, R₄⟩
      rcases List.mem_cons.mp hp with rfl | hp
      · exact ⟨hD₅.trans (congrArg some (lst_snoc ys y)), hDL, hD₀⟩
      · exact ⟨hs₅.extBut _ _ (off4 p hp).2.2 (N₄' p hp).1, (N₄' p hp).2⟩
    | false =>
      simp only [Bool.false_eq_true, if_false] at h₄ ⊢
      obtain ⟨h₅, tk₄, news₄, rfl, F₄, N₄, off₄, hS₄, R₄⟩ := h₄
      have zI := (N₄ (I, oI) List.mem_cons_self).1
      have zC := (N₄ (C, oC) (List.mem_cons_of_mem _ List.mem_cons_self)).1
      have N₄' : News h₀ L h₅ news₄ := fun p hp => N₄ p (List.mem_cons_of_mem _ (List.mem_cons_of_mem _ (List.mem_cons_of_mem _ hp)))
      have hst₄ : St (i + 1) h₅ := hSt _ _ _ _ _ hst₃ heI zI F₄.keep N₄' hS₄
      refine ⟨n + 1 - (i + 1), by omega, h₅, tk₄, i + 1, ys, _, news₄, rfl, hlt, rfl, by omega, hst₄, F₄, hoC.ns zC, hK _ _ hK', fun p hp => ?_, off₄, hS₄, R₄⟩
      rcases List.mem_cons.mp hp with rfl | hp
      · exact N₄ _ (List.mem_cons_of_mem _ (List.mem_cons_of_mem _ List.mem_cons_self))
      · exact N₄' p hp
  · obtain rfl : i = n := Nat.le_antisymm hi (Nat.not_lt.mp hlt)
    refine W.done _ _ _ hst' fun h₂ tk₂ hk₂ => ?_
    have off3 := off'.mem
    exact fin h₂ tk₂ _ ys news' R' hyl (fr_but F' hk₂ hIL hI₀) (news_but N' hk₂ fun p hp => by
      rcases List.mem_cons.mp hp with rfl | hp
      · exact Ne.symm hDI
      · exact (off3 p hp).1) off' hS' (hn'.at' fun o e => hk₂ _ o (by simpa using Ne.symm hCI) e) hK'
end
end
section
open PySem PySem.W PySem.Calls PyProof.Rows PySem.Spec PyProof.Rows.LCg
abbrev tupOf (vals : Array Value) (k : Nat) : Obj := { cls := .type "tuple", data := .seq vals k }
section
variable {prog : Program} {w : World} {A : Around} {E : Value → Shared → Prop} {h₀ : Heap} {L : Addr} {m : Str → Option Value} {env : Env}
def InRest (T I : Addr) (oT oI : Obj) (J : List Value → List (Addr × Obj) → Prop) (ys : List Value) (nx' : List (Addr × Obj)) : Prop := ∃ nx, nx' = (T, oT) :: (I, oI) :: nx ∧ (∀ p ∈ nx, p.1 ≠ I) ∧ J ys nx
theorem inner_tuple {R : Result → Shared → Prop} {elt ct iter1 iter2 : PySem.Expr} {x y : Str} {px py : Pos} {scope : Scope} {pos : Pos} {cl : List (Str × Addr)} {T I C D : Addr} {oI oC : Obj} {vals : Array Value} {kT : Nat}
    (hh : A.handled = none) (hkind : scope.kind = .function) (hy : scope.names.lookup y = some .local)
    (K : (Str → Option Value) → Prop) (hK : ∀ m v, K m → K (fun z => if z = y then some v else m z))
    (J : Nat → List Value → List (Addr × Obj) → Prop) (B : Nat) (hB : B + vals.size ≤ sizeLine) {s : Shared}
    {ys0 : List Value} {nx0 : List (Addr × Obj)} {m0 : Str → Option Value}
    (F : Fr h₀ L s.heap m) (N : News h₀ L s.heap ((T, tupOf vals kT) :: (I, oI) :: (C, oC) :: (D, lst ys0) :: nx0)) (hT : ∀ p ∈ (I, oI) :: (C, oC) :: (D, lst ys0) :: nx0, p.1 < T)
    (off : Off3 I C D nx0) (ne : (@Ne Nat I C) ∧ (@Ne Nat I D) ∧ (@Ne Nat C D)) (hoC : NsObj oC m0) (hk0 : K m0) (hj : J 0 ys0 nx0) (hlen : ys0.length ≤ B)
    (step : ∀ j ys nx v I2 oI2 oC' m₂ h tk (E' : Value → Shared → Prop), vals[j]? = some v → J j ys nx → NsObj oC' m₂ → m₂ y = some v → K m₂ → Fr h₀ L h m → News h₀ L h ((I2, oI2) :: (C, oC') :: (D, lst ys) :: (T, tupOf vals kT) :: (I, oI) :: nx) →
      Off3 I2 C D ((T, tupOf vals kT) :: (I, oI) :: nx) → ((@Ne Nat I2 C) ∧ (@Ne Nat I2 D) ∧ (@Ne Nat C D)) → (∀ p ∈ nx, p.1 ≠ I) →
      wpAny (model prog w) A (isTrue ct (compEnvC scope cl C env) (eval ct (compEnvC scope cl C env))) (fun ok s' => if ok = true then
        wpAny (model prog w) A (eval elt (compEnvC scope cl C env)) (CompEnd h₀ L m { s with heap := h, toks := tk } I2 oI2 C oC' D (lst ys) (fun nx' => (T, tupOf vals kT) ∈ nx') (fun yv nx' => InRest T I (tupOf vals kT) oI (J (j + 1)) (ys ++ [yv]) nx')) E' s'
        else CompEnd h₀ L m { s with heap := h, toks := tk } I2 oI2 C oC' D (lst ys) (fun nx' => (T, tupOf vals kT) ∈ nx') (fun _ nx' => InRest T I (tupOf vals kT) oI (J (j + 1)) ys nx') Value.none s') E' { s with heap := h, toks := tk })
    (fin : ∀ h tk m' ys nx, J vals.size ys nx → ys.length ≤ B + vals.size → Fr h₀ L h m → News h₀ L h ((I, oI) :: (D, lst ys) :: nx) → Off3 I C D nx → h.Ns C m' → R (.ok .next) { s with heap := h, toks := tk }) :
    wpAny (model prog w) A (pyIter (.ref T)) (fun it2 s₂ => codeAny (model prog w) A (.compStart (two elt ct iter1 iter2 x y px py scope pos) 1 it2 (.ref D) (compEnvC scope cl C env)) R s₂) E s := by
  have hTa := N _ (List.Mem.head _)
  have htup : s.heap.IsTuple T vals := ⟨_, hTa.1, rfl, kT, rfl⟩
  have hIn := N (I, oI) (List.mem_cons_of_mem _ (List.Mem.head _))
  have hCn := N (C, oC) (List.mem_cons_of_mem _ (List.mem_cons_of_mem _ (List.Mem.head _)))
  have hDn := N (D, lst ys0) (List.mem_cons_of_mem _ (List.mem_cons_of_mem _ (List.mem_cons_of_mem _ (List.Mem.head _))))
  have hTI : I < T := hT (I, oI) (List.Mem.head _)
  have hTC : C < T := hT (C, oC) (List.mem_cons_of_mem _ (List.Mem.head _))
  have hTD : D < T := hT (D, lst ys0) (List.mem_cons_of_mem _ (List.mem_cons_of_mem _ (List.Mem.head _)))
  have hTn : ∀ p ∈ nx0, p.1 < T := fun p hp => hT p (List.mem_cons_of_mem _ (List.mem_cons_of_mem _ (List.mem_cons_of_mem _ hp)))
  have hTs : T < s.heap.objs.size := Heap.lt_size hTa.1
  refine wpAny_pyIter_tuple htup ?_
  have hne : T ≠ s.heap.objs.size := Nat.ne_of_lt hTs
  have W := Walks.tuple (prog := prog) (w := w) hh s.heap.objs.size T hne vals
  have up : ∀ b o, s.heap.get? b = some o → (s.heap.push { cls := .type "tuple_iterator", data := .fields #[.ref T, .int 0 0] }).get? b = some o := fun b o e => Heap.get?_push_of_some _ e
  have hI₀ : h₀.get? s.heap.objs.size = none := next_is_new F
  have off3 := off.mem
  have main : codeAny (model prog w) A (.compLoop (two elt ct iter1 iter2 x y px py scope pos) 1 (.ref s.heap.objs.size) (.ref D) (compEnvC scope cl C env)) R { s with heap := s.heap.push { cls := .type "tuple_iterator", data := .fields #[.ref T, .int 0 0] } } := by
    refine inner_loop (S := fun nx' => (T, tupOf vals kT) ∈ nx') W (fun i h st => by obtain ⟨o, e, _⟩ := st.1; exact ⟨o, e⟩)
      (fun i h h' o nw st e e' k Nw Sw => ⟨by obtain ⟨o', q, r⟩ := st.1; rw [e] at q; cases q; exact ⟨o, e', r⟩, ⟨_, (Nw _ Sw).1, rfl, kT, rfl⟩⟩) hkind hy K hK ?_ ?_ (Ne.symm (Nat.ne_of_lt (Nat.lt_trans hTC hTs))) (Ne.symm (Nat.ne_of_lt (Nat.lt_trans hTD hTs))) (Ne.symm ne.2.2)
      (Nat.ne_of_lt F.ns.lt) hI₀ hCn.2.2 hDn.2.2 hCn.2.1 hDn.2.1 (fun i ys nx' => InRest T I (tupOf vals kT) oI (J i) ys nx') B hB ?_ (ys0 := ys0) (news0 := (T, tupOf vals kT) :: (I, oI) :: nx0) (m0 := m0) ⟨⟨_, Heap.get?_push_size _ rfl, rfl, rfl⟩, htup.at (up T)⟩ (F.keeps up) ?_ ?_ (List.Mem.head _) ⟨nx0, rfl, fun p hp => (off3 p hp).1, hj⟩
      ((hoC.ns hCn.1).at' (up C)) hk0 hlen ?_
    · intro hm
      rcases List.mem_cons.mp hm with e | hm
      · exact absurd (Nat.lt_trans hTC hTs) (by rw [← e]; exact Nat.lt_irrefl _)
      · exact absurd hTC (by rw [List.mem_singleton.mp hm]; exact Nat.lt_irrefl _)
    · intro hm
      rcases List.mem_cons.mp hm with e | hm
      · exact absurd (Nat.lt_trans hTD hTs) (by rw [← e]; exact Nat.lt_irrefl _)
      · exact absurd hTD (by rw [List.mem_singleton.mp hm]; exact Nat.lt_irrefl _)
    · rintro i ys nx' v oI2 oC' m₂ h tk E' hi ⟨nx, rfl, hnI, hJ⟩ hP hC' hm hKm F' N' off' ne'
      exact step i ys nx v _ oI2 oC' m₂ h tk E' hP hJ hC' hm hKm F' N' off' ne' hnI
    · intro p hp
      rcases List.mem_cons.mp hp with rfl | hp
      · exact ⟨up _ _ hDn.1, hDn.2⟩
      · rcases List.mem_cons.mp hp with rfl | hp
        · exact ⟨up _ _ hTa.1, hTa.2⟩
        · rcases List.mem_cons.mp hp with rfl | hp
          · exact ⟨up _ _ hIn.1, hIn.2⟩
          · have z := N p (List.mem_cons_of_mem _ (List.mem_cons_of_mem _ (List.mem_cons_of_mem _ (List.mem_cons_of_mem _ hp))))
            exact ⟨up _ _ z.1, z.2⟩
    · refine Off3.of fun p hp => ?_
      have hlt : p.1 < s.heap.objs.size := by
        rcases List.mem_cons.mp hp with rfl | hp
        · exact hTs
        · rcases List.mem_cons.mp hp with rfl | hp
          · exact Nat.lt_trans hTI hTs
          · exact Nat.lt_trans (hTn p hp) hTs
      refine ⟨Nat.ne_of_lt hlt, ?_⟩
      rcases List.mem_cons.mp hp with rfl | hp
      · exact ⟨Nat.ne_of_gt hTC, Nat.ne_of_gt hTD⟩
      · rcases List.mem_cons.mp hp with rfl | hp
        · exact ⟨ne.1, ne.2.1⟩
        · exact (off3 p hp).2
    · rintro h tk m' ys nx' ⟨nx, rfl, hnI, hJ⟩ hl F' N' off' _ hn' _
      refine fin h tk m' ys nx hJ hl F' (fun p hp => N' p ?_) (Off3.of fun p hp => ⟨hnI p hp, (off'.mem p (List.mem_cons_of_mem _ (List.mem_cons_of_mem _ hp))).2⟩) hn'
      rcases List.mem_cons.mp hp with rfl | hp
      · exact List.mem_cons_of_mem _ (List.mem_cons_of_mem _ (List.Mem.head _))
      · rcases List.mem_cons.mp hp with rfl | hp
        · exact List.Mem.head _
        · exact List.mem_cons_of_mem _ (List.mem_cons_of_mem _ (List.mem_cons_of_mem _ hp))
  exact codeAny_compStart_in main (wpAny_pyIter_tupleiter (i := 0) ⟨_, Heap.get?_push_size _ rfl, rfl, rfl⟩ main)
end
end
section
open PySem PySem.W PySem.Calls PyProof.Rows PySem.Spec PyProof.Rows.LCg
section
variable {prog : Program} {w : World} {A : Around} {E : Value → Shared → Prop} {h₀ : Heap} {m : Str → Option Value} {env : Env} {s : Shared}
/-- the end of one turn of the outer clause -/
def OutEnd (h₀ : Heap) (L : Addr) (m : Str → Option Value) (I : Addr) (oI : Obj) (C D : Addr) (src : Addr × Obj) (J : List Value → List (Addr × Obj) → Prop) (s₁ s₂ : Shared) : Prop :=
  ∃ h' tk ys nx m', s₂ = { s₁ with heap := h', toks := tk } ∧ Fr h₀ L h' m ∧ News h₀ L h' ((I, oI) :: (D, lst ys) :: nx) ∧ h'.Ns C m' ∧ Off3 I C D nx ∧ src ∈ nx ∧ J ys nx
theorem assign_two {elt ct iter1 iter2 : PySem.Expr} {x y z : Str} {px py pz : Pos} {scope : Scope} {pos spos : Pos} {cl : List (Str × Addr)} {Q : Flow → Shared → Prop} {ax : Addr} {vs : List Value} {k : Nat} {news : List (Addr × Obj)}
    (hh : A.handled = none) (h1 : ∀ Q : Value → Shared → Prop, Q (.ref ax) s → wpAny (model prog w) A (eval iter1 env) Q E s)
    (F : Fr h₀ env.locals s.heap m) (N : News h₀ env.locals s.heap news) (hax : (ax, listOf vs.toArray k) ∈ news)
    (hsw : swapsWith (two elt ct iter1 iter2 x y px py scope pos) (some (.Name z pz)) spos.line env = pure true)
    (hclos : closureFor scope env = pure cl) (hcell : ∀ z ∈ scope.names, z.2 ≠ .cell) (hkind : scope.kind = .function)
    (hnames : ∀ z ∈ scope.names, z.2 = .local → scope.names.lookup z.1 = some .local) (hx : scope.names.lookup x = some .local)
    (hz : env.kindOf z = some .local) (hp : (env.scope.kind == .class || (env.scope.kind == .module && env.locals != env.globals)) = false)
    (hs2 : ∀ C x, foldedSetIterable iter2 (compEnvC scope cl C env) x = pure x)
    (J : Nat → List Value → List (Addr × Obj) → Prop) (hj : J 0 [] news)
    (row : ∀ i ys nx v I oI C oC D m₂ h tk (E' : Value → Shared → Prop), vs[i]? = some v → J i ys nx → Fr h₀ env.locals h m → NsObj oC m₂ → m₂ x = some v → News h₀ env.locals h ((I, oI) :: (C, oC) :: (D, lst ys) :: nx) → Off3 I C D nx → ((@Ne Nat I C) ∧ (@Ne Nat I D) ∧ (@Ne Nat C D)) → (ax, listOf vs.toArray k) ∈ nx →
      wpAny (model prog w) A (eval iter2 (compEnvC scope cl C env)) (fun xv s₁ => wpAny (model prog w) A (pyIter xv) (fun it2 s₂ =>
        codeAny (model prog w) A (.compStart (two elt ct iter1 iter2 x y px py scope pos) 1 it2 (.ref D) (compEnvC scope cl C env))
          (fun r s' => match r with | .ok _ => OutEnd h₀ env.locals m I oI C D (ax, listOf vs.toArray k) (J (i + 1)) { s with heap := h, toks := tk } s' | .error _ => False) s₂) E' s₁) E' { s with heap := h, toks := tk })
    (fin : ∀ D h tk ys nx, J vs.length ys nx → Fr h₀ env.locals h (fun q => if q = z then some (.ref D) else m q) → News h₀ env.locals h ((D, lst ys) :: nx) → Q .next { s with heap := h, toks := tk })
    (hs : ∀ x, foldedSetIterable iter1 env x = pure x := by intro _; rfl) :
    wpAny (model prog w) A (exec (.Assign [.Name z pz] (two elt ct iter1 iter2 x y px py scope pos) spos) env) Q E s := by
  rw [exec_Assign_Name_used _ _ _ _ hsw]
  refine wpAny_bind (wpAny_standAt (wpAny_bind ?_))
  show wpAny _ A (do let _ ← comprehension (two elt ct iter1 iter2 x y px py scope pos) scope env _ (newList []) false (eval iter1 env) (some (assign (.Name z pz) env))) _ _ s
  refine wpAny_bind (wpAny_mono (wpAny_comprehension_free (use := some (assign (.Name z pz) env)) (Q := fun _ s' => Q .next s') rfl hs hclos hkind hnames
    (h1 _ ?_)) (fun _ s' hq => wpAny_pure (wpAny_pure hq)) fun _ _ e => e)
  have hl : s.heap.IsList ax vs.toArray := ⟨_, (N _ hax).1, rfl, k, rfl⟩
  have hlt : ax < s.heap.objs.size := Heap.lt_size (N _ hax).1
  refine wpAny_pyIter_list hl ?_
  have up : ∀ b o, s.heap.get? b = some o → (s.heap.push { cls := .type "list_iterator", data := .fields #[.ref ax, .int 0 0] }).get? b = some o := fun b o e => Heap.get?_push_of_some _ e
  generalize hs2' : ({ s with heap := s.heap.push { cls := .type "list_iterator", data := .fields #[.ref ax, .int 0 0] } } : Shared) = s₂
  have hH : s₂.heap = s.heap.push { cls := .type "list_iterator", data := .fields #[.ref ax, .int 0 0] } := by rw [← hs2']
  have hsz2 : s₂.heap.objs.size = s.heap.objs.size + 1 := by rw [hH, Heap.size_push]
  have up2 : ∀ b o, s.heap.get? b = some o → s₂.heap.get? b = some o := fun b o e => by rw [hH]; exact up b o e
  have hItA : s₂.heap.get? s.heap.objs.size = some { cls := .type "list_iterator", data := .fields #[.ref ax, .int 0 0] } := by rw [hH]; exact Heap.get?_push_size _ rfl
  have F2 : Fr h₀ env.locals s₂.heap m := F.keeps up2
  have N2 : News h₀ env.locals s₂.heap news := fun p hp => ⟨up2 _ _ (N p hp).1, (N p hp).2⟩
  have W := Walks.list (prog := prog) (w := w) hh s.heap.objs.size ax (Nat.ne_of_lt hlt) vs.toArray
  have hszv : vs.toArray.size = vs.length := by simp
  rw [hszv] at W
  refine wpAny_newObj_type (wpAny_newFunctionEnv hcell (by intro y hy; simp at hy) (fun h₁ hns₁ hsb₁ => ?_) hkind)
  dsimp only at hns₁ hsb₁ ⊢
  generalize hH2 : s₂.heap.push { cls := .type "list", dict := none, data := .seq ([] : List Value).toArray } = H2 at hns₁ hsb₁ ⊢
  have hC : H2.objs.size = s₂.heap.objs.size + 1 := by rw [← hH2, Heap.size_push]
  have hDC : s₂.heap.objs.size ≠ H2.objs.size := by rw [hC]; exact Nat.ne_of_lt (Nat.lt_succ_self _)
  have below : ∀ b, b < s₂.heap.objs.size → b ≠ H2.objs.size ∧ b ≠ s₂.heap.objs.size := fun b hb => ⟨by rw [hC]; exact Nat.ne_of_lt (Nat.lt_succ_of_lt hb), Nat.ne_of_lt hb⟩
  have old : ∀ b o, s₂.heap.get? b = some o → h₁.get? b = some o := fun b o e => hsb₁.extBut b o (below b (Heap.lt_size e)).1 (Heap.get?_push_of_some _ (hH2 ▸ Heap.get?_push_of_some _ e))
  have hacc : h₁.get? s₂.heap.objs.size = some (lst []) := hsb₁.extBut _ _ hDC (Heap.get?_push_of_some _ (hH2 ▸ Heap.get?_push_size _ rfl))
  have hIlt : s.heap.objs.size < s₂.heap.objs.size := by rw [hsz2]; exact Nat.lt_succ_self _
  have haxlt : ax < s₂.heap.objs.size := Nat.lt_trans hlt hIlt
  have fresh : ∀ a, s₂.heap.objs.size ≤ a → s₂.heap.get? a = none := fun a ha => by
    cases e : s₂.heap.get? a with
    | none => rfl
    | some o' => exact absurd (Heap.lt_size e) (Nat.not_lt.mpr ha)
  have fresh₀ : ∀ a, s₂.heap.objs.size ≤ a → h₀.get? a = none := fun a ha => by
    cases e : h₀.get? a with
    | none => rfl
    | some o' => have := F2.keep a o' e; rw [fresh a ha] at this; cases this
  have hD₀ : h₀.get? s₂.heap.objs.size = none := fresh₀ _ (Nat.le_refl _)
  have hC₀ : h₀.get? H2.objs.size = none := fresh₀ _ (by rw [hC]; exact Nat.le_succ _)
  have hI₀ : h₀.get? s.heap.objs.size = none := next_is_new F
  have hLlt : env.locals < s₂.heap.objs.size := F2.ns.lt
  have hIL : env.locals ≠ s.heap.objs.size := Nat.ne_of_lt F.ns.lt
  have hDL : s₂.heap.objs.size ≠ env.locals := Ne.symm (below env.locals hLlt).2
  have hCL : H2.objs.size ≠ env.locals := Ne.symm (below env.locals hLlt).1
  have hCI : s.heap.objs.size ≠ H2.objs.size := (below _ hIlt).1
  have hDI : s.heap.objs.size ≠ s₂.heap.objs.size := (below _ hIlt).2
  have hDf : s₂.heap.objs.size ∉ [s.heap.objs.size, ax] := fun hm => by
    rcases List.mem_cons.mp hm with e | hm
    · exact hDI e.symm
    · exact (below ax haxlt).2 (List.mem_singleton.mp hm).symm
  have hCf : H2.objs.size ∉ [s.heap.objs.size, ax] := fun hm => by
    rcases List.mem_cons.mp hm with e | hm
    · exact hCI e.symm
    · exact (below ax haxlt).1 (List.mem_singleton.mp hm).symm
  have off₀ : Off3 s.heap.objs.size H2.objs.size s₂.heap.objs.size news := Off3.of fun p hp => ⟨Nat.ne_of_lt (Heap.lt_size (N p hp).1), (below _ (Heap.lt_size (N2 p hp).1)).1, (below _ (Heap.lt_size (N2 p hp).1)).2⟩
  have hsh : ∀ (h' : Heap) (tk : Nat), ({ s₂ with heap := h', toks := tk } : Shared) = { s with heap := h', toks := tk } := fun h' tk => by rw [← hs2']
  have loop : codeAny (model prog w) A (.compLoop (two elt ct iter1 iter2 x y px py scope pos) 0 (.ref s.heap.objs.size) (.ref s₂.heap.objs.size) (compEnvC scope cl H2.objs.size env))
        (compPost (model prog w) A E (some (assign (.Name z pz) env)) (fun _ s' => Q .next s') (.ref s₂.heap.objs.size) H2.objs.size) { s₂ with heap := h₁, toks := s₂.toks + ([] : List (Str × Value)).length } := by
    refine codeAny_out
      (fun kk s' => ∃ h' tk i ys m' nx, s' = { s with heap := h', toks := tk } ∧ i ≤ vs.length ∧ kk = vs.length + 1 - i ∧ (h'.IsListIter s.heap.objs.size ax i ∧ h'.IsList ax vs.toArray) ∧ Fr h₀ env.locals h' m ∧ h'.Ns H2.objs.size m' ∧ News h₀ env.locals h' ((s₂.heap.objs.size, lst ys) :: nx) ∧
        Off3 s.heap.objs.size H2.objs.size s₂.heap.objs.size nx ∧ (ax, listOf vs.toArray k) ∈ nx ∧ J i ys nx) (hs2 _) ?_ (vs.length + 1)
      ⟨h₁, _, 0, [], _, news, hsh _ _, Nat.zero_le _, rfl, ⟨⟨_, old _ _ hItA, rfl, rfl⟩, hl.at fun o e => old _ _ (up2 _ _ e)⟩, F2.keeps old, hns₁, fun p hp => ?_, off₀, hax, hj⟩
    · rintro kk s' ⟨h', tk, i, ys, m', nx, rfl, hi, rfl, hst', F', hn', N', off', hax', R'⟩
      by_cases hlt' : i < vs.length
      · refine W.item i _ _ _ hlt' hst' fun v h₂ tk₂ hPv hst₂ hk₂ => ?_
        refine wpAny_assign_Name (wpAny_storeName_local (lookup_relabel_local hx) (hn'.at' fun o e => hk₂ _ o (by simpa using Ne.symm hCI) e) (fun h₃ hn₃ hs₃ => ?_) (by simp [compEnvC, relabel, hkind]))
        have hst₃ := W.frame _ _ h₃ hst₂ fun b hb o e => hs₃.extBut b o (fun q => hCf (by have q' : b = H2.objs.size := q; rw [← q']; exact hb)) e
        obtain ⟨oI, heI, _⟩ := hst₃.1
        obtain ⟨oC, heC, hoC⟩ := ns_obj hn₃
        have F₃ : Fr h₀ env.locals h₃ m := (fr_but F' hk₂ hIL hI₀).change hs₃ hCL hC₀
        have off3 := off'.mem
        have N₂ : News h₀ env.locals h₂ ((s₂.heap.objs.size, lst ys) :: nx) := news_but N' hk₂ fun p hp => by
          rcases List.mem_cons.mp hp with rfl | hp
          · exact Ne.symm hDI
          · exact (off3 p hp).1
        have N₃ : News h₀ env.locals h₃ ((s.heap.objs.size, oI) :: (H2.objs.size, oC) :: (s₂.heap.objs.size, lst ys) :: nx) := fun p hp => by
          rcases List.mem_cons.mp hp with rfl | hp
          · exact ⟨heI, Ne.symm hIL, hI₀⟩
          · rcases List.mem_cons.mp hp with rfl | hp
            · exact ⟨heC, hCL, hC₀⟩
            · have zz := N₂ p hp
              refine ⟨hs₃.extBut _ _ ?_ zz.1, zz.2⟩
              rcases List.mem_cons.mp hp with rfl | hp
              · exact hDC
              · exact (off3 p hp).2.1
        have hPv' : vs[i]? = some v := by simpa using hPv
        refine wpAny_mono (row i ys nx v _ oI _ oC _ _ h₃ _ _ hPv' R' F₃ hoC (by simp) N₃ off' ⟨hCI, hDI, Ne.symm hDC⟩ hax') (fun xv s₃ h₃' => wpAny_mono h₃' (fun it2 s₄ h₄ => codeAny_mono h₄ fun r s' hr => ?_) fun _ _ e => e) fun _ _ e => e
        cases r with
        | error e => exact hr
        | ok f =>
          obtain ⟨h₅, tk₅, ys₅, nx₅, m₅, rfl, F₅, N₅, hn₅, off₅, hax₅, J₅⟩ := hr
          have zI := (N₅ _ (List.Mem.head _)).1
          refine ⟨vs.length + 1 - (i + 1), by omega, h₅, tk₅, i + 1, ys₅, m₅, nx₅, rfl, hlt', rfl, ⟨?_, ?_⟩, F₅, hn₅, fun p hp => N₅ p (List.mem_cons_of_mem _ hp), off₅, hax₅, J₅⟩
          · obtain ⟨o', q, r⟩ := hst₃.1
            rw [heI] at q; cases q
            exact ⟨oI, zI, r⟩
          · exact ⟨_, (N₅ _ (List.mem_cons_of_mem _ (List.mem_cons_of_mem _ hax₅))).1, rfl, k, rfl⟩
      · obtain rfl : i = vs.length := Nat.le_antisymm hi (Nat.not_lt.mp hlt')
        refine W.done _ _ _ hst' fun h₂ tk₂ hk₂ => ?_
        have off3 := off'.mem
        have F₂ : Fr h₀ env.locals h₂ m := fr_but F' hk₂ hIL hI₀
        have N₂ : News h₀ env.locals h₂ ((s₂.heap.objs.size, lst ys) :: nx) := news_but N' hk₂ fun p hp => by
          rcases List.mem_cons.mp hp with rfl | hp
          · exact Ne.symm hDI
          · exact (off3 p hp).1
        have hn₂ : h₂.Ns H2.objs.size m' := hn'.at' fun o e => hk₂ _ o (by simpa using Ne.symm hCI) e
        show wpAny _ A (assign (.Name z pz) env (.ref s₂.heap.objs.size)) _ _ _
        refine wpAny_assign_Name (wpAny_storeName_local hz F₂.ns (fun h₃ hn₃ hs₃ => ?_) hp)
        have hL₀ : h₀.get? env.locals = none := Heap.get?_none_of_le F₂.above
        have F₃ : Fr h₀ env.locals h₃ (fun q => if q = z then some (.ref s₂.heap.objs.size) else m q) := ⟨hn₃, fun b o e => hs₃.extBut b o (fun q => by rw [q, hL₀] at e; cases e) (F₂.keep b o e), F₂.above⟩
        refine ⟨m', hn₂.sameBut hs₃ hCL, fun h'' hs'' => fin _ h'' _ ys nx R' (F₃.change hs'' hCL hC₀) (fun p hp => ?_)⟩
        have zz : h₃.get? p.1 = some p.2 := hs₃.extBut _ _ (N₂ p hp).2.1 (N₂ p hp).1
        refine ⟨hs''.extBut _ _ ?_ zz, (N₂ p hp).2⟩
        rcases List.mem_cons.mp hp with rfl | hp
        · exact hDC
        · exact (off3 p hp).2.1
    · rcases List.mem_cons.mp hp with rfl | hp
      · exact ⟨hacc, hDL, hD₀⟩
      · exact ⟨old _ _ (N2 p hp).1, (N2 p hp).2⟩
  refine codeAny_compStart_list loop ?_
  exact wpAny_pyIter_listiter (i := 0) ⟨_, old _ _ hItA, rfl, rfl⟩ loop
end
end
section
open PySem PySem.W PySem.Calls PyProof.Rows
local macro_rules | `(tactic| w_left) => `(tactic| (w_on; have : PySem.Challenge.rw_ek5002_01 = PySem.Challenge.rw_ek5002_01 ∧ hd.heap_39 = hd.heap_39 := by (k_fill; exact ⟨rfl, rfl⟩)))
local macro_rules | `(tactic| k_mem) => `(tactic| first | exact List.Mem.head _ | with_reducible assumption | (refine List.mem_cons_of_mem _ ?_; k_mem))
def nextOrders (rows : List (List Int)) : List (List Int) := rows.flatMap fun r => ([1, 2, 3, 4].filter (fun k => !(r.contains k))).map fun k => r ++ [k]
def ordersAt : Nat → List (List Int)
  | 0 => [[]]
  | i + 1 => nextOrders (ordersAt i)
inductive RowsAt (nx : List (Addr × Obj)) : List Value → List (List Int) → Prop
  | nil : RowsAt nx [] []
  | cons {a : Addr} {n : Nat} {us : List Value} {r : List Int} {vs : List Value} {rs : List (List Int)} : (a, listOf us.toArray n) ∈ nx → IntsAre us r → RowsAt nx vs rs → RowsAt nx (.ref a :: vs) (r :: rs)
local macro_rules | `(tactic| walk_at "exec For Name Call cons nil") => `(tactic| (k_here; (rename Fr _ _ _ _ => lF'); (with_unfolding_all refine' For_invVF lF' ?k1 ?k2 ?_; (case k1 => exact rfl); (case k2 => exact rfl); k_whole)))
local macro_rules | `(tactic| ktr_unf) => `(tactic| repeat' (first | (k_unfold; (try dsimp only)) | ((fail_if_success (with_reducible show wpAny _ _ (pyIter _) _ _ _)); first | walk1 | (dsimp only; walk1)) | fail "no step"))
theorem RowsAt.mono {nx nx' : List (Addr × Obj)} {vs : List Value} {rs : List (List Int)} (h : RowsAt nx vs rs) (hs : ∀ p ∈ nx, p ∈ nx') : RowsAt nx' vs rs := by
  induction h with
  | nil => exact .nil
  | cons hm hi _ ih => exact .cons (hs _ hm) hi ih
theorem RowsAt.length {nx : List (Addr × Obj)} {vs : List Value} {rs : List (List Int)} (h : RowsAt nx vs rs) : vs.length = rs.length := by
  induction h with
  | nil => rfl
  | cons _ _ _ ih => simp [ih]
theorem RowsAt.snoc {nx : List (Addr × Obj)} {vs : List Value} {rs : List (List Int)} {a : Addr} {n : Nat} {us : List Value} {r : List Int} (h : RowsAt nx vs rs) (hm : (a, listOf us.toArray n) ∈ nx) (hi : IntsAre us r) : RowsAt nx (vs ++ [.ref a]) (rs ++ [r]) := by
  induction h with
  | nil => exact .cons hm hi .nil
  | cons hm' hi' _ ih => exact .cons hm' hi' ih
theorem RowsAt.at {nx : List (Addr × Obj)} {vs : List Value} {rs : List (List Int)} (h : RowsAt nx vs rs) : ∀ {i : Nat} {v : Value}, vs[i]? = some v → ∃ a n us r, v = .ref a ∧ rs[i]? = some r ∧ (a, listOf us.toArray n) ∈ nx ∧ IntsAre us r := by
  induction h with
  | nil => intro i v e; simp at e
  | cons hm hi _ ih =>
    intro i v e
    cases i with
    | zero => cases e; exact ⟨_, _, _, _, rfl, rfl, hm, hi⟩
    | succ i => exact ih e
local macro_rules | `(tactic| walk_at "compareOp NotIn int ref") => `(tactic| (k_here; k_dflt (refine notin_list_ints (News.isList (by k_asm) (by k_mem)) (by assumption) ?_)))
local macro_rules | `(tactic| walk_at "binaryOp Add ref ref") => `(tactic| (k_here; k_dflt (refine' kmk_add_ints ?F ?N ?a ?b ?i ?j ?_ ?z; (case F => k_asm); (case N => k_asm); (case a => exact News.isList (by k_asm) (by k_mem)); (case b => exact News.isList (by k_asm) (by k_mem)); (case i => assumption); (case j => exact .cons _ _ .nil); (case z => (simp only [sizeLine_eq, List.length_cons, List.length_nil]; omega))); intro D' ws' h' F' N' l1 hI'; (try k_lt l1)))
theorem ordersAt_len {i : Nat} (hi : i < 4) : ∀ r ∈ ordersAt i, r.length ≤ 4 := by
  rcases (show i = 0 ∨ i = 1 ∨ i = 2 ∨ i = 3 by omega) with rfl | rfl | rfl | rfl <;> decide
theorem RowsAt.less {h₀ h : Heap} {L I : Addr} {news : List (Addr × Obj)} {o : Obj} (N : News h₀ L h news) (hI : (I, o) ∈ news) (hc : o.cls ≠ .type "list") {vs : List Value} {rs : List (List Int)} (hR : RowsAt news vs rs) : RowsAt (less I news) vs rs := by
  induction hR with
  | nil => exact .nil
  | cons hm hi _ ih => exact .cons (less_mem hm (news_ne N hI hc hm)) hi ih
theorem in_end {h₀ h' : Heap} {L I3 C D T I2 Dn ln : Addr} {m : Str → Option Value} {s₁ : Shared} {oI3 oC oT oI2 o2 : Obj} {us : List Value} {ys : List Value} {nx3 : List (Addr × Obj)} {J : List Value → List (Addr × Obj) → Prop} {tk : Nat}
    (F : Fr h₀ L h' m) (N : News h₀ L h' ((Dn, listOf us.toArray 0) :: (ln, o2) :: (I3, oI3) :: (C, oC) :: (D, LCg.lst ys) :: (T, oT) :: (I2, oI2) :: nx3))
    (l : ln < Dn ∧ I3 < Dn ∧ C < Dn ∧ D < Dn ∧ T < Dn ∧ I2 < Dn ∧ AllLt Dn nx3) (off : LCg.Off3 I3 C D ((T, oT) :: (I2, oI2) :: nx3)) (hnI : ∀ p ∈ nx3, p.1 ≠ I2) (hJ : J (ys ++ [.ref Dn]) ((Dn, listOf us.toArray 0) :: nx3)) :
    LCg.CompEnd h₀ L m s₁ I3 oI3 C oC D (LCg.lst ys) (fun nx' => (T, oT) ∈ nx') (fun yv nx' => InRest T I2 oT oI2 J (ys ++ [yv]) nx') (.ref Dn) { s₁ with heap := h', toks := tk } := by
  refine LCg.CompEnd.intro F N ((T, oT) :: (I2, oI2) :: (Dn, listOf us.toArray 0) :: nx3) ?_ ?_ (List.Mem.head _) ⟨(Dn, listOf us.toArray 0) :: nx3, rfl, ?_, hJ⟩
  · intro p hp
    simp only [List.mem_cons] at hp ⊢
    rcases hp with h | h | h | h | h | h | h <;> simp [h]
  · exact ⟨off.1, off.2.1, ⟨Nat.ne_of_gt l.2.1, Nat.ne_of_gt l.2.2.1, Nat.ne_of_gt l.2.2.2.1⟩, off.2.2⟩
  · exact List.forall_mem_cons.mpr ⟨Nat.ne_of_gt l.2.2.2.2.2.1, hnI⟩
theorem nextOrders_len : ∀ rows : List (List Int), (nextOrders rows).length ≤ 4 * rows.length := by
  intro rows
  induction rows with
  | nil => simp [nextOrders]
  | cons r rs ih =>
    have e : nextOrders (r :: rs) = (([1, 2, 3, 4].filter (fun k => !(r.contains k))).map fun k => r ++ [k]) ++ nextOrders rs := rfl
    have h := List.length_filter_le (fun k : Int => !(r.contains k)) [1, 2, 3, 4]
    rw [e, List.length_append, List.length_map]
    simp only [List.length_cons, List.length_nil] at h ⊢
    omega
theorem nextOrders_take {rows : List (List Int)} {i : Nat} {r : List Int} (h : rows[i]? = some r) : nextOrders (rows.take (i + 1)) = nextOrders (rows.take i) ++ (([1, 2, 3, 4].filter (fun k => !(r.contains k))).map fun k => r ++ [k]) := by
  unfold nextOrders
  rw [List.take_add_one, h, List.flatMap_append]
  simp
def rowsIn (r : List Int) (j : Nat) : List (List Int) := (([1, 2, 3, 4].take j).filter (fun k => !(r.contains k))).map fun k => r ++ [k]
theorem rowsIn_yes {r : List Int} {j : Nat} {k : Int} (h : ([1, 2, 3, 4] : List Int)[j]? = some k) (hk : (!(r.any (· == k))) = true) : rowsIn r (j + 1) = rowsIn r j ++ [r ++ [k]] := by
  have hn : ¬ k ∈ r := fun hm => by
    have : r.any (· == k) = true := List.any_eq_true.mpr ⟨k, hm, beq_self_eq_true k⟩
    rw [this] at hk; cases hk
  unfold rowsIn
  rw [List.take_add_one, h, List.filter_append, List.map_append]
  simp [hn]
theorem rowsIn_no {r : List Int} {j : Nat} {k : Int} (h : ([1, 2, 3, 4] : List Int)[j]? = some k) (hk : ¬ (!(r.any (· == k))) = true) : rowsIn r (j + 1) = rowsIn r j := by
  have hn : k ∈ r := by
    have h1 : r.any (· == k) = true := by
      cases e : r.any (· == k) with
      | true => rfl
      | false => exact absurd (by rw [e]; rfl) hk
    obtain ⟨x, hx, e⟩ := List.any_eq_true.mp h1
    exact (beq_iff_eq.mp e) ▸ hx
  unfold rowsIn
  rw [List.take_add_one, h, List.filter_append, List.map_append]
  simp [hn]
theorem orders_call {w : World} {p : Program} {loose : List Str} {mean : ExcName → Option Value} {mg mb : Str → Option Value} {dp un : Nat} {gd : Option (List Code)} {cn : Str} {cs : Scope} {a : Addr} {ccd : Value} {cl : List (Str × Addr)} {outer : List Env} {A₀ : Around} {base h₀ : Heap} {L : Addr} {m : Str → Option Value} {news : List (Addr × Obj)} {s : Shared} {Q E : Value → Shared → Prop} 
    (B : Below A₀ base outer h₀) (F : Fr h₀ L s.heap m) (X : (hd.heap_39 w.params).In h₀) (N : News h₀ L s.heap news) (T : Top p loose mean mg mb h₀) (hk : cs.kind = .function) (hdp : dp + 3 < recursionLimit) (hun : un + 80 < cLine)
    (hret : ∀ D vs n nx h' tk', Fr h₀ L h' m → News h₀ L h' nx → (∀ p ∈ news, p ∈ nx) → (D, listOf vs.toArray n) ∈ nx → RowsAt nx vs (ordersAt 4) → Q (.ref D) { s with heap := h', toks := tk' }) :
    wpAny (model PySem.Challenge.rw_ek5002_01.row.prog w) (ktrTop dp un gd cn cs L a ccd cl outer) (call (.ref 62) []) Q E s := by
  w_left
  refine wpAny_call ?_
  k_dflt cell_enter
  ktr_unf
  rename Fr _ _ _ _ => F1
  rename News _ _ _ (_ :: _ :: news) => N1
  rename IsRange _ _ _ _ _ _ _ _ => rg
  refine iter_range (n := 4) (fun i m nx => ∃ ax vs k, m (Str.ofString "orders") = some (.ref ax) ∧ (ax, listOf vs.toArray k) ∈ nx ∧ RowsAt nx vs (ordersAt i) ∧ (∀ p ∈ news, p ∈ nx)) rfl rg (by decide) (by decide) F1 N1
    ⟨_, _, _, rfl, List.Mem.head _, .cons (List.Mem.tail _ (List.Mem.head _)) .nil .nil, fun p hp => List.Mem.tail _ (List.Mem.tail _ hp)⟩ ?_ ?_
  · rintro i t m₁ nx h tk own I o hi ⟨ax, vs, k, hm, hax, hR, hsub⟩ hoff hown1 hown F2 N2
    clear F1 N1 rg
    rw [fix1 hm] at F2
    k_steps
    refine assign_two (ax := ax) (vs := vs) (k := k) (news := own ++ nx) (cl := []) rfl (fun Q' hQ => ld F2 rfl hQ) F2 N2 (List.mem_append_right _ hax) (by with_unfolding_all rfl) (by with_unfolding_all rfl) (by decide) rfl (by decide) rfl rfl rfl (fun _ _ => rfl)
      (fun i2 ys nx2 => (∀ p ∈ own ++ nx, p ∈ nx2) ∧ RowsAt nx2 ys (nextOrders ((ordersAt i).take i2))) ⟨fun _ z => z, .nil⟩ ?_ ?_
    · rintro i2 ys nx2 v I2 oI2 C oC D m₂ h2 tk2 E' hv ⟨hs2, hy⟩ F3 hC hx N3 off ne hax2
      obtain ⟨a9, n9, us, r, rfl, hr, ha9, hi9⟩ := hR.at hv
      have hrl := ordersAt_len hi r (List.mem_of_getElem? hr)
      k_steps
      rename News _ _ _ ((_, tupOf _ _) :: (I2, oI2) :: _) => N4
      rename Fr _ _ _ _ => F4
      rename _ ∧ _ ∧ _ ∧ AllLt _ nx2 => l4
      refine inner_tuple (y := Str.ofString "k") rfl rfl rfl (fun mm => mm (Str.ofString "order") = some (.ref a9)) (fun mm vv hm => (if_neg (by decide)).trans hm)
        (fun j ys' nx' => (∀ p ∈ own ++ nx, p ∈ nx') ∧ RowsAt nx' ys' (nextOrders ((ordersAt i).take i2) ++ rowsIn r j)) 200 (by exact Nat.le_of_ble_eq_true rfl) F4 N4 (fun p hp => kst_ltOf (show AllLt _ ((I2, oI2) :: (C, oC) :: (D, LCg.lst ys) :: nx2) from l4) p hp) off ne hC hx ⟨hs2, by simpa [rowsIn] using hy⟩ ?_ ?_ ?_
      · rw [hy.length]
        have e1 := nextOrders_len ((ordersAt i).take i2)
        have e2 : ((ordersAt i).take i2).length ≤ 24 := by
          refine Nat.le_trans (List.length_take_le' ..) ?_
          rcases (show i = 0 ∨ i = 1 ∨ i = 2 ∨ i = 3 by omega) with rfl | rfl | rfl | rfl <;> decide
        omega
      · clear N4 F4 l4
        rintro j ys' nx3 v3 I3 oI3 oC3 m₃ h3 tk3 E'' hv3 ⟨hs3, hy3⟩ hC3 hm3 hK3 F5 N5 off5 ne5 hnI
        have hK4 : m₃ (Str.ofString "order") = some (.ref a9) := hK3
        have ha3 := hs3 _ (List.mem_append_right _ ha9)
        obtain ⟨k3, t3, rfl, hj3⟩ : ∃ k3 t3, v3 = .int k3 t3 ∧ ([1, 2, 3, 4] : List Int)[j]? = some k3 := by
          rcases j with _ | _ | _ | _ | j
          · exact ⟨_, _, (Option.some.inj hv3).symm, rfl⟩
          · exact ⟨_, _, (Option.some.inj hv3).symm, rfl⟩
          · exact ⟨_, _, (Option.some.inj hv3).symm, rfl⟩
          · exact ⟨_, _, (Option.some.inj hv3).symm, rfl⟩
          · simp at hv3
        clear hv3
        k_steps
        · rename r.any _ = true => hany
          refine ce_end (by assumption) (by assumption) off5 (List.Mem.head _) ⟨nx3, rfl, hnI, hs3, ?_⟩
          rw [rowsIn_no hj3 (by rw [hany]; decide)]
          exact hy3
        · rename r.any _ = _ => hany
          rename IntsAre _ (r ++ _) => hi6
          refine in_end (by assumption) (by assumption) (by assumption) off5 hnI ⟨fun p9 h9 => List.mem_cons_of_mem _ (hs3 p9 h9), ?_⟩
          rw [rowsIn_yes hj3 (by rw [hany]; rfl), ← List.append_assoc]
          exact (hy3.mono fun p9 h9 => List.mem_cons_of_mem _ h9).snoc (List.Mem.head _) hi6
      · rintro h5 tk5 m5 ys5 nx5 ⟨hs5, hy5⟩ _ F5 N5 off5 hn5
        refine ⟨h5, tk5, ys5, nx5, m5, rfl, F5, N5, hn5, off5, hs5 _ (List.mem_append_right _ hax), hs5, ?_⟩
        rw [nextOrders_take hr]
        exact hy5
    · rintro D h5 tk5 ys nx5 ⟨hs5, hy5⟩ F5 N5
      k_steps
      have hIm : (I, o) ∈ (D, LCg.lst ys) :: nx5 := List.mem_cons_of_mem _ (hs5 _ (List.mem_append_left _ hown.1))
      refine turn_end F5 N5 (fun p9 h9 => List.mem_cons_of_mem _ (hs5 _ (List.mem_append_left _ h9))) (nx := less I ((D, LCg.lst ys) :: nx5)) less_sub less_ne ⟨D, ys, ys.length, rfl, less_mem (List.Mem.head _) (news_ne N5 hIm hown.2 (List.Mem.head _)), ?_, ?_⟩
      · rw [hR.length, List.take_length] at hy5
        exact RowsAt.less N5 hIm hown.2 (hy5.mono fun p9 h9 => List.mem_cons_of_mem _ h9)
      · exact fun p9 h9 => less_mem (List.mem_cons_of_mem _ (hs5 _ (List.mem_append_right _ (hsub p9 h9)))) (hoff p9 (hsub p9 h9))
  · rintro m₁ nx h tk ⟨ax, vs, k, hm, hax, hR, hsub⟩ F2 N2
    clear F1 N1 rg
    dsimp only
    rw [fix1 hm] at F2
    k_steps
    exact hret ax vs k nx _ _ (by assumption) (by assumption) hsub hax hR
end
section
open PySem PySem.W PySem.Calls PyProof.Rows
def P6 : List (Nat × Nat) := [(0, 1), (0, 2), (0, 3), (1, 2), (1, 3), (2, 3)]
theorem pairOf_P6 {a : Addr} {q : Nat × Nat} (h : pairOf a = some q) : q ∈ P6 := by
  rcases pair_cases h with ⟨_, rfl⟩ | ⟨_, rfl⟩ | ⟨_, rfl⟩ | ⟨_, rfl⟩ | ⟨_, rfl⟩ | ⟨_, rfl⟩ | ⟨_, rfl⟩ | ⟨_, rfl⟩ | ⟨_, rfl⟩ | ⟨_, rfl⟩ | ⟨_, rfl⟩ <;> decide
theorem Pairs.ok {as : List Addr} {net : List (Nat × Nat)} (h : Pairs as net) : ∀ q ∈ net, q ∈ P6 := by
  intro q hq
  have h1 : some q ∈ net.map some := List.mem_map.mpr ⟨q, hq, rfl⟩
  have h2 : some q ∈ as.map pairOf := by
    have e : as.map pairOf = net.map some := h
    rw [e]; exact h1
  obtain ⟨a, _, ha⟩ := List.mem_map.mp h2
  exact pairOf_P6 ha
theorem cmpRow_at {q : Nat × Nat} (hq : q ∈ P6) (a b c d : Int) :
    (q = (0, 1) ∧ cmpRow q [a, b, c, d] = if b < a then [b, a, c, d] else [a, b, c, d]) ∨ (q = (0, 2) ∧ cmpRow q [a, b, c, d] = if c < a then [c, b, a, d] else [a, b, c, d]) ∨ (q = (0, 3) ∧ cmpRow q [a, b, c, d] = if d < a then [d, b, c, a] else [a, b, c, d]) ∨
    (q = (1, 2) ∧ cmpRow q [a, b, c, d] = if c < b then [a, c, b, d] else [a, b, c, d]) ∨ (q = (1, 3) ∧ cmpRow q [a, b, c, d] = if d < b then [a, d, c, b] else [a, b, c, d]) ∨ (q = (2, 3) ∧ cmpRow q [a, b, c, d] = if d < c then [a, b, d, c] else [a, b, c, d]) := by
  simp only [P6, List.mem_cons, List.not_mem_nil, or_false] at hq
  rcases hq with rfl | rfl | rfl | rfl | rfl | rfl <;> simp [cmpRow]
theorem four {r : List Int} (h : r.length = 4) : ∃ a b c d, r = [a, b, c, d] := by
  match r, h with
  | [a, b, c, d], _ => exact ⟨a, b, c, d, rfl⟩
theorem cmpRow_len {q : Nat × Nat} (r : List Int) : (cmpRow q r).length = r.length := by
  unfold cmpRow; split <;> simp
theorem runNet_cons (q : Nat × Nat) (net : List (Nat × Nat)) (r : List Int) : runNet (q :: net) r = runNet net (cmpRow q r) := rfl
theorem runNet_len : ∀ (net : List (Nat × Nat)) (r : List Int), (runNet net r).length = r.length
  | [], _ => rfl
  | q :: net, r => by rw [runNet_cons, runNet_len net, cmpRow_len]
theorem cmpRow_perm {q : Nat × Nat} (hq : q ∈ P6) {r : List Int} (h : r.length = 4) : (cmpRow q r).Perm r := by
  obtain ⟨a, b, c, d, rfl⟩ := four h
  rcases cmpRow_at hq a b c d with ⟨_, e⟩ | ⟨_, e⟩ | ⟨_, e⟩ | ⟨_, e⟩ | ⟨_, e⟩ | ⟨_, e⟩ <;> rw [e] <;> split <;> first | exact List.Perm.refl _ | (rw [List.perm_iff_count]; intro x; simp only [List.count_cons, List.count_nil]; omega)
theorem runNet_perm : ∀ (net : List (Nat × Nat)) (r : List Int), (∀ q ∈ net, q ∈ P6) → r.length = 4 → (runNet net r).Perm r
  | [], r, _, _ => List.Perm.refl r
  | q :: net, r, hn, h => by
    rw [runNet_cons]
    exact (runNet_perm net (cmpRow q r) (fun q' hq' => hn q' (List.mem_cons_of_mem _ hq')) (by rw [cmpRow_len]; exact h)).trans (cmpRow_perm (hn q (List.mem_cons_self ..)) h)
theorem cmpRow_map {q : Nat × Nat} (hq : q ∈ P6) {r : List Int} (h : r.length = 4) (f : Int → Int) (hf : ∀ a b, a ≤ b → f a ≤ f b) : cmpRow q (r.map f) = (cmpRow q r).map f := by
  obtain ⟨a, b, c, d, rfl⟩ := four h
  have key : ∀ {x y : Int} {l l' : List Int}, (f y < f x → l = l') → True := fun _ => trivial
  have hlt : ∀ {x y : Int}, f y < f x → y < x := fun {x y} h => by
    by_cases h' : y < x
    · exact h'
    · have := hf x y (by omega); omega
  have heq : ∀ {x y : Int}, ¬ f y < f x → y < x → f y = f x := fun {x y} h h' => by have := hf y x (Int.le_of_lt h'); omega
  have e1 := cmpRow_at hq a b c d
  have e2 := cmpRow_at hq (f a) (f b) (f c) (f d)
  simp only [List.map_cons, List.map_nil]
  rcases e1 with ⟨rfl, e1⟩ | ⟨rfl, e1⟩ | ⟨rfl, e1⟩ | ⟨rfl, e1⟩ | ⟨rfl, e1⟩ | ⟨rfl, e1⟩ <;> simp at e2 <;> rw [e1, e2] <;> clear e1 e2 <;> split <;> split <;> rename_i h1 h2 <;> first
    | rfl
    | exact absurd (hlt h1) h2
    | (have := heq h1 h2; simp [this])
theorem runNet_map : ∀ (net : List (Nat × Nat)) (r : List Int), (∀ q ∈ net, q ∈ P6) → r.length = 4 → ∀ f : Int → Int, (∀ a b, a ≤ b → f a ≤ f b) → runNet net (r.map f) = (runNet net r).map f
  | [], _, _, _, _, _ => rfl
  | q :: net, r, hn, h, f, hf => by
    rw [runNet_cons, runNet_cons, cmpRow_map (hn q (List.mem_cons_self ..)) h f hf]
    exact runNet_map net _ (fun q' hq' => hn q' (List.mem_cons_of_mem _ hq')) (by rw [cmpRow_len]; exact h) f hf
def th (t x : Int) : Int := if x > t then 1 else 0
theorem th_mono (t : Int) : ∀ a b : Int, a ≤ b → th t a ≤ th t b := by
  intro a b h; unfold th; split <;> split <;> omega
def bits (k : Nat) : List Int := [((k / 8 % 2 : Nat) : Int), ((k / 4 % 2 : Nat) : Int), ((k / 2 % 2 : Nat) : Int), ((k % 2 : Nat) : Int)]
theorem cmp_orders : ∀ q ∈ P6, ∀ r ∈ ordersAt 4, cmpRow q r ∈ ordersAt 4 := by decide +kernel
theorem orders_four : ∀ r ∈ ordersAt 4, r.length = 4 := by decide +kernel
theorem runNet_orders : ∀ (net : List (Nat × Nat)) (r : List Int), (∀ q ∈ net, q ∈ P6) → r ∈ ordersAt 4 → runNet net r ∈ ordersAt 4
  | [], _, _, h => h
  | q :: net, r, hn, h => by
    rw [runNet_cons]
    exact runNet_orders net _ (fun q' hq' => hn q' (List.mem_cons_of_mem _ hq')) (cmp_orders q (hn q (List.mem_cons_self ..)) r h)
/-- the code of a row under a limit -/
def codeN (lim : Int) (r : List Int) : Nat := (if lim < r.getD 0 0 then 8 else 0) + (if lim < r.getD 1 0 then 4 else 0) + (if lim < r.getD 2 0 then 2 else 0) + (if lim < r.getD 3 0 then 1 else 0)
theorem codeN_lt (lim : Int) (r : List Int) : codeN lim r < 16 := by
  unfold codeN
  repeat' split
  all_goals decide
theorem bits_code (lim : Int) {r : List Int} (h : r.length = 4) : bits (codeN lim r) = r.map (th lim) := by
  obtain ⟨a, b, c, d, rfl⟩ := four h
  simp only [codeN, th, List.getD_cons_zero, List.getD_cons_succ, List.map_cons, List.map_nil]
  by_cases h1 : lim < a <;> by_cases h2 : lim < b <;> by_cases h3 : lim < c <;> by_cases h4 : lim < d <;> simp [h1, h2, h3, h4, bits]
abbrev Sorted (r : List Int) : Prop := r.Pairwise (· ≤ ·)
theorem sorted_map {r : List Int} (h : Sorted r) (f : Int → Int) (hf : ∀ a b, a ≤ b → f a ≤ f b) : Sorted (r.map f) := by
  unfold Sorted at *
  rw [List.pairwise_map]
  exact h.imp fun {a b} hab => hf a b hab
theorem sorted_of_th {r : List Int} (h : ∀ t, Sorted (r.map (th t))) : Sorted r := by
  unfold Sorted at *
  have h' : ∀ t, r.Pairwise fun a b => th t a ≤ th t b := fun t => List.pairwise_map.mp (h t)
  rw [List.pairwise_iff_forall_sublist]
  intro a b hab
  have e := List.pairwise_iff_forall_sublist.mp (h' b) hab
  unfold th at e
  split at e <;> split at e <;> omega
theorem sorted_eq {r s : List Int} (hp : r.Perm s) (hr : Sorted r) (hs : Sorted s) : r = s := by
  exact List.Perm.eq_of_pairwise (le := (· ≤ ·)) (fun a b _ _ h1 h2 => Int.le_antisymm h1 h2) hr hs hp
def AllZero (net : List (Nat × Nat)) : Prop := ∀ k < 16, Sorted (runNet net (bits k))
def AllOrd (net : List (Nat × Nat)) : Prop := ∀ r ∈ ordersAt 4, runNet net r = [1, 2, 3, 4]
theorem orders_th : ∀ told ∈ ordersAt 4, (∀ t ∈ ([1, 2, 3] : List Int), Sorted (told.map (th t))) → told = [1, 2, 3, 4] := by decide +kernel
theorem bits_of : ∀ k < 16, ∃ r ∈ ordersAt 4, ∃ t ∈ ([0, 1, 2, 3, 4] : List Int), bits k = r.map (th t) := by decide +kernel
theorem zero_one {net : List (Nat × Nat)} (hn : ∀ q ∈ net, q ∈ P6) : AllZero net ↔ AllOrd net := by
  constructor
  · intro hz r hr
    refine orders_th _ (runNet_orders net r hn hr) fun t _ => ?_
    rw [← runNet_map net r hn (orders_four r hr) (th t) (th_mono t), ← bits_code t (orders_four r hr)]
    exact hz _ (codeN_lt t r)
  · intro ho k hk
    obtain ⟨r, hr, t, _, e⟩ := bits_of k hk
    rw [e, runNet_map net r hn (orders_four r hr) (th t) (th_mono t), ho r hr]
    exact sorted_map (by decide) _ (th_mono t)
theorem sorts_all {net : List (Nat × Nat)} (hn : ∀ q ∈ net, q ∈ P6) (hz : AllZero net) {row s : List Int} (h4 : row.length = 4) (hp : s.Perm row) (hs : Sorted s) : runNet net row = s := by
  refine sorted_eq ((runNet_perm net row hn h4).trans hp.symm) (sorted_of_th fun t => ?_) hs
  rw [← runNet_map net row hn h4 (th t) (th_mono t), ← bits_code t h4]
  exact hz _ (codeN_lt t row)
def baseNet : List (Nat × Nat) := [(0, 1), (2, 3), (0, 2), (1, 3), (1, 2)]
theorem base_sorts : AllOrd baseNet := by unfold AllOrd; decide +kernel
theorem orders_sorted {net : List (Nat × Nat)} (hn : ∀ q ∈ net, q ∈ P6) {r s : List Int} (hr : r ∈ ordersAt 4) (hp : s.Perm (runNet net r)) (hs : Sorted s) : s = [1, 2, 3, 4] := by
  have h1 : ∀ r ∈ ordersAt 4, r.Perm [1, 2, 3, 4] := by decide +kernel
  exact sorted_eq (hp.trans (h1 _ (runNet_orders net r hn hr))) hs (by decide)
theorem th_rows {net : List (Nat × Nat)} (hn : ∀ q ∈ net, q ∈ P6) {r : List Int} (h4 : r.length = 4) (t : Int) : runNet net (bits (codeN t r)) = (runNet net r).map (th t) := by
  rw [bits_code t h4, runNet_map net r hn h4 (th t) (th_mono t)]
def cntS (net : List (Nat × Nat)) (i : Nat) : Nat := ((List.range i).filter fun k => decide (Sorted (runNet net (bits k)))).length
theorem cntS_yes {net : List (Nat × Nat)} {i : Nat} (h : Sorted (runNet net (bits i))) : cntS net (i + 1) = cntS net i + 1 := by
  unfold cntS
  rw [List.range_succ, List.filter_append, List.filter_cons_of_pos (by simpa using h), List.length_append]
  rfl
theorem cntS_no {net : List (Nat × Nat)} {i : Nat} (h : ¬ Sorted (runNet net (bits i))) : cntS net (i + 1) = cntS net i := by
  unfold cntS
  rw [List.range_succ, List.filter_append, List.filter_cons_of_neg (by simpa using h)]
  simp
theorem cntS_le (net : List (Nat × Nat)) (i : Nat) : cntS net i ≤ i := by
  have h := List.length_filter_le (fun k => decide (Sorted (runNet net (bits k)))) (List.range i)
  rw [List.length_range] at h
  exact h
theorem cntS_all (net : List (Nat × Nat)) : cntS net 16 = 16 ↔ AllZero net := by
  have h := List.length_filter_eq_length_iff (p := fun k => decide (Sorted (runNet net (bits k)))) (l := List.range 16)
  rw [List.length_range] at h
  unfold cntS AllZero
  rw [h]
  simp only [List.mem_range, decide_eq_true_eq]
theorem sort_iff {r s : List Int} (hp : s.Perm r) (hs : Sorted s) : r = s ↔ Sorted r := ⟨fun e => e ▸ hs, fun h => sorted_eq hp.symm h hs⟩
end
section
open PySem PySem.W PySem.Calls PyProof.Rows
structure Mk3 : Prop where
  mk ::
theorem slice_upto_refs {as : List Addr} {y : Int} (h : 0 ≤ y) : slicePick (as.map Value.ref).toArray none (some y) none = ((as.take y.toNat).map Value.ref).toArray := by
  have e : sliceBounds none (some y) none (as.map Value.ref).toArray.size = (((0 : Nat) : Int), ((min y.toNat (as.map Value.ref).toArray.size : Nat) : Int), 1) := by
    simp only [sliceBounds, Option.getD_none, show (1 : Int) > 0 by decide, if_true, if_neg (show ¬ (y < 0) by omega)]
    congr 1
    congr 1
    omega
  rw [kmk_pick_nat _ e]
  show (((as.map Value.ref).drop 0).take (min y.toNat (as.map Value.ref).toArray.size - 0)).toArray = _
  rw [List.drop_zero, Nat.sub_zero, List.size_toArray, kmk_take_min, List.map_take]
theorem slice_from_refs {as : List Addr} {x : Int} (h : 0 ≤ x) : slicePick (as.map Value.ref).toArray (some x) none none = ((as.drop x.toNat).map Value.ref).toArray := by
  have e : sliceBounds (some x) none none (as.map Value.ref).toArray.size = (((min x.toNat (as.map Value.ref).toArray.size : Nat) : Int), (((as.map Value.ref).toArray.size : Nat) : Int), 1) := by
    simp only [sliceBounds, Option.getD_none, show (1 : Int) > 0 by decide, if_true, if_neg (show ¬ (x < 0) by omega)]
    congr 1
    omega
  rw [kmk_pick_nat _ e]
  show (((as.map Value.ref).drop (min x.toNat (as.map Value.ref).toArray.size)).take ((as.map Value.ref).toArray.size - min x.toNat (as.map Value.ref).toArray.size)).toArray = _
  rw [List.size_toArray, kmk_drop_min, List.take_of_length_le (by rw [List.length_drop]; omega), List.map_drop]
section
variable {prog : Program} {w : World} {A : Around} {E : Value → Shared → Prop} {s : Shared} {h₀ : Heap} {L l : Addr} {m : Str → Option Value} {news : List (Addr × Obj)} {value slice : PySem.Expr} {as : List Addr} {vl vu : Value} {lo hi : Option Int} {x y : Int} {Q : Value → Shared → Prop}
theorem sl_upto {ty : Tok} (F : Fr h₀ L s.heap m) (N : News h₀ L s.heap news) (hl : s.heap.IsList l (as.map Value.ref).toArray) (h0 : 0 ≤ y)
    (h : ∀ D h', Fr h₀ L h' m → News h₀ L h' ((D, listOf ((as.take y.toNat).map Value.ref).toArray 0) :: news) → (∀ p ∈ news, p.1 < D) → Q (.ref D) { s with heap := h' })
    (hs : subscripted slice false (.ref l) (.ref s.heap.objs.size) = operate [.ref s.heap.objs.size, .ref l] (getItem (.ref l) (.ref s.heap.objs.size))) (ht : ∀ r, letTemporaryGo value (.ref l) r = pure ()) (hz : as.length ≤ 100) :
    wpAny (model prog w) A (subscriptTail value slice (.ref l) (.ref s.heap.objs.size)) Q E { s with heap := s.heap.push { cls := .type "slice", data := .fields #[.none, .int y ty, .none] } } :=
  kmk_slice F N hl IsPart.none (IsPart.int _ _) (fun D h' F' N' l1 => h D h' F' (by rw [← slice_upto_refs h0]; exact N') l1) hs ht (by rw [List.size_toArray, List.length_map, sizeLine_eq]; omega)
theorem sl_from {tx : Tok} (F : Fr h₀ L s.heap m) (N : News h₀ L s.heap news) (hl : s.heap.IsList l (as.map Value.ref).toArray) (h0 : 0 ≤ x)
    (h : ∀ D h', Fr h₀ L h' m → News h₀ L h' ((D, listOf ((as.drop x.toNat).map Value.ref).toArray 0) :: news) → (∀ p ∈ news, p.1 < D) → Q (.ref D) { s with heap := h' })
    (hs : subscripted slice false (.ref l) (.ref s.heap.objs.size) = operate [.ref s.heap.objs.size, .ref l] (getItem (.ref l) (.ref s.heap.objs.size))) (ht : ∀ r, letTemporaryGo value (.ref l) r = pure ()) (hz : as.length ≤ 100) :
    wpAny (model prog w) A (subscriptTail value slice (.ref l) (.ref s.heap.objs.size)) Q E { s with heap := s.heap.push { cls := .type "slice", data := .fields #[.int x tx, .none, .none] } } :=
  kmk_slice F N hl (IsPart.int _ _) IsPart.none (fun D h' F' N' l1 => h D h' F' (by rw [← slice_from_refs h0]; exact N') l1) hs ht (by rw [List.size_toArray, List.length_map, sizeLine_eq]; omega)
theorem len_refs (hl : s.heap.IsList l (as.map Value.ref).toArray) (hz : as.length ≤ 100) (h : Q (.int (as.length : Int) (s.toks + 1)) { s with toks := s.toks + 1 + 1 }) : wpAny (model prog w) A (call (.builtin "len") [.ref l]) Q E s := by
  have e : (as.map Value.ref).toArray.size = as.length := by simp
  exact len_list hl (by rw [e]; omega) (by rw [e]; exact h)
end
theorem NetAt.mono {nx nx' : List (Addr × Obj)} {l : Addr} {as : List Addr} (h : NetAt nx l as) (hs : ∀ p ∈ nx, p ∈ nx') : NetAt nx' l as := h.elim (fun ⟨n, hm⟩ => .inl ⟨n, hs _ hm⟩) .inr
theorem pairs_item {prog : Program} {w : World} {A : Around} {E : Value → Shared → Prop} {s : Shared} {h₀ : Heap} {L : Addr} {m : Str → Option Value} {value slice : PySem.Expr} {k : Int} {u : Tok} {Q : Value → Shared → Prop} (F : Fr h₀ L s.heap m) (X : (hd.heap_39 w.params).In h₀) (h0 : 0 ≤ k) (h1 : k < 6) (h : ∀ a q, pairOf a = some q → Q (.ref a) s)
    (hs : subscripted slice false (.ref 43) (.int k u) = operate [.ref 43, .int k u] (getItem (.ref 43) (.int k u))) : wpAny (model prog w) A (subscriptTail value slice (.ref 43) (.int k u)) Q E s := by
  have hl : (hd.heap_39 w.params).lookup 43 = some (tupOf [Value.ref 37, Value.ref 38, Value.ref 39, Value.ref 40, Value.ref 41, Value.ref 42].toArray 0) := by rfl
  rcases (show k = 0 ∨ k = 1 ∨ k = 2 ∨ k = 3 ∨ k = 4 ∨ k = 5 by omega) with rfl | rfl | rfl | rfl | rfl | rfl
  · exact topTup_K F X hl (by decide) (by decide) (j := 0) rfl rfl (h 37 _ rfl) hs
  · exact topTup_K F X hl (by decide) (by decide) (j := 1) rfl rfl (h 38 _ rfl) hs
  · exact topTup_K F X hl (by decide) (by decide) (j := 2) rfl rfl (h 39 _ rfl) hs
  · exact topTup_K F X hl (by decide) (by decide) (j := 3) rfl rfl (h 40 _ rfl) hs
  · exact topTup_K F X hl (by decide) (by decide) (j := 4) rfl rfl (h 41 _ rfl) hs
  · exact topTup_K F X hl (by decide) (by decide) (j := 5) rfl rfl (h 42 _ rfl) hs
theorem mod_any {prog : Program} {w : World} {A : Around} {E : Value → Shared → Prop} {s : Shared} {a b : Int} {t u : Tok} {Q : Value → Shared → Prop} (hb : 0 < b) (h : ∀ r tk', 0 ≤ r → r < b → Q (.int r tk') { s with toks := s.toks + 1 }) :
    wpAny (model prog w) A (binaryOp .Mod (.int a t) (.int b u)) Q E s :=
  mod_int' (by omega) (h _ _ (Int.fmod_nonneg_of_pos _ hb) (Int.fmod_lt_of_pos _ hb))
theorem Pairs.mem {as : List Addr} {net : List (Nat × Nat)} (h : Pairs as net) {a : Addr} (ha : a ∈ as) : ∃ q, pairOf a = some q := by
  obtain ⟨i, hi⟩ := List.getElem?_of_mem ha
  obtain ⟨q, hq, _⟩ := h.at hi
  exact ⟨q, hq⟩
theorem refs_of : ∀ {zs : List Value}, (∀ v ∈ zs, ∃ a q, v = .ref a ∧ pairOf a = some q) → ∃ as net, zs = as.map Value.ref ∧ Pairs as net ∧ net.length = zs.length
  | [], _ => ⟨[], [], rfl, rfl, rfl⟩
  | v :: zs, h => by
    obtain ⟨a, q, rfl, hq⟩ := h v (List.mem_cons_self ..)
    obtain ⟨as, net, rfl, hp, hl⟩ := refs_of (zs := zs) fun v hv => h v (List.mem_cons_of_mem _ hv)
    refine ⟨a :: as, q :: net, rfl, ?_, by simp [hl]⟩
    show (a :: as).map pairOf = (q :: net).map some
    rw [List.map_cons, List.map_cons, hq, show as.map pairOf = net.map some from hp]
def J3 (g : Heap) (vs0 : List Value) (c : Addr) (oc : Obj) (i : Nat) (m : Str → Option Value) (nx : List (Addr × Obj)) : Prop :=
  (∃ l, m (Str.ofString "script") = some (.ref l) ∧ g.IsList l vs0.toArray) ∧ ∃ netA as net rest, m (Str.ofString "net") = some (.ref netA) ∧ nx = (c, oc) :: rest ∧ (∀ p ∈ rest, p.1 ≠ c) ∧ NetAt rest netA as ∧ Pairs as net ∧ net.length ≤ 5 + i
theorem cell_ne {h₀ h : Heap} {L c : Addr} {news : List (Addr × Obj)} {oc : Obj} {v : Option Value} (N : News h₀ L h news) (hc : (c, oc) ∈ news) (hd : oc.data = .cell v) {a : Addr} {us : Array Value} {n : Nat} (ha : (a, listOf us n) ∈ news) : a ≠ c := by
  rintro rfl
  have e1 : h.get? a = some oc := (N _ hc).1
  have e2 : h.get? a = some (listOf us n) := (N _ ha).1
  rw [e2] at e1
  cases e1
  cases hd
theorem net_end {g h' : Heap} {L I c D l : Addr} {own tail : List (Addr × Obj)} {oc o : Obj} {vs0 zs : List Value} {i tk : Nat} {m' : Str → Option Value} {s₁ : Shared} {Q : Flow → Shared → Prop} {cv : Option Value}
    (F : Fr g L h' m') (N : News g L h' ((D, listOf zs.toArray 0) :: tail)) (hall : ∀ v ∈ zs, ∃ a q, v = .ref a ∧ pairOf a = some q) (hlen : zs.length ≤ 5 + (i + 1)) (hot : ∀ p ∈ own, p ∈ tail) (hct : (c, oc) ∈ tail) (hcd : oc.data = .cell cv)
    (hown : (I, o) ∈ own ∧ o.cls ≠ .type "list") (hcI : c ≠ I) (hs : m' (Str.ofString "script") = some (.ref l)) (hl : g.IsList l vs0.toArray) (hn : m' (Str.ofString "net") = some (.ref D)) :
    TurnPost g L I own (J3 g vs0 c oc (i + 1)) s₁ Q .next { s₁ with heap := h', toks := tk } := by
  obtain ⟨as, net, rfl, hp, hl2⟩ := refs_of hall
  refine turn_end F N (fun p hp => List.mem_cons_of_mem _ (hot p hp)) (nx := [(c, oc), (D, listOf (as.map Value.ref).toArray 0)]) ?_ ?_ ⟨⟨l, hs, hl⟩, D, as, net, [(D, listOf (as.map Value.ref).toArray 0)], hn, rfl, ?_, .inl ⟨0, List.Mem.head _⟩, hp, by rw [hl2]; exact hlen⟩
  · exact List.forall_mem_cons.mpr ⟨List.mem_cons_of_mem _ hct, List.forall_mem_cons.mpr ⟨List.Mem.head _, fun _ z => nomatch z⟩⟩
  · exact List.forall_mem_cons.mpr ⟨hcI, List.forall_mem_cons.mpr ⟨news_ne N (List.mem_cons_of_mem _ (hot _ hown.1)) hown.2 (List.Mem.head _), fun _ z => nomatch z⟩⟩
  · exact List.forall_mem_cons.mpr ⟨cell_ne N (List.mem_cons_of_mem _ hct) hcd (List.Mem.head _), fun _ z => nomatch z⟩
theorem ints_at {vs : List Value} {ns : List Int} (h : IntsAre vs ns) : ∀ {i : Nat} {v : Value}, vs[i]? = some v → ∃ n t, v = .int n t ∧ ns[i]? = some n := by
  induction h with
  | nil => intro i v e; simp at e
  | cons n t _ ih =>
    intro i v e
    cases i with
    | zero => cases e; exact ⟨_, _, rfl, rfl⟩
    | succ i => exact ih e
theorem fix3 {m : Str → Option Value} {a b c : Str} {va vb vc : Value} (h1 : m a = some va) (h2 : m b = some vb) (h3 : m c = some vc) : m = fun y => if y = a then some va else if y = b then some vb else if y = c then some vc else m y := by
  funext y
  by_cases h : y = a
  · rw [if_pos h, h, h1]
  · rw [if_neg h]
    by_cases h' : y = b
    · rw [if_pos h', h', h2]
    · rw [if_neg h']
      by_cases h'' : y = c
      · rw [if_pos h'', h'', h3]
      · rw [if_neg h'']
theorem append_less {prog : Program} {w : World} {A : Around} {E : Value → Shared → Prop} {s : Shared} {h₀ : Heap} {L D : Addr} {m : Str → Option Value} {news : List (Addr × Obj)} {its : Array Value} {n : Nat} {x : Value} {Q : Value → Shared → Prop} (F : Fr h₀ L s.heap m) (N : News h₀ L s.heap news) (hm : (D, listOf its n) ∈ news) (hsz : its.size ≤ sizeLine)
    (h : ∀ h', Fr h₀ L h' m → News h₀ L h' ((D, listOf (its.push x) (n + 1)) :: less D news) → Q .none { s with heap := h' }) : wpAny (model prog w) A (call (.builtin "list.append") [.ref D, x]) Q E s := by
  have z := N _ hm
  refine append_at (hsz := hsz) z.1 fun h' hs ho' => h h' (F.change hs z.2.1 z.2.2) fun p hp => ?_
  rcases List.mem_cons.mp hp with rfl | hp
  · exact ⟨ho', z.2⟩
  · have zz := N p (less_sub p hp)
    exact ⟨(hs.2 _ (less_ne p hp)).trans zz.1, zz.2⟩
theorem bits_int : ∀ i : Nat, i < 16 → ([((i : Int).fdiv 8).fmod 2, ((i : Int).fdiv 4).fmod 2, ((i : Int).fdiv 2).fmod 2, (i : Int).fmod 2] : List Int) = bits i := by decide +kernel
def zerosOf (net : List (Nat × Nat)) (i : Nat) : List (List Int) := (List.range i).map fun k => runNet net (bits k)
theorem zerosOf_succ (net : List (Nat × Nat)) (i : Nat) : zerosOf net (i + 1) = zerosOf net i ++ [runNet net (bits i)] := by
  unfold zerosOf; rw [List.range_succ, List.map_append]; rfl
def J5 (g : Heap) (vs0 : List Value) (c : Addr) (oc : Obj) (netA : Addr) (as : List Addr) (net : List (Nat × Nat)) (i : Nat) (m : Str → Option Value) (nx : List (Addr × Obj)) : Prop :=
  (∃ l, m (Str.ofString "script") = some (.ref l) ∧ g.IsList l vs0.toArray) ∧ m (Str.ofString "net") = some (.ref netA) ∧ ∃ zA zvs n rest, m (Str.ofString "zeros") = some (.ref zA) ∧ nx = (zA, listOf (List.toArray zvs) n) :: rest ∧ (∀ p ∈ rest, p.1 ≠ zA) ∧ (c, oc) ∈ rest ∧ NetAt rest netA as ∧ RowsAt rest zvs (zerosOf net i)
theorem append_row {prog : Program} {w : World} {A : Around} {E : Value → Shared → Prop} {s : Shared} {h₀ : Heap} {L r D1 D2 l zA : Addr} {m : Str → Option Value} {o0 o1 o2 ol : Obj} {own rest : List (Addr × Obj)} {zvs : List Value} {n : Nat} {Q : Value → Shared → Prop} (F : Fr h₀ L s.heap m)
    (N : News h₀ L s.heap ((r, o0) :: (D1, o1) :: (D2, o2) :: (l, ol) :: (own ++ (zA, listOf zvs.toArray n) :: rest))) {i : Nat} (hi : zvs.length = i) (hsz : i ≤ 50) (hf : ∀ p ∈ ((D1, o1) :: (D2, o2) :: (l, ol) :: (own ++ (zA, listOf zvs.toArray n) :: rest)), p.1 ≠ D1 → p.1 ≠ r) (hD : AllLt D1 ((D2, o2) :: (l, ol) :: (own ++ (zA, listOf zvs.toArray n) :: rest))) (hl : ∀ p ∈ own ++ (zA, listOf zvs.toArray n) :: rest, p.1 < l) (hown : ∀ p ∈ own, p.1 ≠ zA) (hrest : ∀ p ∈ rest, p.1 ≠ zA)
    (h : ∀ h', Fr h₀ L h' m → r ≠ zA → (∀ p ∈ own ++ (zA, listOf zvs.toArray n) :: rest, p.1 ≠ r) → (zvs ++ [Value.ref r])[i]? = some (.ref r) → (zvs ++ [Value.ref r]).length ≤ 100 → News h₀ L h' ((zA, listOf (zvs ++ [Value.ref r]).toArray (n + 1)) :: (r, o0) :: (l, ol) :: (own ++ rest)) → Q .none { s with heap := h' }) : wpAny (model prog w) A (call (.builtin "list.append") [.ref zA, .ref r]) Q E s := by
  have hz : (zA, listOf zvs.toArray n) ∈ own ++ (zA, listOf zvs.toArray n) :: rest := List.mem_append_right _ (List.Mem.head _)
  have hzD : zA ≠ D1 := Nat.ne_of_lt (kst_ltOf hD _ (List.mem_cons_of_mem _ (List.mem_cons_of_mem _ hz)))
  have hrz : r ≠ zA := fun e => hf _ (List.mem_cons_of_mem _ (List.mem_cons_of_mem _ (List.mem_cons_of_mem _ hz))) hzD e.symm
  have hlz : l ≠ zA := Ne.symm (Nat.ne_of_lt (hl _ hz))
  refine append_less F N (List.mem_cons_of_mem _ (List.mem_cons_of_mem _ (List.mem_cons_of_mem _ (List.mem_cons_of_mem _ hz)))) (by rw [sizeLine_eq, List.size_toArray]; omega) fun h' F' N' => ?_
  rw [show zvs.toArray.push (.ref r) = (zvs ++ [Value.ref r]).toArray by simp] at N'
  refine h h' F' hrz (fun p hp => hf p (List.mem_cons_of_mem _ (List.mem_cons_of_mem _ (List.mem_cons_of_mem _ hp))) (Nat.ne_of_lt (kst_ltOf hD _ (List.mem_cons_of_mem _ (List.mem_cons_of_mem _ hp))))) (by rw [← hi]; simp) (by rw [List.length_append, List.length_singleton]; omega) (cb_drop N' ?_)
  refine List.forall_mem_cons.mpr ⟨List.Mem.head _, List.forall_mem_cons.mpr ⟨?_, List.forall_mem_cons.mpr ⟨?_, fun p hp => ?_⟩⟩⟩
  · exact List.mem_cons_of_mem _ (less_mem (List.Mem.head _) hrz)
  · exact List.mem_cons_of_mem _ (less_mem (List.mem_cons_of_mem _ (List.mem_cons_of_mem _ (List.mem_cons_of_mem _ (List.Mem.head _)))) hlz)
  · refine List.mem_cons_of_mem _ (less_mem (List.mem_cons_of_mem _ (List.mem_cons_of_mem _ (List.mem_cons_of_mem _ (List.mem_cons_of_mem _ ?_)))) ?_)
    · exact (List.mem_append.mp hp).elim (List.mem_append_left _) fun z => List.mem_append_right _ (List.mem_cons_of_mem _ z)
    · exact (List.mem_append.mp hp).elim (hown p) (hrest p)
theorem item_at {prog : Program} {w : World} {A : Around} {E : Value → Shared → Prop} {s : Shared} {h₀ : Heap} {L D : Addr} {news : List (Addr × Obj)} {vs : List Value} {n i : Nat} {u : Tok} {k : Int} {x : Value} {value slice : PySem.Expr} {Q : Value → Shared → Prop} (N : News h₀ L s.heap news) (hm : (D, listOf vs.toArray n) ∈ news) (hk : k = (i : Int)) (hx : vs[i]? = some x) (hsz : vs.length ≤ 100) (h : Q x s)
    (hs : subscripted slice false (.ref D) (.int k u) = operate [.ref D, .int k u] (getItem (.ref D) (.int k u))) : wpAny (model prog w) A (subscriptTail value slice (.ref D) (.int k u)) Q E s := by
  subst hk
  have hlt : i < vs.length := (List.getElem?_eq_some_iff.mp hx).1
  exact item_news N hm (by omega) (by omega) (by rw [Int.toNat_natCast]; simpa using hx) h hs
theorem zeros_end {g h' : Heap} {L I c r r2 l' zA l netA : Addr} {own rest : List (Addr × Obj)} {oc o o2 ol oz : Obj} {vs0 zvs : List Value} {n k i tk : Nat} {as : List Addr} {net : List (Nat × Nat)} {b0 b1 b2 b3 : Int} {u0 u1 u2 u3 : Tok} {m' : Str → Option Value} {s₁ : Shared} {Q : Flow → Shared → Prop}
    (F : Fr g L h' m') (N : News g L h' ((r2, o2) :: (zA, listOf (zvs ++ [Value.ref r]).toArray n) :: (r, listOf #[.int b0 u0, .int b1 u1, .int b2 u2, .int b3 u3] k) :: (l', ol) :: (own ++ rest))) (hrow : [b0, b1, b2, b3] = runNet net (bits i)) (hown : (I, o) ∈ own) (hro : ∀ p ∈ own ++ (zA, oz) :: rest, p.1 ≠ r) (hrz : r ≠ zA) (hoff : ∀ p ∈ (zA, oz) :: rest, p.1 ≠ I) (hzoff : ∀ p ∈ rest, p.1 ≠ zA) (hcr : (c, oc) ∈ rest) (hnet : NetAt rest netA as) (hR : RowsAt rest zvs (zerosOf net i))
    (hs : m' (Str.ofString "script") = some (.ref l)) (hl : g.IsList l vs0.toArray) (hn : m' (Str.ofString "net") = some (.ref netA)) (hz : m' (Str.ofString "zeros") = some (.ref zA)) :
    TurnPost g L I own (J5 g vs0 c oc netA as net (i + 1)) s₁ Q .next { s₁ with heap := h', toks := tk } := by
  refine turn_end F N (by intro p9 h9; (repeat (first | exact List.mem_append_left _ h9 | refine List.mem_cons_of_mem _ ?_))) (nx := (zA, listOf (zvs ++ [Value.ref r]).toArray n) :: (r, listOf #[.int b0 u0, .int b1 u1, .int b2 u2, .int b3 u3] k) :: rest) ?_ ?_
    ⟨⟨l, hs, hl⟩, hn, zA, zvs ++ [Value.ref r], n, (r, listOf #[.int b0 u0, .int b1 u1, .int b2 u2, .int b3 u3] k) :: rest, hz, rfl, ?_, List.mem_cons_of_mem _ hcr, hnet.mono (fun p9 h9 => List.mem_cons_of_mem _ h9), ?_⟩
  · exact List.forall_mem_cons.mpr ⟨List.mem_cons_of_mem _ (List.Mem.head _), List.forall_mem_cons.mpr ⟨List.mem_cons_of_mem _ (List.mem_cons_of_mem _ (List.Mem.head _)), by intro p9 h9; (repeat (first | exact List.mem_append_right _ h9 | refine List.mem_cons_of_mem _ ?_))⟩⟩
  · exact List.forall_mem_cons.mpr ⟨hoff (zA, oz) (List.Mem.head _), List.forall_mem_cons.mpr ⟨fun e => hro _ (List.mem_append_left _ hown) e.symm, fun p9 h9 => hoff p9 (List.mem_cons_of_mem _ h9)⟩⟩
  · exact List.forall_mem_cons.mpr ⟨hrz, hzoff⟩
  · rw [zerosOf_succ, ← hrow]
    exact (hR.mono (fun p9 h9 => List.mem_cons_of_mem _ h9)).snoc (us := [_, _, _, _]) (List.Mem.head _) (.cons _ _ (.cons _ _ (.cons _ _ (.cons _ _ .nil))))
theorem fix5 {m : Str → Option Value} {a b c d e : Str} {va vb vc vd ve : Value} (h1 : m a = some va) (h2 : m b = some vb) (h3 : m c = some vc) (h4 : m d = some vd) (h5 : m e = some ve) :
    m = fun y => if y = a then some va else if y = b then some vb else if y = c then some vc else if y = d then some vd else if y = e then some ve else m y := by
  funext y
  repeat' split
  all_goals first | rfl | (subst y; assumption)
theorem ints_four {us : List Value} {r : List Int} (h : IntsAre us r) (h4 : r.length = 4) : ∃ r0 r1 r2 r3 t0 t1 t2 t3, us = [.int r0 t0, .int r1 t1, .int r2 t2, .int r3 t3] ∧ r = [r0, r1, r2, r3] := by
  rcases h with _ | ⟨r0, t0, h⟩
  · cases h4
  rcases h with _ | ⟨r1, t1, h⟩
  · cases h4
  rcases h with _ | ⟨r2, t2, h⟩
  · cases h4
  rcases h with _ | ⟨r3, t3, h⟩
  · cases h4
  rcases h with _ | ⟨r4, t4, h⟩
  · exact ⟨_, _, _, _, _, _, _, _, rfl, rfl⟩
  · simp at h4
def J7 (g : Heap) (vs0 : List Value) (c netA zA : Addr) (as : List Addr) (net : List (Nat × Nat)) (zvs : List Value) (n : Nat) (ovs : List Value) (zb : Bool) (i : Nat) (m : Str → Option Value) (nx : List (Addr × Obj)) : Prop :=
  (∃ l, m (Str.ofString "script") = some (.ref l) ∧ g.IsList l vs0.toArray) ∧ m (Str.ofString "net") = some (.ref netA) ∧ m (Str.ofString "zeros") = some (.ref zA) ∧ m (Str.ofString "zero_sorted") = some (.bool zb) ∧
  (∃ ob : Bool, m (Str.ofString "order_sorted") = some (.bool ob) ∧ (ob = true ↔ ∀ r ∈ (ordersAt 4).take i, runNet net r = [1, 2, 3, 4])) ∧ (∃ oc cv, (c, oc) ∈ nx ∧ oc.data = .cell cv) ∧
  NetAt nx netA as ∧ (zA, listOf (List.toArray zvs) n) ∈ nx ∧ RowsAt nx zvs (zerosOf net 16) ∧ RowsAt nx ovs (ordersAt 4)
end
section
open PySem PySem.W PySem.Calls PyProof.Rows
section
variable {prog : Program} {w : World} {A : Around} {E : Value → Shared → Prop} {s : Shared} {env : Env} {h₀ : Heap} {x : Str} {body : List Stmt} {Q : Flow → Shared → Prop}
theorem iter_tupT {target : Expr} {l : Addr} {its : Array Value} {m₀ : Str → Option Value} {news : List (Addr × Obj)} (J : Nat → (Str → Option Value) → List (Addr × Obj) → Prop)
    (hh : A.handled = none) (hl : s.heap.IsTuple l its) (hlL : l ≠ env.locals) (F : Fr h₀ env.locals s.heap m₀) (N : News h₀ env.locals s.heap news) (hj : J 0 m₀ news)
    (turn : ∀ i v m₁ nx s₁ own I o, its[i]? = some v → J i m₁ nx → (∀ p ∈ nx, p.1 ≠ I) → (∀ p ∈ own, p.1 = I ∨ p.1 = l) → (∀ p ∈ own, ∀ cv, p.2.data ≠ .cell cv) → ((I, o) ∈ own ∧ o.cls ≠ .type "list") → Fr h₀ env.locals s₁.heap m₁ → News h₀ env.locals s₁.heap (own ++ nx) →
      wpAny (model prog w) A (assign target env v) (fun _ s₃ => wpAny (model prog w) A (execs body env) (fun f s₂ => f = .next ∧ TurnEnd h₀ env.locals I own (J (i + 1)) s₁ s₂) E s₃) E s₁)
    (done : ∀ m₁ nx h tk, J its.size m₁ nx → Fr h₀ env.locals h m₁ → News h₀ env.locals h nx → Q .next { s with heap := h, toks := tk }) :
    wpAny (model prog w) A (pyIter (.ref l)) (fun it s₂ => LoopAtT prog w A h₀ env target body Q E it s₂) E s := by
  obtain ⟨ol, hol, hol2⟩ := id hl
  have hne : l ≠ s.heap.objs.size := Nat.ne_of_lt (Heap.lt_size hol)
  refine wpAny_pyIter_tuple hl ?_
  have W := Walks.tuple (prog := prog) (w := w) hh s.heap.objs.size l hne its
  refine ⟨_, _, _, _, _, _, m₀, news, J, rfl, W, ?_, ?_, ?_, ⟨⟨_, Heap.get?_push_size _ rfl, rfl, rfl⟩, hl.at fun o e => Heap.get?_push_of_some _ e⟩, F.push _, (fun p hp => ⟨Heap.get?_push_of_some _ (N p hp).1, (N p hp).2⟩),
    (fun i s' v Q' st hQ' => letGo_tupleiter st.1 hQ'), hj, ?_, ?_⟩
  · intro hm
    rcases List.mem_cons.mp hm with e | hm
    · exact absurd F.ns.lt (e ▸ Nat.lt_irrefl _)
    · exact hlL (List.mem_singleton.mp hm).symm
  · intro b hb; rw [List.mem_singleton.mp hb]; exact next_is_new F
  · intro p hp hq; exact absurd (Heap.lt_size (N p hp).1) (by rw [List.mem_singleton.mp hq]; exact Nat.lt_irrefl _)
  · rintro i v m₁ news₁ s₁ own hlt hP hJ hoff hfp _ hown hst' F₁ N₁
    obtain ⟨⟨o, ho, hc, _⟩, _⟩ := id hst'
    have hm : (s.heap.objs.size, o) ∈ own ∧ o.cls ≠ .type "list" := ⟨hown _ (W.sub _ (List.mem_singleton.mpr rfl)) (next_is_new F) o ho, by rw [hc]; exact fun e => absurd (Value.type.inj e) (by decide)⟩
    have hcell : ∀ p ∈ own, ∀ cv, p.2.data ≠ .cell cv := fun p hp cv e => by
      have hg := (N₁ p (List.mem_append_left _ hp)).1
      rcases (show p.1 = s.heap.objs.size ∨ p.1 = l by simpa using hfp p hp) with e1 | e1
      · obtain ⟨⟨o1, ho1, _, hd1⟩, _⟩ := id hst'
        rw [e1, ho1] at hg
        rw [← Option.some.inj hg, hd1] at e
        cases e
      · obtain ⟨_, ⟨o1, ho1, _, k1, hd1⟩⟩ := id hst'
        rw [e1, ho1] at hg
        rw [← Option.some.inj hg, hd1] at e
        cases e
    refine wpAny_mono (turn i v m₁ news₁ s₁ own _ o hP hJ (fun p hp e => hoff p hp (List.mem_singleton.mpr e)) (fun p hp => by simpa using hfp p hp) hcell hm F₁ N₁) (fun _ s₃ h₃ => wpAny_mono h₃ (fun f s₂ p => ?_) fun _ _ e => e) fun _ _ e => e
    obtain ⟨rfl, h', tk, m', news', nx, e, F', N', ho, hn, hI, hJ⟩ := p
    exact ⟨rfl, h', tk, m', nx, e, F', fun p hp => N' p ((List.mem_append.mp hp).elim (ho p) (hn p)), fun p hp hq => hI p hp (List.mem_singleton.mp hq), hJ⟩
  · intro h' tk m' news' F' N' hoff hJ
    exact done m' news' h' tk hJ F' N'
end
theorem store_cell {M : Model} {A : Around} {E : Value → Shared → Prop} {s : Shared} {h₀ : Heap} {L c : Addr} {m : Str → Option Value} {news : List (Addr × Obj)} {oc : Obj} {cv : Option Value} {env : Env} {x : Str} {v : Value} {Q : Unit → Shared → Prop} (F : Fr h₀ L s.heap m) (N : News h₀ L s.heap news) (hc : (c, oc) ∈ news) (hd : oc.data = .cell cv)
    (h : ∀ h' oc', Fr h₀ L h' m → News h₀ L h' ((c, oc') :: less c news) → oc'.data = .cell (some v) → Q () { s with heap := h' }) (hk : env.scope.kind = .function) (hl : env.kindOf x = some .cell) (hcl : env.cells.lookup x = some c) : wpAny M A (storeName env x v) Q E s := by
  have z := N _ hc
  refine wpAny_storeName_cell hk hl hcl ⟨oc, z.1, hd⟩ fun h' hv hs => ?_
  obtain ⟨o', ho', hd'⟩ := hv
  refine h h' o' (F.change hs z.2.1 z.2.2) (fun p hp => ?_) hd'
  rcases List.mem_cons.mp hp with rfl | hp
  · exact ⟨ho', z.2⟩
  · have zz := N p (less_sub p hp)
    exact ⟨(hs.2 _ (less_ne p hp)).trans zz.1, zz.2⟩
def NoList (x : Addr) (news : List (Addr × Obj)) : Prop := ∀ a us n, (a, listOf us n) ∈ news → a ≠ x
theorem noList_cell {h₀ h : Heap} {L c : Addr} {news : List (Addr × Obj)} {oc : Obj} {v : Option Value} (N : News h₀ L h news) (hc : (c, oc) ∈ news) (hd : oc.data = .cell v) : NoList c news := fun _ _ _ ha => cell_ne N hc hd ha
theorem noList_iter {h₀ h : Heap} {L I : Addr} {news : List (Addr × Obj)} {o : Obj} (N : News h₀ L h news) (hI : (I, o) ∈ news) (hc : o.cls ≠ .type "list") : NoList I news := fun _ _ _ ha => news_ne N hI hc ha
theorem RowsAt.lessN {x : Addr} {news : List (Addr × Obj)} (hx : NoList x news) {vs : List Value} {rs : List (List Int)} (hR : RowsAt news vs rs) : RowsAt (Mine.less x news) vs rs := by
  induction hR with
  | nil => exact .nil
  | cons hm hi _ ih => exact .cons (less_mem hm (hx _ _ _ hm)) hi ih
structure K8 (net : List (Nat × Nat)) (netA : Addr) (as : List Addr) (zA : Addr) (zvs : List Value) (n : Nat) (ovs : List Value) (rowA : Addr) (rowO : Array Value) (rn : Nat) (toldA : Addr) (toldO : Array Value) (tn : Nat) (nx : List (Addr × Obj)) : Prop where
  hn : NetAt nx netA as
  zs : (zA, listOf zvs.toArray n) ∈ nx
  zr : RowsAt nx zvs (zerosOf net 16)
  os : RowsAt nx ovs (ordersAt 4)
  row : (rowA, listOf rowO rn) ∈ nx
  told : (toldA, listOf toldO tn) ∈ nx
section
variable {net : List (Nat × Nat)} {netA : Addr} {as : List Addr} {zA : Addr} {zvs : List Value} {n : Nat} {ovs : List Value} {rowA : Addr} {rowO : Array Value} {rn : Nat} {toldA : Addr} {toldO : Array Value} {tn : Nat} {nx nx' : List (Addr × Obj)} {x : Addr}
theorem K8.mono (h : K8 net netA as zA zvs n ovs rowA rowO rn toldA toldO tn nx) (hs : ∀ p ∈ nx, p ∈ nx') : K8 net netA as zA zvs n ovs rowA rowO rn toldA toldO tn nx' := ⟨h.hn.mono hs, hs _ h.zs, h.zr.mono hs, h.os.mono hs, hs _ h.row, hs _ h.told⟩
theorem K8.less (h : K8 net netA as zA zvs n ovs rowA rowO rn toldA toldO tn nx) (hx : NoList x nx) : K8 net netA as zA zvs n ovs rowA rowO rn toldA toldO tn (Mine.less x nx) :=
  ⟨h.hn.elim (fun ⟨n, hm⟩ => .inl ⟨n, less_mem hm (hx _ _ _ hm)⟩) .inr, less_mem h.zs (hx _ _ _ h.zs), h.zr.lessN hx, h.os.lessN hx, less_mem h.row (hx _ _ _ h.row), less_mem h.told (hx _ _ _ h.told)⟩
end
theorem codeN_int (lim r0 r1 r2 r3 : Int) : (if lim < r0 then 8 else 0) + (if lim < r1 then 4 else 0) + (if lim < r2 then 2 else 0) + (if lim < r3 then 1 else 0) = ((codeN lim [r0, r1, r2, r3] : Nat) : Int) := by
  simp only [codeN, List.getD_cons_zero, List.getD_cons_succ]
  repeat' split
  all_goals rfl
theorem code_callN {w : World} {p : Program} {loose : List Str} {mean : ExcName → Option Value} {mg mb : Str → Option Value} {dp un : Nat} {gd : Option (List Code)} {cn : Str} {cs : Scope} {a : Addr} {ccd : Value} {cl : List (Str × Addr)} {outer : List Env} {A₀ : Around} {base h₀ : Heap} {L : Addr} {m : Str → Option Value} {news : List (Addr × Obj)} {s : Shared} {Q E : Value → Shared → Prop} 
    {row : Addr} {n : Nat} {r0 r1 r2 r3 lim : Int} {t0 t1 t2 t3 tl : Tok}
    (B : Below A₀ base outer h₀) (F : Fr h₀ L s.heap m) (X : (hd.heap_39 w.params).In h₀) (N : News h₀ L s.heap news) (T : Top p loose mean mg mb h₀) (hk : cs.kind = .function) (hdp : dp + 3 < recursionLimit) (hun : un + 80 < cLine)
    (hrow : (row, listOf #[.int r0 t0, .int r1 t1, .int r2 t2, .int r3 t3] n) ∈ news)
    (hret : ∀ (c : Nat) t h' tk', c = codeN lim [r0, r1, r2, r3] → Fr h₀ L h' m → News h₀ L h' news → Q (.int (c : Int) t) { s with heap := h', toks := tk' }) :
    wpAny (model PySem.Challenge.rw_ek5002_01.row.prog w) (ktrTop dp un gd cn cs L a ccd cl outer) (call (.ref 67) [.ref row, .int lim tl]) Q E s :=
  code_call B F X N T hk hdp hun hrow fun c t h' tk' F' N' e => by
    rw [e, codeN_int]
    exact hret _ t h' tk' rfl F' N'
theorem own_ne {h₀ h : Heap} {L c : Addr} {own nx : List (Addr × Obj)} {oc : Obj} {v : Option Value} (N : News h₀ L h (own ++ nx)) (hc : (c, oc) ∈ nx) (hd : oc.data = .cell v) (hcell : ∀ p ∈ own, ∀ cv, p.2.data ≠ .cell cv) : ∀ p ∈ own, p.1 ≠ c := by
  intro p hp e
  have e1 := (N p (List.mem_append_left _ hp)).1
  have e2 := (N _ (List.mem_append_right own hc)).1
  rw [e, e2] at e1
  exact hcell p hp v (by rw [← Option.some.inj e1]; exact hd)
theorem fix7 {m : Str → Option Value} {a b c d e f g : Str} {va vb vc vd ve vf vg : Value} (h1 : m a = some va) (h2 : m b = some vb) (h3 : m c = some vc) (h4 : m d = some vd) (h5 : m e = some ve) (h6 : m f = some vf) (h7 : m g = some vg) :
    m = fun y => if y = a then some va else if y = b then some vb else if y = c then some vc else if y = d then some vd else if y = e then some ve else if y = f then some vf else if y = g then some vg else m y := by
  funext y
  repeat' split
  all_goals first | rfl | (subst y; assumption)
def J8 (g : Heap) (vs0 : List Value) (c netA zA : Addr) (as : List Addr) (net : List (Nat × Nat)) (zvs : List Value) (n : Nat) (ovs : List Value) (zb : Bool) (a9 : Addr) (r0 r1 r2 r3 : Int) (t0 t1 t2 t3 : Tok) (n9 : Nat) (own : List (Addr × Obj)) (ob : Bool) (_ : Nat) (m : Str → Option Value) (nx : List (Addr × Obj)) : Prop :=
  (∃ l, m (Str.ofString "script") = some (.ref l) ∧ g.IsList l vs0.toArray) ∧ m (Str.ofString "net") = some (.ref netA) ∧ m (Str.ofString "zeros") = some (.ref zA) ∧ m (Str.ofString "zero_sorted") = some (.bool zb) ∧
  m (Str.ofString "order_sorted") = some (.bool ob) ∧ m (Str.ofString "row") = some (.ref a9) ∧ (∃ oc cv, (c, oc) ∈ nx ∧ oc.data = .cell cv) ∧ (∀ p ∈ own, p ∈ nx) ∧
  ∃ tA b0 b1 b2 b3 u0 u1 u2 u3 tn, m (Str.ofString "told") = some (.ref tA) ∧ [b0, b1, b2, b3] = runNet net [r0, r1, r2, r3] ∧
  K8 net netA as zA zvs n ovs a9 #[.int r0 t0, .int r1 t1, .int r2 t2, .int r3 t3] n9 tA #[.int b0 u0, .int b1 u1, .int b2 u2, .int b3 u3] tn nx
theorem take_iff {ob : Bool} {l : List (List Int)} {i : Nat} {r : List Int} {net : List (Nat × Nat)} (hob : ob = true ↔ ∀ r ∈ l.take i, runNet net r = [1, 2, 3, 4]) (hr : l[i]? = some r) (h : runNet net r = [1, 2, 3, 4]) : ob = true ↔ ∀ r ∈ l.take (i + 1), runNet net r = [1, 2, 3, 4] := by
  rw [hob, List.take_add_one, hr]
  constructor
  · intro a r' hr'
    rcases List.mem_append.mp hr' with z | z
    · exact a r' z
    · rw [List.mem_singleton.mp z]; exact h
  · exact fun a r' hr' => a r' (List.mem_append_left _ hr')
theorem take_not {l : List (List Int)} {i : Nat} {r : List Int} {net : List (Nat × Nat)} (hr : l[i]? = some r) (h : ¬ runNet net r = [1, 2, 3, 4]) : false = true ↔ ∀ r ∈ l.take (i + 1), runNet net r = [1, 2, 3, 4] := by
  rw [List.take_add_one, hr]
  exact ⟨(fun z => nomatch z), fun a => absurd (a r (List.mem_append_right _ (List.Mem.head _))) h⟩
theorem ints_of3 {i : Nat} {v : Value} {u1 u2 u3 : Tok} (h : #[Value.int 1 u1, Value.int 2 u2, Value.int 3 u3][i]? = some v) : ∃ k u, v = .int k u := by
  rcases i with _ | _ | _ | i
  · exact ⟨_, _, (Option.some.inj h).symm⟩
  · exact ⟨_, _, (Option.some.inj h).symm⟩
  · exact ⟨_, _, (Option.some.inj h).symm⟩
  · simp at h
theorem zero_at {net : List (Nat × Nat)} {nx : List (Addr × Obj)} {zvs : List Value} (hn : ∀ q ∈ net, q ∈ P6) (hR : RowsAt nx zvs (zerosOf net 16)) {r b : List Int} (h4 : r.length = 4) (hb : b = runNet net r) (k : Int) : ∃ zr nr us, (∀ c, c = codeN k r → zvs[c]? = some (.ref zr)) ∧ (zr, listOf (List.toArray us) nr) ∈ nx ∧ IntsAre us (b.map (th k)) := by
  have hl : zvs.length = 16 := by rw [hR.length]; simp [zerosOf]
  have hlt := codeN_lt k r
  have e := List.getElem?_eq_getElem (l := zvs) (i := codeN k r) (by omega)
  obtain ⟨zr, nr, us, r9, hv, hr9, hm, hi⟩ := hR.at e
  refine ⟨zr, nr, us, fun c hc => hc ▸ e.trans (congrArg some hv), hm, ?_⟩
  have e2 : r9 = runNet net (bits (codeN k r)) := by
    unfold zerosOf at hr9
    rw [List.getElem?_map, List.getElem?_range hlt] at hr9
    exact (Option.some.inj hr9).symm
  rw [hb, ← th_rows hn h4 k, ← e2]
  exact hi
theorem limit_load {M : Model} {A : Around} {E : Value → Shared → Prop} {s : Shared} {h₀ : Heap} {L c : Addr} {news : List (Addr × Obj)} {oc : Obj} {env : Env} {x : Str} {pos : Pos} {v : Value} {Q : Value → Shared → Prop} (N : News h₀ L s.heap news) (hc : (c, oc) ∈ news) (hd : oc.data = .cell (some v)) (h : Q v s)
    (hk : env.scope.kind = .function) (hl : env.kindOf x = some .cell) (hcl : env.cells.lookup x = some c) (hb : (x == ("__debug__" : Str)) = false) : wpAny M A (eval (.Name x pos) env) Q E s :=
  wpAny_Name (wpAny_loadName_cell hk hl hcl ⟨oc, (N _ hc).1, hd⟩ h) hb
theorem ints_of4 {i : Nat} {v : Value} {b0 b1 b2 b3 : Int} {u0 u1 u2 u3 : Tok} (h : #[Value.int b0 u0, Value.int b1 u1, Value.int b2 u2, Value.int b3 u3][i]? = some v) : ∃ k u, v = .int k u ∧ [b0, b1, b2, b3][i]? = some k := by
  rcases i with _ | _ | _ | _ | i
  · exact ⟨_, _, (Option.some.inj h).symm, rfl⟩
  · exact ⟨_, _, (Option.some.inj h).symm, rfl⟩
  · exact ⟨_, _, (Option.some.inj h).symm, rfl⟩
  · exact ⟨_, _, (Option.some.inj h).symm, rfl⟩
  · simp at h
theorem th_take {l : List Int} {j : Nat} {b k : Int} (h : l[j]? = some b) : (l.take (j + 1)).map (th k) = (l.take j).map (th k) ++ [th k b] := by
  rw [List.take_add_one, h, List.map_append]; rfl
theorem th_yes {k b : Int} (h : k < b) : th k b = 1 := if_pos h
theorem th_no {k b : Int} (h : ¬ k < b) : th k b = 0 := if_neg h
theorem inner_end {g h' : Heap} {L I8 c netA zA a9 tA l : Addr} {ownI nx8 own news' : List (Addr × Obj)} {o8 oc' : Obj} {vs0 zvs ovs : List Value} {as : List Addr} {net : List (Nat × Nat)} {n n9 tn i tk : Nat} {zb ob : Bool} {r0 r1 r2 r3 b0 b1 b2 b3 : Int} {t0 t1 t2 t3 u0 u1 u2 u3 : Tok} {m' : Str → Option Value} {s₁ : Shared} {cv' : Option Value}
    (F : Fr g L h' m') (N : News g L h' news') (hnews : ∀ p ∈ (c, oc') :: less c (ownI ++ nx8), p ∈ news') (hd' : oc'.data = .cell cv') (hown : (I8, o8) ∈ ownI ∧ o8.cls ≠ .type "list") (hcI : c ≠ I8) (hcell : ∀ p ∈ ownI, p.1 ≠ c) (hsub8 : ∀ p ∈ own, p ∈ nx8) (hownc : ∀ p ∈ own, p.1 ≠ c) (hoff8 : ∀ p ∈ nx8, p.1 ≠ I8)
    (hKc : K8 net netA as zA zvs n ovs a9 #[.int r0 t0, .int r1 t1, .int r2 t2, .int r3 t3] n9 tA #[.int b0 u0, .int b1 u1, .int b2 u2, .int b3 u3] tn (less c (ownI ++ nx8))) (htold : [b0, b1, b2, b3] = runNet net [r0, r1, r2, r3])
    (hl : g.IsList l vs0.toArray) (h1 : m' (Str.ofString "script") = some (.ref l)) (h2 : m' (Str.ofString "net") = some (.ref netA)) (h3 : m' (Str.ofString "zeros") = some (.ref zA)) (h4 : m' (Str.ofString "zero_sorted") = some (.bool zb)) (h5 : m' (Str.ofString "order_sorted") = some (.bool ob)) (h6 : m' (Str.ofString "row") = some (.ref a9)) (h7 : m' (Str.ofString "told") = some (.ref tA)) :
    TurnEnd g L I8 ownI (J8 g vs0 c netA zA as net zvs n ovs zb a9 r0 r1 r2 r3 t0 t1 t2 t3 n9 own ob (i + 1)) s₁ { s₁ with heap := h', toks := tk } := by
  have N' := cb_drop N hnews
  have hI : (I8, o8) ∈ (c, oc') :: less c (ownI ++ nx8) := List.mem_cons_of_mem _ (less_mem (List.mem_append_left _ hown.1) (Ne.symm hcI))
  refine ⟨h', tk, m', _, less I8 ((c, oc') :: less c (ownI ++ nx8)), rfl, F, N', fun p hp => List.mem_cons_of_mem _ (less_mem (List.mem_append_left _ hp) (hcell p hp)), less_sub, less_ne,
    ⟨l, h1, hl⟩, h2, h3, h4, h5, h6, ⟨oc', cv', less_mem (List.Mem.head _) hcI, hd'⟩, fun p hp => less_mem (List.mem_cons_of_mem _ (less_mem (List.mem_append_right _ (hsub8 p hp)) (hownc p hp))) (hoff8 p (hsub8 p hp)), tA, b0, b1, b2, b3, u0, u1, u2, u3, tn, h7, htold, ?_⟩
  exact (hKc.mono (fun p hp => List.mem_cons_of_mem _ hp)).less (noList_iter N' hI hown.2)
end
section
open PySem PySem.W PySem.Calls PyProof.Rows PyProof.V PySem.Spec PySem.SeqAt
def pd (q : Nat × Nat) : PyData := .tuple [.int (q.1 : Int), .int (q.2 : Int)]
theorem reads_pair {w : World} {h₀ h : Heap} {L a : Addr} {m : Str → Option Value} {q : Nat × Nat} (F : Fr h₀ L h m) (X : (hd.heap_39 w.params).In h₀) (hq : pairOf a = some q) : Reads h (.ref a) (pd q) [] := by
  have key : ∀ {x y : Int} {o : Obj} {t u : Tok} {n : Nat}, (hd.heap_39 w.params).lookup a = some o → o.cls = .type "tuple" → o.data = .seq #[.int x t, .int y u] n → Reads h (.ref a) (.tuple [.int x, .int y]) [] := fun {x y o t u n} e1 e2 e3 =>
    Reads.tuple (F.keep _ _ (X _ _ e1)) e2 e3 (.cons (.int _ _) (.cons (.int _ _) .nil))
  rcases pair_cases hq with ⟨rfl, rfl⟩ | ⟨rfl, rfl⟩ | ⟨rfl, rfl⟩ | ⟨rfl, rfl⟩ | ⟨rfl, rfl⟩ | ⟨rfl, rfl⟩ | ⟨rfl, rfl⟩ | ⟨rfl, rfl⟩ | ⟨rfl, rfl⟩ | ⟨rfl, rfl⟩ | ⟨rfl, rfl⟩
  all_goals exact key (by rfl) (by rfl) (by rfl)
theorem reads_pairs {w : World} {h₀ h : Heap} {L : Addr} {m : Str → Option Value} (F : Fr h₀ L h m) (X : (hd.heap_39 w.params).In h₀) : ∀ {as : List Addr} {net : List (Nat × Nat)}, Pairs as net → ReadsAll h (as.map Value.ref) (net.map pd) []
  | [], [], _ => .nil
  | [], _ :: _, e => nomatch (show [] = _ from e)
  | _ :: _, [], e => nomatch (show _ = [] from e)
  | a :: as, q :: net, e => by
    have e' : pairOf a :: as.map pairOf = some q :: net.map some := e
    have h1 := reads_pair F X (List.cons.inj e').1
    have h2 := reads_pairs F X (as := as) (net := net) (List.cons.inj e').2
    exact ReadsAll.cons (as := []) (bs := []) h1 h2
theorem reads_net {h : Heap} {a : Addr} {vs : List Value} {ds : List PyData} (hl : h.IsList a vs.toArray) (hi : ReadsAll h vs ds []) : Reads h (.ref a) (.list ds) [a] := by
  obtain ⟨o, ho, hc, n, hd⟩ := hl
  exact Reads.list ho hc hd (by simpa using hi)
theorem canLay_pairs : ∀ ns : List (Nat × Nat), PyData.canLayAll0 (ns.map pd) = true
  | [] => by simp [PyData.canLayAll0]
  | n :: r => by simp [PyData.canLayAll0, PyData.canLay0, pd, canLay_pairs r]
theorem depth_pairs : ∀ ns : List (Nat × Nat), PyData.depthAll (ns.map pd) ≤ 4
  | [] => by simp [PyData.depthAll]
  | n :: r => by
    have := depth_pairs r
    simp only [List.map_cons, PyData.depthAll, PyData.depth, pd]
    omega
theorem shaped_pairs (ns : List (Nat × Nat)) : shaped (.list (ns.map pd)) = true := by
  have h1 := depth_pairs ns
  have h2 : PyData.depth (.list (ns.map pd)) ≤ 64 := by simp only [PyData.depth]; omega
  show (PyData.canLay0 (.list (ns.map pd)) && decide (PyData.depth (.list (ns.map pd)) ≤ 64)) = true
  rw [Bool.and_eq_true]
  exact ⟨by simp only [PyData.canLay0]; exact canLay_pairs ns, decide_eq_true h2⟩
theorem noMix_pairs : ∀ ns ms : List (Nat × Nat), noMixAll (ns.map pd) (ms.map pd) = true
  | [], [] => by simp [noMixAll]
  | [], _ :: _ => by simp [noMixAll]
  | _ :: _, [] => by simp [noMixAll]
  | _ :: r, _ :: q => by simp [noMixAll, noMix, pd, noMix_pairs r q]
theorem same_pairs : ∀ ns ms : List (Nat × Nat), PySem.Spec.sameAll (ns.map pd) (ms.map pd) = decide (ns = ms)
  | [], [] => by simp [PySem.Spec.sameAll]
  | [], _ :: _ => by simp [PySem.Spec.sameAll]
  | _ :: _, [] => by simp [PySem.Spec.sameAll]
  | (a, b) :: r, (c, d) :: q => by
    simp only [List.map_cons, PySem.Spec.sameAll, PySem.Spec.same, same_pairs r q, pd]
    by_cases h : a = c <;> by_cases h' : b = d <;> simp [h, h', Int.natCast_inj]
theorem net_ne {prog : Program} {w : World} {A : Around} {E : Value → Shared → Prop} {s : Shared} {h₀ : Heap} {L netA : Addr} {m : Str → Option Value} {nx : List (Addr × Obj)} {as : List Addr} {net : List (Nat × Nat)} {Q : Value → Shared → Prop} (F : Fr h₀ L s.heap m) (N : News h₀ L s.heap nx) (X : (hd.heap_39 w.params).In h₀) (ha : NetAt nx netA as) (hp : Pairs as net) (hu : A.units + 64 < cLine) (hne : net ≠ baseNet)
    (h : Q (.bool true) s) : wpAny (model prog w) A (compareOp .NotEq (.ref netA) (.ref 36)) Q E s := by
  have hb : NetAt nx 36 [31, 32, 33, 34, 35] := .inr ⟨rfl, rfl⟩
  have r1 := reads_net (ha.isList F N X).1 (reads_pairs F X hp)
  have r2 := reads_net (hb.isList F N X).1 (reads_pairs F X (net := baseNet) rfl)
  refine ne_dataH_same r1 r2 (shaped_pairs net) (shaped_pairs baseNet) hu (by simp only [noMix]; exact noMix_pairs net baseNet) ?_
  simp only [PySem.Spec.same]
  rw [same_pairs, decide_eq_false hne]
  exact h
theorem ints_of2 {i : Nat} {v : Value} {u1 u2 : Tok} (h : #[Value.int 0 u1, Value.int 4 u2][i]? = some v) : ∃ k u, v = .int k u ∧ (k = 0 ∨ k = 4) := by
  rcases i with _ | _ | i
  · exact ⟨_, _, (Option.some.inj h).symm, .inl rfl⟩
  · exact ⟨_, _, (Option.some.inj h).symm, .inr rfl⟩
  · simp at h
def J11 (g : Heap) (vs0 : List Value) (netA : Addr) (as : List Addr) (_ : Nat) (m : Str → Option Value) (nx : List (Addr × Obj)) : Prop :=
  (∃ l, m (Str.ofString "script") = some (.ref l) ∧ g.IsList l vs0.toArray) ∧ m (Str.ofString "net") = some (.ref netA) ∧ NetAt nx netA as
theorem turn_go {h₀ h' : Heap} {L I : Addr} {own news' nx : List (Addr × Obj)} {J : (Str → Option Value) → List (Addr × Obj) → Prop} {s₁ : Shared} {tk : Nat} {m' : Str → Option Value} (F : Fr h₀ L h' m') (N : News h₀ L h' news')
    (ho : ∀ p ∈ own, p ∈ news') (hn : ∀ p ∈ nx, p ∈ news') (hI : ∀ p ∈ nx, p.1 ≠ I) (hJ : J m' nx) : TurnEnd h₀ L I own J s₁ { s₁ with heap := h', toks := tk } := ⟨h', tk, m', news', nx, rfl, F, N, ho, hn, hI, hJ⟩
end
section
open PySem PySem.W PySem.Calls PyProof.Rows
local macro_rules | `(tactic| k_mem) => `(tactic| first | exact List.Mem.head _ | with_reducible assumption | (refine List.mem_cons_of_mem _ ?_; k_mem))
local macro_rules | `(tactic| walk_at "call ref") => `(tactic| (k_here; (with_reducible show wpAny _ _ (call (Value.ref 21) _) _ _ _); k_dflt (refine' gt_call ?k1 ?k2 ?k3 ?k4 ?k5 ?kK ?kd ?ku ?_; (case k1 => k_asm); (case k2 => k_asm); (case k3 => k_asm); (case k4 => k_asm); (case k5 => k_asm); (case kK => first | exact rfl | assumption); (case kd => decide); (case ku => exact Nat.le_of_ble_eq_true rfl); intro h' tk' F' N')))
local macro_rules | `(tactic| ktr_unf) => `(tactic| repeat' (first | (k_unfold; (try dsimp only)) | ((fail_if_success (with_reducible show wpAny _ _ (pyIter _) _ _ _)); first | walk1 | (dsimp only; walk1)) | fail "no step"))
local macro_rules | `(tactic| walk_at "exec For Name BinOp cons nil") => `(tactic| (k_here; (with_reducible rename Fr _ _ _ _ => lF'); (with_unfolding_all refine' For_invVF lF' ?k1 ?k2 ?_; (case k1 => exact rfl); (case k2 => exact rfl); k_whole)))
local macro_rules | `(tactic| walk_at "exec For Name Subscript cons nil") => `(tactic| (k_here; (with_reducible rename Fr _ _ _ _ => lF'); (with_unfolding_all refine' For_invVF lF' ?k1 ?k2 ?_; (case k1 => exact rfl); (case k2 => exact rfl); k_whole)))
local macro_rules | `(tactic| walk_at "exec For Name Call cons nil") => `(tactic| (k_here; (with_reducible rename Fr _ _ _ _ => lF'); (with_unfolding_all refine' For_invVF lF' ?k1 ?k2 ?_; (case k1 => exact rfl); (case k2 => exact rfl); k_whole)))
local macro_rules | `(tactic| kby_size) => `(tactic| (intro p9 h9; (repeat (first | exact h9 | refine List.mem_cons_of_mem _ ?_ | refine List.mem_append_right _ ?_))))
local macro_rules | `(tactic| lcg_src) => `(tactic| ((with_reducible rename NetAt _ _ _ => hNA9); (with_reducible rename Fr _ _ _ _ => hFr9); (with_reducible rename News _ _ _ _ => hNw9); (with_reducible rename Frag.In _ _ => hX9); exact (NetAt.isList (NetAt.mono hNA9 (by kby_size)) hFr9 hNw9 hX9).1))
local macro_rules | `(tactic| walk_at "call builtin:len") => `(tactic| (k_here; (with_reducible show wpAny _ _ (call (Value.builtin "len") [Value.ref _]) _ _ _); (with_reducible rename NetAt _ _ _ => hNA8); k_dflt (refine len_refs (by lcg_src) (by omega) ?_)))
local macro_rules | `(tactic| walk_at "subscriptTail Name Slice ref ref") => `(tactic| (k_here; (with_reducible rename NetAt _ _ _ => hNA8); k_dflt (refine' sl_upto ?F ?N ?l ?p ?_ ?s ?t ?z; (case F => k_asm); (case N => k_asm); (case l => lcg_src); (case p => omega); (case s => with_unfolding_all rfl); (case t => kmk_pure); (case z => omega)); intro D' h' F' N' l1; (try k_lt l1)))
local macro_rules | `(tactic| walk_at "subscriptTail Name Slice ref ref") => `(tactic| (k_here; (with_reducible rename NetAt _ _ _ => hNA8); k_dflt (refine' sl_from ?F ?N ?l ?p ?_ ?s ?t ?z; (case F => k_asm); (case N => k_asm); (case l => lcg_src); (case p => omega); (case s => with_unfolding_all rfl); (case t => kmk_pure); (case z => omega)); intro D' h' F' N' l1; (try k_lt l1)))
local macro_rules | `(tactic| walk_at "binaryOp Add ref ref") => `(tactic| (k_here; (with_reducible show wpAny _ _ (binaryOp _ (Value.ref _) (Value.ref _)) _ _ _); (have hMk3 : Mk3 := by with_reducible assumption); clear hMk3; k_dflt (refine' kmk_add_lit ?gF ?gN ?ga ?gb ?ge ?_ ?gz; (case gF => k_asm); (case gN => k_asm); (case ga => exact News.isList (by k_asm) (by k_mem)); (case gb => exact News.isList (by k_asm) (by k_mem)); (case ge => rfl); (case gz => (simp only [sizeLine_eq, List.length_cons, List.length_nil, List.length_append, List.length_map, List.length_take, List.length_drop]; omega))); intro D' h' F' N' l1; (try k_lt l1)))
local macro_rules | `(tactic| walk_at "binaryOp Mod int int") => `(tactic| ((have hMk3 : Mk3 := by with_reducible assumption); clear hMk3; k_dflt (refine mod_any (by omega) ?_); intro r9 tk9 hr9 hs9))
local macro_rules | `(tactic| walk_at "subscriptTail") => `(tactic| ((have hMk3 : Mk3 := by with_reducible assumption); clear hMk3; (with_reducible rename Fr _ _ _ _ => hFr9); (with_reducible rename Frag.In _ _ => hX9); k_dflt (refine' pairs_item hFr9 hX9 ?p ?q ?_ ?s; (case p => omega); (case q => omega); (case s => with_unfolding_all rfl)); intro a9 q9 hq9))
local macro_rules | `(tactic| walk_at "call ref") => `(tactic| (k_here; (with_reducible show wpAny _ _ (call (Value.ref 30) _) _ _ _); k_dflt (refine' red_call ?g1 ?g2 ?g3 ?g4 ?g5 ?gK ?gd ?gu ?gr ?gs ?gp ?_; (case g1 => k_asm); (case g2 => k_asm); (case g3 => k_asm); (case g4 => k_asm); (case g5 => k_asm); (case gK => exact rfl); (case gd => decide); (case gu => exact Nat.le_of_ble_eq_true rfl); (case gr => k_mem); (case gs => k_mem); (case gp => assumption); intro r' n' b0' b1' b2' b3' t0' t1' t2' t3' h' tk' F' N' e' f')))
local macro_rules | `(tactic| walk_at "call ref") => `(tactic| (k_here; (with_reducible show wpAny _ _ (call (Value.ref 57) _) _ _ _); k_dflt (refine' plain_call ?g1 ?g2 ?g3 ?g4 ?g5 ?gK ?gd ?gu ?gr ?gs ?gp ?_; (case g1 => k_asm); (case g2 => k_asm); (case g3 => k_asm); (case g4 => k_asm); (case g5 => k_asm); (case gK => exact rfl); (case gd => decide); (case gu => exact Nat.le_of_ble_eq_true rfl); (case gr => k_mem); (case gs => (with_reducible rename NetAt _ _ _ => hNA9; exact NetAt.mono hNA9 (by kby_size))); (case gp => assumption); intro r' n' b0' b1' b2' b3' t0' t1' t2' t3' h' tk' F' N' e' f')))
local macro_rules | `(tactic| walk_at "call type:list") => `(tactic| (k_here; (with_reducible show wpAny _ _ (call (Value.type "list") [Value.ref _]) _ _ _); (with_reducible rename NetAt _ _ _ => hNA8); k_dflt (refine' list_copyK ?gF ?gN ?gl ?_ ?gz; (case gF => k_asm); (case gN => k_asm); (case gl => lcg_src); (case gz => (simp only [sizeLine_eq, List.size_toArray, List.length_map]; omega))); intro D' c' h' F' N' l1; (try k_lt l1)))
structure Mk5 : Prop where
  mk ::
local macro_rules | `(tactic| walk_at "subscriptTail") => `(tactic| ((have hMk5 : Mk5 := by with_reducible assumption); clear hMk5; k_dflt (refine' item_at ?sN ?sm ?sk ?sx ?sz ?_ ?ss; (case sN => k_asm); (case sm => k_mem); (case sk => rfl); (case sx => first | with_reducible assumption | ((with_reducible rename ∀ c, c = codeN _ _ → _ => hz9); exact hz9 _ (by with_reducible assumption))); (case sz => with_reducible assumption); (case ss => with_unfolding_all rfl))))
local macro_rules | `(tactic| walk_at "eval ListComp") => `(tactic| (k_here; (with_reducible show wpAny _ _ (eval (Expr.ListComp _ [Comprehension.mk _ _ [_] _] _ _) _) _ _ _); k_dflt (refine LCt.ListComp_T (F₀ := by k_asm) (by with_unfolding_all rfl) (by decide) (by rfl) (by decide) (by rfl) ?_)))
local macro_rules | `(tactic| walk_at "eval ListComp") => `(tactic| (k_here; (with_reducible show wpAny _ _ (eval (Expr.ListComp _ [Comprehension.mk _ _ [] _] _ _) _) _ _ _); k_dflt (refine LCg.ListComp_U (F₀ := by k_asm) (by with_unfolding_all rfl) (by decide) (by rfl) (by decide) (by rfl) ?_)))
local macro_rules | `(tactic| walk_at "exec For Name Tuple cons nil") => `(tactic| (k_here; (with_reducible rename Fr _ _ _ _ => lF'); (with_unfolding_all refine' For_invTF lF' ?_ ?k2; (case k2 => exact fun _ => rfl); k_whole)))
local macro_rules | `(tactic| walk_at "storeName") => `(tactic| (k_here; (with_reducible show wpAny _ _ (storeName _ (Str.ofString "limit") _) _ _ _); k_dflt (refine' store_cell ?cF ?cN ?cm ?cd ?_ ?ck ?cl ?cz; (case cF => k_asm); (case cN => k_asm); (case cm => assumption); (case cd => assumption); (case ck => rfl); (case cl => rfl); (case cz => rfl)); intro h' o' F' N' d'))
local macro_rules | `(tactic| walk_at "call ref") => `(tactic| (k_here; (with_reducible show wpAny _ _ (call (Value.ref 67) _) _ _ _); k_dflt (refine' code_callN ?g1 ?g2 ?g3 ?g4 ?g5 ?gK ?gd ?gu ?gr ?_; (case g1 => k_asm); (case g2 => k_asm); (case g3 => k_asm); (case g4 => k_asm); (case g5 => k_asm); (case gK => exact rfl); (case gd => decide); (case gu => exact Nat.le_of_ble_eq_true rfl); (case gr => k_mem); intro c' t' h' tk' e' F' N')))
local macro_rules | `(tactic| walk_at "call builtin:sorted") => `(tactic| (k_here; (with_reducible show wpAny _ _ (call (Value.builtin _) [Value.ref _]) _ _ _); k_dflt (refine' kso_sorted ?oF ?oN ?ol ?oi ?oz ?_; (case oF => k_asm); (case oN => k_asm); (case ol => exact News.isList (by k_asm) (by k_mem)); (case oi => first | assumption | exact .cons _ _ (.cons _ _ (.cons _ _ (.cons _ _ .nil)))); (case oz => first | omega | exact Nat.le_of_ble_eq_true rfl)); intro D' v' n' c' h' F' N' l1 i' e' p' o' b'; clear e' b'; (try k_lt l1)))
local macro_rules | `(tactic| walk_at "compareOp Eq ref ref") => `(tactic| (k_here; (with_reducible show wpAny _ _ (compareOp CmpOp.Eq (Value.ref _) (Value.ref _)) _ _ _); k_dflt (refine' eq_intsK ?el ?ei ?em ?ej ?eu ?_; (case el => exact News.isList (by k_asm) (by k_mem)); (case ei => assumption); (case em => exact News.isList (by k_asm) (by k_mem)); (case ej => assumption); (case eu => exact Nat.le_of_ble_eq_true rfl))))
local macro_rules | `(tactic| walk_at "call builtin:len") => `(tactic| (k_here; (with_reducible show wpAny _ _ (call (Value.builtin "len") [Value.ref _]) _ _ _); k_dflt (refine len_list (hl := News.isList (by k_asm) (List.Mem.head _)) (by (rw [List.size_toArray]; omega)) ?_)))
local macro_rules | `(tactic| walk_at "call ref") => `(tactic| (k_here; (with_reducible show wpAny _ _ (call (Value.ref 62) _) _ _ _); k_dflt (refine' orders_call ?g1 ?g2 ?g3 ?g4 ?g5 ?gK ?gd ?gu ?_; (case g1 => k_asm); (case g2 => k_asm); (case g3 => k_asm); (case g4 => k_asm); (case g5 => k_asm); (case gK => exact rfl); (case gd => decide); (case gu => exact Nat.le_of_ble_eq_true rfl); intro r' vs' n' nx' h' tk' F' N' s' d' R')))
local macro_rules | `(tactic| walk_at "compareOp NotEq ref ref") => `(tactic| (k_here; (with_reducible show wpAny _ _ (compareOp CmpOp.NotEq (Value.ref _) (Value.ref _)) _ _ _); k_dflt (refine' ne_intsK ?el ?ei ?em ?ej ?eu ?_; (case el => exact News.isList (by k_asm) (by k_mem)); (case ei => first | assumption | exact .cons _ _ (.cons _ _ (.cons _ _ (.cons _ _ .nil)))); (case em => exact News.isList (by k_asm) (by k_mem)); (case ej => first | assumption | exact .cons _ _ (.cons _ _ (.cons _ _ (.cons _ _ .nil)))); (case eu => exact Nat.le_of_ble_eq_true rfl))))
local macro_rules | `(tactic| walk_at "eval Name") => `(tactic| (k_here; (with_reducible show wpAny _ _ (eval (Expr.Name (Str.ofString "limit") _) _) _ _ _); k_dflt (first
  | (refine' limit_load ?vN ?vm ?vd ?_ ?vk ?vl ?vc ?vb; (case vk => rfl); (case vl => rfl); (case vb => decide); (case vN => k_asm); (case vc => rfl); (case vm => exact List.Mem.head _); (case vd => assumption))
  | (refine' lcf_free ?vN ?vc ?vm ?vd ?_ ?vk ?vl; (case vk => rfl); (case vl => rfl); (case vN => k_asm); (case vc => rfl); (case vm => k_mem); (case vd => assumption)))))
theorem law_holds : PySem.Challenge.rw_ek5002_01.Holds := hd (by
  w_strict (
    k_go0
    all_goals try k_fold
    with_reducible rename IntsAre _ _ => hI0
    with_reducible rename PySem.Heap.IsList _ _ _ => hL0
    with_reducible rename List Int => ns0
    with_reducible rename List Value => vs0
    with_reducible rename Shared => s1
    with_reducible rename Obj => oc0
    with_reducible rename oc0.data = _ => hcd0
    ktr_unf
    with_reducible rename Fr _ _ _ _ => F1
    with_reducible rename News _ _ _ (_ :: _) => N1
    with_reducible rename IntsAre _ (_ ++ _) => hI1
    refine iter_list (m₀ := _) (news := [(s1.heap.objs.size + 1, oc0)]) (fun i m nx => (∃ l, m (Str.ofString "script") = some (.ref l) ∧ s1.heap.IsList l vs0.toArray) ∧ nx = [(s1.heap.objs.size + 1, oc0)]) rfl (News.isList N1 (List.Mem.head _)) (N1 _ (List.Mem.head _)).2.1 F1 (cb_drop N1 (by intro p9 h9; (repeat (first | exact h9 | refine List.mem_cons_of_mem _ ?_)))) ⟨⟨_, rfl, hL0⟩, rfl⟩ ?_ ?_
    · rintro i v m₁ nx h tk own I o hv ⟨⟨l, hm, hl⟩, rfl⟩ hoff hfp hown F2 N2
      obtain ⟨x, tx, rfl, _⟩ := ints_at hI1 hv
      clear N1 F1
      rw [fix1 hm] at F2
      k_steps
      exact turn_end (by assumption) (by assumption) (by intro p9 h9; (repeat (first | exact List.mem_append_left _ h9 | refine List.mem_cons_of_mem _ ?_))) (nx := [(s1.heap.objs.size + 1, oc0)]) (by intro p9 h9; (repeat (first | exact List.mem_append_right _ h9 | refine List.mem_cons_of_mem _ ?_))) hoff ⟨⟨l, rfl, hl⟩, rfl⟩
    · rintro m₁ nx h tk ⟨⟨l, hm, hl⟩, rfl⟩ F2 N2
      clear N1 F1 hI1
      rw [fix1 hm] at F2
      dsimp only
      ktr_unf
      clear N2 F2
      with_reducible rename Fr _ _ _ _ => F1
      with_reducible rename News _ _ _ ((_, _) :: [_]) => N1
      with_reducible rename IntsAre _ _ => hI1
      refine iter_list (m₀ := _) (news := [(s1.heap.objs.size + 1, oc0)]) (J3 s1.heap vs0 (s1.heap.objs.size + 1) oc0) rfl (News.isList N1 (List.Mem.head _)) (N1 _ (List.Mem.head _)).2.1 F1 (fun p9 h9 => N1 p9 (List.mem_cons_of_mem _ h9))
        ⟨⟨_, rfl, hl⟩, 36, [31, 32, 33, 34, 35], baseNet, [], rfl, rfl, (fun _ z => nomatch z), .inr ⟨rfl, rfl⟩, rfl, Nat.le_refl _⟩ ?_ ?_
      · rintro i v m₁ nx h tk own I o hv ⟨⟨l, hm, hl⟩, netA, as, net, rest, hm2, rfl, hrc, hnet, hpairs, hnlen⟩ hoff hfp hown F2 N2
        obtain ⟨x, tx, rfl, hx9⟩ := ints_at hI1 hv
        have hi6 : i < 6 := by
          have h1 := (List.getElem?_eq_some_iff.mp hx9).1
          rw [List.length_take] at h1
          omega
        have hal : as.length ≤ 11 := by rw [hpairs.length]; omega
        clear N1 F1
        rw [fix2 hm hm2] at F2
        have hmk3 := Mk3.mk
        k_steps
        all_goals (
          with_reducible rename Fr _ _ _ _ => F9
          with_reducible rename News _ _ _ ((_, _) :: _) => N9
          refine net_end F9 N9 ?_ ?_ (by intro p9 h9; (repeat (first | exact List.mem_append_left _ h9 | refine List.mem_cons_of_mem _ ?_))) (by (repeat (first | exact List.mem_append_right _ (List.Mem.head _) | refine List.mem_cons_of_mem _ ?_))) hcd0 hown (hoff _ (List.Mem.head _)) rfl hl rfl
          · intro v9 hv9
            simp only [List.toList_toArray, List.mem_append, List.mem_map, List.mem_cons, List.not_mem_nil, or_false] at hv9
            first
              | (rcases hv9 with (⟨a8, ha8, rfl⟩ | rfl) | ⟨a8, ha8, rfl⟩
                 · exact ⟨_, _, rfl, (hpairs.mem (List.mem_of_mem_take ha8)).choose_spec⟩
                 · exact ⟨_, _, rfl, (by assumption)⟩
                 · exact ⟨_, _, rfl, (hpairs.mem (List.mem_of_mem_drop ha8)).choose_spec⟩)
              | (rcases hv9 with ⟨a8, ha8, rfl⟩ | ⟨a8, ha8, rfl⟩
                 · exact ⟨_, _, rfl, (hpairs.mem (List.mem_of_mem_take ha8)).choose_spec⟩
                 · exact ⟨_, _, rfl, (hpairs.mem (List.mem_of_mem_drop ha8)).choose_spec⟩)
          · have hpl := hpairs.length
            simp only [List.toList_toArray, List.length_append, List.length_map, List.length_take, List.length_drop, List.length_cons, List.length_nil]
            omega)
      · rintro m₁ nx h tk ⟨⟨l, hm, hl⟩, netA, as, net, rest, hm2, rfl, hrc, hnet, hpairs, hnlen⟩ F2 N2
        have hal : as.length ≤ 20 := by
          have h1 := hI1.length
          rw [hpairs.length]
          rw [h1, List.length_take] at hnlen
          omega
        clear N1 F1 hI1 hnlen
        rw [fix2 hm hm2] at F2
        dsimp only
        ktr_unf
        try clear N2
        try clear F2
        with_reducible rename Fr _ _ _ _ => F1
        with_reducible rename News _ _ _ ((_, _) :: _) => N1
        with_reducible rename IsRange _ _ _ _ _ _ _ _ => rg
        with_reducible rename _ < _ ∧ AllLt _ rest => lz
        refine iter_range (n := 16) (m₀ := _) (news := _) (J5 s1.heap vs0 (s1.heap.objs.size + 1) oc0 netA as net) rfl rg (by decide) (by decide) F1 N1
          ⟨⟨l, rfl, hl⟩, rfl, _, [], 0, (s1.heap.objs.size + 1, oc0) :: rest, rfl, rfl, List.forall_mem_cons.mpr ⟨Nat.ne_of_lt lz.1, fun p9 h9 => Nat.ne_of_lt (kst_ltOf lz.2 p9 h9)⟩, List.Mem.head _, hnet.mono (fun p9 h9 => List.mem_cons_of_mem _ h9), .nil⟩ ?_ ?_
        · rintro i t m₁ nx h tk own I o hi16 ⟨⟨l, hm, hl⟩, hmn, zA, zvs, n, rest, hmz, rfl, hzoff, hcr, hnet, hR⟩ hoff hown1 hown F2 N2
          clear N1 F1 rg lz
          rw [fix3 hm hmn hmz] at F2
          have hmk5 := Mk5.mk
          have hzl : zvs.length = i := by rw [hR.length]; simp [zerosOf]
          have hownz : ∀ p ∈ own, p.1 ≠ zA := fun p9 h9 => by rw [hown1 p9 h9]; exact Ne.symm (hoff _ (List.Mem.head _))
          ktr_unf
          refine append_row (by assumption) (by assumption) hzl (by omega) (by assumption) (by assumption) (by assumption) hownz hzoff ?_
          intro h9 F9 hrz hro hsx hsz9 N9
          with_reducible rename [_, _, _, _] = runNet _ _ => hrow
          rw [bits_int i hi16] at hrow
          dsimp only
          try clear N2
          try clear F2
          k_steps
          · with_reducible rename NetAt _ _ _ => hnet5
            exact zeros_end (by assumption) (by assumption) hrow hown.1 hro hrz hoff hzoff hcr hnet5 hR rfl hl rfl rfl
          · with_reducible rename ¬ _ = _ => hne9
            with_reducible rename [_, _, _, _] = runNet net [_, _, _, _] => hrow2
            exact absurd (hrow.trans (by rw [hrow2, bits_int i hi16])) hne9
        · rintro m₁ nx h tk ⟨⟨l, hm, hl⟩, hmn, zA, zvs, n, rest, hmz, rfl, hzoff, hcr, hnet, hR⟩ F2 N2
          clear N1 F1 rg lz
          rw [fix3 hm hmn hmz] at F2
          have hz16 : zvs.length = 16 := by rw [hR.length]; simp [zerosOf]
          have hz16' : zvs.toArray.size = 16 := by rw [List.size_toArray]; exact hz16
          ktr_unf
          refine LCt.CompSrcT.ledger (by rfl) F2 N2 (List.Mem.head _) (by rw [hz16', sizeLine_eq]; decide) ?_
          intro g1
          refine compRestT_ind (fun i ys nx => nx = (zA, listOf zvs.toArray n) :: rest ∧ ys.length = cntS net i) ?_ ?_ zvs.toArray.size 0 [] _ (Nat.zero_add _) ⟨rfl, rfl⟩
          · rintro i ys nx v I oI C oC D m₂ h tk E' hi ⟨rfl, hys⟩ hv hC hx F3 N3 off ne
            rw [hz16'] at hi
            rw [List.getElem?_toArray] at hv
            obtain ⟨a9, n9, us, r, rfl, hr, ha9, hi9⟩ := hR.at hv
            have hri : r = runNet net (bits i) := by
              unfold zerosOf at hr
              rw [List.getElem?_map, List.getElem?_range hi] at hr
              exact (Option.some.inj hr).symm
            have hr64 : r.length = 4 := by rw [hri, runNet_len]; rfl
            k_steps
            · with_reducible rename r = _ => heq9
              with_reducible rename List.Perm _ r => hp9
              with_reducible rename List.Pairwise _ _ => ho9
              with_reducible rename Fr _ _ _ _ => F4
              with_reducible rename News _ _ _ ((_, _) :: (I, oI) :: _) => N4
              refine ce_end F4 (cb_drop N4 fun p9 h9 => List.mem_cons_of_mem _ h9) off (.inr ⟨_, List.Mem.head _, rfl, _, rfl⟩) ⟨rfl, ?_⟩
              rw [List.length_append, List.length_singleton, hys, cntS_yes (hri ▸ (sort_iff hp9 ho9).mp heq9)]
            · with_reducible rename ¬ r = _ => heq9
              with_reducible rename List.Perm _ r => hp9
              with_reducible rename List.Pairwise _ _ => ho9
              with_reducible rename Fr _ _ _ _ => F4
              with_reducible rename News _ _ _ ((_, _) :: (I, oI) :: _) => N4
              refine ce_end F4 (cb_drop N4 fun p9 h9 => List.mem_cons_of_mem _ h9) off (.inr ⟨_, List.Mem.head _, rfl, _, rfl⟩) ⟨rfl, ?_⟩
              rw [hys, cntS_no (hri ▸ fun z => heq9 ((sort_iff hp9 ho9).mpr z))]
          · rintro ys nx ⟨rfl, hys⟩
            rw [hz16'] at hys
            unfold LCg.FinE
            intro D9 h9 tk9 F9 N9 off9
            clear F2 N2
            have hcl := cntS_le net 16
            ktr_unf
            with_reducible rename Fr _ _ _ _ => F1
            with_reducible rename RowsAt _ _ (ordersAt 4) => hO
            with_reducible rename ∀ p ∈ _, p ∈ _ => hsub
            with_reducible rename News _ _ _ _ => N1
            with_reducible rename (_, listOf _ _) ∈ _ => hD
            have hzb : (((ys.toArray.size : Int) == 16) = true ↔ AllZero net) := by
              rw [List.size_toArray, hys, ← cntS_all net, beq_iff_eq]
              omega
            generalize ((ys.toArray.size : Int) == 16) = zb at *
            have hDc := cell_ne N1 (hsub _ (List.mem_cons_of_mem _ (List.mem_cons_of_mem _ hcr))) hcd0 hD
            refine iter_list (m₀ := _) (news := _) (J7 s1.heap vs0 (s1.heap.objs.size + 1) netA zA as net zvs n _ zb) rfl (News.isList N1 hD) (N1 _ hD).2.1 F1 N1
              ⟨⟨l, rfl, hl⟩, rfl, rfl, rfl, ⟨true, rfl, by simp⟩, ⟨oc0, _, hsub _ (List.mem_cons_of_mem _ (List.mem_cons_of_mem _ hcr)), hcd0⟩, hnet.mono (fun p9 h9 => hsub _ (List.mem_cons_of_mem _ (List.mem_cons_of_mem _ h9))), hsub _ (List.mem_cons_of_mem _ (List.Mem.head _)), hR.mono (fun p9 h9 => hsub _ (List.mem_cons_of_mem _ (List.mem_cons_of_mem _ h9))), hO⟩ ?_ ?_
            · rintro i v m₁ nx h tk own I o hv ⟨⟨l, hm, hl⟩, hmn, hmz, hmzs, ⟨ob, hmo, hob⟩, ⟨oc, cv, hc, hcv⟩, hnet, hz, hR, hO⟩ hoff hfp hown F2 N2
              have hownc : ∀ p ∈ own, p.1 ≠ s1.heap.objs.size + 1 := fun p9 h9 => (hfp p9 h9).elim (fun e => by rw [e]; exact Ne.symm (hoff _ hc)) (fun e => by rw [e]; exact hDc)
              clear N1 F1 hD
              obtain ⟨a9, n9, us, r, rfl, hr, ha9, hi9⟩ := hO.at hv
              have hrm := List.mem_of_getElem? hr
              obtain ⟨r0, r1, r2, r3, t0, t1, t2, t3, rfl, rfl⟩ := ints_four hi9 (orders_four r hrm)
              rw [fix5 hm hmn hmz hmzs hmo] at F2
              ktr_unf
              rotate_right 1
              · with_reducible rename ¬ _ = _ => hne9
                with_reducible rename List.Perm _ _ => hp9
                with_reducible rename List.Pairwise _ _ => ho9
                with_reducible rename [_, _, _, _] = runNet _ _ => htold
                exact absurd (orders_sorted hpairs.ok hrm (htold ▸ hp9) ho9) hne9
              all_goals (
                with_reducible rename Fr _ _ _ _ => F4
                with_reducible rename News _ _ _ ((_, _) :: _) => N4
                with_reducible rename [_, _, _, _] = runNet _ _ => htold
                with_reducible rename NetAt _ _ _ => hnet9
                have hob' := by first | exact take_iff hob hr (htold.symm.trans (by with_reducible assumption)) | exact take_not (net := net) hr (fun z => absurd (htold.trans z) (by with_reducible assumption))
                refine iter_tupT (m₀ := _) (news := _) (J8 s1.heap vs0 (s1.heap.objs.size + 1) netA zA as net zvs n _ zb a9 r0 r1 r2 r3 t0 t1 t2 t3 n9 own _) rfl ⟨_, (N4 _ (List.Mem.head _)).1, rfl, _, rfl⟩ (N4 _ (List.Mem.head _)).2.1 F4 N4
                  ⟨⟨l, rfl, hl⟩, rfl, rfl, rfl, rfl, rfl, ⟨oc, cv, by (repeat (first | (refine List.mem_append_right _ ?_; with_reducible assumption) | refine List.mem_cons_of_mem _ ?_)), hcv⟩, by (intro p9 h9; (repeat (first | exact List.mem_append_left _ h9 | refine List.mem_cons_of_mem _ ?_))), _, _, _, _, _, _, _, _, _, _, rfl, htold, ⟨hnet9.mono (by kby_size), by (repeat (first | (refine List.mem_append_right _ ?_; with_reducible assumption) | refine List.mem_cons_of_mem _ ?_)), hR.mono (by kby_size), hO.mono (by kby_size), by (repeat (first | (refine List.mem_append_right _ ?_; with_reducible assumption) | refine List.mem_cons_of_mem _ ?_)), by k_mem⟩⟩ ?_ ?_
                · clear F4 N4 htold
                  rintro i8 v m₁ nx8 s₁ ownI I8 o8 hv8 ⟨⟨l, hm, hl⟩, hmn, hmz, hmzs, hmo, hmr, ⟨oc8, cv8, hc8, hcv8⟩, hsub8, tA, b0, b1, b2, b3, u0, u1, u2, u3, tn, hmt, htold, hK⟩ hoff8 hfp8 hcell8 hown8 F8 N8
                  obtain ⟨k, uk, rfl⟩ := ints_of3 hv8
                  have hc8' := List.mem_append_right ownI hc8
                  have hKc := (hK.mono (fun p9 h9 => List.mem_append_right ownI h9)).less (noList_cell N8 hc8' hcv8)
                  have hzc := hKc.zs
                  have hrc := hKc.row
                  have htc := hKc.told
                  obtain ⟨zr, nr, uz, hz1, hz2, hz3⟩ := zero_at hpairs.ok hKc.zr rfl htold k
                  rw [fix7 hm hmn hmz hmzs hmo hmr hmt] at F8
                  have hmk5 := Mk5.mk
                  have hzl9 : zvs.length ≤ 100 := by omega
                  have hcell9 := own_ne N8 hc8 hcv8 hcell8
                  k_steps
                  all_goals first
                    | (with_reducible rename ¬ List.map _ _ = List.map _ _ => hne9
                       exact absurd rfl hne9)
                    | (with_reducible rename Fr _ _ _ _ => F9
                       with_reducible rename News _ _ _ ((_, _) :: (_, _) :: _) => N9
                       with_reducible rename Obj.data _ = Data.cell (some _) => hd9
                       exact inner_end F9 N9 (fun p9 h9 => List.mem_cons_of_mem _ h9) hd9 hown8 (hoff8 _ hc8) hcell9 hsub8 hownc hoff8 hKc htold hl rfl rfl rfl rfl rfl rfl rfl)
                · clear F4 N4 htold
                  rintro m₁ nx8 h tk ⟨⟨l, hm, hl⟩, hmn, hmz, hmzs, hmo, hmr, ⟨oc8, cv8, hc8, hcv8⟩, hsub8, tA, b0, b1, b2, b3, u0, u1, u2, u3, tn, hmt, htold, hK⟩ F8 N8
                  have hKl := hK.less (noList_iter N8 (hsub8 _ hown.1) hown.2)
                  k_steps
                  exact turn_end (by assumption) (by assumption) hsub8 (nx := less I nx8) less_sub less_ne ⟨⟨l, hm, hl⟩, hmn, hmz, hmzs, ⟨_, hmo, hob'⟩, ⟨oc8, cv8, less_mem hc8 (show s1.heap.objs.size + 1 ≠ I from hoff (_, oc) hc), hcv8⟩, hKl.hn, hKl.zs, hKl.zr, hKl.os⟩)
            · rintro m₁ nx h tk ⟨⟨l, hm, hl⟩, hmn, hmz, hmzs, ⟨ob, hmo, hob⟩, ⟨oc, cv, hc, hcv⟩, hnet, hz, hR, hO9⟩ F2 N2
              clear N1 F1 hD
              rw [fix5 hm hmn hmz hmzs hmo] at F2
              rw [hO.length, List.take_length] at hob
              obtain rfl : zb = ob := Bool.eq_iff_iff.mpr (hzb.trans ((zero_one hpairs.ok).trans hob.symm))
              clear hzb hz hR hO9 hO
              cases zb with
              | true =>
                have hall : AllZero net := (zero_one hpairs.ok).mpr (hob.mp rfl)
                ktr_unf
                with_reducible rename Fr _ _ _ _ => F4
                with_reducible rename News _ _ _ ((_, _) :: _) => N4
                refine iter_tupT (m₀ := _) (news := _) (J11 s1.heap vs0 netA as) rfl ⟨_, (N4 _ (List.Mem.head _)).1, rfl, _, rfl⟩ (N4 _ (List.Mem.head _)).2.1 F4 N4
                  ⟨⟨l, rfl, hl⟩, rfl, hnet.mono (by kby_size)⟩ ?_ ?_
                · rintro i8 v m₁ nx8 s₁ ownI I8 o8 hv8 ⟨⟨l, hm, hl⟩, hmn, hnet⟩ hoff8 hfp8 hcell8 hown8 F8 N8
                  try clear F2
                  try clear N2
                  clear F4 N4
                  obtain ⟨k, uk, rfl, hk⟩ := ints_of2 hv8
                  rw [fix2 hm hmn] at F8
                  rcases hk with rfl | rfl
                  all_goals (
                    repeat ((fail_if_success (with_reducible rename IntsAre _ (List.take _ (_ ++ _)) => hI11)); walk1)
                    with_reducible rename IntsAre _ (List.take _ (_ ++ _)) => hI11
                    obtain ⟨r0, r1, r2, r3, t0, t1, t2, t3, rfl, hr4⟩ := ints_four hI11 (by simp only [List.length_take, List.length_append, List.length_drop, List.length_cons, List.length_nil]; omega)
                    rw [hr4] at hI11
                    k_steps
                    all_goals first
                      | (with_reducible rename ¬ [_, _, _, _] = _ => hne9
                         with_reducible rename [_, _, _, _] = runNet _ _ => htold9
                         with_reducible rename List.Perm _ _ => hp9
                         with_reducible rename List.Pairwise _ _ => ho9
                         exact absurd (htold9.trans (sorts_all hpairs.ok hall rfl hp9 ho9)) hne9)
                      | (with_reducible rename Fr _ _ _ _ => F9
                         with_reducible rename NetAt _ _ _ => hnet9
                         with_reducible rename News _ _ _ ((_, _) :: _) => N9
                         exact turn_go F9 N9 (by intro p9 h9; (repeat (first | exact List.mem_append_left _ h9 | refine List.mem_cons_of_mem _ ?_))) (nx := nx8) (by intro p9 h9; (repeat (first | exact List.mem_append_right _ h9 | refine List.mem_cons_of_mem _ ?_))) hoff8 ⟨⟨l, rfl, hl⟩, rfl, hnet9⟩))
                · rintro m₁ nx8 h tk ⟨⟨l, hm, hl⟩, hmn, hnet⟩ F8 N8
                  k_steps
              | false =>
                have hnot : ¬ AllOrd net := fun z => nomatch hob.mpr z
                ktr_unf
                refine net_ne F2 N2 (by assumption) hnet hpairs (by exact Nat.le_of_ble_eq_true rfl) (fun e => hnot (e ▸ base_sorts)) ?_
                k_steps
                ))
end
end Mine
theorem PySem.Challenge.cw_ek5002_01_holds : PySem.Challenge.rw_ek5002_01.Holds := by
  exact Mine.law_holds
