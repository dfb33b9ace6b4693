import PyProof.Rows.All
import Wide.All
import OpenK.AllK
import Wide.FinOn
import PySem.Challenge.RW_pe0110_02

set_option Elab.async false
set_option maxRecDepth 100000
set_option maxHeartbeats 8000000
open PySem PySem.W PyProof.Rows PySem.Calls
namespace Mine
open_top hd for PySem.Challenge.rw_pe0110_02
section
open PySem.Spec
def Stay (h h' : Heap) : Prop := ∀ b o, h.get? b = some o → h'.get? b = some o
def Runs (M : Model) (A : Around) (t : Sem Value) (s : Shared) (R : Value → Heap → Prop) : Prop :=
  ∀ (Q E : Value → Shared → Prop), (∀ v h' tk', R v h' → Stay s.heap h' → Q v { s with heap := h', toks := tk' }) → wpAny M A t Q E s
section
variable {M : Model} {A : Around} {t : Sem Value} {s : Shared} {R : Value → Heap → Prop} {h₀ : Heap} {L : Addr} {m : Str → Option Value} {news : List (Addr × Obj)} {Q E : Value → Shared → Prop}
theorem Runs.use (C : Runs M A t s R) (F : Fr h₀ L s.heap m) (N : News h₀ L s.heap news)
    (h : ∀ v h' tk', R v h' → Stay s.heap h' → Fr h₀ L h' m → News h₀ L h' news → Q v { s with heap := h', toks := tk' }) : wpAny M A t Q E s :=
  C Q E fun v h' tk' r st => h v h' tk' r st (F.grownK st) (N.grown st)
end
section
variable {prog : Program} {w : World} {A : Around} {s : Shared} {K : Frag} {Q E : Value → Shared → Prop} {name qual : Str} {params : Arguments} {body : List Stmt} {scope : Scope} {dV kV doc pm cdv ct oc : Value} {an od : Option Addr}
  {osl : Array (Option Value)} {f : Addr} {pos : List Value} {kw : List (Str × Value)} {binds : List (Str × Value)}
theorem enter (X : K.In s.heap) (hlim : s.heap.NoLimit)
    (ho : K.lookup f = some ⟨oc, od, .func (fnOf name qual params body scope dV kV doc pm an cdv ct), osl⟩) (hcd : codeIn K cdv qual = true) (hroom : A.depth < recursionLimit)
    (hbind : BindsTo s (fnOf name qual params body scope dV kV doc pm an cdv ct) ⟨pos, kw⟩ binds) (hloc : ∀ y ∈ binds, scope.names.lookup y.1 = some .local)
    (hco : scope.isCoroutine = false) (hgen : scope.isGenerator = false) (hk : scope.kind = .function) (hcell : ∀ x ∈ scope.names, x.2 ≠ .cell)
    (h : ∀ L h₁ tk, Fr s.heap L h₁ (fun y => binds.reverse.lookup y) → News s.heap L h₁ [] →
      wpAny (model prog w) (A.deeper (envOf qual scope L f cdv)) (execs body (envOf qual scope L f cdv))
        (fun fl s' => Q (match fl with | .ret v => v | _ => .none) s') (fun _ _ => False) { s with heap := h₁, toks := tk }) :
    wpAny (model prog w) A (call (.ref f) pos kw) Q E s := by
  refine wpAny_call ?_
  refine codeAny_call_def (fd := fnOf name qual params body scope dV kV doc pm an cdv ct) (body := body) (binds := binds) hroom (X _ _ ho) rfl hlim (codeRec_of X hcd) rfl hbind hcell hloc (fun h₁ hns hk₁ => ?_) hco hgen hk
  exact wpAny_mono (h s.heap.objs.size h₁ (s.toks + binds.length) ⟨hns, hk₁, Nat.le_refl _⟩ News.nil) (fun fl s' hl => hl) fun _ _ y => y.elim
theorem enterC (X : K.In s.heap) (hlim : s.heap.NoLimit)
    (ho : K.lookup f = some ⟨oc, od, .func (fnOf name qual params body scope dV kV doc pm an cdv ct), osl⟩) (hcd : codeIn K cdv qual = true) (hroom : A.depth < recursionLimit)
    (hbind : BindsTo s (fnOf name qual params body scope dV kV doc pm an cdv ct) ⟨pos, kw⟩ binds)
    (hkind : (binds.all fun y => scope.names.lookup y.1 == some .local || scope.names.lookup y.1 == some .cell) = true)
    (hnd : ((cellsFrom 0 scope.names []).map (·.1)).Nodup)
    (hco : scope.isCoroutine = false) (hgen : scope.isGenerator = false) (hk : scope.kind = .function)
    (h : ∀ L h₁ tk cells, Fr s.heap L h₁ (bindL (envOfC qual scope L f cdv).kindOf binds fun _ => none) → News s.heap L h₁ cells →
      CellsAre (bindC (envOfC qual scope L f cdv).kindOf binds fun _ => none) (cellsFrom (L + 1) scope.names []) cells →
      wpAny (model prog w) (A.deeper (envOfC qual scope L f cdv)) (execs body (envOfC qual scope L f cdv))
        (fun fl s' => Q (match fl with | .ret v => v | _ => .none) s') (fun _ _ => False) { s with heap := h₁, toks := tk }) :
    wpAny (model prog w) A (call (.ref f) pos kw) Q E s := by
  refine wpAny_call ?_
  refine codeAny_call_function hroom (X _ _ ho) rfl hco hgen rfl (codeRec_of X hcd) (hbind _ _ _ _ ?_)
  refine wpAny_newFunctionEnv_cells hk (kindsX hkind _) fun env' he s' x => ?_
  subst he
  refine ⟨hlim.keeps x.toInCall.keep, codeAny_func ?_⟩
  obtain ⟨h₁, tk, rfl, _⟩ := x.done
  have hk₁ := x.toInCall.keep
  obtain ⟨cells, NC, Y⟩ := Cl.news (h₀ := s.heap) (Nat.le_refl _) fun n c hm => ⟨x.cell n c (lookup_of_mem_nodup (cellsFrom_names scope.names 0 (s.heap.objs.size + 1) [] [] rfl ▸ hnd) hm), x.above n c hm⟩
  exact wpAny_mono (h s.heap.objs.size h₁ tk cells ⟨x.toInCall.ns, hk₁, Nat.le_refl _⟩ NC Y) (fun fl s' hl => hl) fun _ _ y => y.elim
end
def Knows (m : Str → Option Value) : List (Str × Value) → Prop
  | [] => True
  | p :: r => m p.1 = some p.2 ∧ Knows m r
theorem Knows.get {m : Str → Option Value} {x : Str} {v : Value} : ∀ {l : List (Str × Value)}, Knows m l → l.lookup x = some v → m x = some v
  | [], _, h => by cases h
  | (y, u) :: r, ⟨h1, h2⟩, h => by
    rw [List.lookup_cons] at h
    cases e : x == y with
    | true =>
      rw [e] at h
      obtain rfl := Option.some.inj h
      rw [beq_iff_eq.mp e]; exact h1
    | false =>
      rw [e] at h
      exact h2.get h
theorem Knows.upd {m : Str → Option Value} {x : Str} {v : Option Value} : ∀ {l : List (Str × Value)}, (l.all fun p => p.1 != x) = true → Knows m l → Knows (fun y => if y = x then v else m y) l
  | [], _, _ => trivial
  | (y, u) :: r, h, ⟨h1, h2⟩ => by
    rw [List.all_cons, Bool.and_eq_true] at h
    have hy : y ≠ x := by simpa using h.1
    exact ⟨by show (if y = x then v else m y) = some u; rw [if_neg hy, h1], h2.upd h.2⟩
theorem Fr_more {h₀ h : Heap} {L : Addr} {m : Str → Option Value} (F : Fr h₀ L h m) {l : List (Str × Value)} (hl : Knows m l) : Fr h₀ L h (fun y => (l.lookup y).or (m y)) := by
  have e : (fun y => (l.lookup y).or (m y)) = m := by
    funext y
    cases q : l.lookup y with
    | none => rfl
    | some v => rw [hl.get q]; rfl
  rw [e]; exact F
def Turn (h₀ : Heap) (L : Addr) (J : (Str → Option Value) → List (Addr × Obj) → Prop) (own : List (Addr × Obj)) (s₁ : Shared) (Q : Flow → Shared → Prop) (f : Flow) (s₂ : Shared) : Prop :=
  match f with
  | .ret v => Q (.ret v) s₂
  | .brk => Q .next s₂
  | _ => ∃ h' tk m' mt', s₂ = { s₁ with heap := h', toks := tk } ∧ Fr h₀ L h' m' ∧ News h₀ L h' (mt' ++ own) ∧ OwnOff own (mt'.map (·.1)) ∧ J m' mt'
section
variable {prog : Program} {w : World} {A : Around} {E : Value → Shared → Prop} {s : Shared} {env : Env} {h₀ : Heap} {x : Str} {body : List Stmt} {Q : Flow → Shared → Prop}
theorem loopAt {I : Addr} {fp wr : List Addr} {n : Nat} {P : Nat → Value → Prop} {St : Nat → Heap → Prop} {m₀ : Str → Option Value} {mt fixed : List (Addr × Obj)}
    (W : Walks prog w A I fp wr n P St) (hLf : env.locals ∉ fp) (hwr : ∀ b ∈ wr, h₀.get? b = none) (hmw : ∀ p ∈ mt, p.1 ∉ wr) (hfw : ∀ p ∈ fixed, p.1 ∉ wr)
    (hfp : ∀ b ∈ fp, b ∈ wr ∨ (∃ o, h₀.get? b = some o) ∨ ∃ o, (b, o) ∈ fixed) (hex : ∀ i h, St i h → ∀ b ∈ wr, ∃ o, h.get? b = some o)
    (hoff : OwnOff fixed (mt.map (·.1))) (hst : St 0 s.heap) (F : Fr h₀ env.locals s.heap m₀) (N : News h₀ env.locals s.heap (mt ++ fixed))
    (J : Nat → (Str → Option Value) → List (Addr × Obj) → Prop) (hj : J 0 m₀ mt)
    (turn : ∀ i v m₁ mt₁ h tk own, i < n → P i v → J i m₁ mt₁ → OwnOff own (mt₁.map (·.1)) → (∀ p ∈ fixed, p ∈ own) →
      Fr h₀ env.locals h (fun y => if y = x then some v else m₁ y) → News h₀ env.locals h (mt₁ ++ own) →
      wpAny (model prog w) A (execs body env) (Turn h₀ env.locals (J (i + 1)) own { s with heap := h, toks := tk } Q) E { s with heap := h, toks := tk })
    (done : ∀ m₁ mt₁ h tk, J n m₁ mt₁ → Fr h₀ env.locals h m₁ → News h₀ env.locals h (mt₁ ++ fixed) → OwnOff fixed (mt₁.map (·.1)) → Q .next { s with heap := h, toks := tk }) :
    LoopAtV prog w A h₀ env x body Q E (.ref I) s := by
  refine ⟨I, fp, wr, n, P, St, m₀, mt ++ fixed, fun i m₁ news₁ => ∃ mt₁, news₁ = mt₁ ++ fixed ∧ J i m₁ mt₁ ∧ OwnOff fixed (mt₁.map (·.1)), rfl, W, hLf, hwr, ?_, hst, F, N, ⟨mt, rfl, hj, hoff⟩, ?_, ?_⟩
  · intro p hp
    exact (List.mem_append.mp hp).elim (hmw p) (hfw p)
  · rintro i v m₁ news₁ s₁ own ⟨hh', tk', rfl⟩ hi hP ⟨mt₁, rfl, hJ, hof⟩ hoffw hown hownget hin hst₁ F₁ N₁
    have hA : ∀ q ∈ mt₁, ∀ p ∈ own, p.1 ≠ q.1 := by
      intro q hq p hp e
      rcases hfp _ (hown p hp) with h1 | ⟨o, h1⟩ | ⟨o, h1⟩
      · exact hoffw q (List.mem_append_left _ hq) (e ▸ h1)
      · have := (N₁ q (List.mem_append_right _ (List.mem_append_left _ hq))).2.2
        rw [← e, h1] at this; cases this
      · exact hof _ h1 _ (List.mem_map_of_mem hq) e
    have hO : OwnOff (own ++ fixed) (mt₁.map (·.1)) := by
      intro p hp b hb
      obtain ⟨q, hq, rfl⟩ := List.mem_map.mp hb
      rcases List.mem_append.mp hp with h1 | h1
      · exact hA q hq p h1
      · exact hof p h1 _ hb
    have N₂ : News h₀ env.locals hh' (mt₁ ++ (own ++ fixed)) := fun p hp => by
      refine N₁ p ?_
      simp only [List.mem_append] at hp ⊢
      rcases hp with h | h | h
      · exact .inr (.inl h)
      · exact .inl h
      · exact .inr (.inr h)
    refine wpAny_mono (turn i v m₁ mt₁ hh' tk' (own ++ fixed) hi hP hJ hO (fun p hp => List.mem_append_right _ hp) F₁ N₂) (fun f s₂ p => ?_) fun _ _ e => e
    have fin : (∃ h' tk m' mt', s₂ = { s with heap := h', toks := tk } ∧ Fr h₀ env.locals h' m' ∧ News h₀ env.locals h' (mt' ++ (own ++ fixed)) ∧ OwnOff (own ++ fixed) (mt'.map (·.1)) ∧ J (i + 1) m' mt') →
        LoopStepU h₀ env.locals wr own (fun m₁ news₁ => ∃ mt₁, news₁ = mt₁ ++ fixed ∧ J (i + 1) m₁ mt₁ ∧ OwnOff fixed (mt₁.map (·.1))) { s with heap := hh', toks := tk' } .next s₂ := by
      rintro ⟨h', tk, m', mt', e, F', N', hn, hm⟩
      refine ⟨rfl, h', tk, m', mt' ++ fixed, e, F', fun p hp => N' p ?_, fun p hp hw => ?_, mt', rfl, hm, fun p hp b hb => hn p (List.mem_append_right _ hp) b hb⟩
      · simp only [List.mem_append] at hp ⊢
        rcases hp with h | h | h
        · exact .inr (.inl h)
        · exact .inl h
        · exact .inr (.inr h)
      · rcases List.mem_append.mp hp with h1 | h1
        · obtain ⟨o, ho⟩ := hex _ _ hst₁ _ hw
          exact hn _ (List.mem_append_left _ (hin _ (W.sub _ hw) (hwr _ hw) o ho)) _ (List.mem_map_of_mem h1) rfl
        · exact hfw p h1 hw
    cases f with
    | ret v => exact .ret p
    | brk => exact .brk p
    | next => exact .next (fin p)
    | cont => exact .cont (fin p)
  · rintro h' tk m' news' F' N' _ ⟨mt₁, rfl, hJ, hof⟩
    exact done m' mt₁ h' tk hJ F' N' hof
theorem iter_list {l : Addr} {vs : Array Value} {m₀ : Str → Option Value} {mt fixed : List (Addr × Obj)}
    (hh : A.handled = none) (hl : s.heap.IsList l vs) (hlf : (∃ o, h₀.get? l = some o) ∨ ∃ o, (l, o) ∈ fixed)
    (hoff : OwnOff fixed (mt.map (·.1))) (F : Fr h₀ env.locals s.heap m₀) (N : News h₀ env.locals s.heap (mt ++ fixed)) (hLl : env.locals ≠ l)
    (J : Nat → (Str → Option Value) → List (Addr × Obj) → Prop) (hj : J 0 m₀ mt)
    (turn : ∀ i v m₁ mt₁ h tk own, i < vs.size → vs[i]? = some v → J i m₁ mt₁ → OwnOff own (mt₁.map (·.1)) → (∀ p ∈ fixed, p ∈ own) →
      Fr h₀ env.locals h (fun y => if y = x then some v else m₁ y) → News h₀ env.locals h (mt₁ ++ own) →
      wpAny (model prog w) A (execs body env) (Turn h₀ env.locals (J (i + 1)) own { s with heap := h, toks := tk } Q) E { s with heap := h, toks := tk })
    (done : ∀ m₁ mt₁ h tk, J vs.size m₁ mt₁ → Fr h₀ env.locals h m₁ → News h₀ env.locals h (mt₁ ++ fixed) → OwnOff fixed (mt₁.map (·.1)) → Q .next { s with heap := h, toks := tk }) :
    wpAny (model prog w) A (pyIter (.ref l)) (fun it s₂ => LoopAtV prog w A h₀ env x body Q E it s₂) E s := by
  have hne : l ≠ s.heap.objs.size := by
    obtain ⟨o, ho, _⟩ := hl
    exact Nat.ne_of_lt (Heap.lt_size ho)
  refine wpAny_pyIter_list hl ?_
  have W := Walks.list (prog := prog) (w := w) hh s.heap.objs.size l hne vs
  have up : ∀ p ∈ mt ++ fixed, p.1 ∉ [s.heap.objs.size] := fun p hp hI =>
    absurd (Heap.lt_size (N p hp).1) ((List.mem_singleton.mp hI) ▸ Nat.lt_irrefl _)
  refine loopAt (s := { s with heap := s.heap.push { cls := .type "list_iterator", data := .fields #[.ref l, .int 0 0] } }) W ?_ ?_ (fun p hp => up p (List.mem_append_left _ hp)) (fun p hp => up p (List.mem_append_right _ hp)) ?_ ?_ hoff
    ⟨⟨_, Heap.get?_push_size _ rfl, rfl, rfl⟩, hl.at fun o e => Heap.get?_push_of_some _ e⟩ (F.push _) (fun p hp => ⟨Heap.get?_push_of_some _ (N p hp).1, (N p hp).2⟩) J hj ?_ ?_
  · intro hm
    rcases List.mem_cons.mp hm with e | hm
    · exact absurd F.ns.lt (e ▸ Nat.lt_irrefl _)
    · exact hLl (List.mem_singleton.mp hm)
  · intro b hb
    rw [List.mem_singleton.mp hb]
    exact next_is_new F
  · intro b hb
    rcases List.mem_cons.mp hb with rfl | hb
    · exact .inl (List.mem_singleton.mpr rfl)
    · rw [List.mem_singleton.mp hb]; exact .inr hlf
  · rintro i h ⟨⟨o, ho, _⟩, _⟩ b hb
    rw [List.mem_singleton.mp hb]; exact ⟨o, ho⟩
  · exact turn
  · exact done
theorem iter_str {y : Str} {ty : Tok} {m₀ : Str → Option Value} {mt fixed : List (Addr × Obj)}
    (hh : A.handled = none) (hoff : OwnOff fixed (mt.map (·.1))) (F : Fr h₀ env.locals s.heap m₀) (N : News h₀ env.locals s.heap (mt ++ fixed))
    (J : Nat → (Str → Option Value) → List (Addr × Obj) → Prop) (hj : J 0 m₀ mt)
    (turn : ∀ i c u m₁ mt₁ h tk own, i < y.cps.size → y.cps[i]? = some c → J i m₁ mt₁ → OwnOff own (mt₁.map (·.1)) → (∀ p ∈ fixed, p ∈ own) →
      Fr h₀ env.locals h (fun z => if z = x then some (.str ⟨#[c]⟩ u) else m₁ z) → News h₀ env.locals h (mt₁ ++ own) →
      wpAny (model prog w) A (execs body env) (Turn h₀ env.locals (J (i + 1)) own { s with heap := h, toks := tk } Q) E { s with heap := h, toks := tk })
    (done : ∀ m₁ mt₁ h tk, J y.cps.size m₁ mt₁ → Fr h₀ env.locals h m₁ → News h₀ env.locals h (mt₁ ++ fixed) → OwnOff fixed (mt₁.map (·.1)) → Q .next { s with heap := h, toks := tk }) :
    wpAny (model prog w) A (pyIter (.str y ty)) (fun it s₂ => LoopAtV prog w A h₀ env x body Q E it s₂) E s := by
  have up : ∀ p ∈ mt ++ fixed, p.1 ∉ [s.heap.objs.size] := fun p hp hI =>
    absurd (Heap.lt_size (N p hp).1) ((List.mem_singleton.mp hI) ▸ Nat.lt_irrefl _)
  have h1 : env.locals ∉ [s.heap.objs.size] := fun hm => absurd F.ns.lt ((List.mem_singleton.mp hm) ▸ Nat.lt_irrefl _)
  have h2 : ∀ b ∈ [s.heap.objs.size], h₀.get? b = none := fun b hb => by rw [List.mem_singleton.mp hb]; exact next_is_new F
  have tn : ∀ (o : Obj) i v m₁ mt₁ h tk own, i < y.cps.size → SignAt y i v → J i m₁ mt₁ → OwnOff own (mt₁.map (·.1)) → (∀ p ∈ fixed, p ∈ own) →
      Fr h₀ env.locals h (fun y => if y = x then some v else m₁ y) → News h₀ env.locals h (mt₁ ++ own) →
      wpAny (model prog w) A (execs body env) (Turn h₀ env.locals (J (i + 1)) own { s with heap := h, toks := tk } Q) E { s with heap := h, toks := tk } := by
    rintro o i v m₁ mt₁ h tk own hi ⟨c, u, hc, rfl⟩ hJ ho hf F N
    exact turn i c u m₁ mt₁ h tk own hi hc hJ ho hf F N
  cases ha : y.cps.all (· < 128)
  · refine wpAny_pyIter_wide ha (loopAt (Walks.strWide hh _ y ty) h1 h2 (fun p hp => up p (List.mem_append_left _ hp)) (fun p hp => up p (List.mem_append_right _ hp)) (fun b hb => .inl hb) ?_ hoff
      ⟨_, Heap.get?_push_size _ rfl, rfl, rfl⟩ (F.push _) (fun p hp => ⟨Heap.get?_push_of_some _ (N p hp).1, (N p hp).2⟩) J hj (tn default) done)
    rintro i h ⟨o, ho, _⟩ b hb
    rw [List.mem_singleton.mp hb]; exact ⟨o, ho⟩
  · refine wpAny_pyIter_ascii ha (loopAt (Walks.strAscii hh _ y ty) h1 h2 (fun p hp => up p (List.mem_append_left _ hp)) (fun p hp => up p (List.mem_append_right _ hp)) (fun b hb => .inl hb) ?_ hoff
      ⟨_, Heap.get?_push_size _ rfl, rfl, rfl⟩ (F.push _) (fun p hp => ⟨Heap.get?_push_of_some _ (N p hp).1, (N p hp).2⟩) J hj (tn default) done)
    rintro i h ⟨o, ho, _⟩ b hb
    rw [List.mem_singleton.mp hb]; exact ⟨o, ho⟩
theorem small_up (n : Nat) (hn : n < 2 ^ 40) : Builtin.Range.small 0 (n : Int) 1 = true ∧ Builtin.Range.rangeSize 0 (n : Int) 1 = n := by
  have e : Builtin.Range.rangeSize 0 (n : Int) 1 = n := by
    unfold Builtin.Range.rangeSize
    simp
    omega
  refine ⟨?_, e⟩
  unfold Builtin.Range.small
  rw [e]
  simp [Builtin.Range.rangeFitsLong]
  omega
theorem iter_range {r : Addr} {n : Nat} {t u v : Tok} {m₀ : Str → Option Value} {mt fixed : List (Addr × Obj)}
    (hh : A.handled = none) (hr : IsRange s.heap r 0 (n : Int) 1 t u v) (hn : n < 2 ^ 40)
    (hoff : OwnOff fixed (mt.map (·.1))) (F : Fr h₀ env.locals s.heap m₀) (N : News h₀ env.locals s.heap (mt ++ fixed))
    (J : Nat → (Str → Option Value) → List (Addr × Obj) → Prop) (hj : J 0 m₀ mt)
    (turn : ∀ i q m₁ mt₁ h tk own, i < n → J i m₁ mt₁ → OwnOff own (mt₁.map (·.1)) → (∀ p ∈ fixed, p ∈ own) →
      Fr h₀ env.locals h (fun z => if z = x then some (.int (i : Int) q) else m₁ z) → News h₀ env.locals h (mt₁ ++ own) →
      wpAny (model prog w) A (execs body env) (Turn h₀ env.locals (J (i + 1)) own { s with heap := h, toks := tk } Q) E { s with heap := h, toks := tk })
    (done : ∀ m₁ mt₁ h tk, J n m₁ mt₁ → Fr h₀ env.locals h m₁ → News h₀ env.locals h (mt₁ ++ fixed) → OwnOff fixed (mt₁.map (·.1)) → Q .next { s with heap := h, toks := tk }) :
    wpAny (model prog w) A (pyIter (.ref r)) (fun it s₂ => LoopAtV prog w A h₀ env x body Q E it s₂) E s := by
  obtain ⟨e1, e2⟩ := small_up n hn
  have up : ∀ p ∈ mt ++ fixed, p.1 ∉ [s.heap.objs.size] := fun p hp hI =>
    absurd (Heap.lt_size (N p hp).1) ((List.mem_singleton.mp hI) ▸ Nat.lt_irrefl _)
  have h1 : env.locals ∉ [s.heap.objs.size] := fun hm => absurd F.ns.lt ((List.mem_singleton.mp hm) ▸ Nat.lt_irrefl _)
  have h2 : ∀ b ∈ [s.heap.objs.size], h₀.get? b = none := fun b hb => by rw [List.mem_singleton.mp hb]; exact next_is_new F
  refine wpAny_pyIter_range hr e1 ?_
  rw [e2]
  refine loopAt (s := { s with heap := s.heap.push { cls := .type "range_iterator", data := .fields #[rawInt 0, rawInt n, rawInt 1] } }) (Walks.range hh _ 0 1 n) h1 h2 (fun p hp => up p (List.mem_append_left _ hp)) (fun p hp => up p (List.mem_append_right _ hp)) (fun b hb => .inl hb) ?_ hoff
    ?_ (F.push _) (fun p hp => ⟨Heap.get?_push_of_some _ (N p hp).1, (N p hp).2⟩) J hj ?_ done
  · rintro i h ho b hb
    rw [List.mem_singleton.mp hb]; exact ⟨_, ho⟩
  · show (s.heap.push _).get? s.heap.objs.size = _
    rw [Heap.get?_push_size _ rfl]
    simp
  · rintro i v m₁ mt₁ h tk own hi ⟨q, rfl⟩ hJ ho hf F N
    refine turn i q m₁ mt₁ h tk own hi hJ ho hf ?_ N
    simpa using F
end
end
section
open PySem.Builtin PySem.Builtin.Str PySem.Spec PySem.StrLaws
abbrev cl (x : Str) : List Nat := x.cps.toList
abbrev tx (l : List Nat) : Str := ⟨l.toArray⟩
theorem tx_cl (x : Str) : tx (cl x) = x := rfl
theorem cl_len (x : Str) : (cl x).length = x.length := rfl
def dots : Str := Str.ofString "..."
theorem dots_cl : cl dots = [46, 46, 46] := by decide +kernel
theorem dots_len : dots.length = 3 := by decide +kernel
def gapL (l : List Nat) : List Nat := [46, 46, 46] ++ l.flatMap fun d => [d, 46, 46, 46]
theorem join_cl (l : List Nat) : ∀ c, cl (Str.join dots ((c :: l).map fun n => (⟨#[n]⟩ : Str))) = c :: l.flatMap fun d => [46, 46, 46, d] := by
  induction l with
  | nil => intro c; rfl
  | cons d l ih =>
    intro c
    have h : Str.join dots ((c :: d :: l).map fun n => (⟨#[n]⟩ : Str)) = (⟨#[c]⟩ : Str) ++ dots ++ Str.join dots ((d :: l).map fun n => (⟨#[n]⟩ : Str)) := rfl
    rw [h]
    show (((⟨#[c]⟩ : Str) ++ dots ++ Str.join dots ((d :: l).map fun n => (⟨#[n]⟩ : Str))).cps).toList = _
    rw [Str.cps_append, Str.cps_append, Array.toList_append, Array.toList_append, show (Str.join dots ((d :: l).map fun n => (⟨#[n]⟩ : Str))).cps.toList = _ from ih d, show dots.cps.toList = [46, 46, 46] from dots_cl]
    simp
theorem shift_dots (l : List Nat) : ∀ c, c :: (l.flatMap fun d => [46, 46, 46, d]) ++ [46, 46, 46] = (c :: l).flatMap fun d => [d, 46, 46, 46] := by
  induction l with
  | nil => intro c; rfl
  | cons d l ih =>
    intro c
    have := ih d
    simp only [List.flatMap_cons, List.cons_append, List.nil_append] at this ⊢
    rw [← this]
def gaps (word : Str) : Str := dots ++ Txt.join dots (signs word) ++ dots
theorem gaps_cl {word : Str} (h : cl word ≠ []) : cl (gaps word) = gapL (cl word) := by
  unfold gaps
  show ((dots ++ Txt.join dots (signs word) ++ dots).cps).toList = _
  rw [Str.cps_append, Str.cps_append, Array.toList_append, Array.toList_append, show dots.cps.toList = [46, 46, 46] from dots_cl]
  show _ ++ cl (glued dots (signs word)) ++ _ = _
  rw [glued_eq_join]
  unfold signs
  show _ ++ cl (Str.join dots ((cl word).map _)) ++ _ = gapL (cl word)
  cases hw : cl word with
  | nil => exact absurd hw h
  | cons c l =>
    rw [join_cl]
    unfold gapL
    rw [← shift_dots, List.append_assoc]
theorem at_iff (x : Str) (k : Nat) : At x dots x.length k ↔ ((cl x).drop k).take 3 = [46, 46, 46] := by
  unfold At
  rw [subAt_eq, dots_len, show dots.cps.toList = [46, 46, 46] from dots_cl]
  simp only [beq_iff_eq]
  refine ⟨fun h => h.2, fun h => ⟨?_, h⟩⟩
  have := congrArg List.length h
  simp only [List.length_take, List.length_drop, List.length_cons, List.length_nil, cl_len] at this
  omega
theorem sub_eq (x : Str) (i j : Nat) (l : List Nat) (h : ((cl x).drop i).take (j - i) = l) : strSub x i j = tx l := by
  have : cl (strSub x i j) = l := by rw [← h]; exact strSub_toList x i j
  rw [← this]
theorem parts_of (x : Str) : ∀ (l pre : List Nat) (cuts : List Nat) (f : Nat), 46 ∉ l → cl x = pre ++ (l.flatMap fun d => [d, 46, 46, 46]) →
    ChainG x dots x.length pre.length cuts f → (∀ k, f ≤ k → ¬ At x dots x.length k) → partsFrom x 3 pre.length cuts = (l.map fun n => tx [n]) ++ [tx []] := by
  intro l
  induction l with
  | nil =>
    intro pre cuts f _ hx hc hf
    have hlen : x.length = pre.length := by rw [← cl_len, hx]; simp
    cases cuts with
    | nil =>
      show [strSub x pre.length x.length] = _
      rw [sub_eq x _ _ [] (by rw [hlen]; simp)]
      rfl
    | cons c r =>
      have h1 := hc.2.1.1
      have h2 := hc.1
      rw [dots_len] at h1
      omega
  | cons d l ih =>
    intro pre cuts f hd hx hc hf
    have hd1 : d ≠ 46 := fun e => hd (by simp [e])
    have hx' : cl x = pre ++ d :: 46 :: 46 :: 46 :: (l.flatMap fun d => [d, 46, 46, 46]) := by rw [hx]; simp
    have n0 : ¬ At x dots x.length pre.length := by
      rw [at_iff, hx', List.drop_left]
      simp [hd1]
    have n1 : At x dots x.length (pre.length + 1) := by
      rw [at_iff, hx', ← List.drop_drop, List.drop_left]
      simp
    cases cuts with
    | nil =>
      have e : f = pre.length := hc
      exact absurd n1 (hf _ (by omega))
    | cons c r =>
      obtain ⟨h1, h2, h3, h4⟩ := hc
      have hcc : c = pre.length + 1 := by
        rcases Nat.lt_trichotomy c (pre.length + 1) with q | q | q
        · have : c = pre.length := by omega
          exact absurd (this ▸ h2) n0
        · exact q
        · exact absurd n1 (h3 _ (by omega) q)
      subst hcc
      have hp : (pre ++ [d, 46, 46, 46]).length = pre.length + 1 + dots.length := by rw [dots_len]; simp
      have := ih (pre ++ [d, 46, 46, 46]) r f (fun q => hd (by simp [q])) (by rw [hx']; simp) (hp ▸ h4) hf
      rw [hp] at this
      show strSub x pre.length (pre.length + 1) :: partsFrom x 3 (pre.length + 1 + 3) r = _
      rw [sub_eq x _ _ [d] (by rw [hx', List.drop_left]; simp)]
      rw [dots_len] at this
      rw [this]
      rfl
theorem split_gaps {x : Str} {l : List Nat} (hx : cl x = gapL l) (hl : 46 ∉ l) : Txt.split x dots = tx [] :: ((l.map fun n => tx [n]) ++ [tx []]) := by
  have hlen : 3 ≤ x.length := by rw [← cl_len, hx]; simp [gapL]
  unfold Txt.split
  have hk : ¬ Builtin.Str.strKind x < Builtin.Str.strKind dots := by
    have h1 : Builtin.Str.strKind dots = 1 := by decide +kernel
    rw [h1]
    unfold Builtin.Str.strKind
    split
    · omega
    · split <;> omega
  have h0 : (decide (x.length < dots.length) || decide (Builtin.Str.strKind x < Builtin.Str.strKind dots)) = false := by
    rw [dots_len]
    simp only [Bool.or_eq_false_iff, decide_eq_false_iff_not]
    exact ⟨by omega, hk⟩
  rw [h0]
  obtain ⟨f, hc, hf⟩ := occ_tight x dots (by rw [dots_len]; omega)
  have a0 : At x dots x.length 0 := by rw [at_iff, hx]; simp [gapL]
  generalize occurrences x dots 0 x.length (x.length + 1) = cuts at hc
  cases cuts with
  | nil =>
    have e : f = 0 := hc
    exact absurd a0 (hf 0 (by omega))
  | cons c r =>
    obtain ⟨h1, h2, h3, h4⟩ := hc
    have hcc : c = 0 := by
      rcases Nat.eq_zero_or_pos c with q | q
      · exact q
      · exact absurd a0 (h3 0 (Nat.zero_le _) q)
    subst hcc
    simp only [Bool.false_eq_true, if_false, List.isEmpty_cons, partsBetween_eq]
    rw [dots_len] at h4
    have := parts_of x l [46, 46, 46] r f hl (by rw [hx]; rfl) h4 hf
    show strSub x 0 0 :: partsFrom x dots.length (0 + dots.length) r = _
    rw [dots_len]
    show strSub x 0 0 :: partsFrom x 3 3 r = _
    have this' : partsFrom x 3 3 r = (l.map fun n => tx [n]) ++ [tx []] := this
    rw [this', sub_eq x 0 0 [] (by simp)]
theorem has_dots {x : Str} {l : List Nat} (hx : cl x = gapL l) : (occurrences x dots 0 x.length 1).isEmpty = false := by
  have a0 : At x dots x.length 0 := by rw [at_iff, hx]; simp [gapL]
  rcases occ_head_from x dots 0 1 (Nat.le_refl 1) with ⟨_, hn⟩ | ⟨i, r, e, _⟩
  · exact absurd a0 (hn 0 (Nat.le_refl 0))
  · rw [e]; rfl
def find4 (x y : Str) (i j : Int) : Int := match occurrences x y (fromIndex x.length i) (min (fromIndex x.length j) x.length) 1 with | k :: _ => (k : Int) | [] => -1
theorem gives_find4 (x y : Str) (i j : Int) (t u v v' : Tok) : Gives («str.find» ⟨[.str x t, .str y u, .int i v, .int j v'], []⟩) (.int (find4 x y i j)) := by
  show Gives (match occurrences x y (fromIndex x.length i) (min (fromIndex x.length j) x.length) 1 with | k :: _ => retInt k | [] => (do rule "str.find.not-found"; retInt (-1))) _
  unfold find4
  cases occurrences x y (fromIndex x.length i) (min (fromIndex x.length j) x.length) 1 with
  | nil => exact .rule (.of_eq rfl)
  | cons k _ => exact .of_eq rfl
theorem call_find4 {prog : Program} {w : World} {A : Around} {E : Value → Shared → Prop} {s : Shared} {x y : Str} {t u v v' : Tok} {i j : Int} {Q : Value → Shared → Prop}
    (hq : Q (.int (find4 x y i j) s.toks) { s with toks := s.toks + 1 }) : wpAny (model prog w) A (call (.builtin "str.find") [.str x t, .str y u, .int i v, .int j v']) Q E s :=
  call_gives F.slot_str_find (typeIs_str _ _ _) F.entry_str_find (F.args_str_find_4 _ _ _ _) (gives_find4 x y i j t u v v') hq
theorem find4_eq (x y : Str) (k : Nat) : find4 x y (k : Int) (x.length : Int) = match occurrences x y k x.length 1 with | k :: _ => (k : Int) | [] => -1 := by
  unfold find4
  have e1 : fromIndex x.length (k : Int) = k := by unfold fromIndex; rw [if_neg (by omega)]; omega
  have e2 : fromIndex x.length (x.length : Int) = x.length := by unfold fromIndex; rw [if_neg (by omega)]; omega
  rw [e1, e2, Nat.min_self]
theorem find4_nil (x : Str) (k : Nat) (hk : k ≤ x.length) : find4 x (tx []) (k : Int) (x.length : Int) = k := by
  rw [find4_eq]
  have ha : ∀ i, i ≤ x.length → At x (tx []) x.length i := fun i hi => ⟨hi, by rw [subAt_eq]; rfl⟩
  rcases occ_head_from x (tx []) k 1 (Nat.le_refl 1) with ⟨_, hn⟩ | ⟨i, r, e, h1, h2, h3⟩
  · exact absurd (ha k hk) (hn k (Nat.le_refl k))
  · rw [e]
    rcases Nat.lt_or_ge k i with q | q
    · exact absurd (ha k hk) (h3 k (Nat.le_refl k) q)
    · have : i = k := by omega
      simp [this]
theorem at_one (x : Str) (c k : Nat) : At x (tx [c]) x.length k ↔ (cl x)[k]? = some c := by
  unfold At
  rw [subAt_eq]
  show (k + 1 ≤ x.length ∧ ((cl x).drop k).take 1 == [c]) ↔ _
  simp only [beq_iff_eq]
  rw [← cl_len]
  generalize cl x = l
  constructor
  · rintro ⟨h1, h2⟩
    have h3 : k < l.length := h1
    rw [List.drop_eq_getElem_cons h3, List.take_succ_cons, List.take_zero] at h2
    rw [List.getElem?_eq_getElem h3, List.head_eq_of_cons_eq h2]
  · intro h
    obtain ⟨h3, h4⟩ := List.getElem?_eq_some_iff.mp h
    refine ⟨h3, ?_⟩
    rw [List.drop_eq_getElem_cons h3]
    simp [h4]
theorem find4_one (x : Str) (c k : Nat) :
    (find4 x (tx [c]) (k : Int) (x.length : Int) = -1 ∧ ∀ v, k ≤ v → (cl x)[v]? ≠ some c) ∨
    ∃ i : Nat, find4 x (tx [c]) (k : Int) (x.length : Int) = (i : Int) ∧ k ≤ i ∧ i < x.length ∧ (cl x)[i]? = some c ∧ ∀ v, k ≤ v → v < i → (cl x)[v]? ≠ some c := by
  rw [find4_eq]
  rcases occ_head_from x (tx [c]) k 1 (Nat.le_refl 1) with ⟨e, hn⟩ | ⟨i, r, e, h1, h2, h3⟩
  · rw [e]
    exact .inl ⟨rfl, fun v hv h => hn v hv ((at_one x c v).mpr h)⟩
  · rw [e]
    refine .inr ⟨i, rfl, h1, ?_, (at_one x c i).mp h2, fun v hv hl h => h3 v hv hl ((at_one x c v).mpr h)⟩
    have := h2.1
    have e1 : (tx [c]).length = 1 := rfl
    omega
abbrev sub (w l : List Nat) : Bool := w.isSublist l
theorem sub_nil (l : List Nat) : sub [] l = true := by cases l <;> rfl
theorem sub_cons (c d : Nat) (w l : List Nat) : sub (c :: w) (d :: l) = if c = d then sub w l else sub (c :: w) l := by
  show (if (c == d) = true then _ else _) = _
  by_cases h : c = d
  · rw [if_pos h, if_pos (by simp [h])]
  · rw [if_neg h, if_neg (by simp [h])]
theorem sub_miss {c : Nat} {w : List Nat} : ∀ {l : List Nat}, c ∉ l → sub (c :: w) l = false
  | [], _ => rfl
  | d :: l, h => by
    rw [sub_cons, if_neg (fun e => h (by simp [e]))]
    exact sub_miss fun q => h (.tail _ q)
theorem sub_hit {c : Nat} {w : List Nat} : ∀ {l : List Nat} {k : Nat}, l[k]? = some c → (∀ v, v < k → l[v]? ≠ some c) → sub (c :: w) l = sub w (l.drop (k + 1))
  | [], _, h, _ => by simp at h
  | d :: l, 0, h, _ => by
    simp at h
    rw [sub_cons, if_pos h.symm]
    rfl
  | d :: l, k + 1, h, hn => by
    have h0 : d ≠ c := fun e => hn 0 (by omega) (by simp [e])
    rw [sub_cons, if_neg (fun e => h0 e.symm), sub_hit (by simpa using h) fun v hv e => hn (v + 1) (by omega) (by simpa using e)]
    rfl
theorem sub_drop_miss {c k : Nat} {w l : List Nat} (h : ∀ v, k ≤ v → l[v]? ≠ some c) : sub (c :: w) (l.drop k) = false := by
  refine sub_miss fun hm => ?_
  obtain ⟨j, hj⟩ := List.getElem?_of_mem hm
  rw [List.getElem?_drop] at hj
  exact h (k + j) (by omega) hj
theorem sub_drop_hit {c k i : Nat} {w l : List Nat} (hk : k ≤ i) (hi : l[i]? = some c) (h : ∀ v, k ≤ v → v < i → l[v]? ≠ some c) : sub (c :: w) (l.drop k) = sub w (l.drop (i + 1)) := by
  rw [sub_hit (k := i - k) (by rw [List.getElem?_drop, Nat.add_sub_cancel' hk]; exact hi) fun v hv => by rw [List.getElem?_drop]; exact h _ (by omega) (by omega)]
  rw [List.drop_drop]
  congr 2
  omega
def clipN (n : Nat) (i : Int) : Nat := (max 0 (min (if i < 0 then i + n else i) (n : Int))).toNat
theorem clipN_le (n : Nat) (i : Int) : clipN n i ≤ n := by unfold clipN; split <;> omega
theorem clipN_nat (n k : Nat) : clipN n (k : Int) = min k n := by unfold clipN; rw [if_neg (by omega)]; omega
def loN (n : Nat) : Option Int → Nat
  | none => 0
  | some i => clipN n i
def hiN (n : Nat) : Option Int → Nat
  | none => n
  | some i => clipN n i
theorem range_plain (a b : Nat) : sliceRange (a : Int) (b : Int) 1 = (List.range (b - a)).map fun k => a + k := by
  unfold sliceRange
  simp only [show (1 : Int) > 0 from by omega, if_true]
  have e : (if (a : Int) < (b : Int) then ((b : Int) - (a : Int) + 1 - 1) / 1 else 0).toNat = b - a := by
    split
    · rw [Int.ediv_one]; omega
    · show 0 = b - a; omega
  rw [e]
  refine List.map_congr_left fun k _ => ?_
  omega
theorem indices_plain (n : Nat) (l u : Option Int) : strSliceIndices l u 1 n = (List.range (hiN n u - loN n l)).map fun k => loN n l + k := by
  rw [← range_plain]
  have cl' : ∀ i : Int, ((clipN n i : Nat) : Int) = max 0 (min (if i < 0 then i + n else i) (n : Int)) := by intro i; unfold clipN; split <;> omega
  unfold strSliceIndices
  simp only [show (1 : Int) > 0 from by omega, if_true]
  cases l <;> cases u <;> simp only [loN, hiN, cl'] <;> rfl
theorem slice_cl (x : Str) (l u : Option Int) : Txt.slice x l u = tx (((cl x).drop (loN x.length l)).take (hiN x.length u - loN x.length l)) := by
  have h1 : loN x.length l ≤ x.length := by cases l; exact Nat.zero_le _; exact clipN_le _ _
  have h2 : hiN x.length u ≤ x.length := by cases u; exact Nat.le_refl _; exact clipN_le _ _
  have key : (strSliceIndices l u 1 x.length).filterMap (x.cps[·]?) = ((cl x).drop (loN x.length l)).take (hiN x.length u - loN x.length l) := by
    rw [indices_plain]
    rcases Nat.lt_or_ge (hiN x.length u) (loN x.length l) with q | q
    · rw [show hiN x.length u - loN x.length l = 0 by omega]; rfl
    · rw [show (fun i => x.cps[i]?) = fun i => (cl x)[i]? from by funext i; simp [cl]]
      exact picks (cl x) _ _ (by rw [cl_len]; omega)
  unfold Txt.slice
  split
  · rename_i h
    simp only [Bool.and_eq_true, beq_iff_eq] at h
    have h3 := h.2
    rw [indices_plain] at h3
    simp only [List.length_map, List.length_range] at h3
    have e1 : hiN x.length u - loN x.length l = x.length := h3
    rcases Nat.eq_zero_or_pos x.length with q | q
    · have : cl x = [] := List.eq_nil_of_length_eq_zero q
      rw [this]
      simp
      exact (tx_cl x).symm.trans (by rw [this])
    · have e2 : loN x.length l = 0 := by omega
      rw [e1, e2, List.drop_zero, List.take_of_length_le (by rw [cl_len]; omega)]
  · rw [key]
theorem slice_to (x : Str) (k : Nat) : Txt.slice x none (some (k : Int)) = tx ((cl x).take k) := by
  rw [slice_cl]
  show tx (((cl x).drop 0).take (clipN x.length (k : Int) - 0)) = _
  rw [clipN_nat, List.drop_zero, Nat.sub_zero]
  refine congrArg tx ?_
  rcases Nat.lt_or_ge k x.length with q | q
  · rw [Nat.min_eq_left (by omega)]
  · rw [Nat.min_eq_right q, List.take_of_length_le (by rw [cl_len]; omega), List.take_of_length_le (by rw [cl_len]; omega)]
theorem slice_rev (x : Str) (u : Tok) : Txt.sliceBy x none none (-1, u) = tx (cl x).reverse := by
  have h := PyProof.Rows.step_rev_list x u
  have h2 : cl (Txt.sliceBy x none none (-1, u)) = (cl x).reverse := by
    rw [show cl (Txt.sliceBy x none none (-1, u)) = _ from h]
    apply List.ext_getElem
    · simp [Str.length]
    · intro i h1 h2
      have hi : i < x.length := by simpa using h1
      simp only [List.getElem_map, List.getElem_range, List.getElem_reverse]
      have : x.length - 1 - i < x.cps.size := by show _ < x.length; omega
      rw [Array.getD_eq_getD_getElem?, Array.getElem?_eq_getElem this]
      simp [cl, Str.length]
  rw [← h2]
end
section
open PyProof.Rows.LCg PyProof.Rows.LCt PySem.Spec
section
variable {prog : Program} {w : World} {A : Around} {E : Value → Shared → Prop} {s : Shared} {h₀ : Heap} {L : Addr} {m : Str → Option Value} {env : Env}
def EltEnd (h₀ : Heap) (L : Addr) (m : Str → Option Value) (all : List (Addr × Obj)) (R : Value → Prop) (s₁ : Shared) (y : Value) (s₂ : Shared) : Prop :=
  ∃ h' tk', s₂ = { s₁ with heap := h', toks := tk' } ∧ Fr h₀ L h' m ∧ News h₀ L h' all ∧ R y
theorem compRest_of {elt : Expr} {x : Str} {scope : Scope} {cl : List (Str × Addr)} {S : List (Addr × Obj) → Prop} {P : Nat → Value → Prop} {Fin : List Value → List (Addr × Obj) → Prop} {n : Nat} {news : List (Addr × Obj)}
    (R : Nat → Value → Prop) (hS : S news)
    (hel : ∀ i v I oI C oC D ys m₂ h tk (E' : Value → Shared → Prop), i < n → P i v → NsObj oC m₂ → m₂ x = some v → Fr h₀ L h m → News h₀ L h ((I, oI) :: (C, oC) :: (D, lst ys) :: news) → Off3 I C D news → ((@Ne Nat I C) ∧ (@Ne Nat I D) ∧ (@Ne Nat C D)) →
      wpAny (model prog w) A (eval elt (compEnvC scope cl C env)) (EltEnd h₀ L m ((I, oI) :: (C, oC) :: (D, lst ys) :: news) (R i) { s with heap := h, toks := tk }) E' { s with heap := h, toks := tk })
    (hfin : ∀ ys, ys.length = n → (∀ i y, ys[i]? = some y → R i y) → Fin ys news) :
    CompRest prog w A h₀ L m env elt x scope cl s S P Fin n 0 [] news := by
  have key : ∀ k i ys, i + k = n → ys.length = i → (∀ j y, ys[j]? = some y → R j y) → CompRest prog w A h₀ L m env elt x scope cl s S P Fin k i ys news := by
    intro k
    induction k with
    | zero =>
      intro i ys hi hl hr
      exact CompRest.zero (hfin ys (by omega) hr)
    | succ k ih =>
      intro i ys hi hl hr
      refine CompRest.succ ?_
      intro v I oI C oC D m₂ h tk E' hP hC hx F N off ne
      refine wpAny_mono (hel i v I oI C oC D ys m₂ h tk E' (by omega) hP hC hx F N off ne) (fun y s₂ hy => ?_) fun _ _ e => e
      obtain ⟨h', tk', rfl, F', N', hR⟩ := hy
      refine ⟨h', tk', news, rfl, F', N', off, hS, ih (i + 1) (ys ++ [y]) (by omega) (by simp [hl]) ?_⟩
      intro j z hj
      rcases Nat.lt_or_ge j ys.length with q | q
      · rw [List.getElem?_append_left q] at hj; exact hr j z hj
      · rw [List.getElem?_append_right q] at hj
        have hjl : j = ys.length := by
          rcases Nat.lt_or_ge ys.length j with q' | q'
          · rw [List.getElem?_eq_none (by simp; omega)] at hj; cases hj
          · omega
        subst hjl
        simp at hj
        subst hj
        rw [hl]; exact hR
  exact key n 0 [] (by omega) rfl (by intro j y hj; simp at hj)
theorem compRestT_of {ct elt : Expr} {x : Str} {scope : Scope} {cl : List (Str × Addr)} {S : List (Addr × Obj) → Prop} {P : Nat → Value → Prop} {Fin : List Value → List (Addr × Obj) → Prop} {n : Nat} {news : List (Addr × Obj)}
    (keep : Nat → Bool) (R : Nat → Value → Prop) (hS : S news)
    (hel : ∀ i v I oI C oC D ys m₂ h tk (E' : Value → Shared → Prop), i < n → P i v → NsObj oC m₂ → m₂ x = some v → Fr h₀ L h m → News h₀ L h ((I, oI) :: (C, oC) :: (D, lst ys) :: news) → Off3 I C D news → ((@Ne Nat I C) ∧ (@Ne Nat I D) ∧ (@Ne Nat C D)) →
      wpAny (model prog w) A (isTrue ct (compEnvC scope cl C env) (eval ct (compEnvC scope cl C env))) (fun ok s' => ok = keep i ∧ if ok = true then
        wpAny (model prog w) A (eval elt (compEnvC scope cl C env)) (EltEnd h₀ L m ((I, oI) :: (C, oC) :: (D, lst ys) :: news) (R i) { s with heap := h, toks := tk }) E' s'
        else EltEnd h₀ L m ((I, oI) :: (C, oC) :: (D, lst ys) :: news) (fun _ => True) { s with heap := h, toks := tk } .none s') E' { s with heap := h, toks := tk })
    (hfin : ∀ ys, Paired R ((List.range n).filter keep) ys → Fin ys news) :
    CompRestT prog w A h₀ L m env ct elt x scope cl s S P Fin n 0 [] news := by
  have key : ∀ k i ys, i + k = n → Paired R ((List.range i).filter keep) ys → CompRestT prog w A h₀ L m env ct elt x scope cl s S P Fin k i ys news := by
    intro k
    induction k with
    | zero =>
      intro i ys hi hr
      have e : i = n := by omega
      subst e
      exact CompRestT.zero (hfin ys hr)
    | succ k ih =>
      intro i ys hi hr
      refine CompRestT.succ ?_
      intro v I oI C oC D m₂ h tk E' hP hC hx F N off ne
      refine wpAny_mono (hel i v I oI C oC D ys m₂ h tk E' (by omega) hP hC hx F N off ne) (fun ok s₂ hy => ?_) fun _ _ e => e
      obtain ⟨rfl, hy⟩ := hy
      cases hk : keep i with
      | true =>
        rw [hk] at hy
        simp only [if_true] at hy ⊢
        refine wpAny_mono hy (fun y s₃ hy => ?_) fun _ _ e => e
        obtain ⟨h', tk', rfl, F', N', hR⟩ := hy
        refine ⟨h', tk', news, rfl, F', N', off, hS, ih (i + 1) (ys ++ [y]) (by omega) ?_⟩
        rw [List.range_succ, List.filter_append]
        simp only [List.filter_cons, hk, if_true, List.filter_nil]
        exact hr.snoc hR
      | false =>
        rw [hk] at hy
        simp only [Bool.false_eq_true, if_false] at hy ⊢
        obtain ⟨h', tk', rfl, F', N', hR⟩ := hy
        refine ⟨h', tk', news, rfl, F', N', off, hS, ih (i + 1) ys (by omega) ?_⟩
        rw [List.range_succ, List.filter_append]
        simp only [List.filter_cons, hk, Bool.false_eq_true, if_false, List.filter_nil, List.append_nil]
        exact hr
  exact key n 0 [] (by omega) (by simpa using Paired.nil)
theorem str_st {I : Addr} {k : String} {y : Str} {t : Tok} : ∀ i (h h' : Heap) (o : Obj) (nw : List (Addr × Obj)), h.IsStrIter I k y t i → h.get? I = some o → h'.get? I = some o → (∀ b o, h₀.get? b = some o → h'.get? b = some o) → News h₀ L h' nw → True → h'.IsStrIter I k y t i :=
  fun i h h' o nw ⟨o', q, r⟩ e e' _ _ _ => by rw [e] at q; cases q; exact ⟨o, e', r⟩
def SrcST (prog : Program) (w : World) (A : Around) (h₀ : Heap) (L : Addr) (m : Str → Option Value) (env : Env) (ct elt : Expr) (x : Str) (scope : Scope) (cl : List (Str × Addr)) (Fin : Shared → List Value → List (Addr × Obj) → Prop) (xv : Value) (s₁ : Shared) : Prop :=
  ∃ y t news, xv = .str y t ∧ A.handled = none ∧ Fr h₀ L s₁.heap m ∧ News h₀ L s₁.heap news ∧ y.cps.size ≤ sizeLine ∧
    ∀ g, CompRestT prog w A h₀ L m env ct elt x scope cl { s₁ with heap := g } (fun _ => True) (SignAt y) (Fin { s₁ with heap := g }) y.cps.size 0 [] news
theorem ListComp_ST {ct elt iter : Expr} {x : Str} {px : Pos} {scope : Scope} {cl : List (Str × Addr)} {pos : Pos} {Q : Value → Shared → Prop} (_F₀ : Fr h₀ L s.heap m)
    (hclos : closureFor scope env = pure cl) (hcell : ∀ y ∈ scope.names, y.2 ≠ .cell) (hkind : scope.kind = .function)
    (hnames : ∀ y ∈ scope.names, y.2 = .local → scope.names.lookup y.1 = some .local) (hx : scope.names.lookup x = some .local)
    (h : wpAny (model prog w) A (eval iter env) (SrcST prog w A h₀ L m env ct elt x scope cl (fun s₂ => FinE h₀ L m s₂ Q)) E s)
    (hs : ∀ x, foldedSetIterable iter env x = pure x := by intro _; rfl) :
    wpAny (model prog w) A (eval (.ListComp elt [⟨.Name x px, iter, [ct], 0⟩] scope pos) env) Q E s := by
  rw [eval_ListComp]
  refine wpAny_comprehension_free (use := none) rfl hs hclos hkind hnames (wpAny_mono h (fun xv s₁ h₁ => ?_) fun _ _ e => e)
  obtain ⟨y, t, news, rfl, hh, F, N, hsz, R⟩ := h₁
  have hfp : ∀ o, ∀ b ∈ [s₁.heap.objs.size], b < (s₁.heap.push o).objs.size := fun o b hb => by
    rw [List.mem_singleton.mp hb, Heap.size_push]; exact Nat.lt_succ_self _
  have fin : ∀ o, ∀ D C h tk m' ys news', Fr h₀ L h m → News h₀ L h ((D, lst ys) :: news') → Off1 D news' → h.Ns C m' → h₀.get? C = none → h₀.get? D = none → C ≠ L → D ≠ L → C ≠ D → (∀ p ∈ news', p.1 ≠ C) →
      FinE h₀ L m { s₁ with heap := s₁.heap.push o } Q ys news' → compPost (model prog w) A E none Q (.ref D) C (.ok .next) { s₁ with heap := h, toks := tk } := by
    intro o D C h tk m' ys news' F' N' o1 hn hC₀ hD₀ hCL hDL hCD offC fin
    refine ⟨m', hn, fun h'' hs'' => fin D h'' tk (F'.change hs'' hCL hC₀) (fun p hp => ?_) o1⟩
    refine ⟨hs''.extBut _ _ ?_ (N' p hp).1, (N' p hp).2⟩
    rcases List.mem_cons.mp hp with rfl | hp
    · exact Ne.symm hCD
    · exact offC p hp
  cases ha : y.cps.all (· < 128)
  · refine wpAny_pyIter_wide ha ?_
    exact LCt.block_T (Walks.strWide hh _ y t) hsz (fun i h st => by obtain ⟨o, e, _⟩ := st; exact ⟨o, e⟩) str_st hcell hkind hx ⟨_, Heap.get?_push_size _ rfl, rfl, rfl⟩ (hfp _)
      (F.keeps fun _ _ e => Heap.get?_push_of_some _ e) (N.grown fun _ _ e => Heap.get?_push_of_some _ e) (Nat.ne_of_lt F.ns.lt) (next_is_new F) (fun p hp => Nat.ne_of_lt (Heap.lt_size (N p hp).1)) trivial (R _) (fin _)
  · refine wpAny_pyIter_ascii ha ?_
    exact LCt.block_T (Walks.strAscii hh _ y t) hsz (fun i h st => by obtain ⟨o, e, _⟩ := st; exact ⟨o, e⟩) str_st hcell hkind hx ⟨_, Heap.get?_push_size _ rfl, rfl, rfl⟩ (hfp _)
      (F.keeps fun _ _ e => Heap.get?_push_of_some _ e) (N.grown fun _ _ e => Heap.get?_push_of_some _ e) (Nat.ne_of_lt F.ns.lt) (next_is_new F) (fun p hp => Nat.ne_of_lt (Heap.lt_size (N p hp).1)) trivial (R _) (fin _)
end
end
section
open PyProof.V PySem.Spec
section
variable {prog : Program} {w : World} {A : Around} {E : Value → Shared → Prop} {s : Shared} {Q : Value → Shared → Prop}
theorem lay_strs : ∀ ns : List Str, (∀ x ∈ ns, PyData.strOk x = true) → PyData.canLayAll0 (ns.map PyData.str) = true
  | [], _ => rfl
  | x :: r, h => by simp [PyData.canLayAll0, PyData.canLay0, lay_strs r fun y hy => h y (.tail _ hy), h x (.head _)]
theorem depth_strs : ∀ ns : List Str, PyData.depthAll (ns.map PyData.str) = 0
  | [] => rfl
  | _ :: r => by simp [PyData.depthAll, PyData.depth, depth_strs r]
theorem shaped_strs (ns : List Str) (h : ∀ x ∈ ns, PyData.strOk x = true) : SeqAt.shaped (.list (ns.map PyData.str)) = true := by
  simp [SeqAt.shaped, PyData.canLay0, PyData.depth, lay_strs ns h, depth_strs]
theorem same_strs : ∀ ns ms : List Str, PySem.Spec.sameAll (ns.map PyData.str) (ms.map PyData.str) = decide (ns = ms)
  | [], [] => by simp [PySem.Spec.sameAll]
  | [], _ :: _ => by simp [PySem.Spec.sameAll]
  | _ :: _, [] => by simp [PySem.Spec.sameAll]
  | a :: r, b :: t => by
    simp only [List.map_cons, PySem.Spec.sameAll, PySem.Spec.same, same_strs r t]
    by_cases h : a = b <;> by_cases h' : r = t <;> simp [h, h']
theorem carried_strs : ∀ {vs : List Value} {ns : List Str}, StrsAre vs ns → CarriedAll vs (ns.map PyData.str)
  | _, _, .nil => .nil
  | _, _, .cons _ t r => .cons (.str _ t) (carried_strs r)
theorem eq_strs {a b : Addr} {xs ys : List Value} {ns ms : List Str} (ha : s.heap.IsList a xs.toArray) (hx : StrsAre xs ns) (hb : s.heap.IsList b ys.toArray) (hy : StrsAre ys ms) (hn : ∀ x ∈ ns, PyData.strOk x = true) (hm : ∀ x ∈ ms, PyData.strOk x = true) (hu : A.units + 64 < cLine) (h : Q (.bool (decide (ns = ms))) s) :
    wpAny (model prog w) A (compareOp .Eq (.ref a) (.ref b)) Q E s :=
  eq_dataH_same (reads_newData ha (carried_strs hx)) (reads_newData hb (carried_strs hy)) (shaped_strs _ hn) (shaped_strs _ hm) hu (SeqAt.noMix_of_shape (.list .str) rfl _ _ (list_map_has fun _ => rfl) (list_map_has fun _ => rfl))
    (by simp only [PySem.Spec.same]; rw [same_strs]; exact h)
theorem ne_strs {a b : Addr} {xs ys : List Value} {ns ms : List Str} (ha : s.heap.IsList a xs.toArray) (hx : StrsAre xs ns) (hb : s.heap.IsList b ys.toArray) (hy : StrsAre ys ms) (hn : ∀ x ∈ ns, PyData.strOk x = true) (hm : ∀ x ∈ ms, PyData.strOk x = true) (hu : A.units + 64 < cLine) (h : Q (.bool (!decide (ns = ms))) s) :
    wpAny (model prog w) A (compareOp .NotEq (.ref a) (.ref b)) Q E s :=
  ne_dataH_same (reads_newData ha (carried_strs hx)) (reads_newData hb (carried_strs hy)) (shaped_strs _ hn) (shaped_strs _ hm) hu (SeqAt.noMix_of_shape (.list .str) rfl _ _ (list_map_has fun _ => rfl) (list_map_has fun _ => rfl))
    (by simp only [PySem.Spec.same]; rw [same_strs]; exact h)
end
end
section
open PySem.Builtin PySem.Builtin.Str PySem.Spec PySem.StrLaws
theorem item_at {y : Str} {k : Nat} {d : Nat} (h : (cl y)[k]? = some d) : Txt.item y (k : Int) = tx [d] := by
  have hlt : k < y.length := by
    rw [← cl_len]; exact (List.getElem?_eq_some_iff.mp h).1
  unfold Txt.item Txt.charAt
  have e : seqIndex? (k : Int) y.length = some k := by
    unfold seqIndex?
    simp only [show ¬ ((k : Int) < 0) from by omega, if_false]
    rw [if_pos (by simp only [Bool.and_eq_true, decide_eq_true_eq]; omega)]
    congr 1
  rw [e]
  have e2 : y.cps[k]? = some d := by rw [← Array.getElem?_toList]; exact h
  simp [e2]
theorem str_ext {a b : Str} (h : cl a = cl b) : a = b := by rw [← tx_cl a, ← tx_cl b, h]
theorem empty_cl : cl (Str.ofString "") = [] := by decide +kernel
theorem cl_append (a b : Str) : cl (a ++ b) = cl a ++ cl b := by
  show ((a ++ b).cps).toList = _
  rw [Str.cps_append, Array.toList_append]
end
section
open PySem.Spec
section
variable {prog : Program} {w : World} {A : Around} {s : Shared} {K : Frag} {Q E : Value → Shared → Prop} {name qual : Str} {params : Arguments} {scope : Scope} {dV kV doc pm cdv ct oc : Value} {an od : Option Addr}
  {osl : Array (Option Value)} {f : Addr} {pos : List Value} {kw : List (Str × Value)} {binds : List (Str × Value)}
def StayBut (P : Addr) (h h' : Heap) : Prop := ∀ b o, b ≠ P → h.get? b = some o → h'.get? b = some o
theorem enterLam {body : Expr} {cl : List (Str × Addr)} {c' : Addr} {ctv : Value} (ho : s.heap.get? f = some (kla_obj name qual params body scope cl pm c' ctv)) (hcd : s.heap.CodeRec (.ref c') qual) (hlim : s.heap.NoLimit) (hroom : A.depth < recursionLimit)
    (hbind : bindArgs (kla_fn name qual params body scope cl pm (.ref c') ctv) ⟨pos, kw⟩ = pure binds) (hloc : ∀ y ∈ binds, scope.names.lookup y.1 = some .local)
    (hco : scope.isCoroutine = false) (hgen : scope.isGenerator = false) (hk : scope.kind = .function) (hcell : ∀ x ∈ scope.names, x.2 ≠ .cell)
    (h : ∀ L h₁ tk, Fr s.heap L h₁ (fun y => binds.reverse.lookup y) → News s.heap L h₁ [] →
      wpAny (model prog w) (A.deeper (envX qual scope L f (.ref c') cl)) (eval body (envX qual scope L f (.ref c') cl)) (fun v s' => Q v s') (fun _ _ => False) { s with heap := h₁, toks := tk }) :
    wpAny (model prog w) A (call (.ref f) pos kw) Q E s := by
  refine wpAny_call ?_
  refine kla_callFunE hroom ho rfl hco hgen rfl hcd ?_
  rw [hbind]
  refine wpAny_pure (wpAny_newFunctionEnv hcell hloc (fun h₁ hns hsb => ⟨hlim.fresh _ hsb, ?_⟩) hk)
  show codeAny _ _ (.expr body (envX qual scope s.heap.objs.size f (.ref c') cl)) _ _
  have hk₁ : ∀ b o, s.heap.get? b = some o → h₁.get? b = some o := fun b o e => hsb.extBut b o (Nat.ne_of_lt (Heap.lt_size e)) (Heap.get?_push_of_some _ e)
  exact kla_codeExpr (wpAny_mono (h s.heap.objs.size h₁ (s.toks + binds.length) ⟨hns, hk₁, Nat.le_refl _⟩ News.nil) (fun v s' hl => hl) fun _ _ y => y.elim)
end
def TabOk (line col : Nat) (qual : Str) (ps : Array Value) (extra : List (Addr × Obj)) : Prop :=
  (ps = #[] ∧ extra = []) ∨ ∃ c' oc vs t, ps = #[rawInt line, rawInt col, .ref c'] ∧ extra = [(c', oc)] ∧ oc.data = .fields vs ∧ vs[1]? = some (.str qual t)
theorem updF_mid {d : Addr} {o : Obj} : ∀ {pre post : List (Addr × Obj)}, (∀ p ∈ pre, p.1 ≠ d) → (∀ p ∈ post, p.1 ≠ d) → UpdF d o (pre ++ (d, o) :: post) (fun o' => pre ++ (d, o') :: post)
  | [], _, _, h => .head h
  | p :: _, _, h1, h2 => .tail (h1 p (.head _)) (updF_mid (fun q hq => h1 q (.tail _ hq)) h2)

theorem stay_hideAll {g h : Heap} {l : List Addr} (hg : Stay g h) (hl : ∀ a ∈ l, g.get? a = none) : Stay g (hideAll h l) :=
  fun b o e => hideAll_get l (hg b o e) (fun hb => by rw [hl b hb] at e; cases e)
theorem stay_back {h h' : Heap} {news : List (Addr × Obj)} (hn : ∀ p ∈ news, h.get? p.1 = some p.2) (hk : ∀ b o, (hideAll h (news.map (·.1))).get? b = some o → h'.get? b = some o) (hN : ∀ p ∈ news, h'.get? p.1 = some p.2) : Stay h h' := by
  intro b o e
  by_cases hb : b ∈ news.map (·.1)
  · obtain ⟨p, hp, rfl⟩ := List.mem_map.mp hb
    rw [hn p hp] at e; rw [hN p hp]; exact e
  · exact hk b o (hideAll_get _ e hb)
section
variable {prog : Program} {w : World} {A : Around} {s : Shared} {K : Frag} {Q E : Value → Shared → Prop} {name qual : Str} {params : Arguments} {scope : Scope} {dV kV doc pm cdv ct oc : Value} {an od : Option Addr}
  {osl : Array (Option Value)} {f : Addr} {pos : List Value} {kw : List (Str × Value)} {binds : List (Str × Value)}
theorem enterLamC {body : Expr} {cl : List (Str × Addr)} {c' : Addr} {ctv : Value} (news : List (Addr × Obj)) (hn : ∀ p ∈ news, s.heap.get? p.1 = some p.2)
    (ho : s.heap.get? f = some (kla_obj name qual params body scope cl pm c' ctv)) (hcd : s.heap.CodeRec (.ref c') qual) (hlim : s.heap.NoLimit) (hroom : A.depth < recursionLimit)
    (hbind : bindArgs (kla_fn name qual params body scope cl pm (.ref c') ctv) ⟨pos, kw⟩ = pure binds) (hloc : ∀ y ∈ binds, scope.names.lookup y.1 = some .local)
    (hco : scope.isCoroutine = false) (hgen : scope.isGenerator = false) (hk : scope.kind = .function) (hcell : ∀ x ∈ scope.names, x.2 ≠ .cell)
    (h : ∀ L h₁ tk, Fr (hideAll s.heap (news.map (·.1))) L h₁ (fun y => binds.reverse.lookup y) → News (hideAll s.heap (news.map (·.1))) L h₁ news →
      wpAny (model prog w) (A.deeper (envX qual scope L f (.ref c') cl)) (eval body (envX qual scope L f (.ref c') cl)) (fun v s' => Q v s') (fun _ _ => False) { s with heap := h₁, toks := tk }) :
    wpAny (model prog w) A (call (.ref f) pos kw) Q E s := by
  refine enterLam ho hcd hlim hroom hbind hloc hco hgen hk hcell fun L h₁ tk F N => ?_
  refine h L h₁ tk ⟨F.ns, fun b o e => F.keep b o (of_hideAll _ e), Nat.le_trans (Nat.le_of_eq (hideAll_size _ _)) F.above⟩ fun p hp => ?_
  exact ⟨F.keep _ _ (hn p hp), Nat.ne_of_lt (Nat.lt_of_lt_of_le (Heap.lt_size (hn p hp)) F.above), hideAll_none _ (List.mem_map_of_mem hp)⟩
end
section
variable {prog : Program} {w : World} {A : Around} {s : Shared} {K : Frag} {Q E : Value → Shared → Prop} {name qual : Str} {params : Arguments} {scope : Scope} {dV kV doc pm cdv ct oc : Value} {an od : Option Addr}
  {osl : Array (Option Value)} {f : Addr} {pos : List Value} {kw : List (Str × Value)} {binds : List (Str × Value)}
theorem enterCN {body : List Stmt} (news : List (Addr × Obj)) (hn : ∀ p ∈ news, s.heap.get? p.1 = some p.2) (X : K.In s.heap) (hlim : s.heap.NoLimit)
    (ho : K.lookup f = some ⟨oc, od, .func (fnOf name qual params body scope dV kV doc pm an cdv ct), osl⟩) (hcd : codeIn K cdv qual = true) (hroom : A.depth < recursionLimit)
    (hbind : BindsTo s (fnOf name qual params body scope dV kV doc pm an cdv ct) ⟨pos, kw⟩ binds)
    (hkind : (binds.all fun y => scope.names.lookup y.1 == some .local || scope.names.lookup y.1 == some .cell) = true)
    (hnd : ((cellsFrom 0 scope.names []).map (·.1)).Nodup)
    (hco : scope.isCoroutine = false) (hgen : scope.isGenerator = false) (hk : scope.kind = .function)
    (h : ∀ L h₁ tk cells, Fr (hideAll s.heap (news.map (·.1))) L h₁ (bindL (envOfC qual scope L f cdv).kindOf binds fun _ => none) → News (hideAll s.heap (news.map (·.1))) L h₁ (cells ++ news) →
      CellsAre (bindC (envOfC qual scope L f cdv).kindOf binds fun _ => none) (cellsFrom (L + 1) scope.names []) cells → (∀ p ∈ news, @LT.lt Nat _ p.1 L) →
      wpAny (model prog w) (A.deeper (envOfC qual scope L f cdv)) (execs body (envOfC qual scope L f cdv))
        (fun fl s' => Q (match fl with | .ret v => v | _ => .none) s') (fun _ _ => False) { s with heap := h₁, toks := tk }) :
    wpAny (model prog w) A (call (.ref f) pos kw) Q E s := by
  refine enterC X hlim ho hcd hroom hbind hkind hnd hco hgen hk fun L h₁ tk cells F N Y => ?_
  have hlt : ∀ p ∈ news, @LT.lt Nat _ p.1 L := fun p hp => Nat.lt_of_lt_of_le (Heap.lt_size (hn p hp)) F.above
  refine h L h₁ tk cells ⟨F.ns, fun b o e => F.keep b o (of_hideAll _ e), Nat.le_trans (Nat.le_of_eq (hideAll_size _ _)) F.above⟩ (fun p hp => ?_) Y hlt
  rcases List.mem_append.mp hp with hp | hp
  · have z := N p hp
    refine ⟨z.1, z.2.1, ?_⟩
    cases q : (hideAll s.heap (news.map (·.1))).get? p.1 with
    | none => rfl
    | some o => rw [of_hideAll _ q] at z; cases z.2.2
  · exact ⟨F.keep _ _ (hn p hp), Nat.ne_of_lt (hlt p hp), hideAll_none _ (List.mem_map_of_mem hp)⟩
end
end
theorem find_range {p : Nat → Bool} {n r : Nat} (h1 : ∀ i, i < r → p i = false) (h2 : p r = true) (hr : r < n) : (List.range n).find? p = some r := by
  rw [List.find?_range_eq_some]
  exact ⟨h2, by simpa using hr, fun j hj => by simp [h1 j hj]⟩
section
open PySem.Builtin PySem.Builtin.Str PySem.Spec PySem.StrLaws
theorem ints_get {v : Value} : ∀ {vs : List Value} {ns : List Int} {i : Nat}, IntsAre vs ns → vs[i]? = some v → ∃ n t, v = Value.int n t ∧ ns[i]? = some n
  | _, _, _, .nil, h => by simp at h
  | _, _, 0, .cons n t _, h => ⟨n, t, (Option.some.inj h).symm, rfl⟩
  | _, _, i + 1, .cons _ _ r, h => by
    obtain ⟨n, t, e, g⟩ := ints_get (i := i) r (by simpa using h)
    exact ⟨n, t, e, by simpa using g⟩
theorem strs_build {α : Type} (f : α → Str) : ∀ (l : List α) (ys : List Value), ys.length = l.length → (∀ (i : Nat) (y : Value), ys[i]? = some y → ∃ (a : α) (t : Tok), l[i]? = some a ∧ y = Value.str (f a) t) → StrsAre ys (l.map f)
  | [], [], _, _ => .nil
  | [], _ :: _, h, _ => by simp at h
  | _ :: _, [], h, _ => by simp at h
  | a :: l, y :: ys, h, H => by
    obtain ⟨b, t, e, rfl⟩ := H 0 y rfl
    obtain rfl : a = b := Option.some.inj e
    exact .cons _ t (strs_build f l ys (by simpa using h) fun i z hz => by
      obtain ⟨b, t, e, g⟩ := H (i + 1) z (by simpa using hz)
      exact ⟨b, t, by simpa using e, g⟩)
def resid (n : Int) : Nat := 97 + (n.fmod 3).toNat
theorem resid_mem (n : Int) : resid n = 97 ∨ resid n = 98 ∨ resid n = 99 := by
  unfold resid
  have h1 : 0 ≤ n.fmod 3 := Int.fmod_nonneg_of_pos n (by omega)
  have h2 : n.fmod 3 < 3 := Int.fmod_lt_of_pos n (by omega)
  omega
theorem abc_cl : cl (Str.ofString "abc") = [97, 98, 99] := by decide +kernel
theorem item_abc (n : Int) : Txt.item (Str.ofString "abc") (n.fmod 3) = tx [resid n] := by
  have h1 : 0 ≤ n.fmod 3 := Int.fmod_nonneg_of_pos n (by omega)
  have h2 : n.fmod 3 < 3 := Int.fmod_lt_of_pos n (by omega)
  have e : n.fmod 3 = ((n.fmod 3).toNat : Int) := by omega
  rw [e]
  refine item_at ?_
  rw [abc_cl]
  unfold resid
  have : (n.fmod 3).toNat = 0 ∨ (n.fmod 3).toNat = 1 ∨ (n.fmod 3).toNat = 2 := by omega
  rcases this with q | q | q <;> rw [q] <;> rfl
theorem join_singles (l : List Nat) : Txt.join (Str.ofString "") (l.map fun n => tx [n]) = tx l := by
  have e : Str.ofString "" = (⟨#[]⟩ : Str) := str_ext empty_cl
  rw [e]
  show glued _ _ = _
  rw [glued_eq_join]
  exact join_nil_signs (tx l)
theorem sum_singles (l : List Nat) : ((l.map fun n => tx [n]).map (·.length)).sum = l.length := by
  induction l with
  | nil => rfl
  | cons a l ih => rw [List.map_cons, List.map_cons, List.sum_cons, ih, List.length_cons]; show 1 + _ = _; omega
section
variable {prog : Program} {w : World} {A : Around} {E : Value → Shared → Prop} {s : Shared} {h₀ : Heap} {L : Addr} {m : Str → Option Value} {Q : Value → Shared → Prop}
theorem join_letters {D : Addr} {ys : List Value} {l : List Nat} {t : Tok} (hl : s.heap.IsList D ys.toArray) (hi : StrsAre ys (l.map fun n => tx [n])) (hs : l.length ≤ 1000)
    (h : ∀ t' tk, Q (Value.str (tx l) t') { s with toks := tk }) : wpAny (model prog w) A (call (.builtin "str.join") [Value.str (Str.ofString "") t, Value.ref D]) Q E s := by
  refine join_listW hl hi (by show (Str.ofString "").length ≤ 16; decide +kernel) (by rw [sum_singles, List.length_map]; omega) ?_
  rw [join_singles]
  intro t' tk
  exact h t' tk
end
end

theorem sub_iff {w l : List Nat} : sub w l = true ↔ w.Sublist l := List.isSublist_iff_sublist
section
open PySem.Spec
theorem newsAdd {g h h' : Heap} {L a : Addr} {m : Str → Option Value} {own : List (Addr × Obj)} {o : Obj} (F : Fr g L h m) (N' : News g L h' own) (ha : h.get? a = none) (hao : h'.get? a = some o) : News g L h' ((a, o) :: own) := by
  intro p hp
  rcases List.mem_cons.mp hp with rfl | hp
  · refine ⟨hao, fun e => ?_, ?_⟩
    · have e' : a = L := e
      obtain ⟨o', _, _, ho', _⟩ := F.ns
      rw [← e', ha] at ho'
      cases ho'
    · cases q : g.get? a with
      | none => rfl
      | some o' => rw [F.keep _ _ q] at ha; cases ha
  · exact N' p hp
theorem strs_len : ∀ {vs : List Value} {ws : List Str}, StrsAre vs ws → vs.length = ws.length
  | _, _, .nil => rfl
  | _, _, .cons _ _ r => by rw [List.length_cons, List.length_cons, strs_len r]
theorem strs_at : ∀ {vs : List Value} {ws : List Str} {i : Nat} {x : Str}, StrsAre vs ws → ws[i]? = some x → ∃ t, vs[i]? = some (.str x t)
  | _, _, _, _, .nil, h => by simp at h
  | _, _, 0, _, .cons y t r, h => ⟨t, by simpa using h⟩
  | _, _, i + 1, _, .cons y t r, h => by
    obtain ⟨t', e⟩ := strs_at (i := i) r (by simpa using h)
    exact ⟨t', by simpa using e⟩
theorem one_lt (a c : Nat) : ((tx [a]).cps.toList < (tx [c]).cps.toList) ↔ a < c := by
  show ([a] : List Nat) < [c] ↔ _
  rw [List.cons_lt_cons_iff]
  simp
theorem eq_one (d c : Nat) : (({ cps := #[d] } : Str) == tx [c]) = (d == c) := by
  rw [Bool.eq_iff_iff, beq_iff_eq, beq_iff_eq]
  constructor
  · intro h
    have := congrArg cl h
    simpa [cl] using this
  · rintro rfl; rfl
theorem count_range (c : Nat) : ∀ l : List Nat, ((List.range l.length).filter fun i => l.getD i 0 == c).length = l.count c
  | [] => rfl
  | a :: l => by
    rw [List.length_cons, List.range_succ_eq_map, List.filter_cons, List.filter_map, List.count_cons]
    have e : ((fun i => (a :: l).getD i 0 == c) ∘ Nat.succ) = fun i => l.getD i 0 == c := by funext i; rfl
    have ih := count_range c l
    rw [e]
    have e0 : ((a :: l).getD 0 0 == c) = (a == c) := rfl
    rw [e0]
    cases a == c
    · simp only [Bool.false_eq_true, if_false, List.length_map]; omega
    · simp only [if_true, List.length_cons, List.length_map]; omega
theorem paired_len {α β : Type} {F : α → β → Prop} : ∀ {l : List α} {r : List β}, Paired F l r → l.length = r.length
  | _, _, .nil => rfl
  | _, _, .cons _ t => by rw [List.length_cons, List.length_cons, paired_len t]
theorem gapL_length (l : List Nat) : (gapL l).length = 3 + 4 * l.length := by
  unfold gapL
  have : ∀ l : List Nat, (l.flatMap fun d => [d, 46, 46, 46]).length = 4 * l.length := by
    intro l
    induction l with
    | nil => rfl
    | cons a l ih => rw [List.flatMap_cons, List.length_append, ih, List.length_cons]; simp; omega
  rw [List.length_append, this]; rfl
theorem gaps_length {l : List Nat} (h : l ≠ []) : (gaps (tx l)).length = 3 + 4 * l.length := by
  rw [← cl_len, gaps_cl h, gapL_length]
section
variable {M : Model} {A : Around} {E : Value → Shared → Prop} {s : Shared} {h₀ : Heap} {L a c P : Addr} {m mg mb : Str → Option Value} {cn : Str} {cs : Scope} {ccd : Value} {cl : List (Str × Addr)} {pre extra own : List (Addr × Obj)}
  {p : Program} {loose : List Str} {mean : ExcName → Option Value} {name qual : Str} {params : Arguments} {body : Expr} {scope : Scope} {ps : Array Value} {pos : Pos} {firstLine : Nat} {clos : List (Str × Addr)}
theorem lam_make2 {Q : Value → Shared → Prop} (F : Fr h₀ L s.heap m) (N : News h₀ L s.heap (pre ++ (P, tabObj ps) :: (extra ++ own))) (T : Top p loose mean mg mb h₀) (C : CodeHd h₀ c P) (hcd : ccd = .ref c)
    (htab : TabOk pos.line pos.col qual ps extra) (hpre : ∀ q ∈ pre, q.1 ≠ P) (hext : ∀ q ∈ extra, q.1 ≠ P) (hown : ∀ q ∈ own, q.1 ≠ P) (hlow : ∀ q ∈ extra, ∀ r ∈ pre, @LT.lt Nat _ r.1 q.1) (hoff : ∀ q ∈ extra, ∀ r ∈ own, r.1 ≠ q.1)
    (hcl : closureFor scope (envX cn cs L a ccd cl) = pure clos)
    (h : ∀ f c' oc vs t ctv h' tk, Fr h₀ L h' m →
      News h₀ L h' ((f, kla_obj name qual params body scope clos ((mg "__name__").getD .none) c' ctv) :: (pre ++ (P, tabObj #[rawInt pos.line, rawInt pos.col, .ref c']) :: ((c', oc) :: own))) →
      oc.data = .fields vs → vs[1]? = some (.str qual t) → (∀ q ∈ pre ++ own, @LT.lt Nat _ q.1 f) → @LT.lt Nat _ P f → @LT.lt Nat _ c' f → (∀ r ∈ pre, @LT.lt Nat _ r.1 c') → c' ≠ P → (∀ r ∈ own, r.1 ≠ c') → (∀ q ∈ extra, q = (c', oc)) → Q (.ref f) { s with heap := h', toks := tk }) :
    wpAny M A (makeFunction name qual params (.expr body) scope (envX cn cs L a ccd cl) [] [] [] pos firstLine) Q E s := by
  rcases htab with ⟨rfl, rfl⟩ | ⟨c', oc, vs, t, rfl, rfl, hoc, hv⟩
  · refine kla_nest F N T C hcd (updF_mid hpre (by simpa using hown)) True.intro rfl hcl ?_
    intro f c' oc vs t ctv h' tk F' N' hoc hv hlt hcf
    have lo : ∀ q ∈ pre ++ own, @LT.lt Nat _ q.1 c' := fun q hq => hlt q (by
      rcases List.mem_append.mp hq with h | h
      · exact List.mem_append_left _ h
      · exact List.mem_append_right _ (List.mem_cons_of_mem _ (by simpa using h)))
    have hPc : @LT.lt Nat _ P c' := hlt (P, tabObj #[]) (List.mem_append_right _ (.head _))
    refine h f c' oc vs t ctv h' tk F' (fun q hq => N' q ?_) hoc hv (fun q hq => Nat.lt_trans (lo q hq) hcf) (Nat.lt_trans hPc hcf) hcf (fun r hr => lo r (List.mem_append_left _ hr)) (Nat.ne_of_gt hPc) (fun r hr => Nat.ne_of_lt (lo r (List.mem_append_right _ hr))) (fun q hq => nomatch hq)
    rcases List.mem_cons.mp hq with rfl | hq
    · exact .head _
    · refine .tail _ ?_
      rcases List.mem_append.mp hq with hq | hq
      · exact .tail _ (List.mem_append_left _ hq)
      · rcases List.mem_cons.mp hq with rfl | hq
        · exact .tail _ (List.mem_append_right _ (.head _))
        · rcases List.mem_cons.mp hq with rfl | hq
          · exact .head _
          · exact .tail _ (List.mem_append_right _ (List.mem_cons_of_mem _ (by simpa using hq)))
  · refine kla_hit (c' := c') F N T C hcd (List.mem_append_right _ (.head _)) (by simp [TriplesOk, rawInt]) (by simp [codeAmong, rawInt]) hcl ?_
    intro f ctv h' tk F' N' hlt
    refine h f c' oc vs t ctv h' tk F' N' hoc hv (fun q hq => hlt q ?_) (hlt _ (List.mem_append_right _ (.head _))) (hlt (c', oc) (List.mem_append_right _ (.tail _ (.head _)))) (fun r hr => hlow _ (.head _) r hr) (hext _ (.head _)) (fun r hr => hoff _ (.head _) r hr) (fun q hq => List.mem_singleton.mp hq)
    rcases List.mem_append.mp hq with h | h
    · exact List.mem_append_left _ h
    · exact List.mem_append_right _ (.tail _ (.tail _ h))
end
end
def askN (l fr : List Nat) (c : Nat) (i : Nat) : Bool := !sub (fr ++ List.replicate (i + 1) c) l
def mostF (l fr : List Nat) (c : Nat) : Nat := ((List.range (l.count c)).find? (askN l fr c)).getD (l.count c)
def reps (n c : Nat) : List Nat := List.replicate n c
def stepJ (l : List Nat) (i : Nat) (st : Nat × Nat) (j : Nat) : Nat × Nat := (max st.1 (i + j), max st.2 (i + j + mostF l (reps i 97 ++ reps j 98) 99))
def stepI (l : List Nat) (st : Nat × Nat) (i : Nat) : Nat × Nat := (List.range (mostF l (reps i 97) 98 + 1)).foldl (stepJ l i) st
def twoThree (l : List Nat) : Nat × Nat := (List.range (l.count 97 + 1)).foldl (stepI l) (0, 0)
def fives : List (List Nat) := [[99, 99, 98, 98, 97, 97], [99, 99, 98, 97, 98, 97], [99, 98, 99, 98, 97, 97], [99, 98, 99, 97, 98, 97], [99, 98, 97, 99, 98, 97]]
def deepF (l : List Nat) : Nat := if fives.any (fun w => sub w l) then 2 else if sub [99, 98, 97] l then 1 else 0
def dF (l : List Nat) (i : Nat) : Nat := if (fives.take i).any (fun w => sub w l) then 2 else if sub [99, 98, 97] l then 1 else 0
theorem dF_step {l wd : List Nat} {i : Nat} (h : fives[i]? = some wd) : dF l (i + 1) = if sub wd l then 2 else dF l i := by
  unfold dF
  rw [List.take_add_one, h, List.any_append]
  have e : [wd].any (fun w => sub w l) = sub wd l := by show (sub wd l || false) = _; rw [Bool.or_false]
  show (if (_ || [wd].any (fun w => sub w l)) = true then 2 else _) = _
  rw [e]
  cases sub wd l
  · rw [Bool.or_false]; simp
  · rw [Bool.or_true]; simp
def toldRows (ca cb cc two three deep : Nat) : List (List Nat) :=
  [reps ca 97 ++ reps (two - ca) 98 ++ reps (three - two) 99, reps (cb - (two - ca)) 98 ++ reps (cc - (three - two) - deep) 99, reps deep 99]
def toldF (l : List Nat) : List (List Nat) := (toldRows (l.count 97) (l.count 98) (l.count 99) (twoThree l).1 (twoThree l).2 (deepF l)).filter fun r => r != []
theorem most_of {l fr : List Nat} {c r : Nat} (h1 : r ≤ l.count c) (h2 : ∀ i, i < r → askN l fr c i = false) (h3 : ∀ i, r ≤ i → i < l.count c → askN l fr c i = true) : mostF l fr c = r := by
  unfold mostF
  rcases Nat.lt_or_ge r (l.count c) with q | q
  · rw [find_range h2 (h3 r (Nat.le_refl _) q) q]; rfl
  · have e : r = l.count c := by omega
    have : (List.range (l.count c)).find? (askN l fr c) = none := by
      rw [List.find?_eq_none]
      intro i hi
      rw [h2 i (by rw [List.mem_range] at hi; omega)]; simp
    rw [this, e]; rfl
theorem most_le {l fr : List Nat} {c : Nat} : mostF l fr c ≤ l.count c := by
  unfold mostF
  cases e : (List.range (l.count c)).find? (askN l fr c) with
  | none => exact Nat.le_refl _
  | some r => have := List.mem_of_find?_eq_some e; rw [List.mem_range] at this; exact Nat.le_of_lt this
def insRow (strict : Bool) : List Nat → Nat → List Nat × Option Nat
  | [], c => ([c], none)
  | d :: r, c => if (if strict then decide (c ≤ d) else decide (c < d)) then (c :: r, some d) else let (r', o) := insRow strict r c; (d :: r', o)
def insRows (strict : Bool) : List (List Nat) → Nat → List (List Nat)
  | [], c => [[c]]
  | r :: rs, c => match insRow strict r c with
    | (r', none) => r' :: rs
    | (r', some d) => r' :: insRows strict rs d
def rowsF (strict : Bool) (l : List Nat) : List (List Nat) := l.foldl (insRows strict) []
def colsF (rows : List (List Nat)) : List (List Nat) := (List.range ((rows.getD 0 []).length)).map fun k => rows.filterMap fun r => r[k]?
section
open PySem.Spec
theorem foldJ_bound {l : List Nat} {i ca cb cc : Nat} (hi : i ≤ ca) (hc : l.count 99 = cc) : ∀ (js : List Nat) (st : Nat × Nat), (∀ j ∈ js, j ≤ cb) → st.1 ≤ ca + cb → st.2 ≤ ca + cb + cc →
    st.1 ≤ (js.foldl (stepJ l i) st).1 ∧ (js.foldl (stepJ l i) st).1 ≤ ca + cb ∧ (js.foldl (stepJ l i) st).2 ≤ ca + cb + cc ∧ ∀ j ∈ js, i + j ≤ (js.foldl (stepJ l i) st).1
  | [], st, _, h1, h2 => ⟨Nat.le_refl _, h1, h2, fun j h => nomatch h⟩
  | j :: js, st, hj, h1, h2 => by
    have hjb := hj j (.head _)
    have hm : mostF l (reps i 97 ++ reps j 98) 99 ≤ cc := hc ▸ most_le
    have e1 : (stepJ l i st j).1 = max st.1 (i + j) := rfl
    have e2 : (stepJ l i st j).2 = max st.2 (i + j + mostF l (reps i 97 ++ reps j 98) 99) := rfl
    obtain ⟨a, b, c, d⟩ := foldJ_bound hi hc js (stepJ l i st j) (fun j h => hj j (.tail _ h)) (by rw [e1]; omega) (by rw [e2]; omega)
    rw [e1] at a
    refine ⟨Nat.le_trans (Nat.le_max_left _ _) a, b, c, fun j' h => ?_⟩
    rcases List.mem_cons.mp h with rfl | h
    · exact Nat.le_trans (Nat.le_max_right _ _) a
    · exact d j' h
theorem foldI_bound {l : List Nat} {ca cb cc : Nat} (hb : l.count 98 = cb) (hc : l.count 99 = cc) : ∀ (is : List Nat) (st : Nat × Nat), (∀ i ∈ is, i ≤ ca) → st.1 ≤ ca + cb → st.2 ≤ ca + cb + cc →
    st.1 ≤ (is.foldl (stepI l) st).1 ∧ (is.foldl (stepI l) st).1 ≤ ca + cb ∧ (is.foldl (stepI l) st).2 ≤ ca + cb + cc ∧ ∀ i ∈ is, i ≤ (is.foldl (stepI l) st).1
  | [], st, _, h1, h2 => ⟨Nat.le_refl _, h1, h2, fun j h => nomatch h⟩
  | i :: is, st, hi, h1, h2 => by
    have hm : mostF l (reps i 97) 98 ≤ cb := hb ▸ most_le
    obtain ⟨a, b, c, d⟩ := foldJ_bound (l := l) (hi i (.head _)) hc (List.range (mostF l (reps i 97) 98 + 1)) st (fun j h => by rw [List.mem_range] at h; omega) h1 h2
    have d0 := d 0 (by rw [List.mem_range]; omega)
    obtain ⟨a', b', c', d'⟩ := foldI_bound hb hc is (stepI l st i) (fun j h => hi j (.tail _ h)) b c
    have a2 : (stepI l st i).1 = ((List.range (mostF l (reps i 97) 98 + 1)).foldl (stepJ l i) st).1 := rfl
    rw [← a2] at a d0
    refine ⟨Nat.le_trans a a', b', c', fun j h => ?_⟩
    rcases List.mem_cons.mp h with rfl | h
    · exact Nat.le_trans (by omega) a'
    · exact d' j h
theorem twoThree_bound (l : List Nat) : l.count 97 ≤ (twoThree l).1 ∧ (twoThree l).1 ≤ l.count 97 + l.count 98 ∧ (twoThree l).2 ≤ l.count 97 + l.count 98 + l.count 99 := by
  obtain ⟨_, b, c, d⟩ := foldI_bound (l := l) (ca := l.count 97) rfl rfl (List.range (l.count 97 + 1)) (0, 0) (fun i h => by rw [List.mem_range] at h; omega) (Nat.zero_le _) (Nat.zero_le _)
  exact ⟨d _ (by rw [List.mem_range]; omega), b, c⟩
theorem foldJ_le {l : List Nat} {i : Nat} : ∀ (js : List Nat) (st : Nat × Nat), st.1 ≤ st.2 → (js.foldl (stepJ l i) st).1 ≤ (js.foldl (stepJ l i) st).2
  | [], _, h => h
  | j :: js, st, h => foldJ_le js (stepJ l i st j) (by
    have e1 : (stepJ l i st j).1 = max st.1 (i + j) := rfl
    have e2 : (stepJ l i st j).2 = max st.2 (i + j + mostF l (reps i 97 ++ reps j 98) 99) := rfl
    rw [e1, e2]; omega)
theorem foldI_le {l : List Nat} : ∀ (is : List Nat) (st : Nat × Nat), st.1 ≤ st.2 → (is.foldl (stepI l) st).1 ≤ (is.foldl (stepI l) st).2
  | [], _, h => h
  | i :: is, st, h => foldI_le is (stepI l st i) (foldJ_le (i := i) _ st h)
theorem twoThree_le (l : List Nat) : (twoThree l).1 ≤ (twoThree l).2 := foldI_le _ (0, 0) (Nat.le_refl _)
theorem reps_len (n c : Nat) : (reps n c).length = n := List.length_replicate
theorem strs_paired {α : Type} {f : α → Str} : ∀ {l : List α} {ys : List Value}, Paired (fun a v => ∃ t, v = Value.str (f a) t) l ys → StrsAre ys (l.map f)
  | _, _, .nil => .nil
  | _, _, .cons ⟨t, e⟩ r => e ▸ .cons _ t (strs_paired r)
theorem filter_idx (rows : List (List Nat)) : (((List.range rows.length).filter fun i => rows.getD i [] != []).map fun i => rows.getD i []) = rows.filter fun r => r != [] := by
  have e : rows = (List.range rows.length).map fun i => rows.getD i [] := by
    refine List.ext_getElem (by simp) fun i h1 h2 => ?_
    simp only [List.getElem_map, List.getElem_range, List.getD_eq_getElem?_getD, List.getElem?_eq_getElem h1, Option.getD_some]
  conv => rhs; rw [e]
  rw [List.filter_map]
  rfl
theorem filter_paired {rows : List (List Nat)} {n : Nat} (hn : n = rows.length) {ys : List Value} (h : Paired (fun i v => ∃ t, v = Value.str (tx (rows.getD i [])) t) ((List.range n).filter fun i => rows.getD i [] != []) ys) : StrsAre ys ((rows.filter fun r => r != []).map tx) := by
  subst hn
  have := strs_paired (f := fun i => tx (rows.getD i [])) h
  rw [← filter_idx, List.map_map]
  exact this
end
structure Rm (A : Around) (d u : Nat) : Prop where
  hd : A.handled = none
  dp : A.depth + d < recursionLimit
  un : A.units + u < cLine
theorem strs_get {ll : List (Str × Tok)} {i : Nat} {v : Value} (h : (strValues ll).toArray[i]? = some v) : ∃ x t, v = .str x t ∧ (ll.map (·.1))[i]? = some x := by
  simp only [strValues, List.getElem?_toArray, List.getElem?_map] at h
  cases e : ll[i]? with
  | none => rw [e] at h; cases h
  | some p =>
    rw [e] at h
    obtain rfl := Option.some.inj h
    exact ⟨p.1, p.2, rfl, by simp [e]⟩
theorem piece_get {l : List Nat} {i : Nat} {x : Str} (h : (tx [] :: ((l.map fun n => tx [n]) ++ [tx []]))[i]? = some x) :
    (x = tx [] ∧ (i = 0 ∨ i = l.length + 1)) ∨ ∃ c, x = tx [c] ∧ 1 ≤ i ∧ l[i - 1]? = some c := by
  cases i with
  | zero => exact .inl ⟨(Option.some.inj h).symm, .inl rfl⟩
  | succ i =>
    simp only [List.getElem?_cons_succ] at h
    rcases Nat.lt_or_ge i l.length with q | q
    · rw [List.getElem?_append_left (by simpa using q)] at h
      simp only [List.getElem?_map] at h
      cases e : l[i]? with
      | none => rw [e] at h; cases h
      | some c => rw [e] at h; exact .inr ⟨c, (Option.some.inj h).symm, by omega, by simpa using e⟩
    · rw [List.getElem?_append_right (by simpa using q)] at h
      simp only [List.length_map] at h
      have hi : i = l.length := by
        rcases Nat.lt_or_ge l.length i with q' | q'
        · rw [List.getElem?_eq_none (by simp; omega)] at h; cases h
        · omega
      subst hi
      simp at h
      exact .inl ⟨h.symm, .inr rfl⟩
def MatchJ (l : List Nat) (got : Str) (u : Tok) (i : Nat) (m : Str → Option Value) (mt : List (Addr × Obj)) : Prop :=
  mt = [] ∧ ∃ (k : Nat) (z : Int) (t te : Tok), Knows m [(Str.ofString "got", .str got u), (Str.ofString "endpos", .int got.length te), (Str.ofString "startpos", .int z t)] ∧ z = (k : Int) ∧
    k ≤ got.length ∧ sub l (cl got) = sub (l.drop (i - 1)) ((cl got).drop k)
theorem match_spec {w : World} {A : Around} {s : Shared} {want got : Str} {t u : Tok} (l : List Nat) {p : Program} {loose : List Str} {mean : ExcName → Option Value} {mg mb : Str → Option Value}
    (X : (hd.heap_39 w.params).In s.heap) (T : Top p loose mean mg mb s.heap) (hA : Rm A 2 20)
    (hw : cl want = gapL l) (hl : 46 ∉ l) (hwl : want.length ≤ 1000) (hgl : got.length ≤ 1000) :
    Runs (model PySem.Challenge.rw_pe0110_02.row.prog w) A (call (.ref 39) [.str want t, .str got u]) s (fun v _ => v = .bool (sub l (cl got))) := by
  revert X
  k_fill
  w_top off
  intro X
  intro Q E hret
  obtain ⟨ah, dp, fr, gd, un⟩ := A
  obtain ⟨h1, hdp, hun⟩ := hA
  dsimp only at h1 hdp hun
  subst h1
  refine enter (binds := [(Str.ofString "want", .str want t), (Str.ofString "got", .str got u)]) X T.nolimit (by k_is) (by k_is) (by show dp < _; omega) (BindsTo.of_eq rfl) (locs rfl) rfl rfl rfl (by decide) ?_
  intro L h₁ tk F N
  have hocc : (Builtin.Str.occurrences want (Str.ofString "...") 0 want.length 1).isEmpty = false := has_dots hw
  have hsp : Txt.split want (Str.ofString "...") = tx [] :: ((l.map fun n => tx [n]) ++ [tx []]) := split_gaps hw hl
  k_steps
  rotate_left
  · rename (List.map _ _ = Txt.split _ _) => hlk
    rename (¬ 2 ≤ _) => h2
    have := congrArg List.length (hlk.trans hsp)
    simp at this
    omega
  rename (List.map _ _ = Txt.split _ _) => hlk
  rename (_[_]? = some _) => hy
  rw [hlk, hsp] at hy
  obtain rfl := Option.some.inj hy
  refine P.truthy_str (by decide) ?_
  dsimp only [tx]
  k_steps
  have hl9 : (List.map (fun x : Str × Tok => x.fst) ‹List (Str × Tok)›).getD (-1 + ((List.map (fun x : Str × Tok => x.fst) ‹List (Str × Tok)›).length : Int)).toNat Str.empty = tx [] := by
    rw [hlk, hsp]
    have e : (-1 + ((tx [] :: ((l.map fun n => tx [n]) ++ [tx []])).length : Int)).toNat = l.length + 1 := by
      simp only [List.length_cons, List.length_append, List.length_map, List.length_nil]; omega
    rw [e]
    simp [List.getD]
  rw [hl9]
  refine P.truthy_str (by decide) ?_
  dsimp only [tx]
  k_steps
  rename Fr _ _ _ _ => F1
  rename News _ _ _ _ => N1
  have hlen : (strValues ‹List (Str × Tok)›).toArray.size = l.length + 2 := by
    have := congrArg List.length (hlk.trans hsp)
    simp at this
    simp [strValues, this]
  refine iter_list (mt := []) (J := MatchJ l got u) rfl ⟨_, (N1 _ (.tail _ (.head _))).1, rfl, _, rfl⟩ (.inr ⟨_, .tail _ (.head _)⟩) (by intro p hp b hb; cases hb) F1 N1 (fun e => (N1 _ (.tail _ (.head _))).2.1 e.symm) ?_ ?_ ?_
  · exact ⟨rfl, 0, _, _, _, ⟨rfl, rfl, rfl, trivial⟩, rfl, Nat.zero_le _, rfl⟩
  · rintro i v m₁ mt₁ h tk own hi hv ⟨rfl, k, _, tk0, te, hkn, rfl, hk, hsub⟩ hown hfix F2 N2
    obtain ⟨x, tx0, rfl, hx⟩ := strs_get hv
    rw [hlk, hsp] at hx
    have F3 := Fr_more F2 (hkn.upd rfl)
    clear F2 F1 N1
    rw [List.nil_append] at N2
    k_steps
    refine call_find4 ?_
    rcases piece_get hx with ⟨rfl, hi2⟩ | ⟨c, rfl, hi1, hc⟩
    · rw [find4_nil _ _ hk]
      k_steps
      refine PyProof.Rows.len_str (by decide) ?_
      k_steps
      rename Fr _ _ _ _ => F9
      rename News _ _ _ _ => N9
      refine ⟨_, _, _, [], rfl, F9, N9, (by intro p hp b hb; cases hb), rfl, k, _, _, _, ⟨rfl, rfl, rfl, trivial⟩, ?_, hk, ?_⟩
      · rfl
      · rw [hsub]
        rcases hi2 with rfl | rfl
        · rfl
        · rw [List.drop_eq_nil_of_le (i := l.length + 1 - 1) (as := l) (by omega), List.drop_eq_nil_of_le (i := l.length + 1 + 1 - 1) (as := l) (by omega)]
    · rcases find4_one got c k with ⟨e, hn⟩ | ⟨j, e, h1, h2, h3, h4⟩
      · rw [e]
        k_steps
        rename Fr _ _ _ _ => F9
        have hf : sub l (cl got) = false := by
          rw [hsub, List.drop_eq_getElem_cons (List.getElem?_eq_some_iff.mp hc).1, (List.getElem?_eq_some_iff.mp hc).2]
          exact sub_drop_miss hn
        rw [hf] at hret
        exact hret _ _ _ rfl F9.keep
      · rw [e]
        k_steps
        rename Fr _ _ _ _ => F9
        rename News _ _ _ _ => N9
        refine ⟨_, _, _, [], rfl, F9, N9, (by intro p hp b hb; cases hb), rfl, j + 1, _, _, _, ⟨rfl, rfl, rfl, trivial⟩, ?_, h2, ?_⟩
        · rfl
        · rw [hsub, List.drop_eq_getElem_cons (List.getElem?_eq_some_iff.mp hc).1, (List.getElem?_eq_some_iff.mp hc).2, sub_drop_hit h1 h3 h4]
          have : i - 1 + 1 = i + 1 - 1 := by omega
          rw [this]
  · rintro m₁ mt₁ h tk ⟨rfl, k, _, tk0, te, hkn, rfl, hk, hsub⟩ F2 N2 hoff
    have hf : sub l (cl got) = true := by
      rw [hsub, hlen, List.drop_eq_nil_of_le (by omega)]
      exact sub_nil _
    rw [hf] at hret
    clear F1 N1
    k_steps
    rename Fr _ _ _ _ => F9
    exact hret _ _ _ rfl F9.keep
section
theorem gaps_len (x : Str) : (Txt.join dots (signs x)).length ≤ x.length + x.length * 3 := by
  show (Builtin.Str.glued dots (signs x)).length ≤ _
  rw [StrLaws.glued_eq_join]
  refine Nat.le_trans (StrLaws.join_length_le _ _) ?_
  have h1 : ((signs x).map (·.length)).sum ≤ (signs x).length * 1 := StrLaws.sumLen_le _ (by
    intro y hy
    simp only [signs, List.mem_map] at hy
    obtain ⟨n, _, rfl⟩ := hy
    exact Nat.le_refl _)
  rw [signs_length] at h1 ⊢
  rw [dots_len]
  omega
section
local macro_rules | `(tactic| k_steps) => `(tactic| repeat' (first
  | ((fail_if_success (with_reducible show wpAny _ _ (exec (Stmt.While _ _ _ _) _) _ _ _)); (fail_if_success (with_reducible show wpAny _ _ (exec (Stmt.For _ _ _ _ _) _) _ _ _)); (fail_if_success (with_reducible show wpAny _ _ (eval (Expr.ListComp _ _ _ _) _) _ _ _)); (fail_if_success (with_reducible show wpAny _ _ (exec (Stmt.Assign _ (Expr.ListComp _ _ _ _) _) _) _ _ _)); (fail_if_success (with_reducible show wpAny _ _ (call (Value.ref _) _ _) _ _ _)); (fail_if_success (with_reducible show wpAny _ _ (pyIter _) _ _ _)); (fail_if_success (with_reducible show LCg.CompSrc _ _ _ _ _ _ _ _ _ _ _ _ _ _)); (fail_if_success (with_reducible show LCt.CompSrcT _ _ _ _ _ _ _ _ _ _ _ _ _ _ _)); (fail_if_success (with_reducible show wpAny _ _ (compareOp _ (Value.ref _) (Value.ref _)) _ _ _)); (fail_if_success (with_reducible show EltEnd _ _ _ _ _ _ _ _)); (fail_if_success (with_reducible show wpAny _ _ (call (Value.builtin "str.join") _ _) _ _ _));
     (first | (k_unfold; (try dsimp only)) | (k_end; kc_close) | walk1 | (dsimp only; walk1) | (leave1; walk_say "STEP leave1"; (try dsimp only)) | fail "no step"))))
theorem gaps_spec {w : World} {A : Around} {s : Shared} {word : Str} {t : Tok} {p : Program} {loose : List Str} {mean : ExcName → Option Value} {mg mb : Str → Option Value}
    (X : (hd.heap_39 w.params).In s.heap) (T : Top p loose mean mg mb s.heap) (hA : Rm A 2 20) (hwl : word.length ≤ 100) :
    Runs (model PySem.Challenge.rw_pe0110_02.row.prog w) A (call (.ref 46) [.str word t]) s (fun v _ => ∃ u, v = .str (gaps word) u) := by
  revert X
  k_fill
  w_top off
  intro X
  intro Q E hret
  obtain ⟨ah, dp, fr, gd, un⟩ := A
  obtain ⟨h1, hdp, hun⟩ := hA
  dsimp only at h1 hdp hun
  subst h1
  refine enter (binds := [(Str.ofString "word", .str word t)]) X T.nolimit (by k_is) (by k_is) (by show dp < _; omega) (BindsTo.of_eq rfl) (locs rfl) rfl rfl rfl (by decide) ?_
  intro L h₁ tk F N
  have hj : (Txt.join (Str.ofString "...") (signs word)).length ≤ word.length + word.length * 3 := gaps_len word
  have hd3 : (Str.ofString "...").length = 3 := dots_len
  k_steps
  have hsum : ((signs word).map (·.length)).sum + (signs word).length * (Str.ofString "...").length ≤ 16777216 := by
    have h1 : ((signs word).map (·.length)).sum ≤ (signs word).length * 1 := StrLaws.sumLen_le _ (by
      intro y hy
      simp only [signs, List.mem_map] at hy
      obtain ⟨n, _, rfl⟩ := hy
      exact Nat.le_refl _)
    rw [signs_length] at h1 ⊢
    rw [hd3]
    omega
  rename Fr _ _ _ _ => F5
  rename News _ _ _ _ => N5
  refine PySem.SC.joinStr rfl (joinOk_of hsum) ?_
  intro h6 k6 t6 hk6
  have F6 := F5.grownK hk6
  have N6 := N5.grown hk6
  clear F5 N5
  k_steps
  rename Fr _ _ _ _ => F9
  exact hret _ _ _ ⟨_, rfl⟩ F9.keep
end
end
section
local macro_rules | `(tactic| k_steps) => `(tactic| repeat' (first
  | ((fail_if_success (with_reducible show wpAny _ _ (exec (Stmt.While _ _ _ _) _) _ _ _)); (fail_if_success (with_reducible show wpAny _ _ (exec (Stmt.For _ _ _ _ _) _) _ _ _)); (fail_if_success (with_reducible show wpAny _ _ (eval (Expr.ListComp _ _ _ _) _) _ _ _)); (fail_if_success (with_reducible show wpAny _ _ (exec (Stmt.Assign _ (Expr.ListComp _ _ _ _) _) _) _ _ _)); (fail_if_success (with_reducible show wpAny _ _ (call (Value.ref _) _ _) _ _ _));
     (first | (k_unfold; (try dsimp only)) | (k_end; kc_close) | walk1 | (dsimp only; walk1) | (leave1; walk_say "STEP leave1"; (try dsimp only)) | fail "no step"))))
theorem fnAt_keeps {q : Addr} {h h' : Heap} (x : FnAt q h) (k : Stay h h') : FnAt q h' := let ⟨a, b, c, d, e⟩ := x; ⟨a, b, c, d, k _ _ e⟩
def Halved (g : Nat → Bool) (lo₀ hi₀ lo hi : Nat) : Prop :=
  lo₀ ≤ lo ∧ lo ≤ hi ∧ hi ≤ hi₀ ∧ (∀ i, lo₀ ≤ i → i < lo → g i = false) ∧ (∀ i, hi ≤ i → i < hi₀ → g i = true)
theorem bisL_spec {w : World} {A : Around} {s : Shared} {a kf : Addr} {vs : List Value} {ns : List Int} {f : Int → Bool} {p : Program} {loose : List Str} {mean : ExcName → Option Value} {mg mb : Str → Option Value}
    (X : (hd.heap_39 w.params).In s.heap) (T : Top p loose mean mg mb s.heap) (hA : Rm A 12 200)
    (hl : s.heap.IsList a vs.toArray) (hi : IntsAre vs ns) (hfn : FnAt kf s.heap) (hlen : ns.length ≤ 1000) 
    (hkey : ∀ A' s' n t, Rm A' 10 180 → Stay s.heap s'.heap → n ∈ ns → Runs (model PySem.Challenge.rw_pe0110_02.row.prog w) A' (call (.ref kf) [.int n t]) s' (fun v _ => v = .bool (f n)))
    (hmono : ∀ i j, 0 ≤ i → i ≤ j → j < ns.length → f (ns.getD i 0) = true → f (ns.getD j 0) = true) :
    Runs (model PySem.Challenge.rw_pe0110_02.row.prog w) A (call (.ref 32) [.ref a, .bool true] [(Str.ofString "key", .ref kf)]) s
      (fun v _ => ∃ (r : Nat) (t : Tok), v = .int (r : Int) t ∧ Halved (fun i => f (ns.getD i 0)) 0 ns.length r r) := by
  revert X
  k_fill
  w_top off
  intro X
  intro Q E hret
  obtain ⟨ah, dp, fr, gd, un⟩ := A
  obtain ⟨h1, hdp, hun⟩ := hA
  dsimp only at h1 hdp hun
  subst h1
  refine enter (binds := [(Str.ofString "a", .ref a), (Str.ofString "x", .bool true), (Str.ofString "lo", .int 0 203), (Str.ofString "hi", .none), (Str.ofString "key", .ref kf)]) X T.nolimit (by k_is) (by k_is) (by show dp < _; omega) (kp_binds X (fun S => by kernel_rfl)) (locs rfl) rfl rfl rfl (by decide) ?_
  intro L h₁ tk F N
  k_steps
  rename Fr _ _ _ _ => F1
  rename News _ _ _ _ => N1
  refine While_inv2 (n₀ := ns.length - 0) (fun n m nw => nw = [] ∧ ∃ (x y : Nat) (z1 z2 : Int) (t1 t2 : Tok), Knows m [(Str.ofString "lo", .int z1 t1), (Str.ofString "hi", .int z2 t2), (Str.ofString "a", .ref a), (Str.ofString "x", .bool true), (Str.ofString "key", .ref kf)] ∧
    z1 = (x : Int) ∧ z2 = (y : Int) ∧ n = y - x ∧ Halved (fun i => f (ns.getD i 0)) 0 ns.length x y) F1 N1 ?_ ?_ PassesOwn.never
  · exact ⟨rfl, 0, ns.length, _, _, _, _, ⟨rfl, rfl, rfl, rfl, rfl, trivial⟩, rfl, rfl, rfl, Nat.le_refl _, Nat.zero_le _, Nat.le_refl _, fun i h1 h2 => by omega, fun i h1 h2 => by omega⟩
  · rintro n m₁ nw h₂ tk₂ F2 N2 ⟨rfl, x, y, _, _, t1, t2, hkn, rfl, rfl, rfl, hh⟩
    have F3 := Fr_more F2 hkn
    clear F2 F1 N1
    obtain ⟨hh1, hh2, hh3, hh4, hh5⟩ := hh
    k_steps
    · rename Fr _ _ _ _ => F4
      rename News _ _ _ _ => N4
      refine callWith_F (fnAt_keeps hfn F4.keep) ?_
      k_steps
      · exact fnAt_keeps hfn F4.keep
      rename ((_ : Int) < _) => hlt
      have e : ((x : Int) + (y : Int)).fdiv 2 = (((x + y) / 2 : Nat) : Int) := by
        rw [Int.fdiv_eq_ediv_of_nonneg _ (by omega)]; omega
      have e2 : ((x : Int) + (y : Int)).fdiv 2 + 1 = (((x + y) / 2 + 1 : Nat) : Int) := by rw [e]; omega
      have hmx : x ≤ (x + y) / 2 := by omega
      have hmy : (x + y) / 2 < y := by omega
      have hm : (((x : Int) + (y : Int)).fdiv 2).toNat = (x + y) / 2 := by rw [e]; rfl
      rw [hm]
      refine Runs.use (hkey _ _ _ _ ⟨rfl, by show dp + 1 + 10 < _; omega, by show un + 3 + 180 < _; omega⟩ F4.keep ?_) F4 N4 ?_
      · rw [List.getD_eq_getElem?_getD, List.getElem?_eq_getElem (by omega)]
        exact List.getElem_mem _
      intro v h' tk' hv st F5 N5
      subst hv
      cases hf : f (ns.getD ((x + y) / 2) 0)
      · k_steps
        rename Fr _ _ _ _ => F6
        rename News _ _ _ _ => N6
        refine ⟨_, _, _, _, _, rfl, F6, N6, ?_, rfl, (x + y) / 2 + 1, y, _, _, _, _, ⟨rfl, rfl, rfl, rfl, rfl, trivial⟩, e2, rfl, rfl, by omega, by omega, hh3, ?_, hh5⟩
        · omega
        · intro i h1 h2
          show f (ns.getD i 0) = false
          rcases Nat.lt_or_ge i x with q | q
          · exact hh4 i h1 q
          · cases hi' : f (ns.getD i 0) with
            | false => rfl
            | true => rw [hmono i ((x + y) / 2) h1 (by omega) (by omega) hi'] at hf; cases hf
      · k_steps
        rename Fr _ _ _ _ => F6
        rename News _ _ _ _ => N6
        refine ⟨_, _, _, _, _, rfl, F6, N6, ?_, rfl, x, (x + y) / 2, _, _, _, _, ⟨rfl, rfl, rfl, rfl, rfl, trivial⟩, rfl, e, rfl, hh1, hmx, by omega, hh4, ?_⟩
        · omega
        · intro i h1 h2
          exact hmono _ i (by omega) h1 h2 hf
    · rename Fr _ _ _ _ => F4
      rename (¬ _ < _) => hlt
      have e : x = y := by omega
      subst e
      exact hret _ _ _ ⟨x, _, rfl, hh1, hh2, hh3, hh4, hh5⟩ F4.keep
end
section
local macro_rules | `(tactic| k_steps) => `(tactic| repeat' (first
  | ((fail_if_success (with_reducible show wpAny _ _ (exec (Stmt.While _ _ _ _) _) _ _ _)); (fail_if_success (with_reducible show wpAny _ _ (exec (Stmt.For _ _ _ _ _) _) _ _ _)); (fail_if_success (with_reducible show wpAny _ _ (eval (Expr.ListComp _ _ _ _) _) _ _ _)); (fail_if_success (with_reducible show wpAny _ _ (exec (Stmt.Assign _ (Expr.ListComp _ _ _ _) _) _) _ _ _)); (fail_if_success (with_reducible show wpAny _ _ (call (Value.ref _) _ _) _ _ _)); (fail_if_success (with_reducible show wpAny _ _ (pyIter _) _ _ _)); (fail_if_success (with_reducible show LCg.CompSrc _ _ _ _ _ _ _ _ _ _ _ _ _ _)); (fail_if_success (with_reducible show LCt.CompSrcT _ _ _ _ _ _ _ _ _ _ _ _ _ _ _)); (fail_if_success (with_reducible show wpAny _ _ (compareOp _ (Value.ref _) (Value.ref _)) _ _ _)); (fail_if_success (with_reducible show EltEnd _ _ _ _ _ _ _ _)); (fail_if_success (with_reducible show wpAny _ _ (call (Value.builtin "str.join") _ _) _ _ _));
     (first | (k_unfold; (try dsimp only)) | (k_end; kc_close) | walk1 | (dsimp only; walk1) | (leave1; walk_say "STEP leave1"; (try dsimp only)) | fail "no step"))))
theorem bis0_spec {w : World} {A : Around} {s : Shared} {a : Addr} {vs : List Value} {row : List Nat} {c : Nat} {tc : Tok} {p : Program} {loose : List Str} {mean : ExcName → Option Value} {mg mb : Str → Option Value}
    (X : (hd.heap_39 w.params).In s.heap) (T : Top p loose mean mg mb s.heap) (hA : Rm A 12 200)
    (hl : s.heap.IsList a vs.toArray) (hi : StrsAre vs (row.map fun n => tx [n])) (hlen : row.length ≤ 100)
    (hmono : ∀ i j, i ≤ j → j < row.length → row.getD i 0 ≤ row.getD j 0) :
    Runs (model PySem.Challenge.rw_pe0110_02.row.prog w) A (call (.ref 32) [.ref a, .str (tx [c]) tc]) s
      (fun v _ => ∃ (r : Nat) (t : Tok), v = .int (r : Int) t ∧ Halved (fun i => decide (c ≤ row.getD i 0)) 0 row.length r r) := by
  revert X
  k_fill
  w_top off
  intro X
  intro Q E hret
  obtain ⟨ah, dp, fr, gd, un⟩ := A
  obtain ⟨h1, hdp, hun⟩ := hA
  dsimp only at h1 hdp hun
  subst h1
  refine enter (binds := [(Str.ofString "a", .ref a), (Str.ofString "x", .str (tx [c]) tc), (Str.ofString "lo", .int 0 203), (Str.ofString "hi", .none), (Str.ofString "key", .none)]) X T.nolimit (by k_is) (by k_is) (by show dp < _; omega) (kp_binds X (fun S => by kernel_rfl)) (locs rfl) rfl rfl rfl (by decide) ?_
  intro L h₁ tk F N
  have hvl : vs.length = row.length := by rw [strs_len hi, List.length_map]
  k_steps
  refine len_list ((by assumption : s.heap.IsList a vs.toArray).at fun o e => ?_) (by rw [List.size_toArray, hvl]; omega) ?_
  · rename Fr _ _ _ _ => Fz
    exact Fz.keep _ _ e
  rw [List.size_toArray, hvl]
  k_steps
  rename Fr _ _ _ _ => F1
  rename News _ _ _ _ => N1
  refine While_inv2 (n₀ := row.length) (fun n m nw => nw = [] ∧ ∃ (x y : Nat) (z1 z2 : Int) (t1 t2 : Tok), Knows m [(Str.ofString "lo", .int z1 t1), (Str.ofString "hi", .int z2 t2), (Str.ofString "a", .ref a), (Str.ofString "x", .str (tx [c]) tc), (Str.ofString "key", .none)] ∧
    z1 = (x : Int) ∧ z2 = (y : Int) ∧ n = y - x ∧ Halved (fun i => decide (c ≤ row.getD i 0)) 0 row.length x y) F1 N1 ?_ ?_ PassesOwn.never
  · exact ⟨rfl, 0, row.length, _, _, _, _, ⟨rfl, rfl, rfl, rfl, rfl, trivial⟩, rfl, rfl, rfl, Nat.le_refl _, Nat.zero_le _, Nat.le_refl _, fun i h1 h2 => by omega, fun i h1 h2 => by omega⟩
  · rintro n m₁ nw h₂ tk₂ F2 N2 ⟨rfl, x, y, _, _, t1, t2, hkn, rfl, rfl, rfl, hh⟩
    have F3 := Fr_more F2 hkn
    clear F2 F1 N1
    obtain ⟨hh1, hh2, hh3, hh4, hh5⟩ := hh
    k_steps
    · rename ((_ : Int) < _) => hlt
      have e : ((x : Int) + (y : Int)).fdiv 2 = (((x + y) / 2 : Nat) : Int) := by
        rw [Int.fdiv_eq_ediv_of_nonneg _ (by omega)]; omega
      have hmx : x ≤ (x + y) / 2 := by omega
      have hmy : (x + y) / 2 < y := by omega
      obtain ⟨ti, hti⟩ := strs_at (i := (x + y) / 2) (x := tx [row.getD ((x + y) / 2) 0]) hi (by
        rw [List.getElem?_map, List.getD_eq_getElem?_getD, List.getElem?_eq_getElem (by omega)]; rfl)
      rename Fr _ _ _ _ => F4
      refine item_list (hl.at fun o e => F4.keep _ _ e) (by omega) (by omega) (x := .str (tx [row.getD ((x + y) / 2) 0]) ti) ?_ ?_
      · rw [e, Int.toNat_natCast, List.getElem?_toArray]; exact hti
      k_steps
      · rename (_ < Array.toList (Str.cps (tx [c]))) => hq
        rw [one_lt] at hq
        rename Fr _ _ _ _ => F6
        rename News _ _ _ _ => N6
        have e2 : ((x : Int) + (y : Int)).fdiv 2 + 1 = (((x + y) / 2 + 1 : Nat) : Int) := by rw [e]; omega
        refine ⟨_, _, _, _, _, rfl, F6, N6, ?_, rfl, (x + y) / 2 + 1, y, _, _, _, _, ⟨rfl, rfl, rfl, rfl, rfl, trivial⟩, e2, rfl, rfl, by omega, by omega, hh3, ?_, hh5⟩
        · omega
        · intro i h1 h2
          have := hmono i ((x + y) / 2) (by omega) (by omega)
          exact decide_eq_false (by omega)
      · rename (¬ (_ < Array.toList (Str.cps (tx [c])))) => hq
        rw [one_lt] at hq
        rename Fr _ _ _ _ => F6
        rename News _ _ _ _ => N6
        refine ⟨_, _, _, _, _, rfl, F6, N6, ?_, rfl, x, (x + y) / 2, _, _, _, _, ⟨rfl, rfl, rfl, rfl, rfl, trivial⟩, rfl, e, rfl, hh1, hmx, by omega, hh4, ?_⟩
        · omega
        · intro i h1 h2
          have := hmono ((x + y) / 2) i h1 h2
          exact decide_eq_true (by omega)
    · rename Fr _ _ _ _ => F4
      rename (¬ _ < _) => hlt
      have e : x = y := by omega
      subst e
      exact hret _ _ _ ⟨x, _, rfl, hh1, hh2, hh3, hh4, hh5⟩ F4.keep
end
section
local macro_rules | `(tactic| k_steps) => `(tactic| repeat' (first
  | ((fail_if_success (with_reducible show wpAny _ _ (exec (Stmt.While _ _ _ _) _) _ _ _)); (fail_if_success (with_reducible show wpAny _ _ (exec (Stmt.For _ _ _ _ _) _) _ _ _)); (fail_if_success (with_reducible show wpAny _ _ (eval (Expr.ListComp _ _ _ _) _) _ _ _)); (fail_if_success (with_reducible show wpAny _ _ (exec (Stmt.Assign _ (Expr.ListComp _ _ _ _) _) _) _ _ _)); (fail_if_success (with_reducible show wpAny _ _ (call (Value.ref _) _ _) _ _ _)); (fail_if_success (with_reducible show wpAny _ _ (pyIter _) _ _ _)); (fail_if_success (with_reducible show LCg.CompSrc _ _ _ _ _ _ _ _ _ _ _ _ _ _)); (fail_if_success (with_reducible show LCt.CompSrcT _ _ _ _ _ _ _ _ _ _ _ _ _ _ _)); (fail_if_success (with_reducible show wpAny _ _ (compareOp _ (Value.ref _) (Value.ref _)) _ _ _)); (fail_if_success (with_reducible show EltEnd _ _ _ _ _ _ _ _)); (fail_if_success (with_reducible show wpAny _ _ (call (Value.builtin "str.join") _ _) _ _ _));
     (first | (k_unfold; (try dsimp only)) | (k_end; kc_close) | walk1 | (dsimp only; walk1) | (leave1; walk_say "STEP leave1"; (try dsimp only)) | fail "no step"))))
theorem bis1_spec {w : World} {A : Around} {s : Shared} {a : Addr} {vs : List Value} {row : List Nat} {c : Nat} {tc : Tok} {p : Program} {loose : List Str} {mean : ExcName → Option Value} {mg mb : Str → Option Value}
    (X : (hd.heap_39 w.params).In s.heap) (T : Top p loose mean mg mb s.heap) (hA : Rm A 12 200)
    (hl : s.heap.IsList a vs.toArray) (hi : StrsAre vs (row.map fun n => tx [n])) (hlen : row.length ≤ 100)
    (hmono : ∀ i j, i ≤ j → j < row.length → row.getD i 0 ≤ row.getD j 0) :
    Runs (model PySem.Challenge.rw_pe0110_02.row.prog w) A (call (.ref 23) [.ref a, .str (tx [c]) tc]) s
      (fun v _ => ∃ (r : Nat) (t : Tok), v = .int (r : Int) t ∧ Halved (fun i => decide (c < row.getD i 0)) 0 row.length r r) := by
  revert X
  k_fill
  w_top off
  intro X
  intro Q E hret
  obtain ⟨ah, dp, fr, gd, un⟩ := A
  obtain ⟨h1, hdp, hun⟩ := hA
  dsimp only at h1 hdp hun
  subst h1
  refine enter (binds := [(Str.ofString "a", .ref a), (Str.ofString "x", .str (tx [c]) tc), (Str.ofString "lo", .int 0 189), (Str.ofString "hi", .none), (Str.ofString "key", .none)]) X T.nolimit (by k_is) (by k_is) (by show dp < _; omega) (kp_binds X (fun S => by kernel_rfl)) (locs rfl) rfl rfl rfl (by decide) ?_
  intro L h₁ tk F N
  have hvl : vs.length = row.length := by rw [strs_len hi, List.length_map]
  k_steps
  refine len_list ((by assumption : s.heap.IsList a vs.toArray).at fun o e => ?_) (by rw [List.size_toArray, hvl]; omega) ?_
  · rename Fr _ _ _ _ => Fz
    exact Fz.keep _ _ e
  rw [List.size_toArray, hvl]
  k_steps
  rename Fr _ _ _ _ => F1
  rename News _ _ _ _ => N1
  refine While_inv2 (n₀ := row.length) (fun n m nw => nw = [] ∧ ∃ (x y : Nat) (z1 z2 : Int) (t1 t2 : Tok), Knows m [(Str.ofString "lo", .int z1 t1), (Str.ofString "hi", .int z2 t2), (Str.ofString "a", .ref a), (Str.ofString "x", .str (tx [c]) tc), (Str.ofString "key", .none)] ∧
    z1 = (x : Int) ∧ z2 = (y : Int) ∧ n = y - x ∧ Halved (fun i => decide (c < row.getD i 0)) 0 row.length x y) F1 N1 ?_ ?_ PassesOwn.never
  · exact ⟨rfl, 0, row.length, _, _, _, _, ⟨rfl, rfl, rfl, rfl, rfl, trivial⟩, rfl, rfl, rfl, Nat.le_refl _, Nat.zero_le _, Nat.le_refl _, fun i h1 h2 => by omega, fun i h1 h2 => by omega⟩
  · rintro n m₁ nw h₂ tk₂ F2 N2 ⟨rfl, x, y, _, _, t1, t2, hkn, rfl, rfl, rfl, hh⟩
    have F3 := Fr_more F2 hkn
    clear F2 F1 N1
    obtain ⟨hh1, hh2, hh3, hh4, hh5⟩ := hh
    k_steps
    · rename ((_ : Int) < _) => hlt
      have e : ((x : Int) + (y : Int)).fdiv 2 = (((x + y) / 2 : Nat) : Int) := by
        rw [Int.fdiv_eq_ediv_of_nonneg _ (by omega)]; omega
      have hmx : x ≤ (x + y) / 2 := by omega
      have hmy : (x + y) / 2 < y := by omega
      obtain ⟨ti, hti⟩ := strs_at (i := (x + y) / 2) (x := tx [row.getD ((x + y) / 2) 0]) hi (by
        rw [List.getElem?_map, List.getD_eq_getElem?_getD, List.getElem?_eq_getElem (by omega)]; rfl)
      rename Fr _ _ _ _ => F4
      refine item_list (hl.at fun o e => F4.keep _ _ e) (by omega) (by omega) (x := .str (tx [row.getD ((x + y) / 2) 0]) ti) ?_ ?_
      · rw [e, Int.toNat_natCast, List.getElem?_toArray]; exact hti
      k_steps
      · rename ((tx [c]).cps.toList < _) => hq
        rw [one_lt] at hq
        rename Fr _ _ _ _ => F6
        rename News _ _ _ _ => N6
        refine ⟨_, _, _, _, _, rfl, F6, N6, ?_, rfl, x, (x + y) / 2, _, _, _, _, ⟨rfl, rfl, rfl, rfl, rfl, trivial⟩, rfl, e, rfl, hh1, hmx, by omega, hh4, ?_⟩
        · omega
        · intro i h1 h2
          have := hmono ((x + y) / 2) i h1 h2
          exact decide_eq_true (by omega)
      · rename (¬ ((tx [c]).cps.toList < _)) => hq
        rw [one_lt] at hq
        rename Fr _ _ _ _ => F6
        rename News _ _ _ _ => N6
        have e2 : ((x : Int) + (y : Int)).fdiv 2 + 1 = (((x + y) / 2 + 1 : Nat) : Int) := by rw [e]; omega
        refine ⟨_, _, _, _, _, rfl, F6, N6, ?_, rfl, (x + y) / 2 + 1, y, _, _, _, _, ⟨rfl, rfl, rfl, rfl, rfl, trivial⟩, e2, rfl, rfl, by omega, by omega, hh3, ?_, hh5⟩
        · omega
        · intro i h1 h2
          have := hmono i ((x + y) / 2) (by omega) (by omega)
          exact decide_eq_false (by omega)
    · rename Fr _ _ _ _ => F4
      rename (¬ _ < _) => hlt
      have e : x = y := by omega
      subst e
      exact hret _ _ _ ⟨x, _, rfl, hh1, hh2, hh3, hh4, hh5⟩ F4.keep
end
section
local macro_rules | `(tactic| k_steps) => `(tactic| repeat' (first
  | ((fail_if_success (with_reducible show wpAny _ _ (exec (Stmt.While _ _ _ _) _) _ _ _)); (fail_if_success (with_reducible show wpAny _ _ (exec (Stmt.For _ _ _ _ _) _) _ _ _)); (fail_if_success (with_reducible show wpAny _ _ (eval (Expr.ListComp _ _ _ _) _) _ _ _)); (fail_if_success (with_reducible show wpAny _ _ (exec (Stmt.Assign _ (Expr.ListComp _ _ _ _) _) _) _ _ _)); (fail_if_success (with_reducible show wpAny _ _ (call (Value.ref _) _ _) _ _ _)); (fail_if_success (with_reducible show wpAny _ _ (pyIter _) _ _ _)); (fail_if_success (with_reducible show LCg.CompSrc _ _ _ _ _ _ _ _ _ _ _ _ _ _)); (fail_if_success (with_reducible show LCt.CompSrcT _ _ _ _ _ _ _ _ _ _ _ _ _ _ _)); (fail_if_success (with_reducible show wpAny _ _ (compareOp _ (Value.ref _) (Value.ref _)) _ _ _)); (fail_if_success (with_reducible show EltEnd _ _ _ _ _ _ _ _)); (fail_if_success (with_reducible show wpAny _ _ (call (Value.builtin "str.join") _ _) _ _ _)); (fail_if_success (with_reducible show wpAny _ _ (exec (Stmt.If _ _ _ _) _) _ _ _)); (fail_if_success (with_reducible show wpAny _ _ (subscriptTail _ _ (Value.ref _) _) _ _ _)); (fail_if_success (with_reducible show wpAny _ _ (call (Value.builtin "list.append") _ _) _ _ _)); (fail_if_success (with_reducible show wpAny _ _ (call (Value.builtin "len") _ _) _ _ _)); (fail_if_success (with_reducible show wpAny _ _ (setItem _ _ _) _ _ _)); (fail_if_success (with_reducible show wpAny _ _ (binaryOp Operator.Mult (Value.str _ _) _) _ _ _)); (fail_if_success (with_reducible show wpAny _ _ (binaryOp Operator.Add (Value.str _ _) _) _ _ _));
     (first | (k_unfold; (try dsimp only)) | (k_end; kc_close) | walk1 | (dsimp only; walk1) | (leave1; walk_say "STEP leave1"; (try dsimp only)) | fail "no step"))))
def Lay : List (Addr × Obj) → List (List Nat) → Prop
  | [], [] => True
  | q :: os, r :: rs => (∃ (vs : List Value) (n : Nat), q.2 = listOf vs.toArray n ∧ StrsAre vs (r.map fun c => tx [c])) ∧ Lay os rs
  | _, _ => False
def refs (os : List (Addr × Obj)) : List Value := os.map fun q => Value.ref q.1
theorem lay_len : ∀ {os : List (Addr × Obj)} {rs : List (List Nat)}, Lay os rs → os.length = rs.length
  | [], [], _ => rfl
  | _ :: _, _ :: _, h => by rw [List.length_cons, List.length_cons, lay_len h.2]
theorem lay_append : ∀ {a b : List (Addr × Obj)} {x y : List (List Nat)}, Lay a x → Lay b y → Lay (a ++ b) (x ++ y)
  | [], _, [], _, _, h => h
  | _ :: _, _, _ :: _, _, h, h' => ⟨h.1, lay_append h.2 h'⟩
theorem lay_split : ∀ {os : List (Addr × Obj)} (x : List (List Nat)) {y : List (List Nat)}, Lay os (x ++ y) → ∃ a b, os = a ++ b ∧ Lay a x ∧ Lay b y ∧ a.length = x.length
  | os, [], _, h => ⟨[], os, rfl, trivial, h, rfl⟩
  | [], _ :: _, _, h => nomatch h
  | q :: os, r :: x, y, h => by
    obtain ⟨a, b, rfl, h1, h2, h3⟩ := lay_split x h.2
    exact ⟨q :: a, b, rfl, ⟨h.1, h1⟩, h2, by rw [List.length_cons, List.length_cons, h3]⟩
theorem lay_cons {os : List (Addr × Obj)} {x : List Nat} {y : List (List Nat)} (h : Lay os (x :: y)) : ∃ A vs n b, os = (A, listOf vs.toArray n) :: b ∧ StrsAre vs (x.map fun c => tx [c]) ∧ Lay b y := by
  cases os with
  | nil => exact nomatch h
  | cons q b =>
    obtain ⟨⟨vs, n, e, hs⟩, h2⟩ := h
    exact ⟨q.1, vs, n, b, by rw [← e], hs, h2⟩
theorem refs_len (os : List (Addr × Obj)) : (refs os).length = os.length := List.length_map ..
theorem refs_at (a : List (Addr × Obj)) (q : Addr × Obj) (b : List (Addr × Obj)) : (refs (a ++ q :: b)).toArray[a.length]? = some (Value.ref q.1) := by
  unfold refs
  rw [List.getElem?_toArray, List.getElem?_map, List.getElem?_append_right (Nat.le_refl _), Nat.sub_self]
  rfl
def tst (strict : Bool) (c d : Nat) : Bool := if strict then decide (c ≤ d) else decide (c < d)
theorem insRow_end {strict : Bool} {c : Nat} : ∀ {row : List Nat}, (∀ i, i < row.length → tst strict c (row.getD i 0) = false) → insRow strict row c = (row ++ [c], none)
  | [], _ => rfl
  | d :: r, h => by
    have h0 : tst strict c d = false := h 0 (by simp)
    have ih := insRow_end (row := r) fun i hi => h (i + 1) (by simpa using hi)
    show (if (if strict then decide (c ≤ d) else decide (c < d)) = true then _ else _) = _
    rw [show (if strict then decide (c ≤ d) else decide (c < d)) = false from h0, ih]
    rfl
theorem insRow_mid {strict : Bool} {c : Nat} : ∀ {row : List Nat} {r : Nat}, r < row.length → (∀ i, i < r → tst strict c (row.getD i 0) = false) → tst strict c (row.getD r 0) = true → insRow strict row c = (row.set r c, some (row.getD r 0))
  | [], _, h, _, _ => by simp at h
  | d :: r, 0, _, _, h => by
    show (if (if strict then decide (c ≤ d) else decide (c < d)) = true then _ else _) = _
    rw [show (if strict then decide (c ≤ d) else decide (c < d)) = true from h]
    rfl
  | d :: r, k + 1, hk, h, h1 => by
    have h0 : tst strict c d = false := h 0 (by omega)
    have ih := insRow_mid (row := r) (r := k) (by simpa using hk) (fun i hi => h (i + 1) (by omega)) h1
    show (if (if strict then decide (c ≤ d) else decide (c < d)) = true then _ else _) = _
    rw [show (if strict then decide (c ≤ d) else decide (c < d)) = false from h0, ih]
    rfl
def Sorted (row : List Nat) : Prop := ∀ i j, i ≤ j → j < row.length → row.getD i 0 ≤ row.getD j 0
theorem sorted_end {row : List Nat} {c : Nat} (h : Sorted row) (h1 : ∀ i, i < row.length → row.getD i 0 ≤ c) : Sorted (row ++ [c]) := by
  intro i j hij hj
  rw [List.length_append] at hj
  simp only [List.length_cons, List.length_nil] at hj
  have e1 : ∀ k, k < row.length → (row ++ [c]).getD k 0 = row.getD k 0 := fun k hk => by
    rw [List.getD_eq_getElem?_getD, List.getElem?_append_left hk, ← List.getD_eq_getElem?_getD]
  have e2 : (row ++ [c]).getD row.length 0 = c := by
    rw [List.getD_eq_getElem?_getD, List.getElem?_append_right (Nat.le_refl _), Nat.sub_self]; rfl
  rcases Nat.lt_or_ge j row.length with q | q
  · rw [e1 i (by omega), e1 j q]; exact h i j hij q
  · have ej : j = row.length := by omega
    subst ej
    rw [e2]
    rcases Nat.lt_or_ge i row.length with q | q
    · rw [e1 i q]; exact h1 i q
    · have ei : i = row.length := by omega
      rw [ei, e2]
      exact Nat.le_refl _
theorem sorted_mid {row : List Nat} {r c : Nat} (h : Sorted row) (hr : r < row.length) (h1 : ∀ i, i < r → row.getD i 0 ≤ c) (h2 : c ≤ row.getD r 0) : Sorted (row.set r c) := by
  intro i j hij hj
  rw [List.length_set] at hj
  have e1 : ∀ k, k < row.length → (row.set r c).getD k 0 = if r = k then c else row.getD k 0 := fun k hk => by
    rw [List.getD_eq_getElem?_getD, List.getElem?_set]
    split
    · rename_i e
      subst e
      simp
    · rw [← List.getD_eq_getElem?_getD]
  rw [e1 i (by omega), e1 j hj]
  have hij' := h i j hij hj
  split <;> split
  · exact Nat.le_refl _
  · have := h r j (by omega) hj
    omega
  · exact h1 i (by omega)
  · exact hij'
theorem tst_false {strict : Bool} {c d : Nat} (h : tst strict c d = false) : d ≤ c := by
  unfold tst at h
  cases strict <;> simp at h <;> omega
theorem tst_true {strict : Bool} {c d : Nat} (h : tst strict c d = true) : c ≤ d := by
  unfold tst at h
  cases strict <;> simp at h <;> omega
def Fine (b : Nat) (rs : List (List Nat)) : Prop := ∀ r ∈ rs, r.length ≤ b ∧ Sorted r
def Way (strict : Bool) (i : Nat) (fin : List (List Nat)) (n : Nat) (zk : Int) (dn rest : List (List Nat)) (pu : List Nat) : Prop :=
  (pu = [] ∧ rest = [] ∧ n = 0 ∧ dn = fin ∧ dn.length ≤ i + 1 ∧ Fine (i + 1) dn) ∨
  (∃ c, pu = [c] ∧ n = rest.length + 1 ∧ zk = (dn.length : Int) ∧ fin = dn ++ insRows strict rest c ∧ dn.length + rest.length ≤ i ∧ Fine (i + 1) dn ∧ Fine i rest)
def RowsJ (R : Addr) (tx0 : Tok) (x : Str) (strict : Bool) (i : Nat) (m : Str → Option Value) (mt : List (Addr × Obj)) : Prop :=
  ∃ (n : Nat) (os : List (Addr × Obj)), mt = (R, listOf (refs os).toArray n) :: os ∧ Lay os (rowsF strict ((cl x).take i)) ∧ (R :: os.map (·.1)).Nodup ∧ (rowsF strict ((cl x).take i)).length ≤ i ∧ Fine i (rowsF strict ((cl x).take i)) ∧
    Knows m [(Str.ofString "text", .str x tx0), (Str.ofString "strict", .bool strict), (Str.ofString "rows", .ref R)]
def WayJ (R : Addr) (tx0 : Tok) (x : Str) (strict : Bool) (i : Nat) (fin : List (List Nat)) (own : List (Addr × Obj)) (n : Nat) (m : Str → Option Value) (nw : List (Addr × Obj)) : Prop :=
  ∃ (n0 : Nat) (os : List (Addr × Obj)) (dn rest : List (List Nat)) (pu : List Nat) (tp tk : Tok) (zk : Int), nw = (R, listOf (refs os).toArray n0) :: (os ++ own) ∧ Lay os (dn ++ rest) ∧ (R :: os.map (·.1)).Nodup ∧ OwnOff own (R :: os.map (·.1)) ∧
    Knows m [(Str.ofString "text", .str x tx0), (Str.ofString "strict", .bool strict), (Str.ofString "rows", .ref R), (Str.ofString "pushed", .str (tx pu) tp), (Str.ofString "k", .int zk tk)] ∧ Way strict i fin n zk dn rest pu
theorem ne_empty {c : Nat} : (tx [c] != Str.ofString "") = true := by
  rw [bne_iff_ne]
  intro e
  have := congrArg cl e
  rw [empty_cl] at this
  exact nomatch this
def P1 (s : Shared) (L R : Addr) (tx0 : Tok) (x : Str) (strict : Bool) (i c : Nat) (dn rest : List (List Nat)) (own : List (Addr × Obj)) (f : Flow) (s' : Shared) : Prop :=
  f = .next ∧ ∃ h' tk' m' n1 os1 r rs tp tk, s' = { s with heap := h', toks := tk' } ∧ Fr s.heap L h' m' ∧ News s.heap L h' ((R, listOf (refs os1).toArray n1) :: (os1 ++ own)) ∧ Lay os1 (dn ++ r :: rs) ∧ (R :: os1.map (·.1)).Nodup ∧ OwnOff own (R :: os1.map (·.1)) ∧
    Knows m' [(Str.ofString "text", .str x tx0), (Str.ofString "strict", .bool strict), (Str.ofString "rows", .ref R), (Str.ofString "pushed", .str (tx [c]) tp), (Str.ofString "k", .int (dn.length : Int) tk)] ∧
    insRows strict rest c = insRows strict (r :: rs) c ∧ r.length ≤ i ∧ Sorted r ∧ Fine i rs ∧ rs.length ≤ rest.length ∧ dn.length + rs.length ≤ i ∧ (rest = r :: rs ∨ (rest = [] ∧ r = [] ∧ rs = []))
def P2 (s : Shared) (L R : Addr) (tx0 : Tok) (x : Str) (strict : Bool) (c k : Nat) (r : List Nat) (nw : List (Addr × Obj)) (f : Flow) (s' : Shared) : Prop :=
  f = .next ∧ ∃ (h' : Heap) (tk' : Nat) (m' : Str → Option Value) (pl : Nat) (tpl tp tk : Tok), s' = { s with heap := h', toks := tk' } ∧ Fr s.heap L h' m' ∧ News s.heap L h' nw ∧
    Knows m' [(Str.ofString "text", .str x tx0), (Str.ofString "strict", .bool strict), (Str.ofString "rows", .ref R), (Str.ofString "pushed", .str (tx [c]) tp), (Str.ofString "k", .int (k : Int) tk), (Str.ofString "place", .int (pl : Int) tpl)] ∧
    Halved (fun j => tst strict c (r.getD j 0)) 0 r.length pl pl
theorem reshape (a : Addr × Obj) (oa : List (Addr × Obj)) (q : Addr × Obj) (ob own : List (Addr × Obj)) : a :: ((oa ++ q :: ob) ++ own) = (a :: oa) ++ q :: (ob ++ own) := by simp
theorem row_off {R Ad : Addr} {q : Obj} {oa ob own : List (Addr × Obj)} (hnd : (R :: (oa ++ (Ad, q) :: ob).map (·.1)).Nodup) (hown : OwnOff own (R :: (oa ++ (Ad, q) :: ob).map (·.1))) (o : Obj) :
    (∀ p ∈ (R, o) :: oa, p.1 ≠ Ad) ∧ (∀ p ∈ ob ++ own, p.1 ≠ Ad) := by
  rw [List.nodup_cons, List.map_append, List.map_cons] at hnd
  obtain ⟨h1, h2⟩ := hnd
  rw [List.nodup_append] at h2
  obtain ⟨h3, h4, h5⟩ := h2
  rw [List.nodup_cons] at h4
  refine ⟨fun p hp => ?_, fun p hp => ?_⟩
  · rcases List.mem_cons.mp hp with rfl | hp
    · intro e
      exact h1 (by rw [show R = Ad from e]; simp)
    · exact h5 p.1 (List.mem_map_of_mem hp) Ad (.head _)
  · rcases List.mem_append.mp hp with hp | hp
    · intro e
      exact h4.1 (List.mem_map.mpr ⟨p, hp, e⟩)
    · exact hown p hp Ad (by simp)
theorem news_row {g h h' : Heap} {L R Ad : Addr} {m : Str → Option Value} {o q q' : Obj} {oa ob own : List (Addr × Obj)} (F : Fr g L h m) (N : News g L h ((R, o) :: ((oa ++ (Ad, q) :: ob) ++ own))) (hnd : (R :: (oa ++ (Ad, q) :: ob).map (·.1)).Nodup)
    (hown : OwnOff own (R :: (oa ++ (Ad, q) :: ob).map (·.1))) (hs : Heap.SameBut Ad h h') (ho : h'.get? Ad = some q') : Fr g L h' m ∧ News g L h' ((R, o) :: ((oa ++ (Ad, q') :: ob) ++ own)) := by
  rw [reshape] at N ⊢
  obtain ⟨h1, h2⟩ := row_off hnd hown o
  have z := N (Ad, q) (by simp)
  exact ⟨F.change hs z.2.1 z.2.2, News.setAt N h1 h2 hs ho⟩
theorem refs_mid (oa : List (Addr × Obj)) (Ad : Addr) (q q' : Obj) (ob : List (Addr × Obj)) : refs (oa ++ (Ad, q) :: ob) = refs (oa ++ (Ad, q') :: ob) := by simp [refs]
theorem addr_mid (oa : List (Addr × Obj)) (Ad : Addr) (q q' : Obj) (ob : List (Addr × Obj)) : (oa ++ (Ad, q) :: ob).map (·.1) = (oa ++ (Ad, q') :: ob).map (·.1) := by simp
theorem strs_snoc : ∀ {vs : List Value} {ws : List Str} {y : Str} {t : Tok}, StrsAre vs ws → StrsAre (vs ++ [.str y t]) (ws ++ [y])
  | _, _, _, _, .nil => .cons _ _ .nil
  | _, _, _, _, .cons z t r => .cons z t (strs_snoc r)
theorem strs_set : ∀ {vs : List Value} {ws : List Str} {k : Nat} {y : Str} {t : Tok}, StrsAre vs ws → StrsAre (vs.set k (.str y t)) (ws.set k y)
  | _, _, _, _, _, .nil => .nil
  | _, _, 0, _, _, .cons z t r => .cons _ _ r
  | _, _, k + 1, _, _, .cons z t r => .cons z t (strs_set (k := k) r)
theorem Fine.up {i : Nat} {rs : List (List Nat)} (h : Fine i rs) : Fine (i + 1) rs := fun r hr => ⟨Nat.le_succ_of_le (h r hr).1, (h r hr).2⟩
section
variable {prog : Program} {w : World} {A : Around} {E : Value → Shared → Prop} {s : Shared}
theorem item_listA {value slice : Expr} {l : Addr} {items : Array Value} {k : Int} {u : Tok} {x : Value} {Q : Value → Shared → Prop} (hl : s.heap.IsList l items)
    (h0 : 0 ≤ k) (hfit : k < 2 ^ 63) (hx : items[k.toNat]? = some x) (h : Q x s)
    (hs : subscripted slice false (.ref l) (.int k u) = operate [.ref l, .int k u] (getItem (.ref l) (.int k u)) := by with_unfolding_all rfl) :
    wpAny (model prog w) A (subscriptTail value slice (.ref l) (.int k u)) Q E s :=
  tail_any hl.typeIs slot_list_getitem.lookup (wpAny_getItem_list hl h0 hfit hx h) hs
end
theorem allLt_mem {D : Addr} : ∀ {news : List (Addr × Obj)}, AllLt D news → ∀ q ∈ news, @LT.lt Nat _ q.1 D
  | [], _, q, h => nomatch h
  | p :: r, h, q, hq => by
    rcases List.mem_cons.mp hq with rfl | hq
    · exact h.1
    · exact allLt_mem h.2 q hq
theorem rows_spec {w : World} {A : Around} {s : Shared} {x : Str} {tx0 : Tok} {strict : Bool} {p : Program} {loose : List Str} {mean : ExcName → Option Value} {mg mb : Str → Option Value}
    (X : (hd.heap_39 w.params).In s.heap) (T : Top p loose mean mg mb s.heap) (hA : Rm A 20 300) (hxl : x.length ≤ 20) :
    Runs (model PySem.Challenge.rw_pe0110_02.row.prog w) A (call (.ref 53) [.str x tx0, .bool strict]) s
      (fun v h' => ∃ (R : Addr) (n : Nat) (os : List (Addr × Obj)), v = .ref R ∧ Lay os (rowsF strict (cl x)) ∧ s.heap.get? R = none ∧ h'.get? R = some (listOf (refs os).toArray n) ∧ (∀ q ∈ os, s.heap.get? q.1 = none ∧ h'.get? q.1 = some q.2) ∧ (R :: os.map (·.1)).Nodup ∧ (rowsF strict (cl x)).length ≤ x.length ∧ Fine x.length (rowsF strict (cl x))) := by
  revert X
  k_fill
  w_top off
  intro X
  intro Q E hret
  obtain ⟨ah, dp, fr, gd, un⟩ := A
  obtain ⟨h1, hdp, hun⟩ := hA
  dsimp only at h1 hdp hun
  subst h1
  refine enter (binds := [(Str.ofString "text", .str x tx0), (Str.ofString "strict", .bool strict)]) X T.nolimit (by k_is) (by k_is) (by show dp < _; omega) (BindsTo.of_eq rfl) (locs rfl) rfl rfl rfl (by decide) ?_
  intro L h₁ tk F N
  k_steps
  refine For_invV s.heap rfl rfl ?_ (hE := PassesOwn.never)
  k_steps
  rename Fr _ _ _ _ => F2
  rename News _ _ _ _ => N2
  rename_i R _ _ _
  refine iter_str (fixed := []) (J := RowsJ R tx0 x strict) rfl (by intro p hp; cases hp) F2 (by rw [List.append_nil]; exact N2) ?_ ?_ ?_
  · exact ⟨0, [], rfl, trivial, by simp, Nat.zero_le _, (fun r hr => nomatch hr), ⟨rfl, rfl, rfl, trivial⟩⟩
  · rintro i c u m₁ mt₁ h tk own hi hc ⟨n, os, rfl, hlay, hnd, hlen, hfine, hkn⟩ hown hfix F3 N3
    have F4 := Fr_more F3 (hkn.upd rfl)
    clear F3 F2 N2
    (try clear F)
    (try clear N)
    (try clear F1)
    (try clear N1)
    have hfin : rowsF strict ((cl x).take (i + 1)) = insRows strict (rowsF strict ((cl x).take i)) c := by
      unfold rowsF
      rw [List.take_add_one, show (cl x)[i]? = some c from by rw [← hc]; exact Array.getElem?_toList, Option.toList_some, List.foldl_append]
      rfl
    have hi' : i < x.length := hi
    k_steps
    rename Fr _ _ _ _ => F5
    rename News _ _ _ _ => N5
    refine While_inv2 (n₀ := (rowsF strict ((cl x).take i)).length + 1) (WayJ R tx0 x strict i (rowsF strict ((cl x).take (i + 1))) own) F5 N5 ?_ ?_ PassesOwn.never
    · exact ⟨n, os, [], _, [c], _, _, _, rfl, hlay, hnd, hown, ⟨rfl, rfl, rfl, rfl, rfl, trivial⟩, .inr ⟨c, rfl, rfl, rfl, hfin, (by rw [List.length_nil, Nat.zero_add]; exact hlen), (fun r hr => nomatch hr), hfine⟩⟩
    · rintro n1 m₂ nw h₂ tk₂ F6 N6 ⟨n0, os2, dn, rest, pu, tp, tkk, zk, rfl, hlay2, hnd2, hown2, hkn2, hway⟩
      have F7 := Fr_more F6 hkn2
      clear F6 F5 N5
      rcases hway with ⟨rfl, rfl, rfl, hdn, hl1, hl2⟩ | ⟨c1, rfl, rfl, rfl, hf1, hl1, hf2, hf3⟩
      · k_steps
        rename Fr _ _ _ _ => F8
        rename News _ _ _ _ => N8
        rw [List.append_nil] at hlay2
        subst hdn
        exact ⟨_, _, _, (R, listOf (refs os2).toArray n0) :: os2, rfl, F8, N8, hown2, n0, os2, rfl, hlay2, hnd2, hl1, hl2, ⟨rfl, rfl, rfl, trivial⟩⟩
      · k_steps
        rotate_left
        · rename ((_ : Str) != _) = false => hbad
          rw [ne_empty] at hbad
          exact nomatch hbad
        rename Fr _ _ _ _ => F8
        rename News _ _ _ _ => N8
        have hol : os2.length = dn.length + rest.length := by rw [lay_len hlay2, List.length_append]
        refine wpAny_mono (Q := P1 s L R tx0 x strict i c1 dn rest own) ?_ ?_ (fun _ _ e => e)
        · walk1
          k_steps
          refine len_list (N8.isList (.head _)) (by rw [List.size_toArray, refs_len]; omega) ?_
          rw [List.size_toArray, refs_len]
          dsimp only
          k_steps
          · rename Fr _ _ _ _ => F9
            rename News _ _ _ _ => N9
            rename ((dn.length : Int) = _) => heq
            rename_i l' _ _
            have hr0 : rest = [] := List.eq_nil_of_length_eq_zero (by omega)
            subst hr0
            rw [List.append_nil] at hlay2
            have nD := N9 (R, listOf (refs os2).toArray n0) (.tail _ (.head _))
            have nl := N9 (l', _) (.head _)
            rename (@LT.lt Nat _ R l' ∧ _) => hlt
            obtain ⟨hRl, hAl⟩ := hlt
            have hAl' := allLt_mem hAl
            refine append_at (hsz := by rw [sizeLine_eq, List.size_toArray, refs_len]; omega) nD.1 fun h5 hs5 hD5 => ?_
            have F10 := F9.change hs5 nD.2.1 nD.2.2
            have hoffR : ∀ p ∈ os2, p.1 ≠ R := fun p hp e => (List.nodup_cons.mp hnd2).1 (e ▸ List.mem_map_of_mem hp)
            have N10 : News s.heap L h5 ((R, listOf (refs (os2 ++ [(l', listOf ([] : List Value).toArray 0)])).toArray (n0 + 1)) :: ((os2 ++ [(l', listOf ([] : List Value).toArray 0)]) ++ own)) := by
              intro p hp
              rcases List.mem_cons.mp hp with rfl | hp
              · refine ⟨?_, nD.2⟩
                rw [hD5]
                unfold refs
                rw [List.map_append, List.push_toArray]
                rfl
              · have hpR : p.1 ≠ R := by
                  rcases List.mem_append.mp hp with hp | hp
                  · rcases List.mem_append.mp hp with hp | hp
                    · exact hoffR p hp
                    · rw [List.mem_singleton.mp hp]
                      exact Nat.ne_of_gt hRl
                  · exact hown2 p hp R (.head _)
                have z := N9 p (by
                  simp only [List.mem_cons, List.mem_append, List.not_mem_nil, or_false] at hp ⊢
                  rcases hp with (h | h) | h
                  · simp [h]
                  · exact .inl h
                  · simp [h])
                exact ⟨(hs5.2 p.1 hpR).trans z.1, z.2⟩
            clear F9 N9
            dsimp only
            k_steps
            rename Fr _ _ _ _ => F12
            rename News _ _ _ _ => N12
            refine ⟨rfl, _, _, _, n0 + 1, _, [], [], _, _, rfl, F12, N12, lay_append hlay2 ⟨⟨[], 0, rfl, .nil⟩, trivial⟩, ?_, ?_, ⟨rfl, rfl, rfl, rfl, rfl, trivial⟩, rfl, Nat.zero_le _, (fun i j _ h => nomatch h), (fun _ h => nomatch h), Nat.le_refl _, ?_, .inr ⟨rfl, rfl, rfl⟩⟩
            · rw [List.map_append, ← List.cons_append]
              refine List.nodup_append.mpr ⟨hnd2, by simp, ?_⟩
              intro b hb c' hc' e
              have hc2 : c' = l' := by simpa using hc'
              rw [hc2] at e
              rcases List.mem_cons.mp hb with hb | hb
              · exact absurd (hb ▸ e : R = l') (Nat.ne_of_lt hRl)
              · obtain ⟨q, hq, hq2⟩ := List.mem_map.mp hb
                have : q.1 < l' := hAl' q (by simp [hq])
                rw [hq2, e] at this
                exact Nat.lt_irrefl _ this
            · intro p hp b hb
              rw [List.map_append, ← List.cons_append] at hb
              rcases List.mem_append.mp hb with hb | hb
              · exact hown2 p hp b hb
              · have hb2 : b = l' := by simpa using hb
                rw [hb2]
                exact Nat.ne_of_lt (hAl' p (by simp [hp]))
            · rw [List.length_nil] at hl1 ⊢; exact hl1
          · rename Fr _ _ _ _ => F9
            rename News _ _ _ _ => N9
            rename ((dn.length : Int) ≠ _) => hne
            cases rest with
            | nil =>
              rw [List.length_nil] at hol
              exact absurd (by omega) hne
            | cons r rs =>
              refine ⟨rfl, _, _, _, n0, os2, r, rs, _, _, rfl, F9, N9, hlay2, hnd2, hown2, ⟨rfl, rfl, rfl, rfl, rfl, trivial⟩, rfl, (hf3 r (.head _)).1, (hf3 r (.head _)).2, fun q hq => hf3 q (.tail _ hq), ?_, ?_, .inl rfl⟩
              · rw [List.length_cons]; omega
              · rw [List.length_cons] at hl1; omega
        · rintro _ _ ⟨rfl, h3, tk3, m3, n3, os3, r, rs, tp3, tk3', rfl, F9, N9, hlay3, hnd3, hown3, hkn3, hins, hrl, hrS, hrf, hrsl, hdl, hor⟩
          dsimp only
          have F10 := Fr_more F9 hkn3
          clear F9 F8 N8
          obtain ⟨oa, ob0, rfl, la, lb0, hal⟩ := lay_split dn hlay3
          obtain ⟨Ad, vs, nn, ob, rfl, hvs, lb⟩ := lay_cons lb0
          have hvl : vs.length = r.length := by rw [strs_len hvs, List.length_map]
          have hat : (refs (oa ++ (Ad, listOf vs.toArray nn) :: ob)).toArray[((dn.length : Nat) : Int).toNat]? = some (.ref Ad) := by
            rw [Int.toNat_natCast, ← hal]; exact refs_at oa (Ad, listOf vs.toArray nn) ob
          have hmA : (Ad, listOf vs.toArray nn) ∈ (R, listOf (refs (oa ++ (Ad, listOf vs.toArray nn) :: ob)).toArray n3) :: ((oa ++ (Ad, listOf vs.toArray nn) :: ob) ++ own) := by simp
          k_steps
          rename Fr _ _ _ _ => F11
          rename News _ _ _ _ => N11
          refine wpAny_mono (Q := P2 s L R tx0 x strict c1 dn.length r ((R, listOf (refs (oa ++ (Ad, listOf vs.toArray nn) :: ob)).toArray n3) :: ((oa ++ (Ad, listOf vs.toArray nn) :: ob) ++ own))) ?_ ?_ (fun _ _ e => e)
          · walk1
            k_steps
            · refine item_list (N11.isList (.head _)) (by omega) (by omega) hat ?_
              k_steps
              rename Fr _ _ _ _ => F12
              rename News _ _ _ _ => N12
              rename (strict = true) => hst
              refine Runs.use (bis0_spec (X.keeps F12.keep) (T.keeps F12.keep) ⟨rfl, by show dp + 1 + 12 < _; omega, by show un + 3 + 200 < _; omega⟩ (N12.isList hmA) hvs (by omega) hrS) F12 N12 ?_
              rintro _ h7 tk7 ⟨pl, tpl, rfl, hH⟩ st7 F13 N13
              dsimp only
              k_steps
              rename Fr _ _ _ _ => F14
              rename News _ _ _ _ => N14
              refine ⟨rfl, _, _, _, pl, _, _, _, rfl, F14, N14, ⟨rfl, rfl, rfl, rfl, rfl, rfl, trivial⟩, ?_⟩
              rw [hst]; exact hH
            · refine item_list (N11.isList (.head _)) (by omega) (by omega) hat ?_
              k_steps
              rename Fr _ _ _ _ => F12
              rename News _ _ _ _ => N12
              rename (strict = false) => hst
              refine Runs.use (bis1_spec (X.keeps F12.keep) (T.keeps F12.keep) ⟨rfl, by show dp + 1 + 12 < _; omega, by show un + 3 + 200 < _; omega⟩ (N12.isList hmA) hvs (by omega) hrS) F12 N12 ?_
              rintro _ h7 tk7 ⟨pl, tpl, rfl, hH⟩ st7 F13 N13
              dsimp only
              k_steps
              rename Fr _ _ _ _ => F14
              rename News _ _ _ _ => N14
              refine ⟨rfl, _, _, _, pl, _, _, _, rfl, F14, N14, ⟨rfl, rfl, rfl, rfl, rfl, rfl, trivial⟩, ?_⟩
              rw [hst]; exact hH
          · rintro _ _ ⟨rfl, h6, tk6, m6, pl, tpl, tp6, tk6', rfl, F12, N12, hkn6, hH⟩
            dsimp only
            have F13 := Fr_more F12 hkn6
            clear F12 F11 N11
            obtain ⟨hH1, hH2, hH3, hH4, hH5⟩ := hH
            k_steps
            walk1
            k_steps
            rename Fr _ _ _ _ => F14
            rename News _ _ _ _ => N14
            refine item_list (N14.isList (.head _)) (by omega) (by omega) hat ?_
            k_steps
            refine len_list (N14.isList hmA) (by rw [List.size_toArray]; omega) ?_
            rw [List.size_toArray]
            dsimp only
            k_steps
            · rename Fr _ _ _ _ => F15
              rename News _ _ _ _ => N15
              refine item_list (N15.isList (.head _)) (by omega) (by omega) hat ?_
              rename ((pl : Int) = _) => hpl
              have hple : pl = r.length := by omega
              have nA := N15 (Ad, listOf vs.toArray nn) hmA
              k_steps
              refine append_at (hsz := by rw [sizeLine_eq, List.size_toArray]; omega) nA.1 fun h9 hs9 hA9 => ?_
              obtain ⟨F16, N16⟩ := news_row F15 N15 hnd3 hown3 hs9 hA9
              rw [refs_mid oa Ad _ (listOf (vs.toArray.push (.str (tx [c1]) tp6)) (nn + 1)) ob] at N16
              rw [addr_mid oa Ad _ (listOf (vs.toArray.push (.str (tx [c1]) tp6)) (nn + 1)) ob] at hnd3 hown3
              rw [List.push_toArray] at N16 hnd3 hown3
              clear F15 N15
              dsimp only
              k_steps
              rename Fr _ _ _ _ => F17
              rename News _ _ _ _ => N17
              have hall : ∀ j, j < r.length → tst strict c1 (r.getD j 0) = false := fun j hj => hH4 j (Nat.zero_le _) (by omega)
              have hir : insRows strict (r :: rs) c1 = (r ++ [c1]) :: rs := by
                show (match insRow strict r c1 with | (r', none) => r' :: rs | (r', some d) => r' :: insRows strict rs d) = _
                rw [insRow_end hall]
              refine ⟨_, _, _, _, 0, rfl, F17, N17, ?_, n3, _, dn ++ (r ++ [c1]) :: rs, [], [], _, _, _, rfl, ?_, hnd3, hown3, ⟨rfl, rfl, rfl, rfl, rfl, trivial⟩, .inl ⟨rfl, rfl, rfl, ?_, ?_, ?_⟩⟩
              · omega
              · rw [List.append_nil]
                refine lay_append la ⟨⟨vs ++ [.str (tx [c1]) tp6], nn + 1, rfl, ?_⟩, lb⟩
                rw [List.map_append]
                exact strs_snoc hvs
              · rw [hf1, hins, hir]
              · rw [List.length_append, List.length_cons]; omega
              · intro q hq
                rcases List.mem_append.mp hq with hq | hq
                · exact hf2 q hq
                · rcases List.mem_cons.mp hq with rfl | hq
                  · exact ⟨by rw [List.length_append]; show _ + 1 ≤ _; omega, sorted_end hrS fun j hj => tst_false (hall j hj)⟩
                  · exact hrf.up q hq
            · rename Fr _ _ _ _ => F15
              rename News _ _ _ _ => N15
              refine item_list (N15.isList (.head _)) (by omega) (by omega) hat ?_
              rename ((pl : Int) ≠ _) => hpl
              have hpl1 : pl < r.length := by omega
              obtain ⟨td, htd⟩ := strs_at (i := pl) (x := tx [r.getD pl 0]) hvs (by
                rw [List.getElem?_map, List.getD_eq_getElem?_getD, List.getElem?_eq_getElem hpl1]; rfl)
              k_steps
              refine item_listA (N15.isList hmA) (by omega) (by omega) (x := .str (tx [r.getD pl 0]) td) ?_ ?_
              · rw [Int.toNat_natCast, List.getElem?_toArray]; exact htd
              k_steps
              rename Fr _ _ _ _ => F16
              rename News _ _ _ _ => N16
              refine item_list (N16.isList (.head _)) (by omega) (by omega) hat ?_
              k_steps
              rename Fr _ _ _ _ => F17
              rename News _ _ _ _ => N17
              have nA := N17 (Ad, listOf vs.toArray nn) hmA
              refine ki_setAt nA.1 (by omega) (by omega) (by rw [List.size_toArray]; omega) ?_
              have hset : vs.toArray.setIfInBounds ((pl : Int).toNat) (.str (tx [c1]) tp6) = (vs.set pl (.str (tx [c1]) tp6)).toArray := by
                rw [Int.toNat_natCast]; simp
              rw [reshape] at N17
              obtain ⟨hq1, hq2⟩ := row_off hnd3 hown3 (listOf (refs (oa ++ (Ad, listOf vs.toArray nn) :: ob)).toArray n3)
              have F18 := F17.change (Heap.SameBut.update (a := Ad) (f := Obj.mapSeq (·.setIfInBounds (pl : Int).toNat (.str (tx [c1]) tp6))) ..) nA.2.1 nA.2.2
              have N18 := ki_turn (fun a => a.setIfInBounds (pl : Int).toNat (.str (tx [c1]) tp6)) N17 hq1 hq2 hset rfl
              rw [← reshape, refs_mid oa Ad _ (listOf (vs.set pl (.str (tx [c1]) tp6)).toArray (if (vs.set pl (.str (tx [c1]) tp6)).toArray.size == vs.toArray.size then nn else nn + 1)) ob] at N18
              rw [addr_mid oa Ad _ (listOf (vs.set pl (.str (tx [c1]) tp6)).toArray (if (vs.set pl (.str (tx [c1]) tp6)).toArray.size == vs.toArray.size then nn else nn + 1)) ob] at hnd3 hown3
              clear F17 N17
              dsimp only
              k_steps
              rename Fr _ _ _ _ => F19
              rename News _ _ _ _ => N19
              have hrest : rest = r :: rs := by
                rcases hor with h | ⟨_, h, _⟩
                · exact h
                · rw [h] at hpl1; simp at hpl1
              have hlo : ∀ j, j < pl → tst strict c1 (r.getD j 0) = false := fun j hj => hH4 j (Nat.zero_le _) hj
              have hup : tst strict c1 (r.getD pl 0) = true := hH5 pl (Nat.le_refl _) hpl1
              have hir : insRows strict (r :: rs) c1 = r.set pl c1 :: insRows strict rs (r.getD pl 0) := by
                show (match insRow strict r c1 with | (r', none) => r' :: rs | (r', some d) => r' :: insRows strict rs d) = _
                rw [insRow_mid hpl1 hlo hup]
              have hz1 : (dn.length : Int) + 1 = ((dn ++ [r.set pl c1]).length : Int) := by rw [List.length_append]; rfl
              subst hrest
              rw [List.length_cons] at hl1
              refine ⟨_, _, _, _, rs.length + 1, rfl, F19, N19, ?_, n3, _, dn ++ [r.set pl c1], rs, [r.getD pl 0], _, _, _, rfl, ?_, hnd3, hown3, ⟨rfl, rfl, rfl, rfl, rfl, trivial⟩, .inr ⟨_, rfl, rfl, hz1, ?_, ?_, ?_, hrf⟩⟩
              · rw [List.length_cons]; omega
              · rw [List.append_assoc]
                refine lay_append la ⟨⟨vs.set pl (.str (tx [c1]) tp6), _, rfl, ?_⟩, lb⟩
                rw [List.map_set]
                exact strs_set hvs
              · rw [hf1, hir, List.append_assoc]
                rfl
              · rw [List.length_append, List.length_cons, List.length_nil]; omega
              · intro q hq
                rcases List.mem_append.mp hq with hq | hq
                · exact hf2 q hq
                · rw [List.mem_singleton.mp hq]
                  exact ⟨by rw [List.length_set]; omega, sorted_mid hrS hpl1 (fun j hj => tst_false (hlo j hj)) (tst_true hup)⟩
  · rintro m₁ mt₁ h tk ⟨n, os, rfl, hlay, hnd, hlen, hfine, hkn⟩ F3 N3 hoff
    have F4 := Fr_more F3 hkn
    clear F3
    k_steps
    rename Fr _ _ _ _ => F8
    rename News _ _ _ _ => N8
    rw [show ((cl x).take x.cps.size) = cl x from List.take_of_length_le (by rw [cl_len]; exact Nat.le_refl _)] at hlay hlen hfine
    have nR := N8 (R, _) (.head _)
    exact hret _ _ _ ⟨R, n, os, rfl, hlay, nR.2.2, nR.1, fun q hq => ⟨(N8 q (by simp [hq])).2.2, (N8 q (by simp [hq])).1⟩, hnd, hlen, hfine⟩ F8.keep
end
section
local macro_rules | `(tactic| k_steps) => `(tactic| repeat' (first
  | ((fail_if_success (with_reducible show wpAny _ _ (exec (Stmt.While _ _ _ _) _) _ _ _)); (fail_if_success (with_reducible show wpAny _ _ (exec (Stmt.For _ _ _ _ _) _) _ _ _)); (fail_if_success (with_reducible show wpAny _ _ (eval (Expr.ListComp _ _ _ _) _) _ _ _)); (fail_if_success (with_reducible show wpAny _ _ (exec (Stmt.Assign _ (Expr.ListComp _ _ _ _) _) _) _ _ _)); (fail_if_success (with_reducible show wpAny _ _ (call (Value.ref _) _ _) _ _ _)); (fail_if_success (with_reducible show wpAny _ _ (pyIter _) _ _ _)); (fail_if_success (with_reducible show LCg.CompSrc _ _ _ _ _ _ _ _ _ _ _ _ _ _)); (fail_if_success (with_reducible show LCt.CompSrcT _ _ _ _ _ _ _ _ _ _ _ _ _ _ _)); (fail_if_success (with_reducible show wpAny _ _ (compareOp _ (Value.ref _) (Value.ref _)) _ _ _)); (fail_if_success (with_reducible show EltEnd _ _ _ _ _ _ _ _)); (fail_if_success (with_reducible show wpAny _ _ (call (Value.builtin "str.join") _ _) _ _ _));
     (first | (k_unfold; (try dsimp only)) | (k_end; kc_close) | walk1 | (dsimp only; walk1) | (leave1; walk_say "STEP leave1"; (try dsimp only)) | fail "no step"))))
theorem count_spec {w : World} {A : Around} {s : Shared} {x : Str} {c : Nat} {tx0 tc : Tok} {p : Program} {loose : List Str} {mean : ExcName → Option Value} {mg mb : Str → Option Value}
    (X : (hd.heap_39 w.params).In s.heap) (T : Top p loose mean mg mb s.heap) (hA : Rm A 2 20) (hxl : x.length ≤ 100) :
    Runs (model PySem.Challenge.rw_pe0110_02.row.prog w) A (call (.ref 58) [.str x tx0, .str (tx [c]) tc]) s (fun v _ => ∃ t, v = .int ((cl x).count c : Int) t) := by
  revert X
  k_fill
  w_top off
  intro X
  intro Q E hret
  obtain ⟨ah, dp, fr, gd, un⟩ := A
  obtain ⟨h1, hdp, hun⟩ := hA
  dsimp only at h1 hdp hun
  subst h1
  refine enterC (binds := [(Str.ofString "text", .str x tx0), (Str.ofString "sign", .str (tx [c]) tc)]) X T.nolimit (by k_is) (by k_is) (by show dp < _; omega) (BindsTo.of_eq rfl) rfl (by decide) rfl rfl rfl ?_
  intro L h₁ tk cells F N Y
  obtain ⟨o, rfl, hod⟩ := CellsAre.one Y
  have hod' : o.data = Data.cell (some (.str (tx [c]) tc)) := hod
  clear hod Y
  k_steps
  refine ListComp_ST F (by with_unfolding_all rfl) (by decide) rfl (by decide) rfl ?_
  k_steps
  refine ⟨_, _, _, rfl, rfl, F, N, by rw [sizeLine_eq]; show x.length ≤ _; omega, fun g => ?_⟩
  refine compRestT_of (fun i => (cl x).getD i 0 == c) (fun _ _ => True) trivial ?_ ?_
  · intro i v I oI C oC D ys m₂ h tk E' hi hP hC hx F N off ne
    obtain ⟨d, u, hc, rfl⟩ := hP
    have hg : (cl x).getD i 0 = d := by
      rw [List.getD_eq_getElem?_getD, Array.getElem?_toList, hc]; rfl
    k_steps
    · rw [hg]; exact eq_one d c
    · rename Fr _ _ _ _ => F9
      rename News _ _ _ _ => N9
      exact ⟨_, _, rfl, F9, N9, trivial⟩
    · rename Fr _ _ _ _ => F9
      rename News _ _ _ _ => N9
      exact ⟨_, _, rfl, F9, N9, trivial⟩
  · intro ys hP D h tk F N hoff
    have hlen : ys.length = (cl x).count c := by
      rw [← paired_len hP]
      exact count_range c (cl x)
    have hle : (cl x).count c ≤ 100 := Nat.le_trans List.count_le_length hxl
    k_steps
    refine len_list (N.isList (.head _)) (by rw [List.size_toArray, hlen]; omega) ?_
    rw [List.size_toArray, hlen]
    k_steps
    exact hret _ _ _ ⟨_, rfl⟩ F.keep
end
section
local macro_rules | `(tactic| k_steps) => `(tactic| repeat' (first
  | ((fail_if_success (with_reducible show wpAny _ _ (exec (Stmt.While _ _ _ _) _) _ _ _)); (fail_if_success (with_reducible show wpAny _ _ (exec (Stmt.For _ _ _ _ _) _) _ _ _)); (fail_if_success (with_reducible show wpAny _ _ (eval (Expr.ListComp _ _ _ _) _) _ _ _)); (fail_if_success (with_reducible show wpAny _ _ (exec (Stmt.Assign _ (Expr.ListComp _ _ _ _) _) _) _ _ _)); (fail_if_success (with_reducible show wpAny _ _ (call (Value.ref _) _ _) _ _ _)); (fail_if_success (with_reducible show wpAny _ _ (pyIter _) _ _ _)); (fail_if_success (with_reducible show LCg.CompSrc _ _ _ _ _ _ _ _ _ _ _ _ _ _)); (fail_if_success (with_reducible show LCt.CompSrcT _ _ _ _ _ _ _ _ _ _ _ _ _ _ _)); (fail_if_success (with_reducible show wpAny _ _ (compareOp _ (Value.ref _) (Value.ref _)) _ _ _)); (fail_if_success (with_reducible show EltEnd _ _ _ _ _ _ _ _)); (fail_if_success (with_reducible show wpAny _ _ (call (Value.builtin "str.join") _ _) _ _ _));
     (first | (k_unfold; (try dsimp only)) | (k_end; kc_close) | walk1 | (dsimp only; walk1) | (leave1; walk_say "STEP leave1"; (try dsimp only)) | fail "no step"))))
def TabAt (P line col : Nat) (qual : Str) (g h : Heap) (ps : Array Value) (extra : List (Addr × Obj)) : Prop :=
  h.get? P = some (tabObj ps) ∧ TabOk line col qual ps extra ∧ ∀ q ∈ extra, h.get? q.1 = some q.2 ∧ q.1 ≠ P ∧ g.get? q.1 = none
theorem most_spec {w : World} {A : Around} {s : Shared} {x fr : Str} {c : Nat} {tx0 tf tc : Tok} {g : Heap} {ps : Array Value} {extra : List (Addr × Obj)} {p : Program} {loose : List Str} {mean : ExcName → Option Value} {mg mb : Str → Option Value} {Q E : Value → Shared → Prop}
    (X : (hd.heap_39 w.params).In g) (T : Top p loose mean mg mb g) (hg : Stay g s.heap) (hgP : g.get? 60 = none) (hTab : TabAt 60 100 40 (Str.ofString "_law_most" ++ ".<locals>." ++ "<lambda>") g s.heap ps extra) (hA : Rm A 20 300) (hxl : x.length ≤ 20) (hfl : fr.length ≤ 20)
    (h46 : 46 ∉ cl fr) (hc46 : c ≠ 46)
    (hret : ∀ (r : Nat) (t : Tok) ps' extra' h' tk', Halved (askN (cl x) (cl fr) c) 0 ((cl x).count c) r r → StayBut 60 s.heap h' → TabAt 60 100 40 (Str.ofString "_law_most" ++ ".<locals>." ++ "<lambda>") g h' ps' extra' → (∀ q ∈ extra', q ∈ extra ∨ s.heap.get? q.1 = none) → (∀ q ∈ extra, q ∈ extra') → Q (.int r t) { s with heap := h', toks := tk' }) :
    wpAny (model PySem.Challenge.rw_pe0110_02.row.prog w) A (call (.ref 65) [.str x tx0, .str fr tf, .str (tx [c]) tc]) Q E s := by
  revert X
  k_fill
  w_top off
  intro X
  obtain ⟨ah, dp, frs, gd, un⟩ := A
  obtain ⟨h1, hdp, hun⟩ := hA
  dsimp only at h1 hdp hun
  subst h1
  obtain ⟨hP, htab, hex⟩ := hTab
  have hnews : ∀ q ∈ (60, tabObj ps) :: extra, s.heap.get? q.1 = some q.2 ∧ g.get? q.1 = none := by
    intro q hq
    rcases List.mem_cons.mp hq with rfl | hq
    · exact ⟨hP, hgP⟩
    · exact ⟨(hex q hq).1, (hex q hq).2.2⟩
  have hsg : Stay g (hideAll s.heap (((60, tabObj ps) :: extra).map (·.1))) := stay_hideAll hg (by
    intro a ha
    obtain ⟨q, hq, rfl⟩ := List.mem_map.mp ha
    exact (hnews q hq).2)
  have X₀ := X.keeps hsg
  have T₀ := T.keeps hsg
  have C₀ : CodeHd (hideAll s.heap (((60, tabObj ps) :: extra).map (·.1))) 64 60 := codeHd_of_K X₀ (by kernel_rfl)
  refine enterCN ((60, tabObj ps) :: extra) (fun q hq => (hnews q hq).1) (X.keeps hg) (T.keeps hg).nolimit (by k_is) (by k_is) (by show dp < _; omega) (binds := [(Str.ofString "text", .str x tx0), (Str.ofString "front", .str fr tf), (Str.ofString "sign", .str (tx [c]) tc)]) (BindsTo.of_eq rfl) rfl (by decide) rfl rfl rfl ?_
  intro L h₁ tk cells F N Y hlow
  obtain ⟨o1, o2, o3, rfl, hod1, hod2, hod3⟩ := CellsAre.three Y
  clear Y X T
  have hod1' : o1.data = Data.cell (some (.str (tx [c]) tc)) := hod1
  have hod2' : o2.data = Data.cell (some (.str fr tf)) := hod2
  have hod3' : o3.data = Data.cell (some (.str x tx0)) := hod3
  clear hod1 hod2 hod3
  have N0 : News (hideAll s.heap (((60, tabObj ps) :: extra).map (·.1))) L h₁ [(L + 1 + 1 + 1, o1), (L + 1 + 1, o2), (L + 1, o3)] := fun q hq => N q (List.mem_append_left _ hq)
  k_steps
  refine Runs.use (count_spec (X₀.keeps F.keep) (T₀.keeps F.keep) ⟨rfl, by show dp + 1 + 2 < _; omega, by show un + 3 + 20 < _; omega⟩ (by omega)) F N ?_
  rintro _ h2 tk2 ⟨tcnt, rfl⟩ st F2 N2
  have hle : (cl x).count c ≤ x.length := List.count_le_length
  generalize hcnt : (cl x).count c = cnt at hle ⊢
  clear F N N0 st
  have N3 : News (hideAll s.heap (((60, tabObj ps) :: extra).map (·.1))) L h2 ((L + 1 + 1 + 1, o1) :: (L + 1 + 1, o2) :: (L + 1, o3) :: (60, tabObj ps) :: extra) := N2
  clear N2
  k_steps
  rename_i D pvs pc _ _ hI l1 h8 F4 N4
  have hlP : @LT.lt Nat _ 60 L := hlow (60, tabObj ps) (.head _)
  have N5 : News (hideAll s.heap (((60, tabObj ps) :: extra).map (·.1))) L h8 ([] ++ (60, tabObj ps) :: (extra ++ [(D, listOf pvs.toArray pc), (L + 1 + 1 + 1, o1), (L + 1 + 1, o2), (L + 1, o3)])) := fun q hq => N4 q (by
    simp only [List.nil_append, List.mem_cons, List.mem_append, List.not_mem_nil, or_false] at hq ⊢
    rcases hq with h | h | h | h | h | h <;> simp [h])
  clear N4
  refine kla_eval rfl ?_
  refine lam_make2 (P := 60) (c := 64) (pre := []) (own := [(D, listOf pvs.toArray pc), (L + 1 + 1 + 1, o1), (L + 1 + 1, o2), (L + 1, o3)]) F4 N5 T₀ C₀ rfl htab (fun q hq => nomatch hq) (fun q hq => (hex q hq).2.1) ?_ (fun q hq r hr => nomatch hr) ?_ rfl ?_
  · intro q hq
    simp only [List.mem_cons, List.not_mem_nil, or_false] at hq
    rcases hq with rfl | rfl | rfl | rfl <;> (refine neN ?_; dsimp only; omega)
  · intro q hq r hr
    have h9 := hlow q (.tail _ hq)
    have h10 := (l1.2.2.2.2)
    simp only [List.mem_cons, List.not_mem_nil, or_false] at hr
    rcases hr with rfl | rfl | rfl | rfl <;> (refine neN ?_; dsimp only; omega)
  intro f c' oc cvs ct ctv h' tk' F6 N6 hoc hcv hlf hPf hcf hprec hcP hownc hext
  clear N5 F4
  k_steps
  show wpAny _ _ (call (.ref 32) [.ref D, .bool true] [(Str.ofString "key", .ref f)]) _ _ _
  have nD := N6 (D, listOf pvs.toArray pc) (by simp)
  have nf := N6 (f, _) (.head _)
  have nc := N6 (c', oc) (by simp)
  have nP := N6 (60, tabObj #[rawInt 100, rawInt 40, .ref c']) (by simp)
  have n1 := N6 (L + 1, o3) (by simp)
  have n2 := N6 (L + 1 + 1, o2) (by simp)
  have n3 := N6 (L + 1 + 1 + 1, o1) (by simp)
  have hlen : (rangeKs 1 ((cnt : Int) + 1 - 1).toNat).length = cnt := by rw [rangeKs_length]; omega
  have hget : ∀ i, i < cnt → (rangeKs 1 ((cnt : Int) + 1 - 1).toNat).getD i 0 = ((i + 1 : Nat) : Int) := fun i hi => by rw [kll_at (by omega)]; omega
  refine Runs.use (bisL_spec (f := fun z => !sub (cl fr ++ List.replicate z.toNat c) (cl x)) (X₀.keeps F6.keep) (T₀.keeps F6.keep) ⟨rfl, by show dp + 1 + 12 < _; omega, by show un + 3 + 200 < _; omega⟩
    ⟨_, nD.1, rfl, _, rfl⟩ hI ⟨_, _, _, _, nf.1⟩ (by omega) ?_ ?_) F6 N6 ?_
  · intro A' s' z t' hA' st hz
    intro Q' E' hret'
    obtain ⟨ah, dp', fr', gd', un'⟩ := A'
    obtain ⟨h1', hdp', hun'⟩ := hA'
    dsimp only at h1' hdp' hun'
    subst h1'
    obtain ⟨hz0, hz1⟩ := mem_rangeKs hz
    have hc12 : ∀ q ∈ [(L + 1, o3), (L + 1 + 1, o2), (L + 1 + 1 + 1, o1)], s'.heap.get? q.1 = some q.2 ∧ (hideAll s.heap (((60, tabObj ps) :: extra).map (·.1))).get? q.1 = none := by
      intro q hq
      simp only [List.mem_cons, List.not_mem_nil, or_false] at hq
      rcases hq with rfl | rfl | rfl
      · exact ⟨st _ _ n1.1, n1.2.2⟩
      · exact ⟨st _ _ n2.1, n2.2.2⟩
      · exact ⟨st _ _ n3.1, n3.2.2⟩
    have hsg' : Stay (hideAll s.heap (((60, tabObj ps) :: extra).map (·.1))) (hideAll s'.heap ([(L + 1, o3), (L + 1 + 1, o2), (L + 1 + 1 + 1, o1)].map (·.1))) := stay_hideAll (fun b o e => st b o (F6.keep b o e)) (by
      intro a ha
      obtain ⟨q, hq, rfl⟩ := List.mem_map.mp ha
      exact (hc12 q hq).2)
    have X₁ := X₀.keeps hsg'
    have T₁ := T₀.keeps hsg'
    refine enterLamC [(L + 1, o3), (L + 1 + 1, o2), (L + 1 + 1 + 1, o1)] (fun q hq => (hc12 q hq).1) (st _ _ nf.1) ⟨c', oc, cvs, ct, rfl, st _ _ nc.1, hoc, hcv⟩ ((T₀.keeps F6.keep).keeps st).nolimit (by show dp' < _; omega) rfl (locs rfl) rfl rfl rfl (by decide) ?_
    intro L' h₂ tk₂ F8 N8
    have hone : (tx [c]).length = 1 := rfl
    clear F6 N6 X₀ T₀
    k_steps
    have hml : (Txt.mul (tx [c]) z).length ≤ 20 := len_mul_one rfl (by omega)
    refine PyProof.Rows.add_str (fun t2 tk2 => ?_) (by rw [sizeLine_eq]; omega)
    have hwd : fr ++ Txt.mul (tx [c]) z = tx (cl fr ++ List.replicate z.toNat c) := by
      refine str_ext ?_
      rw [cl_append]
      show cl fr ++ (Txt.mul ⟨#[c]⟩ z).cps.toList = _
      rw [mul_one_list]
    rw [hwd]
    have hwl : (cl fr ++ List.replicate z.toNat c).length ≤ 40 := by
      rw [List.length_append, List.length_replicate, cl_len]; omega
    have hwne : cl fr ++ List.replicate z.toNat c ≠ [] := fun e => by
      have := congrArg List.length e
      rw [List.length_append, List.length_replicate] at this
      simp at this
      omega
    have hw46 : 46 ∉ cl fr ++ List.replicate z.toNat c := fun h => by
      rcases List.mem_append.mp h with h | h
      · exact h46 h
      · exact hc46 (List.eq_of_mem_replicate h).symm
    generalize cl fr ++ List.replicate z.toNat c = wd at hwl hwne hw46 hret' ⊢
    k_steps
    rename Fr _ _ _ _ => F9
    rename News _ _ _ _ => N9
    refine Runs.use (gaps_spec (X₁.keeps F9.keep) (T₁.keeps F9.keep) ⟨rfl, by show dp' + 1 + 2 < _; omega, by show un' + 3 + 20 < _; omega⟩ (by show wd.length ≤ 100; omega)) F9 N9 ?_
    rintro _ h5 tk5 ⟨ug, rfl⟩ st5 F10 N10
    clear F9 N9 st5
    k_steps
    rename Fr _ _ _ _ => F9
    rename News _ _ _ _ => N9
    refine Runs.use (match_spec wd (X₁.keeps F9.keep) (T₁.keeps F9.keep) ⟨rfl, by show dp' + 1 + 2 < _; omega, by show un' + 3 + 20 < _; omega⟩ (gaps_cl hwne) hw46 (by rw [gaps_length hwne]; omega) (by omega)) F9 N9 ?_
    rintro _ h6 tk6 rfl st6 F11 N11
    clear F9 N9 st6
    (try clear F10)
    (try clear N10)
    cases hsub : sub wd (cl x) <;> (k_steps; refine hret' _ _ _ ?_ (stay_back (fun q hq => (hc12 q hq).1) F11.keep fun q hq => (N11 q hq).1); rw [hsub]; rfl)
  · intro i j h1 h2 h3 h4
    rw [hlen] at h3
    rw [hget i (by omega)] at h4
    rw [hget j (by omega)]
    simp only [Int.toNat_natCast] at h4 ⊢
    cases q : sub (cl fr ++ List.replicate (j + 1) c) (cl x) with
    | false => rfl
    | true =>
      have := sub_iff.mp q
      have h5 : (cl fr ++ List.replicate (i + 1) c).Sublist (cl fr ++ List.replicate (j + 1) c) := (List.replicate_sublist_replicate c).mpr (by omega) |>.append_left _
      rw [sub_iff.mpr (h5.trans this)] at h4
      cases h4
  · rintro v h₃ tk₃ ⟨r, tr, rfl, hh1, hh2, hh3, hh4, hh5⟩ st₃ F7 N7
    rw [hlen] at hh3 hh5
    clear N6 F6
    k_steps
    refine hret r tr #[rawInt 100, rawInt 40, .ref c'] [(c', oc)] _ _ ⟨Nat.zero_le _, Nat.le_refl _, by rw [hcnt]; exact hh3, fun i a b => ?_, fun i a b => ?_⟩ ?_ ⟨?_, .inr ⟨c', oc, cvs, ct, rfl, rfl, hoc, hcv⟩, ?_⟩ ?_ (fun q hq => List.mem_singleton.mpr (hext q hq))
    · have := hh4 i (Nat.zero_le _) b
      dsimp only at this
      rw [hget i (by omega)] at this
      exact this
    · rw [hcnt] at b
      have := hh5 i a b
      dsimp only at this
      rw [hget i b] at this
      exact this
    · intro b o hb e
      by_cases hbx : b ∈ ((60, tabObj ps) :: extra).map (·.1)
      · obtain ⟨q, hq, rfl⟩ := List.mem_map.mp hbx
        rcases List.mem_cons.mp hq with rfl | hq
        · exact absurd rfl hb
        · rw [(hex q hq).1] at e
          rw [hext q hq] at e ⊢
          rw [← e]
          exact (N7 (c', oc) (by simp)).1
      · exact F7.keep b o (hideAll_get _ e hbx)
    · exact (N7 (60, _) (by simp)).1
    · intro q hq
      rw [List.mem_singleton.mp hq]
      exact ⟨(N7 (c', oc) (by simp)).1, hcP, by
        cases q : g.get? c' with
        | none => rfl
        | some o => exact nomatch (hsg _ _ q).symm.trans (N7 (c', oc) (by simp)).2.2⟩
    · intro q hq
      rw [List.mem_singleton.mp hq]
      by_cases hcx : c' ∈ ((60, tabObj ps) :: extra).map (·.1)
      · obtain ⟨q', hq', e⟩ := List.mem_map.mp hcx
        rcases List.mem_cons.mp hq' with rfl | hq'
        · exact absurd e.symm hcP
        · exact .inl (hext q' hq' ▸ hq')
      · right
        cases q2 : s.heap.get? c' with
        | none => rfl
        | some o => exact nomatch (hideAll_get _ q2 hcx).symm.trans nc.2.2
theorem afterT {g H0 h h' : Heap} {L : Addr} {m : Str → Option Value} {own extra extra' : List (Addr × Obj)} {ps ps' : Array Value} {line col : Nat} {qual : Str}
    (F : Fr H0 L h m) (N : News H0 L h (own ++ (60, tabObj ps) :: extra)) (hown : ∀ q ∈ own, q.1 ≠ 60) (k : StayBut 60 h h') (T : TabAt 60 line col qual g h' ps' extra') (hf : ∀ q ∈ extra', q ∈ extra ∨ h.get? q.1 = none) :
    Fr H0 L h' m ∧ News H0 L h' (own ++ (60, tabObj ps') :: extra') := by
  have nP := N (60, tabObj ps) (List.mem_append_right _ (.head _))
  have hL : L ≠ 60 := fun e => nP.2.1 e.symm
  refine ⟨⟨F.ns.at' fun o e => k L o hL e, fun b o e => k b o (fun q => by rw [q, nP.2.2] at e; cases e) (F.keep b o e), F.above⟩, fun q hq => ?_⟩
  rcases List.mem_append.mp hq with hq | hq
  · have z := N q (List.mem_append_left _ hq)
    exact ⟨k _ _ (hown q hq) z.1, z.2⟩
  · rcases List.mem_cons.mp hq with rfl | hq
    · exact ⟨T.1, nP.2⟩
    · refine ⟨(T.2.2 q hq).1, ?_⟩
      rcases hf q hq with h1 | h1
      · exact (N q (List.mem_append_right _ (.tail _ h1))).2
      · refine ⟨fun e => ?_, ?_⟩
        · obtain ⟨o', _, _, ho', _⟩ := F.ns
          rw [← e, h1] at ho'
          cases ho'
        · cases q2 : H0.get? q.1 with
          | none => rfl
          | some o => rw [F.keep _ _ q2] at h1; cases h1
end
section
local macro_rules | `(tactic| k_steps) => `(tactic| repeat' (first
  | ((fail_if_success (with_reducible show wpAny _ _ (exec (Stmt.While _ _ _ _) _) _ _ _)); (fail_if_success (with_reducible show wpAny _ _ (exec (Stmt.For _ _ _ _ _) _) _ _ _)); (fail_if_success (with_reducible show wpAny _ _ (eval (Expr.ListComp _ _ _ _) _) _ _ _)); (fail_if_success (with_reducible show wpAny _ _ (exec (Stmt.Assign _ (Expr.ListComp _ _ _ _) _) _) _ _ _)); (fail_if_success (with_reducible show wpAny _ _ (call (Value.ref _) _ _) _ _ _)); (fail_if_success (with_reducible show wpAny _ _ (pyIter _) _ _ _)); (fail_if_success (with_reducible show LCg.CompSrc _ _ _ _ _ _ _ _ _ _ _ _ _ _)); (fail_if_success (with_reducible show LCt.CompSrcT _ _ _ _ _ _ _ _ _ _ _ _ _ _ _)); (fail_if_success (with_reducible show wpAny _ _ (compareOp _ (Value.ref _) (Value.ref _)) _ _ _)); (fail_if_success (with_reducible show EltEnd _ _ _ _ _ _ _ _)); (fail_if_success (with_reducible show wpAny _ _ (call (Value.builtin "str.join") _ _) _ _ _)); (fail_if_success (with_reducible show wpAny _ _ (binaryOp Operator.Mult (Value.str _ _) _) _ _ _)); (fail_if_success (with_reducible show wpAny _ _ (binaryOp Operator.Add (Value.str _ _) _) _ _ _));
     (first | (k_unfold; (try dsimp only)) | (k_end; kc_close) | walk1 | (dsimp only; walk1) | (leave1; walk_say "STEP leave1"; (try dsimp only)) | fail "no step"))))
theorem a_str : Str.ofString "a" = tx [97] := str_ext (by decide +kernel)
theorem b_str : Str.ofString "b" = tx [98] := str_ext (by decide +kernel)
theorem c_str : Str.ofString "c" = tx [99] := str_ext (by decide +kernel)
abbrev lamQ : Str := Str.ofString "_law_most" ++ ".<locals>." ++ "<lambda>"
structure TabJ (g h0 : Heap) (extra₀ : List (Addr × Obj)) (ps : Array Value) (extra : List (Addr × Obj)) (mt : List (Addr × Obj)) : Prop where
  eq : mt = (60, tabObj ps) :: extra
  ok : TabOk 100 40 lamQ ps extra
  ex : ∀ q ∈ extra, q.1 ≠ 60 ∧ g.get? q.1 = none ∧ (q ∈ extra₀ ∨ h0.get? q.1 = none)
  up : ∀ q ∈ extra₀, q ∈ extra
theorem TabJ.step {g h0 h h' : Heap} {extra₀ extra extra' mt : List (Addr × Obj)} {ps0 ps ps' : Array Value} (J : TabJ g h0 extra₀ ps extra mt) (T : TabAt 60 100 40 lamQ g h' ps' extra')
    (hf1 : ∀ q ∈ extra', q ∈ extra ∨ h.get? q.1 = none) (hf2 : ∀ q ∈ extra, q ∈ extra') (hk : ∀ b o, (hideAll h0 (((60, tabObj ps0) :: extra₀).map (·.1))).get? b = some o → h.get? b = some o) (hN : ∀ q ∈ extra, h.get? q.1 = some q.2) :
    TabJ g h0 extra₀ ps' extra' ((60, tabObj ps') :: extra') := by
  refine ⟨rfl, T.2.1, fun q hq => ⟨(T.2.2 q hq).2.1, (T.2.2 q hq).2.2, ?_⟩, fun q hq => hf2 q (J.up q hq)⟩
  rcases hf1 q hq with h1 | h1
  · exact (J.ex q h1).2.2
  · right
    by_cases hm : q.1 ∈ ((60, tabObj ps0) :: extra₀).map (·.1)
    · obtain ⟨q', hq', e⟩ := List.mem_map.mp hm
      rcases List.mem_cons.mp hq' with rfl | hq'
      · exact absurd e.symm (T.2.2 q hq).2.1
      · rw [← e, hN q' (J.up q' hq')] at h1; cases h1
    · cases q2 : h0.get? q.1 with
      | none => rfl
      | some o => rw [hk _ _ (hideAll_get _ q2 hm)] at h1; cases h1
theorem off1_mem {D : Addr} : ∀ {news : List (Addr × Obj)}, LCg.Off1 D news → ∀ q ∈ news, q.1 ≠ D
  | [], _, q, h => nomatch h
  | p :: r, h, q, hq => by
    rcases List.mem_cons.mp hq with rfl | hq
    · exact h.1
    · exact off1_mem h.2 q hq
section
variable {prog : Program} {w : World} {A : Around} {E : Value → Shared → Prop} {s : Shared}
theorem mul_step {c : Nat} {t u : Tok} {z : Int} (n : Nat) {Q : Value → Shared → Prop} (hz : z.toNat = n) (h0 : -1000 ≤ z) (h1 : z ≤ 1000) (h : ∀ t' k, Q (.str (tx (reps n c)) t') { s with toks := k }) :
    wpAny (model prog w) A (binaryOp .Mult (.str (tx [c]) t) (.int z u)) Q E s := by
  refine KXi.mul (n := 1) rfl (by decide) (by omega) (by omega) fun t' k _ _ => ?_
  have e : Txt.mul (tx [c]) z = tx (reps n c) := str_ext (by show (Txt.mul ⟨#[c]⟩ z).cps.toList = _; rw [mul_one_list, hz]; rfl)
  rw [e]; exact h t' k
theorem add_step {l r : List Nat} {t u : Tok} {Q : Value → Shared → Prop} (h1 : l.length + r.length ≤ 1000) (h : ∀ t' k, Q (.str (tx (l ++ r)) t') { s with toks := k }) :
    wpAny (model prog w) A (binaryOp .Add (.str (tx l) t) (.str (tx r) u)) Q E s := by
  refine PyProof.Rows.add_str (fun t' k => ?_) (by show l.length + r.length ≤ _; rw [sizeLine_eq]; omega)
  rw [show tx l ++ tx r = tx (l ++ r) from str_ext (by rw [cl_append])]
  exact h t' k
end
theorem told_spec {w : World} {A : Around} {s : Shared} {x : Str} {tx0 : Tok} {g : Heap} {ps : Array Value} {extra : List (Addr × Obj)} {p : Program} {loose : List Str} {mean : ExcName → Option Value} {mg mb : Str → Option Value} {Q E : Value → Shared → Prop}
    (X : (hd.heap_39 w.params).In g) (T : Top p loose mean mg mb g) (hg : Stay g s.heap) (hgP : g.get? 60 = none) (hTab : TabAt 60 100 40 lamQ g s.heap ps extra) (hA : Rm A 40 360) (hxl : x.length ≤ 8)
    (hret : ∀ (a : Addr) (vs : List Value) (n : Nat) ps' extra' h' tk', s.heap.get? a = none → h'.get? a = some (listOf vs.toArray n) → StrsAre vs ((toldF (cl x)).map tx) → StayBut 60 s.heap h' → TabAt 60 100 40 lamQ g h' ps' extra' → (∀ q ∈ extra', q ∈ extra ∨ s.heap.get? q.1 = none) → (∀ q ∈ extra, q ∈ extra') → Q (.ref a) { s with heap := h', toks := tk' }) :
    wpAny (model PySem.Challenge.rw_pe0110_02.row.prog w) A (call (.ref 70) [.str x tx0]) Q E s := by
  revert X
  k_fill
  w_top off
  intro X
  obtain ⟨ah, dp, frs, gd, un⟩ := A
  obtain ⟨h1, hdp, hun⟩ := hA
  dsimp only at h1 hdp hun
  subst h1
  obtain ⟨hP, htab, hex⟩ := hTab
  have hnews : ∀ q ∈ (60, tabObj ps) :: extra, s.heap.get? q.1 = some q.2 ∧ g.get? q.1 = none := by
    intro q hq
    rcases List.mem_cons.mp hq with rfl | hq
    · exact ⟨hP, hgP⟩
    · exact ⟨(hex q hq).1, (hex q hq).2.2⟩
  have hsg : Stay g (hideAll s.heap (((60, tabObj ps) :: extra).map (·.1))) := stay_hideAll hg (by
    intro a ha
    obtain ⟨q, hq, rfl⟩ := List.mem_map.mp ha
    exact (hnews q hq).2)
  have X₀ := X.keeps hsg
  have T₀ := T.keeps hsg
  refine enterCN ((60, tabObj ps) :: extra) (fun q hq => (hnews q hq).1) (X.keeps hg) (T.keeps hg).nolimit (by k_is) (by k_is) (by show dp < _; omega) (binds := [(Str.ofString "text", .str x tx0)]) (BindsTo.of_eq rfl) rfl (by decide) rfl rfl rfl ?_
  intro L h₁ tk cells F N Y hlow
  have hc : cells = [] := by cases Y; rfl
  subst hc
  clear Y
  rw [List.nil_append] at N
  k_steps
  refine For_invV (hideAll s.heap (((60, tabObj ps) :: extra).map (·.1))) rfl rfl ?_ (hE := PassesOwn.never)
  k_steps
  rename Fr _ _ _ _ => F1
  rename News _ _ _ _ => N1
  rw [a_str]
  refine Runs.use (count_spec (X₀.keeps F1.keep) (T₀.keeps F1.keep) ⟨rfl, by show dp + 1 + 2 < _; omega, by show un + 3 + 20 < _; omega⟩ (by omega)) F1 N1 ?_
  rintro _ h2 tk2 ⟨tcnt, rfl⟩ st F2 N2
  have hle : (cl x).count 97 ≤ x.length := List.count_le_length
  clear F1 N1 st
  generalize hca : (cl x).count 97 = ca at hle ⊢
  k_steps
  rename Fr _ _ _ _ => F3
  rename News _ _ _ _ => N3
  (try (rename News _ _ h2 _ => Nz; clear Nz))
  (try (rename Fr _ _ h2 _ => Fz; clear Fz))
  rename IsRange _ _ _ _ _ _ _ _ => hr
  have e1 : (ca : Int) + 1 = ((ca + 1 : Nat) : Int) := by omega
  rw [e1] at hr
  refine iter_range (n := ca + 1) (mt := (60, tabObj ps) :: extra) (fixed := []) (J := fun i m mt => ∃ (ps' : Array Value) (extra' : List (Addr × Obj)) (z2 z3 : Int) (t2 t3 : Tok), TabJ g s.heap extra ps' extra' mt ∧ Knows m [(Str.ofString "text", .str x tx0), (Str.ofString "two", .int z2 t2), (Str.ofString "three", .int z3 t3)] ∧
    z2 = (((List.range i).foldl (stepI (cl x)) (0, 0)).1 : Int) ∧ z3 = (((List.range i).foldl (stepI (cl x)) (0, 0)).2 : Int)) rfl hr (by omega) (by intro p hp; cases hp) F3 (by rw [List.append_nil]; exact N3) ?_ ?_ ?_
  · exact ⟨ps, extra, _, _, _, _, ⟨rfl, htab, fun q hq => ⟨(hex q hq).2.1, (hex q hq).2.2, .inl hq⟩, fun q hq => hq⟩, ⟨rfl, rfl, rfl, trivial⟩, rfl, rfl⟩
  · rintro i q m₁ mt₁ h tk own hi ⟨ps', extra', _, _, t2, t3, ⟨rfl, htab', hex', hup'⟩, hkn, rfl, rfl⟩ hown hfix F4 N4
    have F5 : Fr (hideAll s.heap (((60, tabObj ps) :: extra).map (·.1))) L h _ := Fr_more F4 (hkn.upd rfl)
    have N5 : News (hideAll s.heap (((60, tabObj ps) :: extra).map (·.1))) L h ((60, tabObj ps') :: (extra' ++ own)) := N4
    clear F4 N4 F3 N3
    (try clear F2)
    (try clear N2)
    (try clear N)
    (try clear F)
    generalize hst : (List.range i).foldl (stepI (cl x)) (0, 0) = st0 at hkn F5 ⊢
    k_steps
    refine For_invV (hideAll s.heap (((60, tabObj ps) :: extra).map (·.1))) rfl rfl ?_ (hE := PassesOwn.never)
    k_steps
    refine mul_step i (Int.toNat_natCast i) (by omega) (by omega) fun t' k => ?_
    k_steps
    rename Fr _ _ _ _ => F6
    rename News _ _ _ _ => N6
    rw [b_str]
    have hrl : (reps i 97).length = i := List.length_replicate
    refine most_spec (g := g) (ps := ps') (extra := extra') X T (fun b o e => F6.keep b o (hsg b o e)) hgP ⟨(N6 (60, tabObj ps') (by simp)).1, htab', fun q hq => ⟨(N6 q (by simp [hq])).1, (hex' q hq).1, (hex' q hq).2.1⟩⟩ ⟨rfl, by show dp + 1 + 20 < _; omega, by show un + 3 + 300 < _; omega⟩ (by omega) (by show (reps i 97).length ≤ 20; omega) (by
      intro h
      have : (46 : Nat) = 97 := List.eq_of_mem_replicate h
      omega) (by omega) ?_
    intro r tr ps2 extra2 h7 tk7 hH k1 T2 hf1 hf2
    obtain ⟨F7, N7⟩ := afterT (own := own) (ps := ps') (extra := extra') F6 (fun q hq => N6 q (by simp only [List.mem_cons, List.mem_append] at hq ⊢; rcases hq with h | h | h <;> simp [h])) (fun q hq => hown q hq 60 (by simp)) k1 T2 hf1
    have hkeep := F6.keep
    have hNex : ∀ q ∈ extra', _ := fun q hq => (N6 q (by simp [hq])).1
    have hNown : ∀ q ∈ own, _ := fun q hq => (N6 q (by simp [hq])).1
    clear F6 N6
    (try clear F5)
    (try clear N5)
    have hJ2 := TabJ.step (ps0 := ps) ⟨rfl, htab', hex', hup'⟩ T2 hf1 hf2 hkeep hNex
    have hr2 : mostF (cl x) (reps i 97) 98 = r := most_of hH.2.2.1 (fun i h => hH.2.2.2.1 i (Nat.zero_le _) h) hH.2.2.2.2
    have hr3 : r ≤ x.length := Nat.le_trans hH.2.2.1 List.count_le_length
    k_steps
    rename Fr _ _ _ _ => F8
    rename News _ _ _ _ => N8
    rename IsRange _ _ _ _ _ _ _ _ => hr
    have er : (r : Int) + 1 = ((r + 1 : Nat) : Int) := by omega
    rw [er] at hr
    refine iter_range (n := r + 1) (mt := (60, tabObj ps2) :: extra2) (fixed := own) (J := fun j m mt => ∃ (ps' : Array Value) (extra' : List (Addr × Obj)) (z2 z3 : Int) (t2 t3 ti : Tok), TabJ g s.heap extra ps' extra' mt ∧ Knows m [(Str.ofString "text", .str x tx0), (Str.ofString "two", .int z2 t2), (Str.ofString "three", .int z3 t3), (Str.ofString "i", .int (i : Int) ti)] ∧
      z2 = (((List.range j).foldl (stepJ (cl x) i) st0).1 : Int) ∧ z3 = (((List.range j).foldl (stepJ (cl x) i) st0).2 : Int)) rfl hr (by omega) ?_ F8 (fun q hq => N8 q (by simp only [List.mem_cons, List.mem_append] at hq ⊢; rcases hq with (h | h) | h <;> simp [h])) ?_ ?_ ?_
    · intro q hq b hb
      rcases List.mem_cons.mp hb with rfl | hb
      · exact hown q hq 60 (by simp)
      · obtain ⟨q', hq', rfl⟩ := List.mem_map.mp hb
        rcases hf1 q' hq' with h1 | h1
        · exact hown q hq q'.1 (by simp only [List.map_cons, List.mem_cons]; exact .inr (List.mem_map_of_mem h1))
        · intro e
          have := hNown q hq
          rw [e, h1] at this
          cases this
    · exact ⟨ps2, extra2, _, _, _, _, _, hJ2, ⟨rfl, rfl, rfl, rfl, trivial⟩, rfl, rfl⟩
    · rintro j q2 m₂ mt₂ h tk own2 hj ⟨ps3, extra3, _, _, t2, t3, ti, ⟨rfl, htab3, hex3, hup3⟩, hkn2, rfl, rfl⟩ hown2 hfix2 F2 N2
      have F5 : Fr (hideAll s.heap (((60, tabObj ps) :: extra).map (·.1))) L h _ := Fr_more F2 (hkn2.upd rfl)
      have N5 : News (hideAll s.heap (((60, tabObj ps) :: extra).map (·.1))) L h ((60, tabObj ps3) :: (extra3 ++ own2)) := N2
      clear F2 N2 F8 N8
      (try clear F7)
      (try clear N7)
      generalize hst2 : (List.range j).foldl (stepJ (cl x) i) st0 = st1 at hkn2 F5 ⊢
      k_steps
      refine mul_step i (Int.toNat_natCast i) (by omega) (by omega) fun t' k => ?_
      k_steps
      refine mul_step j (Int.toNat_natCast j) (by omega) (by omega) fun t' k => ?_
      k_steps
      refine add_step (by rw [reps_len, reps_len]; omega) fun t' k => ?_
      k_steps
      rename Fr _ _ _ _ => F6
      rename News _ _ _ _ => N6
      rw [c_str]
      have hjl : (reps i 97 ++ reps j 98).length = i + j := by rw [List.length_append, hrl]; show _ + (List.replicate j 98).length = _; rw [List.length_replicate]
      refine most_spec (g := g) (ps := ps3) (extra := extra3) X T (fun b o e => F6.keep b o (hsg b o e)) hgP ⟨(N6 (60, tabObj ps3) (by simp)).1, htab3, fun q hq => ⟨(N6 q (by simp [hq])).1, (hex3 q hq).1, (hex3 q hq).2.1⟩⟩ ⟨rfl, by show dp + 1 + 20 < _; omega, by show un + 3 + 300 < _; omega⟩ (by omega) (by show (reps i 97 ++ reps j 98).length ≤ 20; omega) (by
        intro h
        rcases List.mem_append.mp h with h | h
        · have : (46 : Nat) = 97 := List.eq_of_mem_replicate h
          omega
        · have : (46 : Nat) = 98 := List.eq_of_mem_replicate h
          omega) (by omega) ?_
      intro r5 tr5 ps5 extra5 h8 tk8 hH5 k5 T5 hf15 hf25
      obtain ⟨F7, N7⟩ := afterT (own := own2) (ps := ps3) (extra := extra3) F6 (fun q hq => N6 q (by simp only [List.mem_cons, List.mem_append] at hq ⊢; rcases hq with h | h | h <;> simp [h])) (fun q hq => hown2 q hq 60 (by simp)) k5 T5 hf15
      have hkeep5 := F6.keep
      have hNex5 : ∀ q ∈ extra3, _ := fun q hq => (N6 q (by simp [hq])).1
      have hNown5 : ∀ q ∈ own2, _ := fun q hq => (N6 q (by simp [hq])).1
      clear F6 N6
      (try clear F5)
      (try clear N5)
      have hJ5 := TabJ.step (ps0 := ps) ⟨rfl, htab3, hex3, hup3⟩ T5 hf15 hf25 hkeep5 hNex5
      have hr5 : mostF (cl x) (reps i 97 ++ reps j 98) 99 = r5 := most_of hH5.2.2.1 (fun i h => hH5.2.2.2.1 i (Nat.zero_le _) h) hH5.2.2.2.2
      k_steps
      rename Fr _ _ _ _ => F9
      rename News _ _ _ _ => N9
      refine ⟨_, _, _, (60, tabObj ps5) :: extra5, rfl, F9, (fun q hq => N9 q (by simp only [List.mem_cons, List.mem_append] at hq ⊢; rcases hq with (h | h) | h <;> simp [h])), ?_, ps5, extra5, _, _, _, _, _, hJ5, ⟨rfl, rfl, rfl, rfl, trivial⟩, ?_, ?_⟩
      · intro q hq b hb
        rcases List.mem_cons.mp hb with rfl | hb
        · exact hown2 q hq 60 (by simp)
        · obtain ⟨q', hq', rfl⟩ := List.mem_map.mp hb
          rcases hf15 q' hq' with h1 | h1
          · exact hown2 q hq q'.1 (by simp only [List.map_cons, List.mem_cons]; exact .inr (List.mem_map_of_mem h1))
          · intro e
            have := hNown5 q hq
            rw [e, h1] at this
            cases this
      · rw [List.range_succ, List.foldl_append, hst2]
        show _ = ((max st1.1 (i + j) : Nat) : Int)
        split <;> omega
      · rw [List.range_succ, List.foldl_append, hst2]
        show _ = ((max st1.2 (i + j + mostF (cl x) (reps i 97 ++ reps j 98) 99) : Nat) : Int)
        rw [hr5]
        split <;> omega
    · rintro m₁ mt₁ h tk ⟨ps3, extra3, _, _, t2, t3, ti, ⟨rfl, htab3, hex3, hup3⟩, hkn2, rfl, rfl⟩ F2 N2 hoff2
      have F5 : Fr (hideAll s.heap (((60, tabObj ps) :: extra).map (·.1))) L h _ := Fr_more F2 hkn2
      clear F2 F8 N8
      refine wpAny_execs_nil ?_
      have hfin : (List.range (i + 1)).foldl (stepI (cl x)) (0, 0) = (List.range (r + 1)).foldl (stepJ (cl x) i) st0 := by
        rw [List.range_succ (n := i), List.foldl_append, hst]
        show (List.range (mostF (cl x) (reps i 97) 98 + 1)).foldl (stepJ (cl x) i) st0 = _
        rw [hr2]
      refine ⟨_, _, _, (60, tabObj ps3) :: extra3, rfl, F5, N2, hoff2, ps3, extra3, _, _, _, _, ⟨rfl, htab3, hex3, hup3⟩, ⟨rfl, rfl, rfl, trivial⟩, ?_, ?_⟩
      · rw [hfin]
      · rw [hfin]
  · rintro m₁ mt₁ h tk ⟨ps3, extra3, _, _, t2, t3, ⟨rfl, htab3, hex3, hup3⟩, hkn2, rfl, rfl⟩ F2 N2 hoff2
    have F5 : Fr (hideAll s.heap (((60, tabObj ps) :: extra).map (·.1))) L h _ := Fr_more F2 hkn2
    have N5 : News (hideAll s.heap (((60, tabObj ps) :: extra).map (·.1))) L h ((60, tabObj ps3) :: extra3) := by
      have := N2
      rwa [List.append_nil] at this
    clear F2 N2 F3 N3
    rw [← hca, show (List.range ((cl x).count 97 + 1)).foldl (stepI (cl x)) (0, 0) = twoThree (cl x) from rfl] at F5 hkn2
    k_steps
    rename Fr _ _ _ _ => F6
    rename News _ _ _ _ => N6
    rw [show Str.ofString "cba" = tx [99, 98, 97] from str_ext (by decide +kernel)]
    refine Runs.use (gaps_spec (X₀.keeps F6.keep) (T₀.keeps F6.keep) ⟨rfl, by show dp + 1 + 2 < _; omega, by show un + 3 + 20 < _; omega⟩ (by decide)) F6 N6 ?_
    rintro _ h5 tk5 ⟨ug, rfl⟩ st5 F7 N7
    clear F6 N6 st5
    k_steps
    rename Fr _ _ _ _ => F6
    rename News _ _ _ _ => N6
    refine Runs.use (match_spec [99, 98, 97] (X₀.keeps F6.keep) (T₀.keeps F6.keep) ⟨rfl, by show dp + 1 + 2 < _; omega, by show un + 3 + 20 < _; omega⟩ (gaps_cl (by decide)) (by decide) (by rw [gaps_length (by decide)]; decide) (by omega)) F6 N6 ?_
    rintro _ h6 tk6 rfl st6 F8 N8
    clear F6 N6 st6
    (try clear F7)
    (try clear N7)
    have hfv : ∀ w ∈ fives, w.length = 6 ∧ 46 ∉ w := by decide
    have f1 : Str.ofString "ccbbaa" = tx [99, 99, 98, 98, 97, 97] := str_ext (by decide +kernel)
    have f2 : Str.ofString "ccbaba" = tx [99, 99, 98, 97, 98, 97] := str_ext (by decide +kernel)
    have f3 : Str.ofString "cbcbaa" = tx [99, 98, 99, 98, 97, 97] := str_ext (by decide +kernel)
    have f4 : Str.ofString "cbcaba" = tx [99, 98, 99, 97, 98, 97] := str_ext (by decide +kernel)
    have f5 : Str.ofString "cbacba" = tx [99, 98, 97, 99, 98, 97] := str_ext (by decide +kernel)
    rw [f1, f2, f3, f4, f5]
    cases hcba : sub [99, 98, 97] (cl x) <;> k_steps
    all_goals
      refine For_invV (hideAll s.heap (((60, tabObj ps) :: extra).map (·.1))) rfl rfl ?_ (hE := PassesOwn.never)
      k_steps
      rename Fr _ _ _ _ => F6
      rename News _ _ _ _ => N6
      refine iter_list (mt := []) (J := fun i m mt => mt = [] ∧ ∃ (zd : Int) (td : Tok), Knows m [(Str.ofString "text", .str x tx0), (Str.ofString "two", .int ((twoThree (cl x)).1 : Int) t2), (Str.ofString "three", .int ((twoThree (cl x)).2 : Int) t3), (Str.ofString "deep", .int zd td)] ∧ zd = (dF (cl x) i : Int)) rfl ⟨_, (N6 _ (.head _)).1, rfl, _, rfl⟩ (.inr ⟨_, .head _⟩) (by intro p hp b hb; cases hb) F6 N6 (fun e => (N6 _ (.head _)).2.1 e.symm) ?_ ?_ ?_
      · refine ⟨rfl, _, _, ⟨rfl, rfl, rfl, rfl, trivial⟩, ?_⟩
        unfold dF
        rw [hcba]
        rfl
      · rintro i v m₁ mt₁ h tk own hi hv ⟨rfl, _, td, hkn, rfl⟩ hown hfix F2 N2
        have F9 : Fr (hideAll s.heap (((60, tabObj ps) :: extra).map (·.1))) L h _ := Fr_more F2 (hkn.upd rfl)
        have N9 : News (hideAll s.heap (((60, tabObj ps) :: extra).map (·.1))) L h own := N2
        clear F2 N2 F6 N6
        obtain ⟨wd, tw, rfl, hw⟩ : ∃ wd tw, v = Value.str (tx wd) tw ∧ fives[i]? = some wd := by
          have h5 : i = 0 ∨ i = 1 ∨ i = 2 ∨ i = 3 ∨ i = 4 := by
            have : i < 5 := hi
            omega
          rcases h5 with rfl | rfl | rfl | rfl | rfl <;> (obtain rfl := Option.some.inj hv; exact ⟨_, _, rfl, rfl⟩)
        obtain ⟨hw6, hw46⟩ := hfv wd (List.mem_of_getElem? hw)
        have hwne : wd ≠ [] := fun e => by rw [e] at hw6; simp at hw6
        k_steps
        rename Fr _ _ _ _ => F6
        rename News _ _ _ _ => N6
        refine Runs.use (gaps_spec (X₀.keeps F6.keep) (T₀.keeps F6.keep) ⟨rfl, by show dp + 1 + 2 < _; omega, by show un + 3 + 20 < _; omega⟩ (by show wd.length ≤ 100; omega)) F6 N6 ?_
        rintro _ h7 tk7 ⟨ug7, rfl⟩ st7 F7 N7
        clear F6 N6 st7
        k_steps
        rename Fr _ _ _ _ => F6
        rename News _ _ _ _ => N6
        refine Runs.use (match_spec wd (X₀.keeps F6.keep) (T₀.keeps F6.keep) ⟨rfl, by show dp + 1 + 2 < _; omega, by show un + 3 + 20 < _; omega⟩ (gaps_cl hwne) hw46 (by rw [gaps_length hwne]; omega) (by omega)) F6 N6 ?_
        rintro _ h8 tk8 rfl st8 F8 N8
        clear F6 N6 st8
        (try clear F7)
        (try clear N7)
        have hd := dF_step (l := cl x) hw
        cases hsw : sub wd (cl x) <;> rw [hsw] at hd <;> k_steps <;> (rename Fr _ _ _ _ => F6; rename News _ _ _ _ => N6; exact ⟨_, _, _, [], rfl, F6, N6, (by intro p hp b hb; cases hb), rfl, _, _, ⟨rfl, rfl, rfl, rfl, trivial⟩, by rw [hd]; rfl⟩)
      · rintro m₁ mt₁ h tk ⟨rfl, zd, td, hkn, hzd⟩ F2 N2 hoff
        have hzd' : zd = (deepF (cl x) : Int) := hzd
        clear hzd
        subst hzd'
        have F9 : Fr (hideAll s.heap (((60, tabObj ps) :: extra).map (·.1))) L h _ := Fr_more F2 hkn
        have N9 : News (hideAll s.heap (((60, tabObj ps) :: extra).map (·.1))) L h ((60, tabObj ps3) :: extra3) := fun q hq => N2 q (.tail _ hq)
        clear F2 N2 F6 N6
        rw [b_str, c_str]
        k_steps
        rename Fr _ _ _ _ => F6
        rename News _ _ _ _ => N6
        refine Runs.use (count_spec (X₀.keeps F6.keep) (T₀.keeps F6.keep) ⟨rfl, by show dp + 1 + 2 < _; omega, by show un + 3 + 20 < _; omega⟩ (by omega)) F6 N6 ?_
        rintro _ hz tkz ⟨tz, rfl⟩ stz Fy Ny
        clear F6 N6 stz
        k_steps
        rename Fr _ _ _ _ => F6
        rename News _ _ _ _ => N6
        (try clear Fy)
        (try clear Ny)
        refine Runs.use (count_spec (X₀.keeps F6.keep) (T₀.keeps F6.keep) ⟨rfl, by show dp + 1 + 2 < _; omega, by show un + 3 + 20 < _; omega⟩ (by omega)) F6 N6 ?_
        rintro _ hz tkz ⟨tz, rfl⟩ stz Fy Ny
        clear F6 N6 stz
        k_steps
        rename Fr _ _ _ _ => F6
        rename News _ _ _ _ => N6
        (try clear Fy)
        (try clear Ny)
        refine Runs.use (count_spec (X₀.keeps F6.keep) (T₀.keeps F6.keep) ⟨rfl, by show dp + 1 + 2 < _; omega, by show un + 3 + 20 < _; omega⟩ (by omega)) F6 N6 ?_
        rintro _ hz tkz ⟨tz, rfl⟩ stz Fy Ny
        clear F6 N6 stz
        k_steps
        obtain ⟨hb1, hb2, hb3⟩ := twoThree_bound (cl x)
        have hc1 : (cl x).count 97 ≤ x.length := List.count_le_length
        have hc2 : (cl x).count 98 ≤ x.length := List.count_le_length
        have hc3 : (cl x).count 99 ≤ x.length := List.count_le_length
        dsimp only
        have hb4 := twoThree_le (cl x)
        have hT : toldF (cl x) = (toldRows ((cl x).count 97) ((cl x).count 98) ((cl x).count 99) (twoThree (cl x)).1 (twoThree (cl x)).2 (deepF (cl x))).filter fun r => r != [] := rfl
        have hd2 : deepF (cl x) ≤ 2 := by unfold deepF; split <;> (try split) <;> omega
        clear hkn hkn2 hoff hoff2 hca hle e1 hr
        rename Fr _ _ _ _ => Fz
        rename News _ _ _ _ => Nz
        change Fr _ _ _ _ at Fz
        refine mul_step ((cl x).count 97) (Int.toNat_natCast _) (by omega) (by omega) fun t' k => ?_
        dsimp only
        k_steps
        refine mul_step ((twoThree (cl x)).1 - (cl x).count 97) (by omega) (by omega) (by omega) fun t' k => ?_
        dsimp only
        k_steps
        refine add_step (by rw [reps_len, reps_len]; omega) fun t' k => ?_
        dsimp only
        k_steps
        refine mul_step ((twoThree (cl x)).2 - (twoThree (cl x)).1) (by omega) (by omega) (by omega) fun t' k => ?_
        dsimp only
        k_steps
        refine add_step (by rw [List.length_append, reps_len, reps_len, reps_len]; omega) fun t' k => ?_
        dsimp only
        k_steps
        refine mul_step ((cl x).count 98 - ((twoThree (cl x)).1 - (cl x).count 97)) (by omega) (by omega) (by omega) fun t' k => ?_
        dsimp only
        k_steps
        rename Fr _ _ _ _ => F6
        rename News _ _ _ _ => N6
        refine Runs.use (count_spec (X₀.keeps F6.keep) (T₀.keeps F6.keep) ⟨rfl, by show dp + 1 + 2 < _; omega, by show un + 3 + 20 < _; omega⟩ (by omega)) F6 N6 ?_
        rintro _ hz tkz ⟨tz, rfl⟩ stz Fy Ny
        clear F6 N6 stz
        dsimp only
        k_steps
        refine mul_step ((cl x).count 99 - ((twoThree (cl x)).2 - (twoThree (cl x)).1) - deepF (cl x)) (by omega) (by omega) (by omega) fun t' k => ?_
        dsimp only
        k_steps
        refine add_step (by rw [reps_len, reps_len]; omega) fun t' k => ?_
        dsimp only
        k_steps
        rename Fr _ _ _ _ => F6
        rename News _ _ _ _ => N6
        (try clear Fy)
        (try clear Ny)
        refine LCt.ListComp_T F6 (by with_unfolding_all rfl) (by decide) rfl (by decide) rfl ?_
        k_steps
        refine mul_step (deepF (cl x)) (by omega) (by omega) (by omega) fun t' k => ?_
        dsimp only
        k_steps
        rename Fr _ _ _ _ => F7
        rename News _ _ _ _ => N7
        generalize hrows : toldRows ((cl x).count 97) ((cl x).count 98) ((cl x).count 99) (twoThree (cl x)).1 (twoThree (cl x)).2 (deepF (cl x)) = rows at hT
        refine LCt.CompSrcT.ledger rfl F7 N7 (.head _) (by rw [sizeLine_eq]; simp) fun g7 => ?_
        have hR : ∀ (i : Nat) (v : Value), i < 3 → ∀ vs : Array Value, (vs[0]? = some v → i = 0 → True) → True := fun _ _ _ _ _ => trivial
        clear hR
        have hrl : rows.length = 3 := by rw [← hrows]; rfl
        refine compRestT_of (fun i => rows.getD i [] != []) (fun i v => ∃ t, v = Value.str (tx (rows.getD i [])) t) (.inr ⟨_, .head _, rfl, _, rfl⟩) ?_ ?_
        · intro i v I oI C oC D ys m₂ h tk E' hi hP hC hx F N off ne
          obtain ⟨r, tr, rfl, hr⟩ : ∃ r tr, v = Value.str (tx r) tr ∧ rows.getD i [] = r := by
            have h5 : i = 0 ∨ i = 1 ∨ i = 2 := by
              have : i < 3 := hi
              omega
            rw [← hrows]
            rcases h5 with rfl | rfl | rfl <;> (obtain rfl := Option.some.inj hP; exact ⟨_, _, rfl, rfl⟩)
          rw [hr]
          k_steps
          · rw [Bool.eq_iff_iff, bne_iff_ne, bne_iff_ne]
            constructor
            · intro h e
              exact h (by rw [e]; exact (str_ext empty_cl).symm)
            · intro h e
              exact h (by have := congrArg cl e; rwa [empty_cl] at this)
          · rename Fr _ _ _ _ => F9
            rename News _ _ _ _ => N9
            exact ⟨_, _, rfl, F9, N9, _, rfl⟩
          · rename Fr _ _ _ _ => F9
            rename News _ _ _ _ => N9
            exact ⟨_, _, rfl, F9, N9, trivial⟩
        · intro ys hP D h tk F N hoff
          have hS := filter_paired (rows := rows) (n := 3) hrl.symm hP
          rw [← hT] at hS
          k_steps
          rename Fr _ _ _ _ => F8
          rename News _ _ _ _ => N8
          have nD := N8 (D, _) (.head _)
          have nP := N8 (60, tabObj ps3) (by simp)
          have nX : ∀ q ∈ extra3, _ := fun q hq => N8 q (by simp [hq])
          have hoff' := off1_mem hoff
          have hD60 : D ≠ 60 := fun e => hoff' (60, tabObj ps3) (.tail _ (.head _)) e.symm
          have hDX : ∀ q ∈ extra3, D ≠ q.1 := fun q hq e => hoff' q (.tail _ (.tail _ hq)) e.symm
          refine hret D ys _ ps3 extra3 _ _ ?_ nD.1 hS ?_ ⟨nP.1, htab3, fun q hq => ⟨(nX q hq).1, (hex3 q hq).1, (hex3 q hq).2.1⟩⟩ (fun q hq => (hex3 q hq).2.2) hup3
          · cases q : s.heap.get? D with
            | none => rfl
            | some o =>
              refine nomatch (hideAll_get _ q ?_).symm.trans nD.2.2
              intro hm
              obtain ⟨q', hq', e⟩ := List.mem_map.mp hm
              rcases List.mem_cons.mp hq' with rfl | hq'
              · exact hD60 e.symm
              · exact hDX q' (hup3 q' hq') e.symm
          · intro b o hb e
            by_cases hbx : b ∈ ((60, tabObj ps) :: extra).map (·.1)
            · obtain ⟨q, hq, rfl⟩ := List.mem_map.mp hbx
              rcases List.mem_cons.mp hq with rfl | hq
              · exact absurd rfl hb
              · rw [(hex q hq).1] at e
                rw [← e]
                exact (nX q (hup3 q hq)).1
            · exact F8.keep b o (hideAll_get _ e hbx)
end
theorem newsAdds {g h h' : Heap} {L : Addr} {m : Str → Option Value} {own : List (Addr × Obj)} (F : Fr g L h m) (N' : News g L h' own) : ∀ {os : List (Addr × Obj)}, (∀ q ∈ os, h.get? q.1 = none ∧ h'.get? q.1 = some q.2) → News g L h' (os ++ own)
  | [], _ => N'
  | (a, o) :: os, hq => newsAdd F (newsAdds F N' (os := os) fun q hq' => hq q (.tail _ hq')) (hq (a, o) (.head _)).1 (hq (a, o) (.head _)).2
theorem lay_at : ∀ {os : List (Addr × Obj)} {rs : List (List Nat)} {i : Nat}, Lay os rs → i < os.length → ∃ A vs n, os[i]? = some (A, listOf vs.toArray n) ∧ StrsAre vs ((rs.getD i []).map fun c => tx [c])
  | [], _, _, _, h => by simp at h
  | q :: os, [], _, h, _ => nomatch h
  | q :: os, r :: rs, 0, h, _ => by
    obtain ⟨vs, n, e, hs⟩ := h.1
    exact ⟨q.1, vs, n, by rw [← e]; rfl, hs⟩
  | q :: os, r :: rs, i + 1, h, hi => by
    obtain ⟨A, vs, n, e, hs⟩ := lay_at (i := i) h.2 (by simpa using hi)
    exact ⟨A, vs, n, by simpa using e, by simpa using hs⟩
theorem refs_get {os : List (Addr × Obj)} {i : Nat} {v : Value} (h : (refs os).toArray[i]? = some v) : ∃ q, os[i]? = some q ∧ v = .ref q.1 := by
  unfold refs at h
  rw [List.getElem?_toArray, List.getElem?_map] at h
  cases e : os[i]? with
  | none => rw [e] at h; cases h
  | some q => rw [e] at h; exact ⟨q, rfl, (Option.some.inj h).symm⟩
theorem ok_abc {r : List Nat} (h : ∀ c ∈ r, c < 1114112) : PyData.strOk (tx r) = true := by
  unfold PyData.strOk
  rw [Array.all_eq_true']
  intro c hc
  have : c ∈ r := by simpa using hc
  exact decide_eq_true (h c this)
theorem told_ok (l : List Nat) : ∀ x ∈ (toldF l).map tx, PyData.strOk x = true := by
  intro x hx
  obtain ⟨r, hr, rfl⟩ := List.mem_map.mp hx
  refine ok_abc fun c hc => ?_
  unfold toldF at hr
  have hr := (List.mem_filter.mp hr).1
  have key : ∀ n d : Nat, d < 200 → c ∈ reps n d → c < 1114112 := fun n d hd h => by
    have : c = d := List.eq_of_mem_replicate h
    omega
  unfold toldRows at hr
  simp only [List.mem_cons, List.not_mem_nil, or_false] at hr
  rcases hr with rfl | rfl | rfl
  · rcases List.mem_append.mp hc with hc | hc
    · rcases List.mem_append.mp hc with hc | hc
      · exact key _ _ (by decide) hc
      · exact key _ _ (by decide) hc
    · exact key _ _ (by decide) hc
  · rcases List.mem_append.mp hc with hc | hc
    · exact key _ _ (by decide) hc
    · exact key _ _ (by decide) hc
  · exact key _ _ (by decide) hc
theorem rows_map (rs : List (List Nat)) : rs.map tx = (List.range rs.length).map fun i => tx (rs.getD i []) := by
  refine List.ext_getElem (by simp) fun i h1 h2 => ?_
  simp only [List.getElem_map, List.getElem_range, List.getD_eq_getElem?_getD]
  rw [List.getElem?_eq_getElem (by simpa using h1)]
  rfl
theorem Rm.le {A : Around} {d u d' u' : Nat} (h : Rm A d u) (hd : d' ≤ d) (hu : u' ≤ u) : Rm A d' u' := ⟨h.hd, Nat.lt_of_le_of_lt (Nat.add_le_add_left hd _) h.dp, Nat.lt_of_le_of_lt (Nat.add_le_add_left hu _) h.un⟩
theorem rm_law (env : Env) : Rm (callerA.deeper env) 100 400 := ⟨rfl, by show callerA.depth + 1 + 100 < _; decide +kernel, by show callerA.units + 3 + 400 < _; decide +kernel⟩
theorem insRows_ne (strict : Bool) : ∀ (rs : List (List Nat)) (c : Nat), insRows strict rs c ≠ []
  | [], c => by unfold insRows; simp
  | r :: rs, c => by
    unfold insRows
    split <;> simp
theorem rowsF_ne {strict : Bool} {l : List Nat} (h : l ≠ []) : rowsF strict l ≠ [] := by
  obtain ⟨a, c, rfl⟩ : ∃ a c, l = a ++ [c] := ⟨l.dropLast, l.getLast h, (List.dropLast_concat_getLast h).symm⟩
  unfold rowsF
  rw [List.foldl_append]
  exact insRows_ne strict _ c
theorem refs_of {os : List (Addr × Obj)} {i : Nat} {q : Addr × Obj} (h : os[i]? = some q) : (refs os).toArray[i]? = some (.ref q.1) := by
  unfold refs
  rw [List.getElem?_toArray, List.getElem?_map, h]; rfl
theorem filterMap_paired {rs : List (List Nat)} {k n : Nat} (hn : n = rs.length) {ys : List Value} (h : Paired (fun i v => ∃ t, v = Value.str (tx [(rs.getD i []).getD k 0]) t) ((List.range n).filter fun i => decide (k < (rs.getD i []).length)) ys) :
    StrsAre ys ((rs.filterMap fun r => r[k]?).map fun c => tx [c]) := by
  subst hn
  have h2 := strs_paired (f := fun i => tx [(rs.getD i []).getD k 0]) h
  have e : ∀ rs : List (List Nat), ((List.range rs.length).filter fun i => decide (k < (rs.getD i []).length)).map (fun i => tx [(rs.getD i []).getD k 0]) = (rs.filterMap fun r => r[k]?).map fun c => tx [c] := by
    intro rs
    induction rs with
    | nil => rfl
    | cons r rs ih =>
      rw [List.length_cons, List.range_succ_eq_map, List.filter_cons, List.filter_map, List.filterMap_cons]
      have e1 : ((fun i => decide (k < ((r :: rs).getD i []).length)) ∘ Nat.succ) = fun i => decide (k < (rs.getD i []).length) := by funext i; rfl
      have e0 : decide (k < ((r :: rs).getD 0 []).length) = decide (k < r.length) := rfl
      rw [e1, e0]
      by_cases hk : k < r.length
      · rw [decide_eq_true hk, List.getElem?_eq_getElem hk]
        simp only [if_true, List.map_cons, List.map_map]
        rw [← ih]
        congr 1
        show tx [r.getD k 0] = _
        rw [List.getD_eq_getElem?_getD, List.getElem?_eq_getElem hk]; rfl
      · rw [decide_eq_false hk, List.getElem?_eq_none (by omega)]
        simp only [Bool.false_eq_true, if_false, List.map_map]
        rw [← ih]
        rfl
  rw [← e]
  exact h2
section
open PyProof.Rows.LCg PySem.Spec
section
variable {M : Model} {A : Around} {E : Value → Shared → Prop} {s : Shared}
theorem newEnv_cell {scope : Scope} {env : Env} {cl : List (Str × Addr)} {x f : Str} {globals : Addr} {qual : Str} (hnm : scope.names = [(Str.ofString ".0", .local), (x, .cell), (f, .free)]) {Q : Env → Shared → Prop}
    (hQ : Q { scope := scope, locals := s.heap.objs.size, globals := globals, cells := (x, s.heap.objs.size + 1) :: cl, qual := qual, func := none, code := env.code, frame := env.frame, builtins := env.builtins }
      { s with heap := (s.heap.push { cls := .type "dict", data := .dict #[] }).push { cls := .type "cell", data := .cell none } }) :
    wpAny M A (newFunctionEnv scope globals cl [] qual none .none (some env)) Q E s := by
  simp only [newFunctionEnv, Option.isSome_some, if_true]
  refine wpAny_bind (wpAny_alloc ?_)
  refine wpAny_bind (wpAny_layCells _ (fun name kind cells => by cases hkc : kind == NameKind.cell <;> simp) _ _ _ _ ?_)
  rw [hnm]
  rw [show ({ s with heap := s.heap.push { cls := .type "dict", data := .dict #[] } } : Shared).heap.objs.size = s.heap.objs.size + 1 from Heap.size_push ..]
  rw [List.forIn_nil]
  refine wpAny_bind (wpAny_pure ?_)
  exact wpAny_pure hQ
end
section
variable {prog : Program} {w : World} {A : Around} {E : Value → Shared → Prop} {s : Shared} {h₀ : Heap} {env : Env}
def SrcC (prog : Program) (w : World) (A : Around) (h₀ : Heap) (env : Env) (elt : Expr) (x y : Str) (scope : Scope) (cl : List (Str × Addr)) (R : Nat → Value → Prop) (Q : Flow → Shared → Prop) (xv : Value) (s₁ : Shared) : Prop :=
  ∃ (r : Addr) (t u v : Tok) (n : Nat) (m : Str → Option Value) (news : List (Addr × Obj)), xv = .ref r ∧ IsRange s₁.heap r 0 (n : Int) 1 t u v ∧ n ≤ 1000 ∧ Fr h₀ env.locals s₁.heap m ∧ News h₀ env.locals s₁.heap news ∧
      (∀ (i : Nat) (I : Addr) (oI : Obj) (C : Addr) (oC : Obj) (K : Addr) (oK : Obj) (D : Addr) (ys : List Value) (h : Heap) (tk : Nat) (t' : Tok) (E' : Value → Shared → Prop), i < n → oK.data = .cell (some (.int (i : Int) t')) → Fr h₀ env.locals h m → News h₀ env.locals h ((K, oK) :: (I, oI) :: (C, oC) :: (D, lst ys) :: news) →
        wpAny (model prog w) A (eval elt (compEnvC scope ((x, K) :: cl) C env)) (EltEnd h₀ env.locals m ((K, oK) :: (I, oI) :: (C, oC) :: (D, lst ys) :: news) (R i) { s₁ with heap := h, toks := tk }) E' { s₁ with heap := h, toks := tk }) ∧
      ∀ (ys : List Value) (D : Addr) (h : Heap) (tk : Nat), ys.length = n → (∀ i z, ys[i]? = some z → R i z) → Fr h₀ env.locals h (fun z => if z = y then some (.ref D) else m z) → News h₀ env.locals h ((D, lst ys) :: news) → (∀ p ∈ news, p.1 ≠ D) → Q .next { s₁ with heap := h, toks := tk }
theorem assign_compC {elt iter : Expr} {x y f : Str} {px py : Pos} {scope : Scope} {cl : List (Str × Addr)} {pos spos : Pos} {Q : Flow → Shared → Prop} (R : Nat → Value → Prop) (hh : A.handled = none)
    (hsw : swapsWith (.ListComp elt [⟨.Name x px, iter, [], 0⟩] scope pos) (some (.Name y py)) spos.line env = pure true)
    (hclos : closureFor scope env = pure cl) (hnm : scope.names = [(Str.ofString ".0", .local), (x, .cell), (f, .free)]) (hkind : scope.kind = .function)
    (hnames : ∀ z ∈ scope.names, z.2 = .local → scope.names.lookup z.1 = some .local)
    (hkx : ∀ C cs, (compEnvC scope cs C env).kindOf x = some .cell)
    (hy : env.kindOf y = some .local) (hp : (env.scope.kind == .class || (env.scope.kind == .module && env.locals != env.globals)) = false)
    (h : wpAny (model prog w) A (eval iter env) (SrcC prog w A h₀ env elt x y scope cl R Q) E s)
    (hs : ∀ x, foldedSetIterable iter env x = pure x := by intro _; rfl) :
    wpAny (model prog w) A (exec (.Assign [.Name y py] (.ListComp elt [⟨.Name x px, iter, [], 0⟩] scope pos) spos) env) Q E s := by
  rw [exec_Assign_Name_used _ _ _ _ hsw]
  refine wpAny_bind (wpAny_standAt (wpAny_bind ?_))
  show wpAny _ A (do let _ ← comprehension (.ListComp elt [⟨.Name x px, iter, [], 0⟩] scope pos) scope env _ (newList []) false (eval iter env) (some (assign (.Name y py) env))) _ _ s
  refine wpAny_bind (wpAny_mono (wpAny_comprehension_free (use := some (assign (.Name y py) env)) (Q := fun _ s' => Q .next s') rfl hs hclos hkind hnames
    (wpAny_mono h (fun xv s₁ h₁ => ?_) fun _ _ e => e)) (fun _ s' hq => wpAny_pure (wpAny_pure hq)) fun _ _ e => e)
  obtain ⟨r, t, u, v, n, m, news, rfl, hr, hn, F, N, hel, hQ⟩ := h₁
  obtain ⟨e1, e2⟩ := small_up n (by omega)
  refine wpAny_pyIter_range hr e1 ?_
  rw [e2]
  generalize hs₂ : s₁.heap.push { cls := .type "range_iterator", data := .fields #[rawInt 0, rawInt (n : Int), rawInt 1] } = H₂
  have hI : H₂.objs.size = s₁.heap.objs.size + 1 := by rw [← hs₂, Heap.size_push]
  have up : ∀ b o, s₁.heap.get? b = some o → H₂.get? b = some o := fun b o e => hs₂ ▸ Heap.get?_push_of_some _ e
  have hIt : IsRangeIter H₂ s₁.heap.objs.size 0 (n : Int) 1 := hs₂ ▸ Heap.get?_push_size _ rfl
  refine wpAny_newObj_type (newEnv_cell hnm ?_)
  dsimp only
  generalize hH3 : H₂.push { cls := .type "list", dict := none, data := .seq ([] : List Value).toArray } = H3
  have hC : H3.objs.size = H₂.objs.size + 1 := by rw [← hH3, Heap.size_push]
  have hCD : H3.objs.size ≠ H₂.objs.size := by rw [hC]; exact Nat.ne_of_gt (Nat.lt_succ_self _)
  generalize hH4 : (H3.push { cls := .type "dict", data := .dict #[] }).push { cls := .type "cell", data := .cell none } = H4
  have u3 : ∀ b o, H₂.get? b = some o → H3.get? b = some o := fun b o e => hH3 ▸ Heap.get?_push_of_some _ e
  have u4 : ∀ b o, H3.get? b = some o → H4.get? b = some o := fun b o e => hH4 ▸ Heap.get?_push_of_some _ (Heap.get?_push_of_some _ e)
  have hacc : H4.get? H₂.objs.size = some (lst []) := u4 _ _ (hH3 ▸ Heap.get?_push_size _ rfl)
  have hns : H4.Ns H3.objs.size (fun _ => none) := hH4 ▸ (Heap.Ns.new H3 (.type "dict")).keeps fun b o e => Heap.get?_push_of_some _ e
  have hKs : (H3.push { cls := .type "dict", data := .dict #[] }).objs.size = H3.objs.size + 1 := Heap.size_push ..
  have hcell : H4.get? (H3.objs.size + 1) = some { cls := .type "cell", data := .cell none } := by
    rw [← hKs, ← hH4]; exact Heap.get?_push_size _ rfl
  have hL : env.locals < s₁.heap.objs.size := F.ns.lt
  have fresh : ∀ a, s₁.heap.objs.size ≤ a → h₀.get? a = none := fun a ha => by
    cases e : h₀.get? a with
    | none => rfl
    | some o' => exact absurd (Heap.lt_size (F.keep a o' e)) (Nat.not_lt.mpr ha)
  have nlt : ∀ p ∈ news, p.1 < s₁.heap.objs.size := fun p hp => Heap.lt_size (N p hp).1
  have old : ∀ b o, s₁.heap.get? b = some o → H4.get? b = some o := fun b o e => u4 _ _ (u3 _ _ (up _ _ e))
  have hIt4 : IsRangeIter H4 s₁.heap.objs.size 0 (n : Int) 1 := u4 _ _ (u3 _ _ hIt)
  have F4 : Fr h₀ env.locals H4 m := F.keeps old
  have N4 : News h₀ env.locals H4 news := fun p hp => ⟨old _ _ (N p hp).1, (N p hp).2⟩
  clear hH4 hH3 hs₂ hIt
  have W := range_walks (prog := prog) (w := w) (I := s₁.heap.objs.size) hh 0 n
  generalize hI0 : s₁.heap.objs.size = I at *
  generalize hD0 : H₂.objs.size = D at *
  generalize hC0 : H3.objs.size = C at *
  clear hI0 hD0 hC0 hKs u3 u4 up
  have hID : I ≠ D := by omega
  have hIC : I ≠ C := by omega
  have hIK : I ≠ C + 1 := by omega
  have hDC : D ≠ C := by omega
  have hDK : D ≠ C + 1 := by omega
  have hLI : env.locals ≠ I := Nat.ne_of_lt hL
  have hLC : env.locals ≠ C := Nat.ne_of_lt (Nat.lt_of_lt_of_le hL (by omega))
  have hLD : env.locals ≠ D := Nat.ne_of_lt (Nat.lt_of_lt_of_le hL (by omega))
  have hLK : env.locals ≠ C + 1 := Nat.ne_of_lt (Nat.lt_of_lt_of_le hL (by omega))
  have nI : ∀ p ∈ news, p.1 ≠ I := fun p hp => Nat.ne_of_lt (nlt p hp)
  have nC : ∀ p ∈ news, p.1 ≠ C := fun p hp => Nat.ne_of_lt (Nat.lt_of_lt_of_le (nlt p hp) (by omega))
  have nD : ∀ p ∈ news, p.1 ≠ D := fun p hp => Nat.ne_of_lt (Nat.lt_of_lt_of_le (nlt p hp) (by omega))
  have nK : ∀ p ∈ news, p.1 ≠ C + 1 := fun p hp => Nat.ne_of_lt (Nat.lt_of_lt_of_le (nlt p hp) (by omega))
  have fI := fresh I (Nat.le_refl _)
  have fC := fresh C (by omega)
  have fD := fresh D (by omega)
  have fK := fresh (C + 1) (by omega)
  have loop : ∀ s₃ : Shared, s₃ = { s₁ with heap := H4 } →
      codeAny (model prog w) A (.compLoop (.ListComp elt [⟨.Name x px, iter, [], 0⟩] scope pos) 0 (.ref I) (.ref D) (compEnvC scope ((x, C + 1) :: cl) C env))
        (compPost (model prog w) A E (some (assign (.Name y py) env)) (fun _ s' => Q .next s') (.ref D) C) s₃ := by
    rintro s₃ rfl
    refine codeAny_compLoop_tests
      (fun k s' => ∃ h' tk i ys m' oK v0, s' = { s₁ with heap := h', toks := tk } ∧ i ≤ n ∧ k = n + 1 - i ∧ ys.length = i ∧ (∀ j z, ys[j]? = some z → R j z) ∧ IsRangeIter h' I (0 + (i : Nat) * 1) ((n : Int) - (i : Nat)) 1 ∧ Fr h₀ env.locals h' m ∧ h'.Ns C m' ∧
        News h₀ env.locals h' ((C + 1, oK) :: (D, lst ys) :: news) ∧ oK.data = .cell v0) ?_ (n + 1)
      ⟨H4, _, 0, [], _, { cls := .type "cell", data := .cell none }, none, rfl, Nat.zero_le _, rfl, rfl, (by intro j z hj; simp at hj), by simpa using hIt4, F4, hns, fun p hp => ?_, rfl⟩
    · rintro k s' ⟨h', tk, i, ys, m', oK, v0, rfl, hi, rfl, hyl, hys, hst', F', hn', N', hoK⟩
      by_cases hlt : i < n
      · refine W.item i _ _ _ hlt hst' fun v h₂ tk₂ hPv hst₂ hk₂ => ?_
        obtain ⟨tv, rfl⟩ := hPv
        have k2 : ∀ b o, b ≠ I → h'.get? b = some o → h₂.get? b = some o := fun b o hb e => hk₂ b o (by simpa using hb) e
        have zK := N' (C + 1, oK) (.head _)
        refine wpAny_assign_Name (wpAny_storeName_cell (c := C + 1) (v₀ := v0) hkind (hkx C _) (by simp [compEnvC]) ⟨oK, k2 _ _ (Ne.symm hIK) zK.1, hoK⟩ fun h₃ hc₃ hs₃ => ?_)
        refine wpAny_tests_nil ?_
        simp only [if_true]
        obtain ⟨oK', heK, hdK⟩ := hc₃
        have k3 : ∀ b o, b ≠ I → b ≠ C + 1 → h'.get? b = some o → h₃.get? b = some o := fun b o h1 h2 e => hs₃.extBut b o h2 (k2 b o h1 e)
        have hst₃ := hs₃.extBut _ _ hIK hst₂
        have hn₃ : h₃.Ns C m' := hn'.at' fun o e => k3 _ o (Ne.symm hIC) (by omega) e
        obtain ⟨oC, heC, hoC⟩ := ns_obj hn₃
        have F₃ : Fr h₀ env.locals h₃ m := ⟨F'.ns.at' fun o e => k3 _ o hLI hLK e, fun b o e => k3 b o (fun q => by rw [q, fI] at e; cases e) (fun q => by rw [q, fK] at e; cases e) (F'.keep b o e), F'.above⟩
        have N₃ : News h₀ env.locals h₃ ((C + 1, oK') :: (I, _) :: (C, oC) :: (D, lst ys) :: news) := fun p hp => by
          rcases List.mem_cons.mp hp with rfl | hp
          · exact ⟨heK, Ne.symm hLK, fK⟩
          · rcases List.mem_cons.mp hp with rfl | hp
            · exact ⟨hst₃, Ne.symm hLI, fI⟩
            · rcases List.mem_cons.mp hp with rfl | hp
              · exact ⟨heC, Ne.symm hLC, fC⟩
              · have z := N' p (.tail _ hp)
                refine ⟨k3 _ _ ?_ ?_ z.1, z.2⟩
                · rcases List.mem_cons.mp hp with rfl | hp
                  · exact Ne.symm hID
                  · exact nI p hp
                · rcases List.mem_cons.mp hp with rfl | hp
                  · exact hDK
                  · exact nK p hp
        have hdK' : oK'.data = .cell (some (.int (i : Int) tv)) := by rw [hdK, Int.zero_add]
        refine wpAny_mono (hel i I _ C oC (C + 1) oK' D ys h₃ _ tv _ hlt hdK' F₃ N₃) (fun z s₄ h₄ => ?_) fun _ _ e => e
        obtain ⟨h₄, tk₄, rfl, F₄, N₄, hR⟩ := h₄
        have zI := N₄ _ (.tail _ (.head _))
        have zC := N₄ (C, oC) (.tail _ (.tail _ (.head _)))
        have zD := N₄ (D, lst ys) (.tail _ (.tail _ (.tail _ (.head _))))
        refine append_at (hsz := by show ys.toArray.size ≤ sizeLine; rw [List.size_toArray, hyl, sizeLine_eq]; omega) zD.1 fun h₅ hs₅ hD₅ => ?_
        refine ⟨n + 1 - (i + 1), by omega, h₅, tk₄, i + 1, ys ++ [z], m', oK', some (.int (i : Int) tv), rfl, hlt, rfl, by rw [List.length_append, List.length_singleton, hyl], ?_, ?_, F₄.change hs₅ (Ne.symm hLD) fD, (hoC.ns zC.1).sameBut hs₅ (Ne.symm hDC), fun p hp => ?_, hdK'⟩
        · intro j z' hj
          rcases Nat.lt_or_ge j ys.length with q | q
          · rw [List.getElem?_append_left q] at hj; exact hys j z' hj
          · rw [List.getElem?_append_right q] at hj
            have hjl : j = ys.length := by
              rcases Nat.lt_or_ge ys.length j with q' | q'
              · rw [List.getElem?_eq_none (by simp; omega)] at hj; cases hj
              · omega
            subst hjl
            simp at hj
            subst hj
            rw [hyl]; exact hR
        · exact hs₅.extBut _ _ hID zI.1
        · rcases List.mem_cons.mp hp with rfl | hp
          · exact ⟨hs₅.extBut _ _ (Ne.symm hDK) (N₄ (C + 1, oK') (.head _)).1, Ne.symm hLK, fK⟩
          · rcases List.mem_cons.mp hp with rfl | hp
            · exact ⟨hD₅.trans (congrArg some (lst_snoc ys z)), Ne.symm hLD, fD⟩
            · have z' := N₄ p (.tail _ (.tail _ (.tail _ (.tail _ hp))))
              exact ⟨hs₅.extBut _ _ (nD p hp) z'.1, z'.2⟩
      · obtain rfl : i = n := Nat.le_antisymm hi (Nat.not_lt.mp hlt)
        refine W.done _ _ _ hst' fun h₂ tk₂ hk₂ => ?_
        have k2 : ∀ b o, b ≠ I → h'.get? b = some o → h₂.get? b = some o := fun b o hb e => hk₂ b o (by simpa using hb) e
        have F₂ : Fr h₀ env.locals h₂ m := ⟨F'.ns.at' fun o e => k2 _ o hLI e, fun b o e => k2 b o (fun q => by rw [q, fI] at e; cases e) (F'.keep b o e), F'.above⟩
        have hn₂ := hn'.at' fun o e => k2 _ o (Ne.symm hIC) e
        show wpAny _ A (assign (.Name y py) env (.ref D)) _ _ _
        refine wpAny_assign_Name (wpAny_storeName_local hy F₂.ns (fun h₃ hn₃ hs₃ => ?_) hp)
        refine ⟨m', hn₂.sameBut hs₃ (Ne.symm hLC), fun h₄ hs₄ => ?_⟩
        have F₃ := F₂.set hn₃ hs₃
        have F₄ := F₃.change hs₄ (Ne.symm hLC) fC
        refine hQ ys D h₄ _ hyl hys F₄ (fun p hp => ?_) nD
        have z := N' p (.tail _ hp)
        rcases List.mem_cons.mp hp with rfl | hp
        · exact ⟨hs₄.extBut _ _ hDC (hs₃.extBut _ _ (Ne.symm hLD) (k2 _ _ (Ne.symm hID) z.1)), z.2⟩
        · exact ⟨hs₄.extBut _ _ (nC p hp) (hs₃.extBut _ _ z.2.1 (k2 _ _ (nI p hp) z.1)), z.2⟩
    · rcases List.mem_cons.mp hp with rfl | hp
      · exact ⟨hcell, Ne.symm hLK, fK⟩
      · rcases List.mem_cons.mp hp with rfl | hp
        · exact ⟨hacc, Ne.symm hLD, fD⟩
        · exact N4 p hp
  exact codeAny_compStart_list (loop _ rfl) (W.self 0 _ _ _ (by simpa using hIt4) (loop _ rfl))
end
end
noncomputable def ins1 (tst : Nat → Nat → Bool) (c : Nat) (row : List Nat) : List Nat := List.rec (motive := fun _ => List Nat) [c] (fun d r ih => Bool.rec (d :: ih) (c :: r) (tst c d)) row
noncomputable def out1 (tst : Nat → Nat → Bool) (c : Nat) (row : List Nat) : Nat := List.rec (motive := fun _ => Nat) 0 (fun d _ ih => Bool.rec ih d (tst c d)) row
noncomputable def insQ (tst : Nat → Nat → Bool) (rs : List (List Nat)) : Nat → List (List Nat) := List.rec (motive := fun _ => Nat → List (List Nat)) (fun c => [[c]]) (fun r rs ih c => ins1 tst c r :: Bool.rec (ih (out1 tst c r)) rs (Nat.beq (out1 tst c r) 0)) rs
noncomputable def eqQ (a : List Nat) : List Nat → Bool := List.rec (motive := fun _ => List Nat → Bool) (fun b => List.rec true (fun _ _ _ => false) b) (fun x _ ih b => List.rec false (fun y t _ => Bool.rec false (ih t) (Nat.beq x y)) b) a
noncomputable def eqQR (a : List (List Nat)) : List (List Nat) → Bool := List.rec (motive := fun _ => List (List Nat) → Bool) (fun b => List.rec true (fun _ _ _ => false) b) (fun x _ ih b => List.rec false (fun y t _ => Bool.rec false (ih t) (eqQ x y)) b) a
noncomputable def isE (a : List Nat) : Bool := List.rec true (fun _ _ _ => false) a
noncomputable def fil (rs : List (List Nat)) : List (List Nat) := List.rec [] (fun r _ ih => Bool.rec (r :: ih) ih (isE r)) rs
noncomputable def rp (n c : Nat) (t : List Nat) : List Nat := Nat.rec t (fun _ ih => c :: ih) n
noncomputable def advQ (w : List Nat) (c : Nat) : List Nat := List.rec [] (fun d r _ => Bool.rec (d :: r) r (Nat.beq d c)) w
noncomputable def mxQ (m n : Nat) : Nat := Bool.rec m n (Nat.ble m n)
noncomputable def incQ (b : Bool) (n : Nat) : Nat := Bool.rec n (Nat.add n 1) b
noncomputable def nxtQ (b : Bool) (m n : Nat) : Nat := Bool.rec (mxQ m n) (Nat.add m 1) b
noncomputable def andQ (a b : Bool) : Bool := Bool.rec false b a
noncomputable def orQ (a b : Bool) : Bool := Bool.rec b true a
structure KQ where
  rows : List (List Nat)
  X : Nat
  XY : Nat
  XYZ : Nat
  Y : Nat
  YZ : Nat
  Z : Nat
  w0 : List Nat
  w1 : List Nat
  w2 : List Nat
  w3 : List Nat
  w4 : List Nat
  w5 : List Nat
noncomputable def kst (tst : Nat → Nat → Bool) (x y z : Nat) (S : KQ) (c : Nat) : KQ :=
  ⟨insQ tst S.rows c, incQ (Nat.beq c x) S.X, nxtQ (Nat.beq c y) S.XY (incQ (Nat.beq c x) S.X), nxtQ (Nat.beq c z) S.XYZ (nxtQ (Nat.beq c y) S.XY (incQ (Nat.beq c x) S.X)),
   incQ (Nat.beq c y) S.Y, nxtQ (Nat.beq c z) S.YZ (incQ (Nat.beq c y) S.Y), incQ (Nat.beq c z) S.Z,
   advQ S.w0 c, advQ S.w1 c, advQ S.w2 c, advQ S.w3 c, advQ S.w4 c, advQ S.w5 c⟩
noncomputable def dpQ (S : KQ) : Nat := Bool.rec (Bool.rec 0 1 (isE S.w0)) 2 (orQ (isE S.w1) (orQ (isE S.w2) (orQ (isE S.w3) (orQ (isE S.w4) (isE S.w5)))))
noncomputable def tolQ (ca cb cc two three deep : Nat) : List (List Nat) :=
  fil [rp ca 97 (rp (Nat.sub two ca) 98 (rp (Nat.sub three two) 99 [])), rp (Nat.sub cb (Nat.sub two ca)) 98 (rp (Nat.sub (Nat.sub cc (Nat.sub three two)) deep) 99 []), rp deep 99 []]
noncomputable def okA (S : KQ) : Bool := eqQR S.rows (tolQ S.X S.Y S.Z S.XY S.XYZ (dpQ S))
noncomputable def hdQ (rs : List (List Nat)) : List Nat := List.rec [] (fun r _ ih => List.rec ih (fun d _ _ => d :: ih) r) rs
noncomputable def tl1 (r : List Nat) : List Nat := List.rec [] (fun _ t _ => t) r
noncomputable def tlQ (rs : List (List Nat)) : List (List Nat) := List.rec [] (fun r _ ih => tl1 r :: ih) rs
noncomputable def h0 (rs : List (List Nat)) : List Nat := List.rec [] (fun r _ _ => r) rs
noncomputable def sameB (a b : Bool) : Bool := Bool.rec (Bool.rec true false b) b a
noncomputable def okC (rs tol : List (List Nat)) : Bool :=
  andQ (sameB (isE (hdQ rs)) (isE (h0 rs))) (andQ (sameB (isE (hdQ (tlQ rs))) (isE (tl1 (h0 rs)))) (andQ (sameB (isE (hdQ (tlQ (tlQ rs)))) (isE (tl1 (tl1 (h0 rs)))))
    (andQ (isE (tl1 (tl1 (tl1 (h0 rs))))) (eqQR (fil [hdQ rs, hdQ (tlQ rs), hdQ (tlQ (tlQ rs))]) tol))))
noncomputable def okB (S : KQ) : Bool := okC S.rows (tolQ S.Z S.Y S.X S.YZ S.XYZ (dpQ S))
noncomputable def chkQ (st : KQ → Nat → KQ) (ok : KQ → Bool) : Nat → KQ → Bool := Nat.rec ok (fun _ ih S => andQ (ok S) (andQ (ih (st S 97)) (andQ (ih (st S 98)) (ih (st S 99)))))
noncomputable def ltQ (c d : Nat) : Bool := Nat.ble (Nat.succ c) d
noncomputable def stA : KQ → Nat → KQ := kst ltQ 97 98 99
noncomputable def stB : KQ → Nat → KQ := kst Nat.ble 99 98 97
def iniA : KQ := ⟨[], 0, 0, 0, 0, 0, 0, [99, 98, 97], [99, 99, 98, 98, 97, 97], [99, 99, 98, 97, 98, 97], [99, 98, 99, 98, 97, 97], [99, 98, 99, 97, 98, 97], [99, 98, 97, 99, 98, 97]⟩
def iniB : KQ := ⟨[], 0, 0, 0, 0, 0, 0, [97, 98, 99], [97, 97, 98, 98, 99, 99], [97, 98, 97, 98, 99, 99], [97, 97, 98, 99, 98, 99], [97, 98, 97, 99, 98, 99], [97, 98, 99, 97, 98, 99]⟩
theorem beq_no {c z : Nat} (h : c ≠ z) : Nat.beq c z = false := by
  cases q : Nat.beq c z
  · rfl
  · exact absurd (Nat.eq_of_beq_eq_true q) h
theorem ble_no {n m : Nat} (h : m < n) : Nat.ble n m = false := by
  cases q : Nat.ble n m
  · rfl
  · exact absurd (Nat.le_of_ble_eq_true q) (by omega)
def Pt : List Nat → List Nat → Prop
  | [], w => w = []
  | z :: ls, w => ∃ u k, w = u ++ reps k z ∧ Pt ls u
theorem reps_snoc (k z : Nat) : reps (k + 1) z = reps k z ++ [z] := List.replicate_succ'
theorem Pt.pre : ∀ {ls : List Nat} {w : List Nat} {d : Nat}, Pt ls (w ++ [d]) → Pt ls w
  | [], w, d, h => by
    have h' : w ++ [d] = [] := h
    simp at h'
  | z :: ls, w, d, ⟨u, k, e, h⟩ => by
    cases k with
    | zero =>
      have e' : w ++ [d] = u := by rw [e]; exact List.append_nil u
      rw [← e'] at h
      exact ⟨w, 0, (List.append_nil w).symm, h.pre⟩
    | succ k =>
      rw [reps_snoc, ← List.append_assoc] at e
      have := (List.append_inj' e rfl).1
      exact ⟨u, k, this, h⟩
def MaxP (P : List Nat → Prop) (l : List Nat) (n : Nat) : Prop := (∃ w, P w ∧ w.length = n ∧ w.Sublist l) ∧ ∀ w, P w → w.Sublist l → w.length ≤ n
theorem MaxP.uniq {P : List Nat → Prop} {l : List Nat} {m n : Nat} (h : MaxP P l m) (h' : MaxP P l n) : m = n := by
  obtain ⟨⟨w, a, b, c⟩, d⟩ := h
  obtain ⟨⟨w', a', b', c'⟩, d'⟩ := h'
  have := d w' a' c'
  have := d' w a c
  omega
theorem snoc_sub {w l : List Nat} {d c : Nat} (h : (w ++ [d]).Sublist (l ++ [c])) : (w ++ [d]).Sublist l ∨ (d = c ∧ w.Sublist l) := by
  have h' := List.reverse_sublist.mpr h
  rw [List.reverse_append, List.reverse_append] at h'
  rcases List.sublist_cons_iff.mp h' with q | ⟨r, q1, q2⟩
  · left
    rw [← List.reverse_append] at q
    exact List.reverse_sublist.mp q
  · obtain ⟨rfl, rfl⟩ : d = c ∧ w.reverse = r := by simpa using q1
    exact .inr ⟨rfl, List.reverse_sublist.mp q2⟩
theorem maxP_nil (l : List Nat) : MaxP (Pt []) l 0 := ⟨⟨[], rfl, rfl, List.nil_sublist l⟩, fun w h _ => by rw [show w = [] from h]; exact Nat.le_refl _⟩
theorem maxP_step {ls l : List Nat} {z c n m : Nat} (h : MaxP (Pt (z :: ls)) l n) (hm : MaxP (Pt ls) (l ++ [c]) m) : MaxP (Pt (z :: ls)) (l ++ [c]) (nxtQ (Nat.beq c z) n m) := by
  obtain ⟨⟨w, hw, hl, hs⟩, hu⟩ := h
  obtain ⟨⟨w', hw', hl', hs'⟩, hu'⟩ := hm
  by_cases hc : c = z
  · subst hc
    have e : nxtQ (Nat.beq c c) n m = n + 1 := by rw [Nat.beq_refl]; rfl
    rw [e]
    obtain ⟨u, k, rfl, hp⟩ := hw
    refine ⟨⟨u ++ reps k c ++ [c], ⟨u, k + 1, by rw [reps_snoc, List.append_assoc], hp⟩, by rw [List.length_append, hl]; rfl, hs.append (List.Sublist.refl _)⟩, fun v hv hvs => ?_⟩
    rcases List.eq_nil_or_concat v with rfl | ⟨v', d, rfl⟩
    · exact Nat.zero_le _
    · rw [List.concat_eq_append] at hv hvs ⊢
      have hpre := hu v' hv.pre
      rcases snoc_sub hvs with q | ⟨_, q⟩
      · have := hpre ((List.sublist_append_left v' [d]).trans q)
        rw [List.length_append]; show v'.length + 1 ≤ _; omega
      · have := hpre q
        rw [List.length_append]; show v'.length + 1 ≤ _; omega
  · have e : nxtQ (Nat.beq c z) n m = max n m := by
      rw [beq_no hc]
      show mxQ n m = _
      unfold mxQ
      rcases Nat.lt_or_ge m n with q | q
      · rw [ble_no q, Nat.max_eq_left (by omega)]
      · rw [Nat.ble_eq_true_of_le q, Nat.max_eq_right q]
    rw [e]
    refine ⟨?_, fun v hv hvs => ?_⟩
    · rcases Nat.le_total m n with q | q
      · rw [Nat.max_eq_left q]
        exact ⟨w, hw, hl, hs.trans (List.sublist_append_left l [c])⟩
      · rw [Nat.max_eq_right q]
        exact ⟨w', ⟨w', 0, (List.append_nil w').symm, hw'⟩, hl', hs'⟩
    · obtain ⟨u, k, rfl, hp⟩ := hv
      cases k with
      | zero =>
        have e0 : u ++ reps 0 z = u := List.append_nil u
        rw [e0] at hvs ⊢
        exact Nat.le_trans (hu' u hp hvs) (Nat.le_max_right _ _)
      | succ k =>
        rw [reps_snoc, ← List.append_assoc] at hvs ⊢
        rcases snoc_sub hvs with q | ⟨q, _⟩
        · exact Nat.le_trans (hu _ ⟨u, k + 1, by rw [reps_snoc, List.append_assoc], hp⟩ q) (Nat.le_max_left _ _)
        · exact absurd q.symm hc
theorem pt2 {a b : Nat} {w : List Nat} : Pt [b, a] w ↔ ∃ i j, w = reps i a ++ reps j b := by
  constructor
  · rintro ⟨u, j, rfl, v, i, rfl, h⟩
    rw [show v = [] from h]
    exact ⟨i, j, rfl⟩
  · rintro ⟨i, j, rfl⟩
    exact ⟨reps i a, j, rfl, [], i, rfl, rfl⟩
theorem pt3 {a b c : Nat} {w : List Nat} : Pt [c, b, a] w ↔ ∃ i j k, w = reps i a ++ reps j b ++ reps k c := by
  constructor
  · rintro ⟨u, k, rfl, h⟩
    obtain ⟨i, j, rfl⟩ := pt2.mp h
    exact ⟨i, j, k, rfl⟩
  · rintro ⟨i, j, k, rfl⟩
    exact ⟨_, k, rfl, pt2.mpr ⟨i, j, rfl⟩⟩
theorem reps_rev (k z : Nat) : (reps k z).reverse = reps k z := List.reverse_replicate ..
theorem maxP_rev {P P' : List Nat → Prop} {l : List Nat} {n : Nat} (h : MaxP P l n) (hp : ∀ w, P' w → P w.reverse) (hp' : ∀ w, P w → P' w.reverse) : MaxP P' l.reverse n := by
  obtain ⟨⟨w, a, b, c⟩, d⟩ := h
  refine ⟨⟨w.reverse, hp' w a, by rw [List.length_reverse]; exact b, List.reverse_sublist.mpr c⟩, fun v hv hvs => ?_⟩
  have := d v.reverse (hp v hv) (by rw [← List.reverse_reverse l]; exact List.reverse_sublist.mpr hvs)
  rwa [List.length_reverse] at this
theorem pt2_rev {a b : Nat} {w : List Nat} (h : Pt [b, a] w) : Pt [a, b] w.reverse := by
  obtain ⟨i, j, rfl⟩ := pt2.mp h
  exact pt2.mpr ⟨j, i, by rw [List.reverse_append, reps_rev, reps_rev]⟩
theorem pt3_rev {a b c : Nat} {w : List Nat} (h : Pt [c, b, a] w) : Pt [a, b, c] w.reverse := by
  obtain ⟨i, j, k, rfl⟩ := pt3.mp h
  exact pt3.mpr ⟨k, j, i, by rw [List.reverse_append, List.reverse_append, reps_rev, reps_rev, reps_rev, List.append_assoc]⟩
theorem mostF_ok {l fr : List Nat} {c j : Nat} (hfr : fr.Sublist l) (hj : j ≤ mostF l fr c) : (fr ++ reps j c).Sublist l := by
  cases j with
  | zero => rw [show fr ++ reps 0 c = fr from List.append_nil fr]; exact hfr
  | succ i =>
    have key : askN l fr c i = false := by
      unfold mostF at hj
      cases e : (List.range (l.count c)).find? (askN l fr c) with
      | none =>
        rw [e] at hj
        rw [List.find?_eq_none] at e
        have := e i (by rw [List.mem_range]; exact hj)
        simpa using this
      | some r =>
        rw [e] at hj
        have hi : i < r := hj
        rw [List.find?_range_eq_some] at e
        have := e.2.2 i hi
        simpa using this
    unfold askN at key
    refine sub_iff.mp ?_
    show sub (fr ++ List.replicate (i + 1) c) l = true
    cases q : sub (fr ++ List.replicate (i + 1) c) l
    · rw [q] at key; cases key
    · rfl
theorem mostF_up {l fr : List Nat} {c j : Nat} (h : (fr ++ reps j c).Sublist l) : j ≤ mostF l fr c := by
  unfold mostF
  cases e : (List.range (l.count c)).find? (askN l fr c) with
  | none =>
    show j ≤ l.count c
    exact List.replicate_sublist_iff.mp ((List.sublist_append_right fr (reps j c)).trans h)
  | some r =>
    show j ≤ r
    rcases Nat.lt_or_ge r j with q | q
    · have hr := List.find?_some e
      unfold askN at hr
      have h2 : (fr ++ List.replicate (r + 1) c).Sublist l := (((List.replicate_sublist_replicate c).mpr (by omega)).append_left fr).trans h
      rw [sub_iff.mpr h2] at hr
      cases hr
    · exact q
def Att2 (l : List Nat) (n : Nat) : Prop := ∃ i j, n = i + j ∧ (reps i 97 ++ reps j 98).Sublist l
def Att3 (l : List Nat) (n : Nat) : Prop := ∃ i j k, n = i + j + k ∧ (reps i 97 ++ reps j 98 ++ reps k 99).Sublist l
theorem foldJ_att {l : List Nat} {i : Nat} : ∀ (js : List Nat) (st : Nat × Nat), (∀ j ∈ js, (reps i 97 ++ reps j 98).Sublist l) → Att2 l st.1 → Att3 l st.2 → Att2 l (js.foldl (stepJ l i) st).1 ∧ Att3 l (js.foldl (stepJ l i) st).2
  | [], _, _, h1, h2 => ⟨h1, h2⟩
  | j :: js, st, hj, h1, h2 => by
    have hs := hj j (.head _)
    refine foldJ_att js (stepJ l i st j) (fun j h => hj j (.tail _ h)) ?_ ?_
    · show Att2 l (max st.1 (i + j))
      rcases Nat.le_total st.1 (i + j) with q | q
      · rw [Nat.max_eq_right q]; exact ⟨i, j, rfl, hs⟩
      · rw [Nat.max_eq_left q]; exact h1
    · show Att3 l (max st.2 (i + j + mostF l (reps i 97 ++ reps j 98) 99))
      rcases Nat.le_total st.2 (i + j + mostF l (reps i 97 ++ reps j 98) 99) with q | q
      · rw [Nat.max_eq_right q]; exact ⟨i, j, _, rfl, mostF_ok hs (Nat.le_refl _)⟩
      · rw [Nat.max_eq_left q]; exact h2
theorem foldJ_ge {l : List Nat} {i : Nat} : ∀ (js : List Nat) (st : Nat × Nat), st.1 ≤ (js.foldl (stepJ l i) st).1 ∧ st.2 ≤ (js.foldl (stepJ l i) st).2 ∧ ∀ j ∈ js, i + j ≤ (js.foldl (stepJ l i) st).1 ∧ i + j + mostF l (reps i 97 ++ reps j 98) 99 ≤ (js.foldl (stepJ l i) st).2
  | [], st => ⟨Nat.le_refl _, Nat.le_refl _, fun j h => nomatch h⟩
  | j :: js, st => by
    obtain ⟨a, b, c⟩ := foldJ_ge (i := i) (l := l) js (stepJ l i st j)
    have e1 : (stepJ l i st j).1 = max st.1 (i + j) := rfl
    have e2 : (stepJ l i st j).2 = max st.2 (i + j + mostF l (reps i 97 ++ reps j 98) 99) := rfl
    rw [e1] at a
    rw [e2] at b
    refine ⟨Nat.le_trans (Nat.le_max_left _ _) a, Nat.le_trans (Nat.le_max_left _ _) b, fun j' h => ?_⟩
    rcases List.mem_cons.mp h with rfl | h
    · exact ⟨Nat.le_trans (Nat.le_max_right _ _) a, Nat.le_trans (Nat.le_max_right _ _) b⟩
    · exact c j' h
theorem foldI_att {l : List Nat} : ∀ (is : List Nat) (st : Nat × Nat), (∀ i ∈ is, (reps i 97).Sublist l) → Att2 l st.1 → Att3 l st.2 → Att2 l (is.foldl (stepI l) st).1 ∧ Att3 l (is.foldl (stepI l) st).2
  | [], _, _, h1, h2 => ⟨h1, h2⟩
  | i :: is, st, hi, h1, h2 => by
    obtain ⟨a, b⟩ := foldJ_att (i := i) (List.range (mostF l (reps i 97) 98 + 1)) st (fun j h => mostF_ok (hi i (.head _)) (by rw [List.mem_range] at h; omega)) h1 h2
    exact foldI_att is (stepI l st i) (fun i h => hi i (.tail _ h)) a b
theorem foldI_ge {l : List Nat} : ∀ (is : List Nat) (st : Nat × Nat), st.1 ≤ (is.foldl (stepI l) st).1 ∧ st.2 ≤ (is.foldl (stepI l) st).2 ∧ ∀ i ∈ is, ∀ j, j ≤ mostF l (reps i 97) 98 → i + j ≤ (is.foldl (stepI l) st).1 ∧ i + j + mostF l (reps i 97 ++ reps j 98) 99 ≤ (is.foldl (stepI l) st).2
  | [], st => ⟨Nat.le_refl _, Nat.le_refl _, fun j h => nomatch h⟩
  | i :: is, st => by
    obtain ⟨a, b, c⟩ := foldI_ge (l := l) is (stepI l st i)
    obtain ⟨a', b', c'⟩ := foldJ_ge (l := l) (i := i) (List.range (mostF l (reps i 97) 98 + 1)) st
    refine ⟨Nat.le_trans a' a, Nat.le_trans b' b, fun i' h j hj => ?_⟩
    rcases List.mem_cons.mp h with rfl | h
    · have := c' j (by rw [List.mem_range]; omega)
      exact ⟨Nat.le_trans this.1 a, Nat.le_trans this.2 b⟩
    · exact c i' h j hj
theorem twoThree_att (l : List Nat) : Att2 l (twoThree l).1 ∧ Att3 l (twoThree l).2 :=
  foldI_att _ (0, 0) (fun i h => by
    rw [List.mem_range] at h
    exact List.replicate_sublist_iff.mpr (by omega)) ⟨0, 0, rfl, List.nil_sublist l⟩ ⟨0, 0, 0, rfl, List.nil_sublist l⟩
theorem twoThree_ge (l : List Nat) (i j : Nat) (h : (reps i 97 ++ reps j 98).Sublist l) : i + j ≤ (twoThree l).1 ∧ i + j + mostF l (reps i 97 ++ reps j 98) 99 ≤ (twoThree l).2 :=
  (foldI_ge (l := l) (List.range (l.count 97 + 1)) (0, 0)).2.2 i (by
    rw [List.mem_range]
    have := List.replicate_sublist_iff.mp ((List.sublist_append_left (reps i 97) (reps j 98)).trans h)
    omega) j (mostF_up h)
theorem two_max (l : List Nat) : MaxP (Pt [98, 97]) l (twoThree l).1 := by
  obtain ⟨⟨i, j, e, h⟩, _⟩ := twoThree_att l
  refine ⟨⟨_, pt2.mpr ⟨i, j, rfl⟩, by rw [List.length_append, reps_len, reps_len, e], h⟩, fun w hw hs => ?_⟩
  obtain ⟨i, j, rfl⟩ := pt2.mp hw
  rw [List.length_append, reps_len, reps_len]
  exact (twoThree_ge l i j hs).1
theorem three_max (l : List Nat) : MaxP (Pt [99, 98, 97]) l (twoThree l).2 := by
  obtain ⟨_, i, j, k, e, h⟩ := twoThree_att l
  refine ⟨⟨_, pt3.mpr ⟨i, j, k, rfl⟩, by rw [List.length_append, List.length_append, reps_len, reps_len, reps_len, e], h⟩, fun w hw hs => ?_⟩
  obtain ⟨i, j, k, rfl⟩ := pt3.mp hw
  rw [List.length_append, List.length_append, reps_len, reps_len, reps_len]
  have h1 := (twoThree_ge l i j ((List.sublist_append_left _ (reps k 99)).trans hs)).2
  have h2 := mostF_up hs
  omega
theorem eqQ_eq : ∀ {a b : List Nat}, eqQ a b = true → a = b
  | [], [], _ => rfl
  | [], _ :: _, h => nomatch (h : false = true)
  | _ :: _, [], h => nomatch (h : false = true)
  | x :: a, y :: b, h => by
    have h' : (Bool.rec false (eqQ a b) (Nat.beq x y) : Bool) = true := h
    cases q : Nat.beq x y with
    | false => rw [q] at h'; exact nomatch (h' : false = true)
    | true =>
      rw [q] at h'
      rw [Nat.eq_of_beq_eq_true q, eqQ_eq (a := a) (b := b) h']
theorem eqQR_eq : ∀ {a b : List (List Nat)}, eqQR a b = true → a = b
  | [], [], _ => rfl
  | [], _ :: _, h => nomatch (h : false = true)
  | _ :: _, [], h => nomatch (h : false = true)
  | x :: a, y :: b, h => by
    have h' : (Bool.rec false (eqQR a b) (eqQ x y) : Bool) = true := h
    cases q : eqQ x y with
    | false => rw [q] at h'; exact nomatch (h' : false = true)
    | true =>
      rw [q] at h'
      rw [eqQ_eq q, eqQR_eq (a := a) (b := b) h']
theorem fil_eq : ∀ rs : List (List Nat), fil rs = rs.filter fun r => r != []
  | [] => rfl
  | r :: rs => by
    rw [List.filter_cons, ← fil_eq rs]
    cases r <;> rfl
theorem rp_eq (c : Nat) (t : List Nat) : ∀ n, rp n c t = reps n c ++ t
  | 0 => rfl
  | n + 1 => by
    show c :: rp n c t = _
    rw [rp_eq c t n]; rfl
theorem tolQ_eq (ca cb cc two three deep : Nat) : tolQ ca cb cc two three deep = (toldRows ca cb cc two three deep).filter fun r => r != [] := by
  unfold tolQ toldRows
  rw [fil_eq]
  simp only [rp_eq, List.append_nil, List.append_assoc]
  rfl
theorem adv_sub : ∀ (l w : List Nat), sub w l = isE (l.foldl advQ w)
  | [], [] => rfl
  | [], _ :: _ => rfl
  | d :: l, [] => by
    rw [sub_nil]
    show true = isE (l.foldl advQ [])
    rw [← adv_sub l [], sub_nil]
  | d :: l, c :: w => by
    rw [sub_cons]
    show _ = isE (l.foldl advQ (Bool.rec (c :: w) w (Nat.beq c d)))
    by_cases h : c = d
    · subst h
      rw [if_pos rfl, Nat.beq_refl, adv_sub l w]
    · rw [if_neg h, beq_no h, adv_sub l (c :: w)]
def tsQ (strict : Bool) (c d : Nat) : Bool := if strict then decide (c ≤ d) else decide (c < d)
theorem ins_eq {strict : Bool} {t : Nat → Nat → Bool} (ht : ∀ c d, t c d = tsQ strict c d) {c : Nat} : ∀ {row : List Nat}, (∀ d ∈ row, d ≠ 0) → insRow strict row c = (ins1 t c row, bif Nat.beq (out1 t c row) 0 then none else some (out1 t c row))
  | [], _ => rfl
  | d :: r, h => by
    have ih := ins_eq (c := c) ht (row := r) fun e he => h e (.tail _ he)
    have h1 : ins1 t c (d :: r) = Bool.rec (d :: ins1 t c r) (c :: r) (t c d) := rfl
    have h2 : out1 t c (d :: r) = Bool.rec (out1 t c r) d (t c d) := rfl
    have h3 : insRow strict (d :: r) c = if tsQ strict c d = true then (c :: r, some d) else let (r', o) := insRow strict r c; (d :: r', o) := rfl
    rw [h1, h2, h3, ht]
    cases tsQ strict c d with
    | true =>
      show (c :: r, some d) = (c :: r, bif Nat.beq d 0 then none else some d)
      rw [beq_no (h d (.head _))]; rfl
    | false =>
      rw [ih]; rfl
def PosR (rs : List (List Nat)) : Prop := ∀ r ∈ rs, ∀ d ∈ r, d ≠ 0
theorem ins_pos {t : Nat → Nat → Bool} {c : Nat} (hc : c ≠ 0) : ∀ {row : List Nat}, (∀ d ∈ row, d ≠ 0) → ∀ d ∈ ins1 t c row, d ≠ 0
  | [], _, d, h => by rw [List.mem_singleton.mp h]; exact hc
  | e :: r, h, d, hd => by
    have h1 : ins1 t c (e :: r) = Bool.rec (e :: ins1 t c r) (c :: r) (t c e) := rfl
    rw [h1] at hd
    cases q : t c e with
    | true =>
      rw [q] at hd
      rcases List.mem_cons.mp hd with rfl | hd
      · exact hc
      · exact h d (.tail _ hd)
    | false =>
      rw [q] at hd
      rcases List.mem_cons.mp hd with rfl | hd
      · exact h _ (.head _)
      · exact ins_pos hc (row := r) (fun e he => h e (.tail _ he)) d hd
theorem insQ_eq {strict : Bool} {t : Nat → Nat → Bool} (ht : ∀ c d, t c d = tsQ strict c d) : ∀ {rs : List (List Nat)} {c : Nat}, PosR rs → c ≠ 0 → insQ t rs c = insRows strict rs c ∧ PosR (insQ t rs c)
  | [], c, _, hc => ⟨rfl, fun r hr d hd => by
    have hr' : r = [c] := List.mem_singleton.mp hr
    rw [hr'] at hd
    rw [List.mem_singleton.mp hd]; exact hc⟩
  | r :: rs, c, h, hc => by
    have hr := h r (.head _)
    have hp : PosR rs := fun q hq => h q (.tail _ hq)
    have h1 : insQ t (r :: rs) c = ins1 t c r :: Bool.rec (insQ t rs (out1 t c r)) rs (Nat.beq (out1 t c r) 0) := rfl
    have h2 : insRows strict (r :: rs) c = match insRow strict r c with
      | (r', none) => r' :: rs
      | (r', some d) => r' :: insRows strict rs d := rfl
    rw [h1, h2, ins_eq ht hr]
    have hi := ins_pos (t := t) hc hr
    cases q : Nat.beq (out1 t c r) 0 with
    | true =>
      refine ⟨rfl, fun s hs => ?_⟩
      rcases List.mem_cons.mp hs with rfl | hs
      · exact hi
      · exact hp s hs
    | false =>
      have hne : out1 t c r ≠ 0 := fun e => by rw [e] at q; cases q
      obtain ⟨e1, e2⟩ := insQ_eq ht (rs := rs) (c := out1 t c r) hp hne
      refine ⟨?_, fun s hs => ?_⟩
      · show ins1 t c r :: insQ t rs (out1 t c r) = _
        rw [e1]; rfl
      · rcases List.mem_cons.mp hs with rfl | hs
        · exact hi
        · exact e2 s hs
theorem inc_nxt (b : Bool) (n : Nat) : incQ b n = nxtQ b n 0 := by
  cases b
  · cases n <;> rfl
  · rfl
theorem maxP_count {l : List Nat} {x n : Nat} (h : MaxP (Pt [x]) l n) : n = l.count x := by
  obtain ⟨⟨w, ⟨u, k, rfl, hu⟩, hl, hs⟩, hm⟩ := h
  rw [show u = [] from hu] at hl hs
  have hk : k = n := by rw [← hl]; exact (reps_len k x).symm
  subst hk
  have h1 : k ≤ l.count x := List.replicate_sublist_iff.mp hs
  have h2 := hm (reps (l.count x) x) ⟨[], _, rfl, rfl⟩ (List.replicate_sublist_iff.mpr (Nat.le_refl _))
  rw [reps_len] at h2
  omega
structure SpQ (strict : Bool) (x y z : Nat) (S0 : KQ) (l : List Nat) (S : KQ) : Prop where
  rows : S.rows = rowsF strict l
  pos : PosR S.rows
  X : MaxP (Pt [x]) l S.X
  XY : MaxP (Pt [y, x]) l S.XY
  XYZ : MaxP (Pt [z, y, x]) l S.XYZ
  Y : MaxP (Pt [y]) l S.Y
  YZ : MaxP (Pt [z, y]) l S.YZ
  Z : MaxP (Pt [z]) l S.Z
  w0 : S.w0 = l.foldl advQ S0.w0
  w1 : S.w1 = l.foldl advQ S0.w1
  w2 : S.w2 = l.foldl advQ S0.w2
  w3 : S.w3 = l.foldl advQ S0.w3
  w4 : S.w4 = l.foldl advQ S0.w4
  w5 : S.w5 = l.foldl advQ S0.w5
theorem snoc_fold {α : Type} (f : α → Nat → α) (a : α) (l : List Nat) (c : Nat) : (l ++ [c]).foldl f a = f (l.foldl f a) c := by rw [List.foldl_append]; rfl
theorem SpQ.step {strict : Bool} {t : Nat → Nat → Bool} {x y z : Nat} {S0 S : KQ} {l : List Nat} {c : Nat} (ht : ∀ c d, t c d = tsQ strict c d) (hc : c ≠ 0) (h : SpQ strict x y z S0 l S) : SpQ strict x y z S0 (l ++ [c]) (kst t x y z S c) := by
  have hX : MaxP (Pt [x]) (l ++ [c]) (incQ (Nat.beq c x) S.X) := by rw [inc_nxt]; exact maxP_step h.X (maxP_nil _)
  have hY : MaxP (Pt [y]) (l ++ [c]) (incQ (Nat.beq c y) S.Y) := by rw [inc_nxt]; exact maxP_step h.Y (maxP_nil _)
  have hZ : MaxP (Pt [z]) (l ++ [c]) (incQ (Nat.beq c z) S.Z) := by rw [inc_nxt]; exact maxP_step h.Z (maxP_nil _)
  have hXY := maxP_step h.XY hX
  have hq := insQ_eq (strict := strict) ht h.pos hc
  refine ⟨?_, hq.2, hX, hXY, maxP_step h.XYZ hXY, hY, maxP_step h.YZ hY, hZ, ?_, ?_, ?_, ?_, ?_, ?_⟩
  · show insQ t S.rows c = _
    rw [hq.1, h.rows]
    unfold rowsF
    rw [List.foldl_append]; rfl
  all_goals rw [snoc_fold]
  · rw [← h.w0]; rfl
  · rw [← h.w1]; rfl
  · rw [← h.w2]; rfl
  · rw [← h.w3]; rfl
  · rw [← h.w4]; rfl
  · rw [← h.w5]; rfl
theorem SpQ.fold {strict : Bool} {t : Nat → Nat → Bool} {x y z : Nat} {S0 : KQ} (ht : ∀ c d, t c d = tsQ strict c d) : ∀ (l l0 : List Nat) (S : KQ), (∀ c ∈ l, c ≠ 0) → SpQ strict x y z S0 l0 S → SpQ strict x y z S0 (l0 ++ l) (l.foldl (kst t x y z) S)
  | [], l0, S, _, h => by rw [List.append_nil]; exact h
  | c :: l, l0, S, hl, h => by
    have := SpQ.fold ht l (l0 ++ [c]) (kst t x y z S c) (fun d hd => hl d (.tail _ hd)) (h.step ht (hl c (.head _)))
    rw [List.append_assoc] at this
    exact this
theorem chk_fold {st : KQ → Nat → KQ} {ok : KQ → Bool} : ∀ (n : Nat) (S : KQ), chkQ st ok n S = true → ∀ l : List Nat, l.length ≤ n → (∀ c ∈ l, c = 97 ∨ c = 98 ∨ c = 99) → ok (l.foldl st S) = true
  | 0, S, h, l, hl, _ => by
    rw [List.eq_nil_of_length_eq_zero (Nat.le_zero.mp hl)]; exact h
  | n + 1, S, h, l, hl, ha => by
    have h' : andQ (ok S) (andQ (chkQ st ok n (st S 97)) (andQ (chkQ st ok n (st S 98)) (chkQ st ok n (st S 99)))) = true := h
    have and1 : ∀ a b, andQ a b = true → a = true ∧ b = true := fun a b e => by cases a <;> cases b <;> first | exact ⟨rfl, rfl⟩ | exact nomatch e
    obtain ⟨g0, h'⟩ := and1 _ _ h'
    obtain ⟨g1, h'⟩ := and1 _ _ h'
    obtain ⟨g2, g3⟩ := and1 _ _ h'
    cases l with
    | nil => exact g0
    | cons c l =>
      rw [List.length_cons] at hl
      have ha' := fun d hd => ha d (.tail _ hd)
      rcases ha c (.head _) with rfl | rfl | rfl
      · exact chk_fold n _ g1 l (by omega) ha'
      · exact chk_fold n _ g2 l (by omega) ha'
      · exact chk_fold n _ g3 l (by omega) ha'
theorem ltQ_eq (c d : Nat) : ltQ c d = tsQ false c d := by
  show Nat.ble (c + 1) d = decide (c < d)
  rcases Nat.lt_or_ge c d with q | q
  · rw [decide_eq_true q, Nat.ble_eq_true_of_le q]
  · rw [decide_eq_false (by omega), ble_no (by omega)]
theorem ble_eq (c d : Nat) : Nat.ble c d = tsQ true c d := by
  show Nat.ble c d = decide (c ≤ d)
  rcases Nat.lt_or_ge d c with q | q
  · rw [decide_eq_false (by omega), ble_no q]
  · rw [decide_eq_true q, Nat.ble_eq_true_of_le q]
theorem dpQ_eq {S : KQ} {l : List Nat} (h0 : isE S.w0 = sub [99, 98, 97] l) (h1 : isE S.w1 = sub [99, 99, 98, 98, 97, 97] l) (h2 : isE S.w2 = sub [99, 99, 98, 97, 98, 97] l) (h3 : isE S.w3 = sub [99, 98, 99, 98, 97, 97] l)
    (h4 : isE S.w4 = sub [99, 98, 99, 97, 98, 97] l) (h5 : isE S.w5 = sub [99, 98, 97, 99, 98, 97] l) : dpQ S = deepF l := by
  unfold dpQ deepF
  rw [h0, h1, h2, h3, h4, h5]
  have e : fives.any (fun w => sub w l) = (sub [99, 99, 98, 98, 97, 97] l || (sub [99, 99, 98, 97, 98, 97] l || (sub [99, 98, 99, 98, 97, 97] l || (sub [99, 98, 99, 97, 98, 97] l || (sub [99, 98, 97, 99, 98, 97] l || false))))) := rfl
  rw [e]
  cases sub [99, 99, 98, 98, 97, 97] l <;> cases sub [99, 99, 98, 97, 98, 97] l <;> cases sub [99, 98, 99, 98, 97, 97] l <;> cases sub [99, 98, 99, 97, 98, 97] l <;> cases sub [99, 98, 97, 99, 98, 97] l <;> cases sub [99, 98, 97] l <;> rfl
theorem sub_rev {w l : List Nat} : sub w l.reverse = sub w.reverse l := by
  rw [Bool.eq_iff_iff, sub_iff, sub_iff]
  constructor
  · intro h
    have := List.reverse_sublist.mpr h
    rwa [List.reverse_reverse] at this
  · intro h
    have := List.reverse_sublist.mpr h
    rwa [List.reverse_reverse] at this
theorem ini_sp (strict : Bool) (x y z : Nat) (S0 : KQ) (h1 : S0.rows = []) (hX : S0.X = 0) (hXY : S0.XY = 0) (hXYZ : S0.XYZ = 0) (hY : S0.Y = 0) (hYZ : S0.YZ = 0) (hZ : S0.Z = 0) : SpQ strict x y z S0 [] S0 := by
  have key : ∀ ls, MaxP (Pt ls) [] 0 := by
    intro ls
    refine ⟨⟨[], ?_, rfl, .slnil⟩, fun w _ hs => by rw [List.eq_nil_of_sublist_nil hs]; exact Nat.le_refl _⟩
    induction ls with
    | nil => rfl
    | cons z ls ih => exact ⟨[], 0, rfl, ih⟩
  exact ⟨h1, (fun r hr => by rw [h1] at hr; exact nomatch hr), hX ▸ key _, hXY ▸ key _, hXYZ ▸ key _, hY ▸ key _, hYZ ▸ key _, hZ ▸ key _, rfl, rfl, rfl, rfl, rfl, rfl⟩
theorem abc_pos {l : List Nat} (h : ∀ c ∈ l, c = 97 ∨ c = 98 ∨ c = 99) : ∀ c ∈ l, c ≠ 0 := fun c hc => by have := h c hc; omega
theorem rows_of_chk (hchk : chkQ stA okA 8 iniA = true) {l : List Nat} (h : ∀ c ∈ l, c = 97 ∨ c = 98 ∨ c = 99) (hl : l.length ≤ 8) : rowsF false l = toldF l := by
  have hok := chk_fold 8 iniA hchk l hl h
  have sp := SpQ.fold (strict := false) (t := ltQ) (x := 97) (y := 98) (z := 99) (S0 := iniA) ltQ_eq l [] iniA (abc_pos h) (ini_sp _ _ _ _ _ rfl rfl rfl rfl rfl rfl rfl)
  rw [List.nil_append] at sp
  change okA (l.foldl (kst ltQ 97 98 99) iniA) = true at hok
  generalize l.foldl (kst ltQ 97 98 99) iniA = S at hok sp
  have e := eqQR_eq hok
  rw [tolQ_eq, sp.rows] at e
  rw [e]
  unfold toldF
  rw [maxP_count sp.X, maxP_count sp.Y, maxP_count sp.Z, sp.XY.uniq (two_max l), sp.XYZ.uniq (three_max l)]
  rw [dpQ_eq (l := l) (by rw [sp.w0]; exact (adv_sub _ _).symm) (by rw [sp.w1]; exact (adv_sub _ _).symm) (by rw [sp.w2]; exact (adv_sub _ _).symm) (by rw [sp.w3]; exact (adv_sub _ _).symm) (by rw [sp.w4]; exact (adv_sub _ _).symm) (by rw [sp.w5]; exact (adv_sub _ _).symm)]
theorem hd_eq : ∀ rs : List (List Nat), hdQ rs = rs.filterMap fun r => r[0]?
  | [] => rfl
  | [] :: rs => by
    rw [List.filterMap_cons, ← hd_eq rs]; rfl
  | (d :: r) :: rs => by
    rw [List.filterMap_cons, ← hd_eq rs]; rfl
theorem tl_eq : ∀ (rs : List (List Nat)) (k : Nat), ((tlQ rs).filterMap fun r => r[k]?) = rs.filterMap fun r => r[k + 1]?
  | [], _ => rfl
  | [] :: rs, k => by
    rw [List.filterMap_cons, ← tl_eq rs k]; rfl
  | (d :: r) :: rs, k => by
    show ((r :: tlQ rs).filterMap fun r => r[k]?) = _
    rw [List.filterMap_cons, List.filterMap_cons, ← tl_eq rs k]; rfl
theorem h0_eq (rs : List (List Nat)) : h0 rs = rs.getD 0 [] := by cases rs <;> rfl
theorem cols_of (rs tol : List (List Nat)) (h : okC rs tol = true) : colsF rs = tol := by
  have and1 : ∀ a b, andQ a b = true → a = true ∧ b = true := fun a b e => by cases a <;> cases b <;> first | exact ⟨rfl, rfl⟩ | exact nomatch e
  have same1 : ∀ a b, sameB a b = true → a = b := fun a b e => by cases a <;> cases b <;> first | rfl | exact nomatch e
  unfold okC at h
  obtain ⟨g0, h⟩ := and1 _ _ h
  obtain ⟨g1, h⟩ := and1 _ _ h
  obtain ⟨g2, h⟩ := and1 _ _ h
  obtain ⟨g3, h⟩ := and1 _ _ h
  have g0 := same1 _ _ g0
  have g1 := same1 _ _ g1
  have g2 := same1 _ _ g2
  rw [← eqQR_eq h]
  have c0 := hd_eq rs
  have c1 := hd_eq (tlQ rs)
  rw [tl_eq] at c1
  have c2 := hd_eq (tlQ (tlQ rs))
  rw [tl_eq, tl_eq] at c2
  unfold colsF
  rw [← h0_eq]
  have ef : ∀ a b c : List Nat, fil [a, b, c] = Bool.rec (a :: Bool.rec (b :: Bool.rec (c :: []) [] (isE c)) (Bool.rec (c :: []) [] (isE c)) (isE b)) (Bool.rec (b :: Bool.rec (c :: []) [] (isE c)) (Bool.rec (c :: []) [] (isE c)) (isE b)) (isE a) := fun _ _ _ => rfl
  rw [ef, g0, g1, g2]
  rw [c0, c1, c2]
  generalize h0 rs = r0 at g3
  match r0, g3 with
  | [], _ => rfl
  | [_], _ => rfl
  | [_, _], _ => rfl
  | [_, _, _], _ => rfl
theorem cols_of_chk (hchk : chkQ stB okB 8 iniB = true) {l : List Nat} (h : ∀ c ∈ l, c = 97 ∨ c = 98 ∨ c = 99) (hl : l.length ≤ 8) : colsF (rowsF true l) = toldF l.reverse := by
  have hok := chk_fold 8 iniB hchk l hl h
  have sp := SpQ.fold (strict := true) (t := Nat.ble) (x := 99) (y := 98) (z := 97) (S0 := iniB) ble_eq l [] iniB (abc_pos h) (ini_sp _ _ _ _ _ rfl rfl rfl rfl rfl rfl rfl)
  rw [List.nil_append] at sp
  change okB (l.foldl (kst Nat.ble 99 98 97) iniB) = true at hok
  generalize l.foldl (kst Nat.ble 99 98 97) iniB = S at hok sp
  have e := cols_of _ _ hok
  rw [tolQ_eq, sp.rows] at e
  rw [e]
  unfold toldF
  have hc : ∀ x, l.reverse.count x = l.count x := fun x => List.count_reverse
  have h2 : MaxP (Pt [98, 97]) l.reverse S.YZ := maxP_rev sp.YZ (fun w hw => pt2_rev hw) (fun w hw => pt2_rev hw)
  have h3 : MaxP (Pt [99, 98, 97]) l.reverse S.XYZ := maxP_rev sp.XYZ (fun w hw => pt3_rev hw) (fun w hw => pt3_rev hw)
  rw [hc, hc, hc, maxP_count sp.X, maxP_count sp.Y, maxP_count sp.Z, h2.uniq (two_max _), h3.uniq (three_max _)]
  rw [dpQ_eq (l := l.reverse) (by rw [sub_rev, sp.w0]; exact (adv_sub _ _).symm) (by rw [sub_rev, sp.w1]; exact (adv_sub _ _).symm) (by rw [sub_rev, sp.w2]; exact (adv_sub _ _).symm) (by rw [sub_rev, sp.w3]; exact (adv_sub _ _).symm) (by rw [sub_rev, sp.w4]; exact (adv_sub _ _).symm) (by rw [sub_rev, sp.w5]; exact (adv_sub _ _).symm)]
theorem chk_up {st : KQ → Nat → KQ} {ok : KQ → Bool} {n : Nat} {S : KQ} (h : ok S = true) (ha : chkQ st ok n (st S 97) = true) (hb : chkQ st ok n (st S 98) = true) (hc : chkQ st ok n (st S 99) = true) : chkQ st ok (n + 1) S = true := by
  show andQ (ok S) (andQ (chkQ st ok n (st S 97)) (andQ (chkQ st ok n (st S 98)) (chkQ st ok n (st S 99)))) = true
  rw [h, ha, hb, hc]; rfl
theorem ka : chkQ stA okA 8 iniA = true := chk_up (by decide +kernel) (chk_up (by decide +kernel) (by decide +kernel) (by decide +kernel) (by decide +kernel)) (chk_up (by decide +kernel) (by decide +kernel) (by decide +kernel) (by decide +kernel)) (chk_up (by decide +kernel) (by decide +kernel) (by decide +kernel) (by decide +kernel))
theorem kb : chkQ stB okB 8 iniB = true := chk_up (by decide +kernel) (chk_up (by decide +kernel) (by decide +kernel) (by decide +kernel) (by decide +kernel)) (chk_up (by decide +kernel) (by decide +kernel) (by decide +kernel) (by decide +kernel)) (chk_up (by decide +kernel) (by decide +kernel) (by decide +kernel) (by decide +kernel))
theorem law_rows {l : List Nat} (h : ∀ c ∈ l, c = 97 ∨ c = 98 ∨ c = 99) (hl : l.length ≤ 8) : rowsF false l = toldF l := rows_of_chk ka h hl
theorem law_cols {l : List Nat} (h : ∀ c ∈ l, c = 97 ∨ c = 98 ∨ c = 99) (hl : l.length ≤ 8) : colsF (rowsF true l) = toldF l.reverse := cols_of_chk kb h hl
section
local macro_rules | `(tactic| k_steps) => `(tactic| repeat' (first
  | ((fail_if_success (with_reducible show wpAny _ _ (exec (Stmt.While _ _ _ _) _) _ _ _)); (fail_if_success (with_reducible show wpAny _ _ (exec (Stmt.For _ _ _ _ _) _) _ _ _)); (fail_if_success (with_reducible show wpAny _ _ (eval (Expr.ListComp _ _ _ _) _) _ _ _)); (fail_if_success (with_reducible show wpAny _ _ (exec (Stmt.Assign _ (Expr.ListComp _ _ _ _) _) _) _ _ _)); (fail_if_success (with_reducible show wpAny _ _ (call (Value.ref _) _ _) _ _ _)); (fail_if_success (with_reducible show wpAny _ _ (pyIter _) _ _ _)); (fail_if_success (with_reducible show LCg.CompSrc _ _ _ _ _ _ _ _ _ _ _ _ _ _)); (fail_if_success (with_reducible show LCt.CompSrcT _ _ _ _ _ _ _ _ _ _ _ _ _ _ _)); (fail_if_success (with_reducible show wpAny _ _ (compareOp _ (Value.ref _) (Value.ref _)) _ _ _)); (fail_if_success (with_reducible show EltEnd _ _ _ _ _ _ _ _)); (fail_if_success (with_reducible show wpAny _ _ (call (Value.builtin "str.join") _ _) _ _ _));
     (first | (k_unfold; (try dsimp only)) | (k_end; kc_close) | walk1 | (dsimp only; walk1) | (leave1; walk_say "STEP leave1"; (try dsimp only)) | fail "no step"))))
def lawText (ns : List Int) : List Nat := ((ns.take 8).map resid ++ [99, 98, 97, 98]).take 8
structure Box (P : Prop) : Prop where
  out : P
noncomputable def st1 : PSigma (fun P : Prop => Box P → PySem.Challenge.rw_pe0110_02.Holds) := by
  refine' ⟨_, fun hP => hd ?_⟩
  rotate_left
  · w_top off
    k_go0
    (all_goals try k_fold)
    rename_i w s0 s1 mg mb G Y fa o pm cd doc ho hcd hg X V T B TE TW ns hs hlay0 hL hr hl2 a1 a2 scr vs a3 hLs ra w1 r0 hI hr2 hc1 hc2 hD h1 tk1 oc right X0 X1 T1 K1 F1 N1 l0
    have hod : oc.data = Data.cell none := right
    clear G Y ho hcd V B TE TW hs hlay0 hL hr hl2 hLs ra w1 r0 hr2 hc2 hD right X0 K1 codeHd hT8 hT9 X T
    k_steps
    refine LCg.ListComp_U F1 (by with_unfolding_all rfl) (by decide) rfl (by decide) rfl ?_
    k_steps
    rename Fr _ _ _ _ => F2
    rename News _ _ _ _ => N2
    rename IntsAre _ (List.take 8 _) => hI2
    refine LCg.CompSrc.ledger rfl F2 N2 (.head _) (by have := hI2.length; have := List.length_take_le 8 ns; rw [sizeLine_eq]; simp only [List.size_toArray]; omega) fun g => ?_
    refine compRest_of (fun i v => ∃ (n : Int) (t : Tok), (List.take 8 ns)[i]? = some n ∧ v = .str (tx [resid n]) t) (.inr ⟨_, .head _, rfl, _, rfl⟩) ?_ ?_
    · intro i v I oI C oC D ys m₂ h tk E' hi hP hC hx F N off ne
      obtain ⟨n, t, rfl, hn⟩ := ints_get hI2 (by simpa using hP)
      k_steps
      rename Fr _ _ _ _ => F9
      rename News _ _ _ _ => N9
      exact ⟨_, _, rfl, F9, N9, n, _, hn, congrArg (Value.str · _) (item_abc n)⟩
    · intro ys hlen hys D h tk F N hoff
      have hS := strs_build (fun n => tx [resid n]) (List.take 8 ns) ys (by rw [hlen]; simpa using hI2.length) hys
      have hS' : StrsAre ys (((List.take 8 ns).map resid).map fun n => tx [n]) := by rw [List.map_map]; exact hS
      k_steps
      refine join_letters (N.isList (.head _)) hS' (by simp; omega) fun t' tk' => ?_
      k_steps
      dsimp only
      have hta : ((List.take 8 ns).map resid).length ≤ 8 := by
        rw [List.length_map, List.length_take]; omega
      rw [show Str.ofString "cbab" = tx [99, 98, 97, 98] from str_ext (by decide +kernel)]
      refine PyProof.Rows.add_str (fun t2 tk2 => ?_) (by rw [sizeLine_eq]; show ((List.take 8 ns).map resid).length + 4 ≤ _; omega)
      rw [show tx ((List.take 8 ns).map resid) ++ tx [99, 98, 97, 98] = tx ((List.take 8 ns).map resid ++ [99, 98, 97, 98]) from str_ext (by rw [cl_append])]
      dsimp only
      have N1 : News (ghostOf s1.heap [(64, 60)]) s1.heap.objs.size h [(s1.heap.objs.size + 1, oc), (60, tabObj #[])] := fun p hp => N p (List.mem_cons_of_mem _ (List.mem_cons_of_mem _ hp))
      clear N N2 F2 hoff hS hS' hys hlen
      have hla : (tx ((List.take 8 ns).map resid ++ [99, 98, 97, 98])).length ≤ 12 := by
        show ((List.take 8 ns).map resid ++ [99, 98, 97, 98]).length ≤ 12
        rw [List.length_append]; simp only [List.length_cons, List.length_nil]; omega
      k_steps
      have hxl : (tx (lawText ns)).length ≤ 8 := by
        show (((List.take 8 ns).map resid ++ [99, 98, 97, 98]).take 8).length ≤ 8
        rw [List.length_take]; omega
      rename Fr _ _ _ _ => F1
      rename News _ _ _ _ => N1
      rw [show Txt.slice (tx ((List.take 8 ns).map resid ++ [99, 98, 97, 98])) none (some 8) = tx (lawText ns) from slice_to _ 8] at F1 ⊢
      clear hI hc1 lifted hI2 hta hla
      rename_i zz0 zz1 zz2 zz3 zz4 zz5 zz6 zz7 zz8 zz9 zz10 zz11
      revert w s0 s1 mg mb fa o pm cd doc hg ns a1 a2 scr vs a3 h1 tk1 oc X1 T1 l0 hod zz0 zz1 zz2 zz3 zz4 zz5 g ys D h zz6 t' tk' t2 tk2 zz7 zz8 zz9 zz10 zz11 F1 N1 tk hxl
      exact hP.out
end
section
local macro_rules | `(tactic| k_steps) => `(tactic| repeat' (first
  | ((fail_if_success (with_reducible show wpAny _ _ (exec (Stmt.While _ _ _ _) _) _ _ _)); (fail_if_success (with_reducible show wpAny _ _ (exec (Stmt.For _ _ _ _ _) _) _ _ _)); (fail_if_success (with_reducible show wpAny _ _ (eval (Expr.ListComp _ _ _ _) _) _ _ _)); (fail_if_success (with_reducible show wpAny _ _ (exec (Stmt.Assign _ (Expr.ListComp _ _ _ _) _) _) _ _ _)); (fail_if_success (with_reducible show wpAny _ _ (call (Value.ref _) _ _) _ _ _)); (fail_if_success (with_reducible show wpAny _ _ (pyIter _) _ _ _)); (fail_if_success (with_reducible show LCg.CompSrc _ _ _ _ _ _ _ _ _ _ _ _ _ _)); (fail_if_success (with_reducible show LCt.CompSrcT _ _ _ _ _ _ _ _ _ _ _ _ _ _ _)); (fail_if_success (with_reducible show wpAny _ _ (compareOp _ (Value.ref _) (Value.ref _)) _ _ _)); (fail_if_success (with_reducible show EltEnd _ _ _ _ _ _ _ _)); (fail_if_success (with_reducible show wpAny _ _ (call (Value.builtin "str.join") _ _) _ _ _));
     (first | (k_unfold; (try dsimp only)) | (k_end; kc_close) | walk1 | (dsimp only; walk1) | (leave1; walk_say "STEP leave1"; (try dsimp only)) | fail "no step"))))
theorem lawText_abc (ns : List Int) : ∀ c ∈ lawText ns, c = 97 ∨ c = 98 ∨ c = 99 := by
  intro c hc
  unfold lawText at hc
  have hc := List.mem_of_mem_take hc
  rcases List.mem_append.mp hc with hc | hc
  · obtain ⟨n, _, rfl⟩ := List.mem_map.mp hc
    exact resid_mem n
  · simp only [List.mem_cons, List.not_mem_nil, or_false] at hc
    omega
theorem lawText_ne (ns : List Int) : lawText ns ≠ [] := by
  unfold lawText
  cases ns with
  | nil => simp
  | cons n ns => simp
noncomputable def st2 : PSigma (fun P : Prop => Box P → st1.1) := by
  refine' ⟨_, fun hP => ?_⟩
  rotate_left
  · show st1.1
    intro w s0 s1 mg mb fa o pm cd doc hg ns a1 a2 scr vs a3 h1 tk1 oc X1 T1 l0 hod zz0 zz1 zz2 zz3 zz4 zz5 g ys D h zz6 t' tk' t2 tk2 zz7 zz8 zz9 zz10 zz11 F1 N1 tk hxl
    revert X1
    k_fill
    w_top off
    intro X1
    have hR := law_rows (lawText_abc ns) hxl
    have hC := law_cols (lawText_abc ns) hxl
    have hne := lawText_ne ns
    generalize lawText ns = l at hR hC hne hxl F1 ⊢
    refine Runs.use (rows_spec (X1.keeps F1.keep) (T1.keeps F1.keep) ((rm_law _).le (by omega) (by omega)) (by omega)) F1 N1 ?_
    rintro _ h2 tk2 ⟨Ra, nR, os, rfl, hlay, hR0, hR1, hos, hnd, hrl, hfi⟩ st2 F2 N2
    have hos' : ∀ q ∈ (Ra, listOf (refs os).toArray nR) :: os, _root_.PySem.Heap.get? _ q.1 = none ∧ h2.get? q.1 = some q.2 := fun q hq => by
      rcases List.mem_cons.mp hq with rfl | hq
      · exact ⟨hR0, hR1⟩
      · exact hos q hq
    have N3 := newsAdds F1 N2 hos'
    have N4 : News (ghostOf s1.heap [(64, 60)]) s1.heap.objs.size h2 ((Ra, listOf (refs os).toArray nR) :: (s1.heap.objs.size + 1, oc) :: (60, tabObj #[]) :: os) := fun q hq => N3 q (by
      simp only [List.mem_append, List.mem_cons, List.not_mem_nil, or_false] at hq ⊢
      rcases hq with h | h | h | h <;> simp [h])
    have n60 := (N1 (60, tabObj #[]) (.tail _ (.head _))).1
    have hR60 : Ra ≠ 60 := fun e => by rw [e] at hR0; exact nomatch hR0.symm.trans n60
    have hos60 : ∀ q ∈ os, q.1 ≠ 60 := fun q hq e => by
      have := (hos q hq).1
      rw [e] at this; exact nomatch this.symm.trans n60
    clear n60
    clear F1 N1 N2 N3 hos'
    dsimp only
    k_steps
    rename Fr _ _ _ _ => F2
    rename News _ _ _ _ => N2
    change Lay os (rowsF false l) at hlay
    change (rowsF false l).length ≤ l.length at hrl
    change Fine l.length (rowsF false l) at hfi
    change l.length ≤ 8 at hxl
    have hol := lay_len hlay
    clear st2 hR0 hR1 hos
    refine LCg.ListComp_U F2 (by with_unfolding_all rfl) (by decide) rfl (by decide) rfl ?_
    k_steps
    refine LCg.CompSrc.ledger rfl F2 N2 (.head _) (by rw [sizeLine_eq, List.size_toArray, refs_len]; omega) fun g1 => ?_
    refine compRest_of (fun i v => ∃ t, v = .str (tx ((rowsF false l).getD i [])) t) (.inr ⟨_, .head _, rfl, _, rfl⟩) ?_ ?_
    · intro i v I oI C oC D ys m₂ h tk E' hi hP hC hx F N off ne
      obtain ⟨q, hq, rfl⟩ := refs_get hP
      have hio : i < os.length := (List.getElem?_eq_some_iff.mp hq).1
      obtain ⟨A, vs', n', hq2, hvs⟩ := lay_at hlay hio
      obtain rfl : q = _ := Option.some.inj (hq.symm.trans hq2)
      have hri : ((rowsF false l).getD i []).length ≤ l.length := by
        have : i < (rowsF false l).length := by omega
        rw [List.getD_eq_getElem?_getD, List.getElem?_eq_getElem this]
        exact (hfi _ (List.getElem_mem this)).1
      have hmem := List.mem_of_getElem? hq2
      k_steps
      refine join_letters (N.isList (.tail _ (.tail _ (.tail _ (.tail _ (.tail _ (.tail _ hmem))))))) hvs (by omega) fun t9 tk9 => ?_
      k_steps
      rename Fr _ _ _ _ => F9
      rename News _ _ _ _ => N9
      exact ⟨_, _, rfl, F9, N9, _, rfl⟩
    · intro ys hlen hys D h tk F N hoff
      have hS0 := strs_build (fun i => tx ((rowsF false l).getD i [])) (List.range (rowsF false l).length) ys (by rw [hlen, List.size_toArray, refs_len, List.length_range, hol]) (fun i y hy => by
        obtain ⟨t, e⟩ := hys i y hy
        have hiy : i < ys.length := (List.getElem?_eq_some_iff.mp hy).1
        rw [hlen, List.size_toArray, refs_len] at hiy
        exact ⟨i, t, by rw [List.getElem?_range (by omega)], e⟩)
      rw [← rows_map] at hS0
      k_steps
      rename Fr _ _ _ _ => F3
      rename News _ _ _ _ => N3
      have hoff' := off1_mem hoff
      have n60 := N3 (60, tabObj #[]) (.tail _ (.tail _ (.tail _ (.head _))))
      have hc60 : s1.heap.objs.size + 1 ≠ 60 := Nat.ne_of_gt (by omega)
      refine told_spec (g := ghostOf s1.heap [(64, 60)]) (ps := #[]) (extra := []) X1 T1 F3.keep n60.2.2 ⟨n60.1, .inl ⟨rfl, rfl⟩, (fun q hq => nomatch hq)⟩ ((rm_law _).le (by omega) (by omega)) hxl ?_
      intro aT vsT nT psT exT h4 tk4 e1 e2 e3 k4 T4 f1 f2
      obtain ⟨F4, N4⟩ := afterT (own := [(D, LCg.lst ys), (s1.heap.objs.size + 1, oc)]) (ps := #[]) (extra := []) F3 (fun q hq => N3 q (by
        simp only [List.mem_append, List.mem_cons, List.not_mem_nil, or_false] at hq ⊢
        rcases hq with (h | h) | h <;> simp [h])) (fun q hq => by
        simp only [List.mem_cons, List.not_mem_nil, or_false] at hq
        rcases hq with rfl | rfl
        · exact fun e => hoff' (60, tabObj #[]) (by simp) e.symm
        · exact hc60) k4 T4 f1
      have N5 := newsAdd F3 N4 e1 e2
      have hexc : ∀ q ∈ exT, q.1 ≠ s1.heap.objs.size + 1 := fun q hq e => by
        rcases f1 q hq with h | h
        · exact nomatch h
        · rw [e] at h
          exact nomatch h.symm.trans (N3 (s1.heap.objs.size + 1, oc) (by simp)).1
      clear F3 N3 N4 F2 N2
      change StrsAre vsT ((toldF l).map tx) at e3
      dsimp only
      k_steps
      refine ne_strs (N5.isList (.tail _ (.head _))) hS0 (N5.isList (.head _)) e3 (by rw [hR]; exact told_ok l) (told_ok l) (by show callerA.units + 3 + 64 < _; decide +kernel) ?_
      rw [hR, decide_eq_true rfl]
      k_steps
      rename Fr _ _ _ _ => F6
      rename News _ _ _ _ => N6
      have N7 : News (ghostOf s1.heap [(64, 60)]) s1.heap.objs.size _ ((s1.heap.objs.size + 1, oc) :: (60, tabObj psT) :: exT) := fun q hq => N6 q (by
        simp only [List.mem_append, List.mem_cons, List.not_mem_nil, or_false] at hq ⊢
        rcases hq with h | h | h <;> simp [h])
      (try clear N6)
      (try clear N5)
      (try clear N)
      (try clear F)
      (try clear F4)
      (try clear hol)
      (try clear hlay)
      (try clear hnd)
      (try clear hrl)
      (try clear hfi)
      (try clear hos60)
      (try clear hS0)
      (try clear hys)
      (try clear hlen)
      (try clear hoff')
      (try clear hoff)
      (try clear n60)
      (try clear e1)
      (try clear e2)
      (try clear e3)
      (try clear k4)
      (try clear hR60)
      refine Runs.use (rows_spec (X1.keeps F6.keep) (T1.keeps F6.keep) ((rm_law _).le (by omega) (by omega)) (by show l.length ≤ 20; omega)) F6 N7 ?_
      rintro _ h5 tk5 ⟨Rb, nb, ob, rfl, hlay, hR0, hR1, hos, hnd, hrl, hfi⟩ st5 F8 N8
      have hos' : ∀ q ∈ (Rb, listOf (refs ob).toArray nb) :: ob, _root_.PySem.Heap.get? _ q.1 = none ∧ h5.get? q.1 = some q.2 := fun q hq => by
        rcases List.mem_cons.mp hq with rfl | hq
        · exact ⟨hR0, hR1⟩
        · exact hos q hq
      have N9 := newsAdds F6 N8 hos'
      have ncell := (N7 (s1.heap.objs.size + 1, oc) (.head _)).1
      have n60 := (N7 (60, tabObj psT) (.tail _ (.head _))).1
      have nfr : ∀ q ∈ (Rb, listOf (refs ob).toArray nb) :: ob, ∀ (a : Addr) (o : Obj), _root_.PySem.Heap.get? _ a = some o → q.1 ≠ a := fun q hq a o ha e => by
        have := (hos' q hq).1
        rw [e] at this
        exact nomatch this.symm.trans ha
      have hRc : Rb ≠ s1.heap.objs.size + 1 := nfr _ (.head _) _ _ ncell
      have hR60 : Rb ≠ 60 := nfr _ (.head _) _ _ n60
      have hox : ∀ q ∈ exT, q.1 ≠ s1.heap.objs.size + 1 := fun q hq => hexc q hq
      have hoc : OwnOff (exT ++ ob) [s1.heap.objs.size + 1] := by
        intro p hp b hb
        rw [List.mem_singleton.mp hb]
        rcases List.mem_append.mp hp with hp | hp
        · exact hox p hp
        · exact nfr p (.tail _ hp) _ _ ncell
      have N10 : News (ghostOf s1.heap [(64, 60)]) s1.heap.objs.size h5 ((s1.heap.objs.size + 1, oc) :: (Rb, listOf (refs ob).toArray nb) :: (60, tabObj psT) :: (exT ++ ob)) := fun q hq => N9 q (by
        simp only [List.mem_append, List.mem_cons, List.not_mem_nil, or_false] at hq ⊢
        rcases hq with h | h | h | h | h <;> simp [h])
      have htl1 : ∀ q ∈ exT, q ∈ exT ++ ob := fun q hq => List.mem_append_left _ hq
      have htl2 : ∀ q ∈ ob, q ∈ exT ++ ob := fun q hq => List.mem_append_right _ hq
      generalize exT ++ ob = tl at hoc N10 htl1 htl2
      clear F6 N7 N8 N9 hos' hos hR0 hR1 nfr ncell n60 st5
      change Lay ob (rowsF true l) at hlay
      change (rowsF true l).length ≤ l.length at hrl
      change Fine l.length (rowsF true l) at hfi
      dsimp only
      k_steps
      rename Fr _ _ _ _ => F9
      rename News _ _ _ _ => N9
      rename (_ = Data.cell (some _)) => hod1
      rename_i yy0 yy1 yy2 yy3 yy4 yy5 yy6 yy7 yy8 yy9
      revert w s0 s1 mg mb fa o pm cd doc hg ns a1 a2 scr vs a3 h1 tk1 oc T1 l0 hod zz0 zz1 zz2 zz3 zz4 zz5 g yy0 yy1 yy2 zz6 t' tk' t2 yy3 zz7 zz8 zz9 zz10 zz11 yy4 X1 l hR hC hne h2 tk2 Ra nR os yy5 yy6 hxl g1 ys D h yy7 hc60 aT vsT nT psT exT h4 tk4 T4 f1 f2 hexc h5 tk5 Rb nb ob hnd hRc hR60 hox tl hoc htl1 htl2 hlay hrl hfi yy8 yy9 F9 N9 hod1 tk
      exact hP.out
end
section
local macro_rules | `(tactic| k_steps) => `(tactic| repeat' (first
  | ((fail_if_success (with_reducible show wpAny _ _ (exec (Stmt.While _ _ _ _) _) _ _ _)); (fail_if_success (with_reducible show wpAny _ _ (exec (Stmt.For _ _ _ _ _) _) _ _ _)); (fail_if_success (with_reducible show wpAny _ _ (eval (Expr.ListComp _ _ _ _) _) _ _ _)); (fail_if_success (with_reducible show wpAny _ _ (exec (Stmt.Assign _ (Expr.ListComp _ _ _ _) _) _) _ _ _)); (fail_if_success (with_reducible show wpAny _ _ (call (Value.ref _) _ _) _ _ _)); (fail_if_success (with_reducible show wpAny _ _ (pyIter _) _ _ _)); (fail_if_success (with_reducible show LCg.CompSrc _ _ _ _ _ _ _ _ _ _ _ _ _ _)); (fail_if_success (with_reducible show LCt.CompSrcT _ _ _ _ _ _ _ _ _ _ _ _ _ _ _)); (fail_if_success (with_reducible show wpAny _ _ (compareOp _ (Value.ref _) (Value.ref _)) _ _ _)); (fail_if_success (with_reducible show EltEnd _ _ _ _ _ _ _ _)); (fail_if_success (with_reducible show wpAny _ _ (call (Value.builtin "str.join") _ _) _ _ _));
     (first | (k_unfold; (try dsimp only)) | (k_end; kc_close) | walk1 | (dsimp only; walk1) | (leave1; walk_say "STEP leave1"; (try dsimp only)) | fail "no step"))))
theorem st3 : st2.1 := by
  intro w s0 s1 mg mb fa o pm cd doc hg ns a1 a2 scr vs a3 h1 tk1 oc T1 l0 hod zz0 zz1 zz2 zz3 zz4 zz5 g yy0 yy1 yy2 zz6 t' tk' t2 yy3 zz7 zz8 zz9 zz10 zz11 yy4 X1 l hR hC hne h2 tk2 Ra nR os yy5 yy6 hxl g1 ys D h yy7 hc60 aT vsT nT psT exT h4 tk4 T4 f1 f2 hexc h5 tk5 Rb nb ob hnd hRc hR60 hox tl hoc htl1 htl2 hlay hrl hfi yy8 yy9 F9 N9 hod1 tk
  revert X1
  k_fill
  w_top off
  intro X1
  refine assign_compC (h₀ := ghostOf s1.heap [(64, 60)]) (R := fun k v => ∃ t, v = Value.str (tx ((rowsF true l).filterMap fun r => r[k]?)) t) (cl := [(Str.ofString "steep", s1.heap.objs.size + 1)]) rfl (by rfl) (by with_unfolding_all rfl) rfl rfl (by decide) (fun _ _ => by rfl) (by rfl) (by rfl) ?_
  have hR1 : 0 < ob.length := by
    rw [lay_len hlay]
    exact List.length_pos_iff.mpr (rowsF_ne hne)
  have hol := lay_len hlay
  obtain ⟨A0, vs0, m0, ho0, hv0⟩ := lay_at hlay hR1
  have hm0 := List.mem_of_getElem? ho0
  have hrk : ∀ i, ((rowsF true l).getD i []).length ≤ l.length := fun i => by
    rcases Nat.lt_or_ge i (rowsF true l).length with q | q
    · rw [List.getD_eq_getElem?_getD, List.getElem?_eq_getElem q]
      exact (hfi _ (List.getElem_mem q)).1
    · rw [List.getD_eq_getElem?_getD, List.getElem?_eq_none q]; exact Nat.zero_le _
  have hv0l : vs0.length = ((rowsF true l).getD 0 []).length := by rw [strs_len hv0, List.length_map]
  have hw0 := hrk 0
  k_steps
  refine item_list (N9.isList (.tail _ (.head _))) (by omega) (by omega) (refs_of ho0) ?_
  k_steps
  refine len_list (N9.isList (.tail _ (.tail _ (.tail _ (htl2 _ hm0))))) (by rw [List.size_toArray]; omega) ?_
  rw [show vs0.toArray.size = ((rowsF true l).getD 0 []).length from by rw [List.size_toArray, hv0l]]
  dsimp only
  k_steps
  rename Fr _ _ _ _ => F10
  rename News _ _ _ _ => N10
  rename IsRange _ _ _ _ _ _ _ _ => hr
  refine ⟨_, _, _, _, _, _, _, rfl, hr, by omega, F10, N10, ?_, ?_⟩
  · intro i I oI C oC K oK D ys h tk t' E' hi hK F N
    have hi8 : i < 8 := by omega
    k_steps
    refine LCt.ListComp_T F (by with_unfolding_all rfl) (by decide) rfl (by decide) rfl ?_
    k_steps
    refine LCt.CompSrcT.ledger rfl F N (.tail _ (.tail _ (.tail _ (.tail _ (.tail _ (.head _)))))) (by rw [sizeLine_eq, List.size_toArray, refs_len]; omega) fun g2 => ?_
    refine compRestT_of (fun j => decide (i < ((rowsF true l).getD j []).length)) (fun j v => ∃ t, v = Value.str (tx [((rowsF true l).getD j []).getD i 0]) t) (.inr ⟨_, .tail _ (.tail _ (.tail _ (.tail _ (.tail _ (.head _))))), rfl, _, rfl⟩) ?_ ?_
    · intro j v I2 oI2 C2 oC2 D2 ys2 m₂ h' tk' E2 hj hP hC2 hx F' N' off2 ne2
      obtain ⟨q, hq, rfl⟩ := refs_get hP
      have hjo : j < ob.length := (List.getElem?_eq_some_iff.mp hq).1
      obtain ⟨A, vs', n', hq2, hvs⟩ := lay_at hlay hjo
      obtain rfl : q = _ := Option.some.inj (hq.symm.trans hq2)
      have hmem := htl2 _ (List.mem_of_getElem? hq2)
      have hvl : vs'.length = ((rowsF true l).getD j []).length := by rw [strs_len hvs, List.length_map]
      have hjl := hrk j
      (try clear F)
      (try clear N)
      (try clear F10)
      (try clear N10)
      (try clear F9)
      (try clear N9)
      k_steps
      refine len_list (N'.isList (.tail _ (.tail _ (.tail _ (.tail _ (.tail _ (.tail _ (.tail _ (.tail _ (.tail _ (.tail _ (hmem)))))))))))) (by rw [List.size_toArray]; omega) ?_
      rw [show vs'.toArray.size = ((rowsF true l).getD j []).length from by rw [List.size_toArray, hvl]]
      dsimp only
      k_steps
      · exact decide_eq_decide.mpr Int.ofNat_lt
      · rename Fr _ _ _ _ => F8
        rename News _ _ _ _ => N8
        have hlt : i < ((rowsF true l).getD j []).length := by omega
        obtain ⟨ti, hti⟩ := strs_at (i := i) (x := tx [((rowsF true l).getD j []).getD i 0]) hvs (by
          rw [List.getElem?_map, List.getD_eq_getElem?_getD (l := (rowsF true l).getD j []), List.getElem?_eq_getElem hlt]; rfl)
        refine item_list (N8.isList (.tail _ (.tail _ (.tail _ (.tail _ (.tail _ (.tail _ (.tail _ (.tail _ (.tail _ (.tail _ (hmem)))))))))))) (by omega) (by omega) (x := .str (tx [((rowsF true l).getD j []).getD i 0]) ti) ?_ ?_
        · rw [Int.toNat_natCast, List.getElem?_toArray]; exact hti
        k_steps
        rename Fr _ _ _ _ => F9
        rename News _ _ _ _ => N9
        exact ⟨_, _, rfl, F9, N9, _, rfl⟩
      · rename Fr _ _ _ _ => F9
        rename News _ _ _ _ => N9
        exact ⟨_, _, rfl, F9, N9, trivial⟩
    · intro ys2 hP D2 h' tk' F' N' off'
      have hS := filterMap_paired (k := i) (rs := rowsF true l) (n := (refs ob).toArray.size) (by rw [List.size_toArray, refs_len, hol]) hP
      k_steps
      rename Fr _ _ _ _ => F8
      rename News _ _ _ _ => N8
      refine join_letters (N8.isList (.head _)) hS (Nat.le_trans (List.length_filterMap_le _ _) (by omega)) fun t9 tk9 => ?_
      dsimp only
      k_steps
      exact ⟨_, _, rfl, F8, fun q hq => N8 q (.tail _ hq), _, rfl⟩
  · intro ys D h tk hlen hys F N hoff
    have hcol : ys.length = (colsF (rowsF true l)).length := by rw [hlen]; unfold colsF; rw [List.length_map, List.length_range]
    have hS0 : StrsAre ys ((colsF (rowsF true l)).map tx) := by
      unfold colsF
      rw [List.map_map]
      exact strs_build (fun k => tx ((rowsF true l).filterMap fun r => r[k]?)) (List.range ((rowsF true l).getD 0 []).length) ys (by rw [hlen, List.length_range]) (fun i y hy => by
        obtain ⟨t, e⟩ := hys i y hy
        have hiy : i < ys.length := (List.getElem?_eq_some_iff.mp hy).1
        exact ⟨i, t, by rw [List.getElem?_range (by omega)], e⟩)
    (try clear F10)
    (try clear N10)
    (try clear F9)
    (try clear N9)
    k_steps
    rw [slice_rev]
    rename Fr _ _ _ _ => F8
    rename News _ _ _ _ => N8
    have n60 := N8 (60, tabObj psT) (.tail _ (.tail _ (.tail _ (.head _))))
    change Fr (ghostOf s1.heap [(64, 60)]) s1.heap.objs.size _ _ at F8
    refine told_spec (g := ghostOf s1.heap [(64, 60)]) (ps := psT) (extra := exT) X1 T1 F8.keep n60.2.2 ⟨n60.1, T4.2.1, (fun q hq => ⟨(N8 q (.tail _ (.tail _ (.tail _ (.tail _ (htl1 _ hq)))))).1, (T4.2.2 q hq).2.1, (T4.2.2 q hq).2.2⟩)⟩ ((rm_law _).le (by omega) (by omega)) (by show l.reverse.length ≤ 8; rw [List.length_reverse]; exact hxl) ?_
    intro aU vsU nU psU exU h6 tk6 e1 e2 e3 k6 T6 f3 f4
    obtain ⟨F4, N4⟩ := afterT (own := [(D, LCg.lst ys)]) (ps := psT) (extra := exT) F8 (fun q hq => N8 q (by
      simp only [List.mem_append, List.mem_cons, List.not_mem_nil, or_false] at hq ⊢
      rcases hq with h | h | h
      · simp [h]
      · simp [h]
      · simp [htl1 _ h])) (fun q hq => by
      rw [List.mem_singleton.mp hq]
      exact fun e => hoff (60, tabObj psT) (by simp) e.symm) k6 T6 f3
    have N5 := newsAdd F8 N4 e1 e2
    clear F8 N8 N4
    change StrsAre vsU ((toldF l.reverse).map tx) at e3
    dsimp only
    k_steps
    refine eq_strs (N5.isList (.tail _ (.head _))) hS0 (N5.isList (.head _)) e3 (by rw [hC]; exact told_ok _) (told_ok _) (by show callerA.units + 3 + 64 < _; decide +kernel) ?_
    rw [hC, decide_eq_true rfl]
    k_steps
theorem law_holds : PySem.Challenge.rw_pe0110_02.Holds := st1.2 ⟨st2.2 ⟨st3⟩⟩
end
end Mine
theorem PySem.Challenge.cw_pe0110_02_holds : PySem.Challenge.rw_pe0110_02.Holds := by
  exact Mine.law_holds
