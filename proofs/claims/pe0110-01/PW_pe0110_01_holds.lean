import PyProof.Rows.All
import Wide.All
import OpenK.AllK
import Wide.FinOn
import PySem.Challenge.RW_pe0110_01

set_option Elab.async false
section
open PySem PySem.W PyProof.Rows
set_option maxRecDepth 100000
set_option maxHeartbeats 8000000
namespace Mine
open_top hd for PySem.Challenge.rw_pe0110_01
end Mine
end
section
open PySem PySem.W PyProof.Rows PySem.Calls PySem.Spec
set_option maxRecDepth 100000
namespace Mine

/-- every object stays as it is -/
def Stay (h h' : Heap) : Prop := ∀ b o, h.get? b = some o → h'.get? b = some o
theorem Stay.refl (h : Heap) : Stay h h := fun _ _ e => e
theorem Stay.trans {a b c : Heap} (x : Stay a b) (y : Stay b c) : Stay a c := fun i o e => y i o (x i o e)

/-- a tree that ends by a value, and leaves every object as it was -/
def Runs (M : Model) (A : Around) (t : Sem Value) (s : Shared) (R : Value → Heap → Prop) : Prop :=
  ∀ (Q E : Value → Shared → Prop), (∀ v h' tk', R v h' → Stay s.heap h' → Q v { s with heap := h', toks := tk' }) → wpAny M A t Q E s

section
variable {M : Model} {A : Around} {t : Sem Value} {s : Shared} {R : Value → Heap → Prop} {h₀ : Heap} {L : Addr} {m : Str → Option Value} {news : List (Addr × Obj)} {Q E : Value → Shared → Prop}
theorem Runs.use (C : Runs M A t s R) (F : Fr h₀ L s.heap m) (N : News h₀ L s.heap news)
    (h : ∀ v h' tk', R v h' → Stay s.heap h' → Fr h₀ L h' m → News h₀ L h' news → Q v { s with heap := h', toks := tk' }) : wpAny M A t Q E s :=
  C Q E fun v h' tk' r st => h v h' tk' r st (F.grownK st) (N.grown st)
end

section
variable {prog : Program} {w : World} {A : Around} {s : Shared} {K : Frag} {Q E : Value → Shared → Prop} {name qual : Str} {params : Arguments} {body : List Stmt} {scope : Scope} {dV kV doc pm cdv ct oc : Value} {an od : Option Addr}
  {osl : Array (Option Value)} {f : Addr} {pos : List Value} {kw : List (Str × Value)} {binds : List (Str × Value)}

theorem enter (X : K.In s.heap) (hlim : s.heap.NoLimit)
    (ho : K.lookup f = some ⟨oc, od, .func (fnOf name qual params body scope dV kV doc pm an cdv ct), osl⟩) (hcd : codeIn K cdv qual = true) (hroom : A.depth < recursionLimit)
    (hbind : BindsTo s (fnOf name qual params body scope dV kV doc pm an cdv ct) ⟨pos, kw⟩ binds) (hloc : ∀ y ∈ binds, scope.names.lookup y.1 = some .local)
    (hco : scope.isCoroutine = false) (hgen : scope.isGenerator = false) (hk : scope.kind = .function) (hcell : ∀ x ∈ scope.names, x.2 ≠ .cell)
    (h : ∀ L h₁ tk, Fr s.heap L h₁ (fun y => binds.reverse.lookup y) → News s.heap L h₁ [] →
      wpAny (model prog w) (A.deeper (envOf qual scope L f cdv)) (execs body (envOf qual scope L f cdv))
        (fun fl s' => Q (match fl with | .ret v => v | _ => .none) s') (fun _ _ => False) { s with heap := h₁, toks := tk }) :
    wpAny (model prog w) A (call (.ref f) pos kw) Q E s := by
  refine wpAny_call ?_
  refine codeAny_call_def (fd := fnOf name qual params body scope dV kV doc pm an cdv ct) (body := body) (binds := binds) hroom (X _ _ ho) rfl hlim (codeRec_of X hcd) rfl hbind hcell hloc (fun h₁ hns hk₁ => ?_) hco hgen hk
  exact wpAny_mono (h s.heap.objs.size h₁ (s.toks + binds.length) ⟨hns, hk₁, Nat.le_refl _⟩ News.nil) (fun fl s' hl => hl) fun _ _ y => y.elim

theorem enterC (X : K.In s.heap) (hlim : s.heap.NoLimit)
    (ho : K.lookup f = some ⟨oc, od, .func (fnOf name qual params body scope dV kV doc pm an cdv ct), osl⟩) (hcd : codeIn K cdv qual = true) (hroom : A.depth < recursionLimit)
    (hbind : BindsTo s (fnOf name qual params body scope dV kV doc pm an cdv ct) ⟨pos, kw⟩ binds)
    (hkind : (binds.all fun y => scope.names.lookup y.1 == some .local || scope.names.lookup y.1 == some .cell) = true)
    (hnd : ((cellsFrom 0 scope.names []).map (·.1)).Nodup)
    (hco : scope.isCoroutine = false) (hgen : scope.isGenerator = false) (hk : scope.kind = .function)
    (h : ∀ L h₁ tk cells, Fr s.heap L h₁ (bindL (envOfC qual scope L f cdv).kindOf binds fun _ => none) → News s.heap L h₁ cells →
      CellsAre (bindC (envOfC qual scope L f cdv).kindOf binds fun _ => none) (cellsFrom (L + 1) scope.names []) cells →
      wpAny (model prog w) (A.deeper (envOfC qual scope L f cdv)) (execs body (envOfC qual scope L f cdv))
        (fun fl s' => Q (match fl with | .ret v => v | _ => .none) s') (fun _ _ => False) { s with heap := h₁, toks := tk }) :
    wpAny (model prog w) A (call (.ref f) pos kw) Q E s := by
  refine wpAny_call ?_
  refine codeAny_call_function hroom (X _ _ ho) rfl hco hgen rfl (codeRec_of X hcd) (hbind _ _ _ _ ?_)
  refine wpAny_newFunctionEnv_cells hk (kindsX hkind _) fun env' he s' x => ?_
  subst he
  refine ⟨hlim.keeps x.toInCall.keep, codeAny_func ?_⟩
  obtain ⟨h₁, tk, rfl, _⟩ := x.done
  have hk₁ := x.toInCall.keep
  obtain ⟨cells, NC, Y⟩ := Cl.news (h₀ := s.heap) (Nat.le_refl _) fun n c hm => ⟨x.cell n c (lookup_of_mem_nodup (cellsFrom_names scope.names 0 (s.heap.objs.size + 1) [] [] rfl ▸ hnd) hm), x.above n c hm⟩
  exact wpAny_mono (h s.heap.objs.size h₁ tk cells ⟨x.toInCall.ns, hk₁, Nat.le_refl _⟩ NC Y) (fun fl s' hl => hl) fun _ _ y => y.elim
end

/-- names of a frame that are known -/
def Knows (m : Str → Option Value) : List (Str × Value) → Prop
  | [] => True
  | p :: r => m p.1 = some p.2 ∧ Knows m r
theorem Knows.get {m : Str → Option Value} {x : Str} {v : Value} : ∀ {l : List (Str × Value)}, Knows m l → l.lookup x = some v → m x = some v
  | [], _, h => by cases h
  | (y, u) :: r, ⟨h1, h2⟩, h => by
    rw [List.lookup_cons] at h
    cases e : x == y with
    | true =>
      rw [e] at h
      obtain rfl := Option.some.inj h
      rw [beq_iff_eq.mp e]; exact h1
    | false =>
      rw [e] at h
      exact h2.get h
theorem Knows.upd {m : Str → Option Value} {x : Str} {v : Option Value} : ∀ {l : List (Str × Value)}, (l.all fun p => p.1 != x) = true → Knows m l → Knows (fun y => if y = x then v else m y) l
  | [], _, _ => trivial
  | (y, u) :: r, h, ⟨h1, h2⟩ => by
    rw [List.all_cons, Bool.and_eq_true] at h
    have hy : y ≠ x := by simpa using h.1
    exact ⟨by show (if y = x then v else m y) = some u; rw [if_neg hy, h1], h2.upd h.2⟩
theorem Fr_more {h₀ h : Heap} {L : Addr} {m : Str → Option Value} (F : Fr h₀ L h m) {l : List (Str × Value)} (hl : Knows m l) : Fr h₀ L h (fun y => (l.lookup y).or (m y)) := by
  have e : (fun y => (l.lookup y).or (m y)) = m := by
    funext y
    cases q : l.lookup y with
    | none => rfl
    | some v => rw [hl.get q]; rfl
  rw [e]; exact F
theorem Fr_cong {h₀ h : Heap} {L : Addr} {m m' : Str → Option Value} (F : Fr h₀ L h m) (e : ∀ y, m y = m' y) : Fr h₀ L h m' := (funext e : m = m') ▸ F

/-- what a turn of a loop must end in -/
def Turn (h₀ : Heap) (L : Addr) (J : (Str → Option Value) → List (Addr × Obj) → Prop) (own : List (Addr × Obj)) (s₁ : Shared) (Q : Flow → Shared → Prop) (f : Flow) (s₂ : Shared) : Prop :=
  match f with
  | .ret v => Q (.ret v) s₂
  | .brk => Q .next s₂
  | _ => ∃ h' tk m' mt', s₂ = { s₁ with heap := h', toks := tk } ∧ Fr h₀ L h' m' ∧ News h₀ L h' (mt' ++ own) ∧ OwnOff own (mt'.map (·.1)) ∧ J m' mt'

section
variable {prog : Program} {w : World} {A : Around} {E : Value → Shared → Prop} {s : Shared} {env : Env} {h₀ : Heap} {x : Str} {body : List Stmt} {Q : Flow → Shared → Prop}
theorem loopAt {I : Addr} {fp wr : List Addr} {n : Nat} {P : Nat → Value → Prop} {St : Nat → Heap → Prop} {m₀ : Str → Option Value} {mt fixed : List (Addr × Obj)}
    (W : Walks prog w A I fp wr n P St) (hLf : env.locals ∉ fp) (hwr : ∀ b ∈ wr, h₀.get? b = none) (hmw : ∀ p ∈ mt, p.1 ∉ wr) (hfw : ∀ p ∈ fixed, p.1 ∉ wr)
    (hfp : ∀ b ∈ fp, b ∈ wr ∨ (∃ o, h₀.get? b = some o) ∨ ∃ o, (b, o) ∈ fixed) (hex : ∀ i h, St i h → ∀ b ∈ wr, ∃ o, h.get? b = some o)
    (hoff : OwnOff fixed (mt.map (·.1))) (hst : St 0 s.heap) (F : Fr h₀ env.locals s.heap m₀) (N : News h₀ env.locals s.heap (mt ++ fixed))
    (J : Nat → (Str → Option Value) → List (Addr × Obj) → Prop) (hj : J 0 m₀ mt)
    (turn : ∀ i v m₁ mt₁ h tk own, i < n → P i v → J i m₁ mt₁ → OwnOff own (mt₁.map (·.1)) → (∀ p ∈ fixed, p ∈ own) →
      Fr h₀ env.locals h (fun y => if y = x then some v else m₁ y) → News h₀ env.locals h (mt₁ ++ own) →
      wpAny (model prog w) A (execs body env) (Turn h₀ env.locals (J (i + 1)) own { s with heap := h, toks := tk } Q) E { s with heap := h, toks := tk })
    (done : ∀ m₁ mt₁ h tk, J n m₁ mt₁ → Fr h₀ env.locals h m₁ → News h₀ env.locals h (mt₁ ++ fixed) → OwnOff fixed (mt₁.map (·.1)) → Q .next { s with heap := h, toks := tk }) :
    LoopAtV prog w A h₀ env x body Q E (.ref I) s := by
  refine ⟨I, fp, wr, n, P, St, m₀, mt ++ fixed, fun i m₁ news₁ => ∃ mt₁, news₁ = mt₁ ++ fixed ∧ J i m₁ mt₁ ∧ OwnOff fixed (mt₁.map (·.1)), rfl, W, hLf, hwr, ?_, hst, F, N, ⟨mt, rfl, hj, hoff⟩, ?_, ?_⟩
  · intro p hp
    exact (List.mem_append.mp hp).elim (hmw p) (hfw p)
  · rintro i v m₁ news₁ s₁ own ⟨hh', tk', rfl⟩ hi hP ⟨mt₁, rfl, hJ, hof⟩ hoffw hown hownget hin hst₁ F₁ N₁
    have hA : ∀ q ∈ mt₁, ∀ p ∈ own, p.1 ≠ q.1 := by
      intro q hq p hp e
      rcases hfp _ (hown p hp) with h1 | ⟨o, h1⟩ | ⟨o, h1⟩
      · exact hoffw q (List.mem_append_left _ hq) (e ▸ h1)
      · have := (N₁ q (List.mem_append_right _ (List.mem_append_left _ hq))).2.2
        rw [← e, h1] at this; cases this
      · exact hof _ h1 _ (List.mem_map_of_mem hq) e
    have hO : OwnOff (own ++ fixed) (mt₁.map (·.1)) := by
      intro p hp b hb
      obtain ⟨q, hq, rfl⟩ := List.mem_map.mp hb
      rcases List.mem_append.mp hp with h1 | h1
      · exact hA q hq p h1
      · exact hof p h1 _ hb
    have N₂ : News h₀ env.locals hh' (mt₁ ++ (own ++ fixed)) := fun p hp => by
      refine N₁ p ?_
      simp only [List.mem_append] at hp ⊢
      rcases hp with h | h | h
      · exact .inr (.inl h)
      · exact .inl h
      · exact .inr (.inr h)
    refine wpAny_mono (turn i v m₁ mt₁ hh' tk' (own ++ fixed) hi hP hJ hO (fun p hp => List.mem_append_right _ hp) F₁ N₂) (fun f s₂ p => ?_) fun _ _ e => e
    have fin : (∃ h' tk m' mt', s₂ = { s with heap := h', toks := tk } ∧ Fr h₀ env.locals h' m' ∧ News h₀ env.locals h' (mt' ++ (own ++ fixed)) ∧ OwnOff (own ++ fixed) (mt'.map (·.1)) ∧ J (i + 1) m' mt') →
        LoopStepU h₀ env.locals wr own (fun m₁ news₁ => ∃ mt₁, news₁ = mt₁ ++ fixed ∧ J (i + 1) m₁ mt₁ ∧ OwnOff fixed (mt₁.map (·.1))) { s with heap := hh', toks := tk' } .next s₂ := by
      rintro ⟨h', tk, m', mt', e, F', N', hn, hm⟩
      refine ⟨rfl, h', tk, m', mt' ++ fixed, e, F', fun p hp => N' p ?_, fun p hp hw => ?_, mt', rfl, hm, fun p hp b hb => hn p (List.mem_append_right _ hp) b hb⟩
      · simp only [List.mem_append] at hp ⊢
        rcases hp with h | h | h
        · exact .inr (.inl h)
        · exact .inl h
        · exact .inr (.inr h)
      · rcases List.mem_append.mp hp with h1 | h1
        · obtain ⟨o, ho⟩ := hex _ _ hst₁ _ hw
          exact hn _ (List.mem_append_left _ (hin _ (W.sub _ hw) (hwr _ hw) o ho)) _ (List.mem_map_of_mem h1) rfl
        · exact hfw p h1 hw
    cases f with
    | ret v => exact .ret p
    | brk => exact .brk p
    | next => exact .next (fin p)
    | cont => exact .cont (fin p)
  · rintro h' tk m' news' F' N' _ ⟨mt₁, rfl, hJ, hof⟩
    exact done m' mt₁ h' tk hJ F' N' hof

theorem above_lt {L : Addr} {h : Heap} {m : Str → Option Value} (F : Fr h₀ L h m) : L < h.objs.size := F.ns.lt

theorem iter_list {l : Addr} {vs : Array Value} {m₀ : Str → Option Value} {mt fixed : List (Addr × Obj)}
    (hh : A.handled = none) (hl : s.heap.IsList l vs) (hlf : (∃ o, h₀.get? l = some o) ∨ ∃ o, (l, o) ∈ fixed)
    (hoff : OwnOff fixed (mt.map (·.1))) (F : Fr h₀ env.locals s.heap m₀) (N : News h₀ env.locals s.heap (mt ++ fixed)) (hLl : env.locals ≠ l)
    (J : Nat → (Str → Option Value) → List (Addr × Obj) → Prop) (hj : J 0 m₀ mt)
    (turn : ∀ i v m₁ mt₁ h tk own, i < vs.size → vs[i]? = some v → J i m₁ mt₁ → OwnOff own (mt₁.map (·.1)) → (∀ p ∈ fixed, p ∈ own) →
      Fr h₀ env.locals h (fun y => if y = x then some v else m₁ y) → News h₀ env.locals h (mt₁ ++ own) →
      wpAny (model prog w) A (execs body env) (Turn h₀ env.locals (J (i + 1)) own { s with heap := h, toks := tk } Q) E { s with heap := h, toks := tk })
    (done : ∀ m₁ mt₁ h tk, J vs.size m₁ mt₁ → Fr h₀ env.locals h m₁ → News h₀ env.locals h (mt₁ ++ fixed) → OwnOff fixed (mt₁.map (·.1)) → Q .next { s with heap := h, toks := tk }) :
    wpAny (model prog w) A (pyIter (.ref l)) (fun it s₂ => LoopAtV prog w A h₀ env x body Q E it s₂) E s := by
  have hne : l ≠ s.heap.objs.size := by
    obtain ⟨o, ho, _⟩ := hl
    exact Nat.ne_of_lt (Heap.lt_size ho)
  refine wpAny_pyIter_list hl ?_
  have W := Walks.list (prog := prog) (w := w) hh s.heap.objs.size l hne vs
  have up : ∀ p ∈ mt ++ fixed, p.1 ∉ [s.heap.objs.size] := fun p hp hI =>
    absurd (Heap.lt_size (N p hp).1) ((List.mem_singleton.mp hI) ▸ Nat.lt_irrefl _)
  refine loopAt (s := { s with heap := s.heap.push { cls := .type "list_iterator", data := .fields #[.ref l, .int 0 0] } }) W ?_ ?_ (fun p hp => up p (List.mem_append_left _ hp)) (fun p hp => up p (List.mem_append_right _ hp)) ?_ ?_ hoff
    ⟨⟨_, Heap.get?_push_size _ rfl, rfl, rfl⟩, hl.at fun o e => Heap.get?_push_of_some _ e⟩ (F.push _) (fun p hp => ⟨Heap.get?_push_of_some _ (N p hp).1, (N p hp).2⟩) J hj ?_ ?_
  · intro hm
    rcases List.mem_cons.mp hm with e | hm
    · exact absurd F.ns.lt (e ▸ Nat.lt_irrefl _)
    · exact hLl (List.mem_singleton.mp hm)
  · intro b hb
    rw [List.mem_singleton.mp hb]
    exact next_is_new F
  · intro b hb
    rcases List.mem_cons.mp hb with rfl | hb
    · exact .inl (List.mem_singleton.mpr rfl)
    · rw [List.mem_singleton.mp hb]; exact .inr hlf
  · rintro i h ⟨⟨o, ho, _⟩, _⟩ b hb
    rw [List.mem_singleton.mp hb]; exact ⟨o, ho⟩
  · exact turn
  · exact done

theorem iter_str {y : Str} {ty : Tok} {m₀ : Str → Option Value} {mt fixed : List (Addr × Obj)}
    (hh : A.handled = none) (hoff : OwnOff fixed (mt.map (·.1))) (F : Fr h₀ env.locals s.heap m₀) (N : News h₀ env.locals s.heap (mt ++ fixed))
    (J : Nat → (Str → Option Value) → List (Addr × Obj) → Prop) (hj : J 0 m₀ mt)
    (turn : ∀ i c u m₁ mt₁ h tk own, i < y.cps.size → y.cps[i]? = some c → J i m₁ mt₁ → OwnOff own (mt₁.map (·.1)) → (∀ p ∈ fixed, p ∈ own) →
      Fr h₀ env.locals h (fun z => if z = x then some (.str ⟨#[c]⟩ u) else m₁ z) → News h₀ env.locals h (mt₁ ++ own) →
      wpAny (model prog w) A (execs body env) (Turn h₀ env.locals (J (i + 1)) own { s with heap := h, toks := tk } Q) E { s with heap := h, toks := tk })
    (done : ∀ m₁ mt₁ h tk, J y.cps.size m₁ mt₁ → Fr h₀ env.locals h m₁ → News h₀ env.locals h (mt₁ ++ fixed) → OwnOff fixed (mt₁.map (·.1)) → Q .next { s with heap := h, toks := tk }) :
    wpAny (model prog w) A (pyIter (.str y ty)) (fun it s₂ => LoopAtV prog w A h₀ env x body Q E it s₂) E s := by
  have up : ∀ p ∈ mt ++ fixed, p.1 ∉ [s.heap.objs.size] := fun p hp hI =>
    absurd (Heap.lt_size (N p hp).1) ((List.mem_singleton.mp hI) ▸ Nat.lt_irrefl _)
  have h1 : env.locals ∉ [s.heap.objs.size] := fun hm => absurd F.ns.lt ((List.mem_singleton.mp hm) ▸ Nat.lt_irrefl _)
  have h2 : ∀ b ∈ [s.heap.objs.size], h₀.get? b = none := fun b hb => by rw [List.mem_singleton.mp hb]; exact next_is_new F
  have tn : ∀ (o : Obj) i v m₁ mt₁ h tk own, i < y.cps.size → SignAt y i v → J i m₁ mt₁ → OwnOff own (mt₁.map (·.1)) → (∀ p ∈ fixed, p ∈ own) →
      Fr h₀ env.locals h (fun y => if y = x then some v else m₁ y) → News h₀ env.locals h (mt₁ ++ own) →
      wpAny (model prog w) A (execs body env) (Turn h₀ env.locals (J (i + 1)) own { s with heap := h, toks := tk } Q) E { s with heap := h, toks := tk } := by
    rintro o i v m₁ mt₁ h tk own hi ⟨c, u, hc, rfl⟩ hJ ho hf F N
    exact turn i c u m₁ mt₁ h tk own hi hc hJ ho hf F N
  cases ha : y.cps.all (· < 128)
  · refine wpAny_pyIter_wide ha (loopAt (Walks.strWide hh _ y ty) h1 h2 (fun p hp => up p (List.mem_append_left _ hp)) (fun p hp => up p (List.mem_append_right _ hp)) (fun b hb => .inl hb) ?_ hoff
      ⟨_, Heap.get?_push_size _ rfl, rfl, rfl⟩ (F.push _) (fun p hp => ⟨Heap.get?_push_of_some _ (N p hp).1, (N p hp).2⟩) J hj (tn default) done)
    rintro i h ⟨o, ho, _⟩ b hb
    rw [List.mem_singleton.mp hb]; exact ⟨o, ho⟩
  · refine wpAny_pyIter_ascii ha (loopAt (Walks.strAscii hh _ y ty) h1 h2 (fun p hp => up p (List.mem_append_left _ hp)) (fun p hp => up p (List.mem_append_right _ hp)) (fun b hb => .inl hb) ?_ hoff
      ⟨_, Heap.get?_push_size _ rfl, rfl, rfl⟩ (F.push _) (fun p hp => ⟨Heap.get?_push_of_some _ (N p hp).1, (N p hp).2⟩) J hj (tn default) done)
    rintro i h ⟨o, ho, _⟩ b hb
    rw [List.mem_singleton.mp hb]; exact ⟨o, ho⟩

theorem small_up (n : Nat) (hn : n < 2 ^ 40) : Builtin.Range.small 0 (n : Int) 1 = true ∧ Builtin.Range.rangeSize 0 (n : Int) 1 = n := by
  have e : Builtin.Range.rangeSize 0 (n : Int) 1 = n := by
    unfold Builtin.Range.rangeSize
    simp
    omega
  refine ⟨?_, e⟩
  unfold Builtin.Range.small
  rw [e]
  simp [Builtin.Range.rangeFitsLong]
  omega

theorem iter_range {r : Addr} {n : Nat} {t u v : Tok} {m₀ : Str → Option Value} {mt fixed : List (Addr × Obj)}
    (hh : A.handled = none) (hr : IsRange s.heap r 0 (n : Int) 1 t u v) (hn : n < 2 ^ 40)
    (hoff : OwnOff fixed (mt.map (·.1))) (F : Fr h₀ env.locals s.heap m₀) (N : News h₀ env.locals s.heap (mt ++ fixed))
    (J : Nat → (Str → Option Value) → List (Addr × Obj) → Prop) (hj : J 0 m₀ mt)
    (turn : ∀ i q m₁ mt₁ h tk own, i < n → J i m₁ mt₁ → OwnOff own (mt₁.map (·.1)) → (∀ p ∈ fixed, p ∈ own) →
      Fr h₀ env.locals h (fun z => if z = x then some (.int (i : Int) q) else m₁ z) → News h₀ env.locals h (mt₁ ++ own) →
      wpAny (model prog w) A (execs body env) (Turn h₀ env.locals (J (i + 1)) own { s with heap := h, toks := tk } Q) E { s with heap := h, toks := tk })
    (done : ∀ m₁ mt₁ h tk, J n m₁ mt₁ → Fr h₀ env.locals h m₁ → News h₀ env.locals h (mt₁ ++ fixed) → OwnOff fixed (mt₁.map (·.1)) → Q .next { s with heap := h, toks := tk }) :
    wpAny (model prog w) A (pyIter (.ref r)) (fun it s₂ => LoopAtV prog w A h₀ env x body Q E it s₂) E s := by
  obtain ⟨e1, e2⟩ := small_up n hn
  have up : ∀ p ∈ mt ++ fixed, p.1 ∉ [s.heap.objs.size] := fun p hp hI =>
    absurd (Heap.lt_size (N p hp).1) ((List.mem_singleton.mp hI) ▸ Nat.lt_irrefl _)
  have h1 : env.locals ∉ [s.heap.objs.size] := fun hm => absurd F.ns.lt ((List.mem_singleton.mp hm) ▸ Nat.lt_irrefl _)
  have h2 : ∀ b ∈ [s.heap.objs.size], h₀.get? b = none := fun b hb => by rw [List.mem_singleton.mp hb]; exact next_is_new F
  refine wpAny_pyIter_range hr e1 ?_
  rw [e2]
  refine loopAt (s := { s with heap := s.heap.push { cls := .type "range_iterator", data := .fields #[rawInt 0, rawInt n, rawInt 1] } }) (Walks.range hh _ 0 1 n) h1 h2 (fun p hp => up p (List.mem_append_left _ hp)) (fun p hp => up p (List.mem_append_right _ hp)) (fun b hb => .inl hb) ?_ hoff
    ?_ (F.push _) (fun p hp => ⟨Heap.get?_push_of_some _ (N p hp).1, (N p hp).2⟩) J hj ?_ done
  · rintro i h ho b hb
    rw [List.mem_singleton.mp hb]; exact ⟨_, ho⟩
  · show (s.heap.push _).get? s.heap.objs.size = _
    rw [Heap.get?_push_size _ rfl]
    simp
  · rintro i v m₁ mt₁ h tk own hi ⟨q, rfl⟩ hJ ho hf F N
    refine turn i q m₁ mt₁ h tk own hi hJ ho hf ?_ N
    simpa using F
end
end Mine
end
section
open PySem PySem.W PyProof.Rows PySem.Calls PySem.Spec PySem.Builtin PySem.Builtin.Str PySem.StrLaws
namespace Mine

/-- the code points as a list -/
abbrev cl (x : Str) : List Nat := x.cps.toList
/-- a text of a list of code points -/
abbrev tx (l : List Nat) : Str := ⟨l.toArray⟩
theorem cl_tx (l : List Nat) : cl (tx l) = l := rfl
theorem tx_cl (x : Str) : tx (cl x) = x := rfl
theorem cl_len (x : Str) : (cl x).length = x.length := rfl

def dots : Str := Str.ofString "..."
theorem dots_cl : cl dots = [46, 46, 46] := by decide +kernel
theorem dots_len : dots.length = 3 := by decide +kernel

/-- what the law's gaps make of a word that is not empty -/
def gapL (l : List Nat) : List Nat := [46, 46, 46] ++ l.flatMap fun d => [d, 46, 46, 46]

theorem join_cl (l : List Nat) : ∀ c, cl (Str.join dots ((c :: l).map fun n => (⟨#[n]⟩ : Str))) = c :: l.flatMap fun d => [46, 46, 46, d] := by
  induction l with
  | nil => intro c; rfl
  | cons d l ih =>
    intro c
    have h : Str.join dots ((c :: d :: l).map fun n => (⟨#[n]⟩ : Str)) = (⟨#[c]⟩ : Str) ++ dots ++ Str.join dots ((d :: l).map fun n => (⟨#[n]⟩ : Str)) := rfl
    rw [h]
    show (((⟨#[c]⟩ : Str) ++ dots ++ Str.join dots ((d :: l).map fun n => (⟨#[n]⟩ : Str))).cps).toList = _
    rw [Str.cps_append, Str.cps_append, Array.toList_append, Array.toList_append, show (Str.join dots ((d :: l).map fun n => (⟨#[n]⟩ : Str))).cps.toList = _ from ih d, show dots.cps.toList = [46, 46, 46] from dots_cl]
    simp

theorem shift_dots (l : List Nat) : ∀ c, c :: (l.flatMap fun d => [46, 46, 46, d]) ++ [46, 46, 46] = (c :: l).flatMap fun d => [d, 46, 46, 46] := by
  induction l with
  | nil => intro c; rfl
  | cons d l ih =>
    intro c
    have := ih d
    simp only [List.flatMap_cons, List.cons_append, List.nil_append] at this ⊢
    rw [← this]

def gaps (word : Str) : Str := dots ++ Txt.join dots (signs word) ++ dots

theorem gaps_cl {word : Str} (h : cl word ≠ []) : cl (gaps word) = gapL (cl word) := by
  unfold gaps
  show ((dots ++ Txt.join dots (signs word) ++ dots).cps).toList = _
  rw [Str.cps_append, Str.cps_append, Array.toList_append, Array.toList_append, show dots.cps.toList = [46, 46, 46] from dots_cl]
  show _ ++ cl (glued dots (signs word)) ++ _ = _
  rw [glued_eq_join]
  unfold signs
  show _ ++ cl (Str.join dots ((cl word).map _)) ++ _ = gapL (cl word)
  cases hw : cl word with
  | nil => exact absurd hw h
  | cons c l =>
    rw [join_cl]
    unfold gapL
    rw [← shift_dots, List.append_assoc]

theorem at_iff (x : Str) (k : Nat) : At x dots x.length k ↔ ((cl x).drop k).take 3 = [46, 46, 46] := by
  unfold At
  rw [subAt_eq, dots_len, show dots.cps.toList = [46, 46, 46] from dots_cl]
  simp only [beq_iff_eq]
  refine ⟨fun h => h.2, fun h => ⟨?_, h⟩⟩
  have := congrArg List.length h
  simp only [List.length_take, List.length_drop, List.length_cons, List.length_nil, cl_len] at this
  omega

theorem sub_eq (x : Str) (i j : Nat) (l : List Nat) (h : ((cl x).drop i).take (j - i) = l) : strSub x i j = tx l := by
  have : cl (strSub x i j) = l := by rw [← h]; exact strSub_toList x i j
  rw [← this]

theorem parts_of (x : Str) : ∀ (l pre : List Nat) (cuts : List Nat) (f : Nat), 46 ∉ l → cl x = pre ++ (l.flatMap fun d => [d, 46, 46, 46]) →
    ChainG x dots x.length pre.length cuts f → (∀ k, f ≤ k → ¬ At x dots x.length k) → partsFrom x 3 pre.length cuts = (l.map fun n => tx [n]) ++ [tx []] := by
  intro l
  induction l with
  | nil =>
    intro pre cuts f _ hx hc hf
    have hlen : x.length = pre.length := by rw [← cl_len, hx]; simp
    cases cuts with
    | nil =>
      show [strSub x pre.length x.length] = _
      rw [sub_eq x _ _ [] (by rw [hlen]; simp)]
      rfl
    | cons c r =>
      have h1 := hc.2.1.1
      have h2 := hc.1
      rw [dots_len] at h1
      omega
  | cons d l ih =>
    intro pre cuts f hd hx hc hf
    have hd1 : d ≠ 46 := fun e => hd (by simp [e])
    have hx' : cl x = pre ++ d :: 46 :: 46 :: 46 :: (l.flatMap fun d => [d, 46, 46, 46]) := by rw [hx]; simp
    have n0 : ¬ At x dots x.length pre.length := by
      rw [at_iff, hx', List.drop_left]
      simp [hd1]
    have n1 : At x dots x.length (pre.length + 1) := by
      rw [at_iff, hx', ← List.drop_drop, List.drop_left]
      simp
    cases cuts with
    | nil =>
      have e : f = pre.length := hc
      exact absurd n1 (hf _ (by omega))
    | cons c r =>
      obtain ⟨h1, h2, h3, h4⟩ := hc
      have hcc : c = pre.length + 1 := by
        rcases Nat.lt_trichotomy c (pre.length + 1) with q | q | q
        · have : c = pre.length := by omega
          exact absurd (this ▸ h2) n0
        · exact q
        · exact absurd n1 (h3 _ (by omega) q)
      subst hcc
      have hp : (pre ++ [d, 46, 46, 46]).length = pre.length + 1 + dots.length := by rw [dots_len]; simp
      have := ih (pre ++ [d, 46, 46, 46]) r f (fun q => hd (by simp [q])) (by rw [hx']; simp) (hp ▸ h4) hf
      rw [hp] at this
      show strSub x pre.length (pre.length + 1) :: partsFrom x 3 (pre.length + 1 + 3) r = _
      rw [sub_eq x _ _ [d] (by rw [hx', List.drop_left]; simp)]
      rw [dots_len] at this
      rw [this]
      rfl

theorem split_gaps {x : Str} {l : List Nat} (hx : cl x = gapL l) (hl : 46 ∉ l) : Txt.split x dots = tx [] :: ((l.map fun n => tx [n]) ++ [tx []]) := by
  have hlen : 3 ≤ x.length := by rw [← cl_len, hx]; simp [gapL]
  unfold Txt.split
  have hk : ¬ Builtin.Str.strKind x < Builtin.Str.strKind dots := by
    have h1 : Builtin.Str.strKind dots = 1 := by decide +kernel
    rw [h1]
    unfold Builtin.Str.strKind
    split
    · omega
    · split <;> omega
  have h0 : (decide (x.length < dots.length) || decide (Builtin.Str.strKind x < Builtin.Str.strKind dots)) = false := by
    rw [dots_len]
    simp only [Bool.or_eq_false_iff, decide_eq_false_iff_not]
    exact ⟨by omega, hk⟩
  rw [h0]
  obtain ⟨f, hc, hf⟩ := occ_tight x dots (by rw [dots_len]; omega)
  have a0 : At x dots x.length 0 := by rw [at_iff, hx]; simp [gapL]
  generalize occurrences x dots 0 x.length (x.length + 1) = cuts at hc
  cases cuts with
  | nil =>
    have e : f = 0 := hc
    exact absurd a0 (hf 0 (by omega))
  | cons c r =>
    obtain ⟨h1, h2, h3, h4⟩ := hc
    have hcc : c = 0 := by
      rcases Nat.eq_zero_or_pos c with q | q
      · exact q
      · exact absurd a0 (h3 0 (Nat.zero_le _) q)
    subst hcc
    simp only [Bool.false_eq_true, if_false, List.isEmpty_cons, partsBetween_eq]
    rw [dots_len] at h4
    have := parts_of x l [46, 46, 46] r f hl (by rw [hx]; rfl) h4 hf
    show strSub x 0 0 :: partsFrom x dots.length (0 + dots.length) r = _
    rw [dots_len]
    show strSub x 0 0 :: partsFrom x 3 3 r = _
    have this' : partsFrom x 3 3 r = (l.map fun n => tx [n]) ++ [tx []] := this
    rw [this', sub_eq x 0 0 [] (by simp)]

theorem has_dots {x : Str} {l : List Nat} (hx : cl x = gapL l) : (occurrences x dots 0 x.length 1).isEmpty = false := by
  have a0 : At x dots x.length 0 := by rw [at_iff, hx]; simp [gapL]
  rcases occ_head_from x dots 0 1 (Nat.le_refl 1) with ⟨_, hn⟩ | ⟨i, r, e, _⟩
  · exact absurd a0 (hn 0 (Nat.le_refl 0))
  · rw [e]; rfl

/-- find, with two bounds -/
def find4 (x y : Str) (i j : Int) : Int := match occurrences x y (fromIndex x.length i) (min (fromIndex x.length j) x.length) 1 with | k :: _ => (k : Int) | [] => -1
theorem gives_find4 (x y : Str) (i j : Int) (t u v v' : Tok) : Gives («str.find» ⟨[.str x t, .str y u, .int i v, .int j v'], []⟩) (.int (find4 x y i j)) := by
  show Gives (match occurrences x y (fromIndex x.length i) (min (fromIndex x.length j) x.length) 1 with | k :: _ => retInt k | [] => (do rule "str.find.not-found"; retInt (-1))) _
  unfold find4
  cases occurrences x y (fromIndex x.length i) (min (fromIndex x.length j) x.length) 1 with
  | nil => exact .rule (.of_eq rfl)
  | cons k _ => exact .of_eq rfl
theorem call_find4 {prog : Program} {w : World} {A : Around} {E : Value → Shared → Prop} {s : Shared} {x y : Str} {t u v v' : Tok} {i j : Int} {Q : Value → Shared → Prop}
    (hq : Q (.int (find4 x y i j) s.toks) { s with toks := s.toks + 1 }) : wpAny (model prog w) A (call (.builtin "str.find") [.str x t, .str y u, .int i v, .int j v']) Q E s :=
  call_gives F.slot_str_find (typeIs_str _ _ _) F.entry_str_find (F.args_str_find_4 _ _ _ _) (gives_find4 x y i j t u v v') hq

theorem find4_eq (x y : Str) (k : Nat) : find4 x y (k : Int) (x.length : Int) = match occurrences x y k x.length 1 with | k :: _ => (k : Int) | [] => -1 := by
  unfold find4
  have e1 : fromIndex x.length (k : Int) = k := by unfold fromIndex; rw [if_neg (by omega)]; omega
  have e2 : fromIndex x.length (x.length : Int) = x.length := by unfold fromIndex; rw [if_neg (by omega)]; omega
  rw [e1, e2, Nat.min_self]

theorem find4_nil (x : Str) (k : Nat) (hk : k ≤ x.length) : find4 x (tx []) (k : Int) (x.length : Int) = k := by
  rw [find4_eq]
  have ha : ∀ i, i ≤ x.length → At x (tx []) x.length i := fun i hi => ⟨hi, by rw [subAt_eq]; rfl⟩
  rcases occ_head_from x (tx []) k 1 (Nat.le_refl 1) with ⟨_, hn⟩ | ⟨i, r, e, h1, h2, h3⟩
  · exact absurd (ha k hk) (hn k (Nat.le_refl k))
  · rw [e]
    rcases Nat.lt_or_ge k i with q | q
    · exact absurd (ha k hk) (h3 k (Nat.le_refl k) q)
    · have : i = k := by omega
      simp [this]

theorem at_one (x : Str) (c k : Nat) : At x (tx [c]) x.length k ↔ (cl x)[k]? = some c := by
  unfold At
  rw [subAt_eq]
  show (k + 1 ≤ x.length ∧ ((cl x).drop k).take 1 == [c]) ↔ _
  simp only [beq_iff_eq]
  rw [← cl_len]
  generalize cl x = l
  constructor
  · rintro ⟨h1, h2⟩
    have h3 : k < l.length := h1
    rw [List.drop_eq_getElem_cons h3, List.take_succ_cons, List.take_zero] at h2
    rw [List.getElem?_eq_getElem h3, List.head_eq_of_cons_eq h2]
  · intro h
    obtain ⟨h3, h4⟩ := List.getElem?_eq_some_iff.mp h
    refine ⟨h3, ?_⟩
    rw [List.drop_eq_getElem_cons h3]
    simp [h4]

theorem find4_one (x : Str) (c k : Nat) :
    (find4 x (tx [c]) (k : Int) (x.length : Int) = -1 ∧ ∀ v, k ≤ v → (cl x)[v]? ≠ some c) ∨
    ∃ i : Nat, find4 x (tx [c]) (k : Int) (x.length : Int) = (i : Int) ∧ k ≤ i ∧ i < x.length ∧ (cl x)[i]? = some c ∧ ∀ v, k ≤ v → v < i → (cl x)[v]? ≠ some c := by
  rw [find4_eq]
  rcases occ_head_from x (tx [c]) k 1 (Nat.le_refl 1) with ⟨e, hn⟩ | ⟨i, r, e, h1, h2, h3⟩
  · rw [e]
    exact .inl ⟨rfl, fun v hv h => hn v hv ((at_one x c v).mpr h)⟩
  · rw [e]
    refine .inr ⟨i, rfl, h1, ?_, (at_one x c i).mp h2, fun v hv hl h => h3 v hv hl ((at_one x c v).mpr h)⟩
    have := h2.1
    have e1 : (tx [c]).length = 1 := rfl
    omega

/-- laid along, letter by letter -/
abbrev sub (w l : List Nat) : Bool := w.isSublist l

theorem sub_nil (l : List Nat) : sub [] l = true := by cases l <;> rfl
theorem sub_cons (c d : Nat) (w l : List Nat) : sub (c :: w) (d :: l) = if c = d then sub w l else sub (c :: w) l := by
  show (if (c == d) = true then _ else _) = _
  by_cases h : c = d
  · rw [if_pos h, if_pos (by simp [h])]
  · rw [if_neg h, if_neg (by simp [h])]

theorem sub_miss {c : Nat} {w : List Nat} : ∀ {l : List Nat}, c ∉ l → sub (c :: w) l = false
  | [], _ => rfl
  | d :: l, h => by
    rw [sub_cons, if_neg (fun e => h (by simp [e]))]
    exact sub_miss fun q => h (.tail _ q)

theorem sub_hit {c : Nat} {w : List Nat} : ∀ {l : List Nat} {k : Nat}, l[k]? = some c → (∀ v, v < k → l[v]? ≠ some c) → sub (c :: w) l = sub w (l.drop (k + 1))
  | [], _, h, _ => by simp at h
  | d :: l, 0, h, _ => by
    simp at h
    rw [sub_cons, if_pos h.symm]
    rfl
  | d :: l, k + 1, h, hn => by
    have h0 : d ≠ c := fun e => hn 0 (by omega) (by simp [e])
    rw [sub_cons, if_neg (fun e => h0 e.symm), sub_hit (by simpa using h) fun v hv e => hn (v + 1) (by omega) (by simpa using e)]
    rfl

theorem sub_drop_miss {c k : Nat} {w l : List Nat} (h : ∀ v, k ≤ v → l[v]? ≠ some c) : sub (c :: w) (l.drop k) = false := by
  refine sub_miss fun hm => ?_
  obtain ⟨j, hj⟩ := List.getElem?_of_mem hm
  rw [List.getElem?_drop] at hj
  exact h (k + j) (by omega) hj

theorem sub_drop_hit {c k i : Nat} {w l : List Nat} (hk : k ≤ i) (hi : l[i]? = some c) (h : ∀ v, k ≤ v → v < i → l[v]? ≠ some c) : sub (c :: w) (l.drop k) = sub w (l.drop (i + 1)) := by
  rw [sub_hit (k := i - k) (by rw [List.getElem?_drop, Nat.add_sub_cancel' hk]; exact hi) fun v hv => by rw [List.getElem?_drop]; exact h _ (by omega) (by omega)]
  rw [List.drop_drop]
  congr 2
  omega

/-- a bound of a slice, as a place -/
def clipN (n : Nat) (i : Int) : Nat := (max 0 (min (if i < 0 then i + n else i) (n : Int))).toNat
theorem clipN_le (n : Nat) (i : Int) : clipN n i ≤ n := by unfold clipN; split <;> omega
theorem clipN_nat (n k : Nat) : clipN n (k : Int) = min k n := by unfold clipN; rw [if_neg (by omega)]; omega
theorem clipN_neg (n : Nat) : clipN n (-1) = n - 1 := by unfold clipN; rw [if_pos (by omega)]; omega
def loN (n : Nat) : Option Int → Nat
  | none => 0
  | some i => clipN n i
def hiN (n : Nat) : Option Int → Nat
  | none => n
  | some i => clipN n i

theorem range_plain (a b : Nat) : sliceRange (a : Int) (b : Int) 1 = (List.range (b - a)).map fun k => a + k := by
  unfold sliceRange
  simp only [show (1 : Int) > 0 from by omega, if_true]
  have e : (if (a : Int) < (b : Int) then ((b : Int) - (a : Int) + 1 - 1) / 1 else 0).toNat = b - a := by
    split
    · rw [Int.ediv_one]; omega
    · show 0 = b - a; omega
  rw [e]
  refine List.map_congr_left fun k _ => ?_
  omega

theorem indices_plain (n : Nat) (l u : Option Int) : strSliceIndices l u 1 n = (List.range (hiN n u - loN n l)).map fun k => loN n l + k := by
  rw [← range_plain]
  have cl' : ∀ i : Int, ((clipN n i : Nat) : Int) = max 0 (min (if i < 0 then i + n else i) (n : Int)) := by intro i; unfold clipN; split <;> omega
  unfold strSliceIndices
  simp only [show (1 : Int) > 0 from by omega, if_true]
  cases l <;> cases u <;> simp only [loN, hiN, cl'] <;> rfl

theorem slice_cl (x : Str) (l u : Option Int) : Txt.slice x l u = tx (((cl x).drop (loN x.length l)).take (hiN x.length u - loN x.length l)) := by
  have h1 : loN x.length l ≤ x.length := by cases l; exact Nat.zero_le _; exact clipN_le _ _
  have h2 : hiN x.length u ≤ x.length := by cases u; exact Nat.le_refl _; exact clipN_le _ _
  have key : (strSliceIndices l u 1 x.length).filterMap (x.cps[·]?) = ((cl x).drop (loN x.length l)).take (hiN x.length u - loN x.length l) := by
    rw [indices_plain]
    rcases Nat.lt_or_ge (hiN x.length u) (loN x.length l) with q | q
    · rw [show hiN x.length u - loN x.length l = 0 by omega]; rfl
    · rw [show (fun i => x.cps[i]?) = fun i => (cl x)[i]? from by funext i; simp [cl]]
      exact picks (cl x) _ _ (by rw [cl_len]; omega)
  unfold Txt.slice
  split
  · rename_i h
    simp only [Bool.and_eq_true, beq_iff_eq] at h
    have h3 := h.2
    rw [indices_plain] at h3
    simp only [List.length_map, List.length_range] at h3
    have e1 : hiN x.length u - loN x.length l = x.length := h3
    rcases Nat.eq_zero_or_pos x.length with q | q
    · have : cl x = [] := List.eq_nil_of_length_eq_zero q
      rw [this]
      simp
      exact (tx_cl x).symm.trans (by rw [this])
    · have e2 : loN x.length l = 0 := by omega
      rw [e1, e2, List.drop_zero, List.take_of_length_le (by rw [cl_len]; omega)]
  · rw [key]

theorem slice_to (x : Str) (k : Nat) : Txt.slice x none (some (k : Int)) = tx ((cl x).take k) := by
  rw [slice_cl]
  show tx (((cl x).drop 0).take (clipN x.length (k : Int) - 0)) = _
  rw [clipN_nat, List.drop_zero, Nat.sub_zero]
  refine congrArg tx ?_
  rcases Nat.lt_or_ge k x.length with q | q
  · rw [Nat.min_eq_left (by omega)]
  · rw [Nat.min_eq_right q, List.take_of_length_le (by rw [cl_len]; omega), List.take_of_length_le (by rw [cl_len]; omega)]

theorem slice_from (x : Str) (k : Nat) : Txt.slice x (some (k : Int)) none = tx ((cl x).drop k) := by
  rw [slice_cl]
  show tx (((cl x).drop (clipN x.length (k : Int))).take (x.length - clipN x.length (k : Int))) = _
  rw [clipN_nat]
  refine congrArg tx ?_
  rw [List.take_of_length_le (by rw [List.length_drop, cl_len]; omega)]
  rcases Nat.lt_or_ge k x.length with q | q
  · rw [Nat.min_eq_left (by omega)]
  · rw [Nat.min_eq_right q, List.drop_of_length_le (by rw [cl_len]; omega), List.drop_of_length_le (by rw [cl_len]; omega)]

theorem slice_both (x : Str) (i k : Nat) : Txt.slice x (some (i : Int)) (some (k : Int)) = tx (((cl x).drop i).take (k - i)) := by
  rw [slice_cl]
  show tx (((cl x).drop (clipN x.length (i : Int))).take (clipN x.length (k : Int) - clipN x.length (i : Int))) = _
  rw [clipN_nat, clipN_nat]
  refine congrArg tx ?_
  rcases Nat.lt_or_ge i x.length with q | q
  · rw [Nat.min_eq_left (a := i) (by omega)]
    rcases Nat.lt_or_ge k x.length with q' | q'
    · rw [Nat.min_eq_left (by omega)]
    · rw [Nat.min_eq_right q', List.take_of_length_le (by rw [List.length_drop, cl_len]; omega), List.take_of_length_le (by rw [List.length_drop, cl_len]; omega)]
  · rw [Nat.min_eq_right (a := i) q, List.drop_of_length_le (by rw [cl_len]; omega), List.drop_of_length_le (by rw [cl_len]; omega)]
    simp

theorem slice_but (x : Str) : Txt.slice x none (some (-1)) = tx (cl x).dropLast := by
  rw [slice_cl]
  show tx (((cl x).drop 0).take (clipN x.length (-1) - 0)) = _
  rw [clipN_neg, List.drop_zero, Nat.sub_zero, List.dropLast_eq_take, cl_len]

theorem slice_rev (x : Str) (u : Tok) : Txt.sliceBy x none none (-1, u) = tx (cl x).reverse := by
  have h := PyProof.Rows.step_rev_list x u
  have h2 : cl (Txt.sliceBy x none none (-1, u)) = (cl x).reverse := by
    rw [show cl (Txt.sliceBy x none none (-1, u)) = _ from h]
    apply List.ext_getElem
    · simp [Str.length]
    · intro i h1 h2
      have hi : i < x.length := by simpa using h1
      simp only [List.getElem_map, List.getElem_range, List.getElem_reverse]
      have : x.length - 1 - i < x.cps.size := by show _ < x.length; omega
      rw [Array.getD_eq_getD_getElem?, Array.getElem?_eq_getElem this]
      simp [cl, Str.length]
  rw [← h2]
end Mine
end
section
open PySem PySem.W PyProof.Rows PySem.Calls PySem.Spec PyProof.Rows.LCg PyProof.Rows.LCt
set_option maxRecDepth 100000
namespace Mine
section
variable {prog : Program} {w : World} {A : Around} {E : Value → Shared → Prop} {s : Shared} {h₀ : Heap} {L : Addr} {m : Str → Option Value} {env : Env}

/-- an element's value is told, all else stays -/
def EltEnd (h₀ : Heap) (L : Addr) (m : Str → Option Value) (all : List (Addr × Obj)) (R : Value → Prop) (s₁ : Shared) (y : Value) (s₂ : Shared) : Prop :=
  ∃ h' tk', s₂ = { s₁ with heap := h', toks := tk' } ∧ Fr h₀ L h' m ∧ News h₀ L h' all ∧ R y

theorem compRest_of {elt : Expr} {x : Str} {scope : Scope} {cl : List (Str × Addr)} {S : List (Addr × Obj) → Prop} {P : Nat → Value → Prop} {Fin : List Value → List (Addr × Obj) → Prop} {n : Nat} {news : List (Addr × Obj)}
    (R : Nat → Value → Prop) (hS : S news)
    (hel : ∀ i v I oI C oC D ys m₂ h tk (E' : Value → Shared → Prop), i < n → P i v → NsObj oC m₂ → m₂ x = some v → Fr h₀ L h m → News h₀ L h ((I, oI) :: (C, oC) :: (D, lst ys) :: news) → Off3 I C D news → ((@Ne Nat I C) ∧ (@Ne Nat I D) ∧ (@Ne Nat C D)) →
      wpAny (model prog w) A (eval elt (compEnvC scope cl C env)) (EltEnd h₀ L m ((I, oI) :: (C, oC) :: (D, lst ys) :: news) (R i) { s with heap := h, toks := tk }) E' { s with heap := h, toks := tk })
    (hfin : ∀ ys, ys.length = n → (∀ i y, ys[i]? = some y → R i y) → Fin ys news) :
    CompRest prog w A h₀ L m env elt x scope cl s S P Fin n 0 [] news := by
  have key : ∀ k i ys, i + k = n → ys.length = i → (∀ j y, ys[j]? = some y → R j y) → CompRest prog w A h₀ L m env elt x scope cl s S P Fin k i ys news := by
    intro k
    induction k with
    | zero =>
      intro i ys hi hl hr
      exact CompRest.zero (hfin ys (by omega) hr)
    | succ k ih =>
      intro i ys hi hl hr
      refine CompRest.succ ?_
      intro v I oI C oC D m₂ h tk E' hP hC hx F N off ne
      refine wpAny_mono (hel i v I oI C oC D ys m₂ h tk E' (by omega) hP hC hx F N off ne) (fun y s₂ hy => ?_) fun _ _ e => e
      obtain ⟨h', tk', rfl, F', N', hR⟩ := hy
      refine ⟨h', tk', news, rfl, F', N', off, hS, ih (i + 1) (ys ++ [y]) (by omega) (by simp [hl]) ?_⟩
      intro j z hj
      rcases Nat.lt_or_ge j ys.length with q | q
      · rw [List.getElem?_append_left q] at hj; exact hr j z hj
      · rw [List.getElem?_append_right q] at hj
        have hjl : j = ys.length := by
          rcases Nat.lt_or_ge ys.length j with q' | q'
          · rw [List.getElem?_eq_none (by simp; omega)] at hj; cases hj
          · omega
        subst hjl
        simp at hj
        subst hj
        rw [hl]; exact hR
  exact key n 0 [] (by omega) rfl (by intro j y hj; simp at hj)

theorem compRestT_of {ct elt : Expr} {x : Str} {scope : Scope} {cl : List (Str × Addr)} {S : List (Addr × Obj) → Prop} {P : Nat → Value → Prop} {Fin : List Value → List (Addr × Obj) → Prop} {n : Nat} {news : List (Addr × Obj)}
    (keep : Nat → Bool) (R : Nat → Value → Prop) (hS : S news)
    (hel : ∀ i v I oI C oC D ys m₂ h tk (E' : Value → Shared → Prop), i < n → P i v → NsObj oC m₂ → m₂ x = some v → Fr h₀ L h m → News h₀ L h ((I, oI) :: (C, oC) :: (D, lst ys) :: news) → Off3 I C D news → ((@Ne Nat I C) ∧ (@Ne Nat I D) ∧ (@Ne Nat C D)) →
      wpAny (model prog w) A (isTrue ct (compEnvC scope cl C env) (eval ct (compEnvC scope cl C env))) (fun ok s' => ok = keep i ∧ if ok = true then
        wpAny (model prog w) A (eval elt (compEnvC scope cl C env)) (EltEnd h₀ L m ((I, oI) :: (C, oC) :: (D, lst ys) :: news) (R i) { s with heap := h, toks := tk }) E' s'
        else EltEnd h₀ L m ((I, oI) :: (C, oC) :: (D, lst ys) :: news) (fun _ => True) { s with heap := h, toks := tk } .none s') E' { s with heap := h, toks := tk })
    (hfin : ∀ ys, Paired R ((List.range n).filter keep) ys → Fin ys news) :
    CompRestT prog w A h₀ L m env ct elt x scope cl s S P Fin n 0 [] news := by
  have key : ∀ k i ys, i + k = n → Paired R ((List.range i).filter keep) ys → CompRestT prog w A h₀ L m env ct elt x scope cl s S P Fin k i ys news := by
    intro k
    induction k with
    | zero =>
      intro i ys hi hr
      have e : i = n := by omega
      subst e
      exact CompRestT.zero (hfin ys hr)
    | succ k ih =>
      intro i ys hi hr
      refine CompRestT.succ ?_
      intro v I oI C oC D m₂ h tk E' hP hC hx F N off ne
      refine wpAny_mono (hel i v I oI C oC D ys m₂ h tk E' (by omega) hP hC hx F N off ne) (fun ok s₂ hy => ?_) fun _ _ e => e
      obtain ⟨rfl, hy⟩ := hy
      cases hk : keep i with
      | true =>
        rw [hk] at hy
        simp only [if_true] at hy ⊢
        refine wpAny_mono hy (fun y s₃ hy => ?_) fun _ _ e => e
        obtain ⟨h', tk', rfl, F', N', hR⟩ := hy
        refine ⟨h', tk', news, rfl, F', N', off, hS, ih (i + 1) (ys ++ [y]) (by omega) ?_⟩
        rw [List.range_succ, List.filter_append]
        simp only [List.filter_cons, hk, if_true, List.filter_nil]
        exact hr.snoc hR
      | false =>
        rw [hk] at hy
        simp only [Bool.false_eq_true, if_false] at hy ⊢
        obtain ⟨h', tk', rfl, F', N', hR⟩ := hy
        refine ⟨h', tk', news, rfl, F', N', off, hS, ih (i + 1) ys (by omega) ?_⟩
        rw [List.range_succ, List.filter_append]
        simp only [List.filter_cons, hk, Bool.false_eq_true, if_false, List.filter_nil, List.append_nil]
        exact hr
  exact key n 0 [] (by omega) (by simpa using Paired.nil)

/-- a source that is a text -/
def SrcS (prog : Program) (w : World) (A : Around) (h₀ : Heap) (L : Addr) (m : Str → Option Value) (env : Env) (elt : Expr) (x : Str) (scope : Scope) (cl : List (Str × Addr)) (Fin : Shared → List Value → List (Addr × Obj) → Prop) (xv : Value) (s₁ : Shared) : Prop :=
  ∃ y t news, xv = .str y t ∧ A.handled = none ∧ Fr h₀ L s₁.heap m ∧ News h₀ L s₁.heap news ∧ y.cps.size ≤ sizeLine ∧
    ∀ g, CompRest prog w A h₀ L m env elt x scope cl { s₁ with heap := g } (fun _ => True) (SignAt y) (Fin { s₁ with heap := g }) y.cps.size 0 [] news

theorem str_st {I : Addr} {k : String} {y : Str} {t : Tok} : ∀ i (h h' : Heap) (o : Obj) (nw : List (Addr × Obj)), h.IsStrIter I k y t i → h.get? I = some o → h'.get? I = some o → (∀ b o, h₀.get? b = some o → h'.get? b = some o) → News h₀ L h' nw → True → h'.IsStrIter I k y t i :=
  fun i h h' o nw ⟨o', q, r⟩ e e' _ _ _ => by rw [e] at q; cases q; exact ⟨o, e', r⟩

theorem ListComp_S {elt iter : Expr} {x : Str} {px : Pos} {scope : Scope} {cl : List (Str × Addr)} {pos : Pos} {Q : Value → Shared → Prop} (_F₀ : Fr h₀ L s.heap m)
    (hclos : closureFor scope env = pure cl) (hcell : ∀ y ∈ scope.names, y.2 ≠ .cell) (hkind : scope.kind = .function)
    (hnames : ∀ y ∈ scope.names, y.2 = .local → scope.names.lookup y.1 = some .local) (hx : scope.names.lookup x = some .local)
    (h : wpAny (model prog w) A (eval iter env) (SrcS prog w A h₀ L m env elt x scope cl (fun s₂ => FinE h₀ L m s₂ Q)) E s)
    (hs : ∀ x, foldedSetIterable iter env x = pure x := by intro _; rfl) :
    wpAny (model prog w) A (eval (.ListComp elt [⟨.Name x px, iter, [], 0⟩] scope pos) env) Q E s := by
  rw [eval_ListComp]
  refine wpAny_comprehension_free (use := none) rfl hs hclos hkind hnames (wpAny_mono h (fun xv s₁ h₁ => ?_) fun _ _ e => e)
  obtain ⟨y, t, news, rfl, hh, F, N, hsz, R⟩ := h₁
  have hfp : ∀ o, ∀ b ∈ [s₁.heap.objs.size], b < (s₁.heap.push o).objs.size := fun o b hb => by
    rw [List.mem_singleton.mp hb, Heap.size_push]; exact Nat.lt_succ_self _
  have fin : ∀ o, ∀ D C h tk m' ys news', Fr h₀ L h m → News h₀ L h ((D, lst ys) :: news') → Off1 D news' → h.Ns C m' → h₀.get? C = none → h₀.get? D = none → C ≠ L → D ≠ L → C ≠ D → (∀ p ∈ news', p.1 ≠ C) →
      FinE h₀ L m { s₁ with heap := s₁.heap.push o } Q ys news' → compPost (model prog w) A E none Q (.ref D) C (.ok .next) { s₁ with heap := h, toks := tk } := by
    intro o D C h tk m' ys news' F' N' o1 hn hC₀ hD₀ hCL hDL hCD offC fin
    refine ⟨m', hn, fun h'' hs'' => fin D h'' tk (F'.change hs'' hCL hC₀) (fun p hp => ?_) o1⟩
    refine ⟨hs''.extBut _ _ ?_ (N' p hp).1, (N' p hp).2⟩
    rcases List.mem_cons.mp hp with rfl | hp
    · exact Ne.symm hCD
    · exact offC p hp
  cases ha : y.cps.all (· < 128)
  · refine wpAny_pyIter_wide ha ?_
    exact LCg.block_U (Walks.strWide hh _ y t) hsz (fun i h st => by obtain ⟨o, e, _⟩ := st; exact ⟨o, e⟩) str_st hcell hkind hx ⟨_, Heap.get?_push_size _ rfl, rfl, rfl⟩ (hfp _)
      (F.keeps fun _ _ e => Heap.get?_push_of_some _ e) (N.grown fun _ _ e => Heap.get?_push_of_some _ e) (Nat.ne_of_lt F.ns.lt) (next_is_new F) (fun p hp => Nat.ne_of_lt (Heap.lt_size (N p hp).1)) trivial (R _) (fin _)
  · refine wpAny_pyIter_ascii ha ?_
    exact LCg.block_U (Walks.strAscii hh _ y t) hsz (fun i h st => by obtain ⟨o, e, _⟩ := st; exact ⟨o, e⟩) str_st hcell hkind hx ⟨_, Heap.get?_push_size _ rfl, rfl, rfl⟩ (hfp _)
      (F.keeps fun _ _ e => Heap.get?_push_of_some _ e) (N.grown fun _ _ e => Heap.get?_push_of_some _ e) (Nat.ne_of_lt F.ns.lt) (next_is_new F) (fun p hp => Nat.ne_of_lt (Heap.lt_size (N p hp).1)) trivial (R _) (fin _)

/-- a source that is a text, with a test -/
def SrcST (prog : Program) (w : World) (A : Around) (h₀ : Heap) (L : Addr) (m : Str → Option Value) (env : Env) (ct elt : Expr) (x : Str) (scope : Scope) (cl : List (Str × Addr)) (Fin : Shared → List Value → List (Addr × Obj) → Prop) (xv : Value) (s₁ : Shared) : Prop :=
  ∃ y t news, xv = .str y t ∧ A.handled = none ∧ Fr h₀ L s₁.heap m ∧ News h₀ L s₁.heap news ∧ y.cps.size ≤ sizeLine ∧
    ∀ g, CompRestT prog w A h₀ L m env ct elt x scope cl { s₁ with heap := g } (fun _ => True) (SignAt y) (Fin { s₁ with heap := g }) y.cps.size 0 [] news

theorem ListComp_ST {ct elt iter : Expr} {x : Str} {px : Pos} {scope : Scope} {cl : List (Str × Addr)} {pos : Pos} {Q : Value → Shared → Prop} (_F₀ : Fr h₀ L s.heap m)
    (hclos : closureFor scope env = pure cl) (hcell : ∀ y ∈ scope.names, y.2 ≠ .cell) (hkind : scope.kind = .function)
    (hnames : ∀ y ∈ scope.names, y.2 = .local → scope.names.lookup y.1 = some .local) (hx : scope.names.lookup x = some .local)
    (h : wpAny (model prog w) A (eval iter env) (SrcST prog w A h₀ L m env ct elt x scope cl (fun s₂ => FinE h₀ L m s₂ Q)) E s)
    (hs : ∀ x, foldedSetIterable iter env x = pure x := by intro _; rfl) :
    wpAny (model prog w) A (eval (.ListComp elt [⟨.Name x px, iter, [ct], 0⟩] scope pos) env) Q E s := by
  rw [eval_ListComp]
  refine wpAny_comprehension_free (use := none) rfl hs hclos hkind hnames (wpAny_mono h (fun xv s₁ h₁ => ?_) fun _ _ e => e)
  obtain ⟨y, t, news, rfl, hh, F, N, hsz, R⟩ := h₁
  have hfp : ∀ o, ∀ b ∈ [s₁.heap.objs.size], b < (s₁.heap.push o).objs.size := fun o b hb => by
    rw [List.mem_singleton.mp hb, Heap.size_push]; exact Nat.lt_succ_self _
  have fin : ∀ o, ∀ D C h tk m' ys news', Fr h₀ L h m → News h₀ L h ((D, lst ys) :: news') → Off1 D news' → h.Ns C m' → h₀.get? C = none → h₀.get? D = none → C ≠ L → D ≠ L → C ≠ D → (∀ p ∈ news', p.1 ≠ C) →
      FinE h₀ L m { s₁ with heap := s₁.heap.push o } Q ys news' → compPost (model prog w) A E none Q (.ref D) C (.ok .next) { s₁ with heap := h, toks := tk } := by
    intro o D C h tk m' ys news' F' N' o1 hn hC₀ hD₀ hCL hDL hCD offC fin
    refine ⟨m', hn, fun h'' hs'' => fin D h'' tk (F'.change hs'' hCL hC₀) (fun p hp => ?_) o1⟩
    refine ⟨hs''.extBut _ _ ?_ (N' p hp).1, (N' p hp).2⟩
    rcases List.mem_cons.mp hp with rfl | hp
    · exact Ne.symm hCD
    · exact offC p hp
  cases ha : y.cps.all (· < 128)
  · refine wpAny_pyIter_wide ha ?_
    exact LCt.block_T (Walks.strWide hh _ y t) hsz (fun i h st => by obtain ⟨o, e, _⟩ := st; exact ⟨o, e⟩) str_st hcell hkind hx ⟨_, Heap.get?_push_size _ rfl, rfl, rfl⟩ (hfp _)
      (F.keeps fun _ _ e => Heap.get?_push_of_some _ e) (N.grown fun _ _ e => Heap.get?_push_of_some _ e) (Nat.ne_of_lt F.ns.lt) (next_is_new F) (fun p hp => Nat.ne_of_lt (Heap.lt_size (N p hp).1)) trivial (R _) (fin _)
  · refine wpAny_pyIter_ascii ha ?_
    exact LCt.block_T (Walks.strAscii hh _ y t) hsz (fun i h st => by obtain ⟨o, e, _⟩ := st; exact ⟨o, e⟩) str_st hcell hkind hx ⟨_, Heap.get?_push_size _ rfl, rfl, rfl⟩ (hfp _)
      (F.keeps fun _ _ e => Heap.get?_push_of_some _ e) (N.grown fun _ _ e => Heap.get?_push_of_some _ e) (Nat.ne_of_lt F.ns.lt) (next_is_new F) (fun p hp => Nat.ne_of_lt (Heap.lt_size (N p hp).1)) trivial (R _) (fin _)
end
end Mine
end
section
open PySem PySem.W PyProof.Rows PySem.Calls PySem.Spec PyProof.V
set_option maxRecDepth 100000
namespace Mine
section
variable {prog : Program} {w : World} {A : Around} {E : Value → Shared → Prop} {s : Shared} {Q : Value → Shared → Prop}

theorem lay_bools : ∀ ns : List Bool, PyData.canLayAll0 (ns.map PyData.bool) = true
  | [] => rfl
  | _ :: r => by simp [PyData.canLayAll0, PyData.canLay0, lay_bools r]
theorem depth_bools : ∀ ns : List Bool, PyData.depthAll (ns.map PyData.bool) = 0
  | [] => rfl
  | _ :: r => by simp [PyData.depthAll, PyData.depth, depth_bools r]
theorem shaped_bools (ns : List Bool) : SeqAt.shaped (.list (ns.map PyData.bool)) = true := by
  simp [SeqAt.shaped, PyData.canLay0, PyData.depth, lay_bools, depth_bools]
theorem same_bools : ∀ ns ms : List Bool, PySem.Spec.sameAll (ns.map PyData.bool) (ms.map PyData.bool) = decide (ns = ms)
  | [], [] => by simp [PySem.Spec.sameAll]
  | [], _ :: _ => by simp [PySem.Spec.sameAll]
  | _ :: _, [] => by simp [PySem.Spec.sameAll]
  | a :: r, b :: t => by
    simp only [List.map_cons, PySem.Spec.sameAll, PySem.Spec.same, same_bools r t]
    by_cases h : a = b <;> by_cases h' : r = t <;> simp [h, h']
theorem carried_bools : ∀ ns : List Bool, CarriedAll (ns.map Value.bool) (ns.map PyData.bool)
  | [] => .nil
  | _ :: r => .cons (.bool _) (carried_bools r)
theorem eq_bools {a b : Addr} {ns ms : List Bool} (ha : s.heap.IsList a (ns.map Value.bool).toArray) (hb : s.heap.IsList b (ms.map Value.bool).toArray) (hu : A.units + 64 < cLine) (h : Q (.bool (decide (ns = ms))) s) :
    wpAny (model prog w) A (compareOp .Eq (.ref a) (.ref b)) Q E s :=
  eq_dataH_same (reads_newData ha (carried_bools ns)) (reads_newData hb (carried_bools ms)) (shaped_bools _) (shaped_bools _) hu (SeqAt.noMix_of_shape (.list .bool) rfl _ _ (list_map_has fun _ => rfl) (list_map_has fun _ => rfl))
    (by simp only [PySem.Spec.same]; rw [same_bools]; exact h)

theorem lay_strs : ∀ ns : List Str, (∀ x ∈ ns, PyData.strOk x = true) → PyData.canLayAll0 (ns.map PyData.str) = true
  | [], _ => rfl
  | x :: r, h => by simp [PyData.canLayAll0, PyData.canLay0, lay_strs r fun y hy => h y (.tail _ hy), h x (.head _)]
theorem depth_strs : ∀ ns : List Str, PyData.depthAll (ns.map PyData.str) = 0
  | [] => rfl
  | _ :: r => by simp [PyData.depthAll, PyData.depth, depth_strs r]
theorem shaped_strs (ns : List Str) (h : ∀ x ∈ ns, PyData.strOk x = true) : SeqAt.shaped (.list (ns.map PyData.str)) = true := by
  simp [SeqAt.shaped, PyData.canLay0, PyData.depth, lay_strs ns h, depth_strs]
theorem same_strs : ∀ ns ms : List Str, PySem.Spec.sameAll (ns.map PyData.str) (ms.map PyData.str) = decide (ns = ms)
  | [], [] => by simp [PySem.Spec.sameAll]
  | [], _ :: _ => by simp [PySem.Spec.sameAll]
  | _ :: _, [] => by simp [PySem.Spec.sameAll]
  | a :: r, b :: t => by
    simp only [List.map_cons, PySem.Spec.sameAll, PySem.Spec.same, same_strs r t]
    by_cases h : a = b <;> by_cases h' : r = t <;> simp [h, h']
theorem carried_strs : ∀ {vs : List Value} {ns : List Str}, StrsAre vs ns → CarriedAll vs (ns.map PyData.str)
  | _, _, .nil => .nil
  | _, _, .cons _ t r => .cons (.str _ t) (carried_strs r)
theorem eq_strs {a b : Addr} {xs ys : List Value} {ns ms : List Str} (ha : s.heap.IsList a xs.toArray) (hx : StrsAre xs ns) (hb : s.heap.IsList b ys.toArray) (hy : StrsAre ys ms) (hn : ∀ x ∈ ns, PyData.strOk x = true) (hm : ∀ x ∈ ms, PyData.strOk x = true) (hu : A.units + 64 < cLine) (h : Q (.bool (decide (ns = ms))) s) :
    wpAny (model prog w) A (compareOp .Eq (.ref a) (.ref b)) Q E s :=
  eq_dataH_same (reads_newData ha (carried_strs hx)) (reads_newData hb (carried_strs hy)) (shaped_strs _ hn) (shaped_strs _ hm) hu (SeqAt.noMix_of_shape (.list .str) rfl _ _ (list_map_has fun _ => rfl) (list_map_has fun _ => rfl))
    (by simp only [PySem.Spec.same]; rw [same_strs]; exact h)
theorem ne_strs {a b : Addr} {xs ys : List Value} {ns ms : List Str} (ha : s.heap.IsList a xs.toArray) (hx : StrsAre xs ns) (hb : s.heap.IsList b ys.toArray) (hy : StrsAre ys ms) (hn : ∀ x ∈ ns, PyData.strOk x = true) (hm : ∀ x ∈ ms, PyData.strOk x = true) (hu : A.units + 64 < cLine) (h : Q (.bool (!decide (ns = ms))) s) :
    wpAny (model prog w) A (compareOp .NotEq (.ref a) (.ref b)) Q E s :=
  ne_dataH_same (reads_newData ha (carried_strs hx)) (reads_newData hb (carried_strs hy)) (shaped_strs _ hn) (shaped_strs _ hm) hu (SeqAt.noMix_of_shape (.list .str) rfl _ _ (list_map_has fun _ => rfl) (list_map_has fun _ => rfl))
    (by simp only [PySem.Spec.same]; rw [same_strs]; exact h)
end
end Mine
end
section
open PySem PySem.W PyProof.Rows PySem.Calls PySem.Spec PySem.Builtin PySem.Builtin.Str PySem.StrLaws
namespace Mine

theorem item_last {y : Str} {d : Nat} {r : List Nat} (h : (cl y).reverse = d :: r) : Txt.item y (-1) = tx [d] := by
  have hl : cl y = r.reverse ++ [d] := by
    have := congrArg List.reverse h
    simpa using this
  have hlen : y.length = r.length + 1 := by rw [← cl_len, hl]; simp
  unfold Txt.item Txt.charAt
  have e : seqIndex? (-1) y.length = some r.length := by
    unfold seqIndex?
    rw [hlen]
    simp only [show (-1 : Int) < 0 from by omega, if_true]
    rw [if_pos (by simp only [Bool.and_eq_true, decide_eq_true_eq]; omega)]
    congr 1
    omega
  rw [e]
  have e2 : y.cps[r.length]? = some d := by
    rw [← Array.getElem?_toList, show y.cps.toList = _ from hl]
    simp
  simp [e2]
theorem item_at {y : Str} {k : Nat} {d : Nat} (h : (cl y)[k]? = some d) : Txt.item y (k : Int) = tx [d] := by
  have hlt : k < y.length := by
    rw [← cl_len]; exact (List.getElem?_eq_some_iff.mp h).1
  unfold Txt.item Txt.charAt
  have e : seqIndex? (k : Int) y.length = some k := by
    unfold seqIndex?
    simp only [show ¬ ((k : Int) < 0) from by omega, if_false]
    rw [if_pos (by simp only [Bool.and_eq_true, decide_eq_true_eq]; omega)]
    congr 1
  rw [e]
  have e2 : y.cps[k]? = some d := by rw [← Array.getElem?_toList]; exact h
  simp [e2]
theorem str_ext {a b : Str} (h : cl a = cl b) : a = b := by rw [← tx_cl a, ← tx_cl b, h]
theorem empty_cl : cl (Str.ofString "") = [] := by decide +kernel

theorem in_one (y : Str) (c : Nat) : (occurrences y (tx [c]) 0 y.length 1).isEmpty = !decide (c ∈ cl y) := by
  rcases occ_head_from y (tx [c]) 0 1 (Nat.le_refl 1) with ⟨e, hn⟩ | ⟨i, r, e, h1, h2, h3⟩
  · rw [e]
    have : c ∉ cl y := fun h => by
      obtain ⟨j, hj⟩ := List.getElem?_of_mem h
      exact hn j (Nat.zero_le _) ((at_one y c j).mpr hj)
    simp [this]
  · rw [e]
    have : c ∈ cl y := List.mem_of_getElem? ((at_one y c i).mp h2)
    simp [this]
theorem ints_snoc {v : Value} {n : Int} {t : Tok} (hv : v = .int n t) : ∀ {vs : List Value} {ns : List Int}, IntsAre vs ns → IntsAre (vs ++ [v]) (ns ++ [n])
  | _, _, .nil => hv ▸ .cons _ _ .nil
  | _, _, .cons _ _ r => .cons _ _ (ints_snoc hv r)
theorem cl_append (a b : Str) : cl (a ++ b) = cl a ++ cl b := by
  show ((a ++ b).cps).toList = _
  rw [Str.cps_append, Array.toList_append]
end Mine
end
section
open PySem PySem.W PyProof.Rows PySem.Calls PySem.Spec
set_option maxRecDepth 100000
namespace Mine
section
variable {prog : Program} {w : World} {A : Around} {E : Value → Shared → Prop} {R : Result → Shared → Prop} {s : Shared}

theorem turn_d1 (elt t1 i1 t2 i2 : Expr) (scope : Scope) (pos : Pos) (it acc : Value) (env : Env) :
    compTurn (.ListComp elt [⟨t1, i1, [], 0⟩, ⟨t2, i2, [], 0⟩] scope pos) 1 it acc env = (standAt i2.pos >>= fun _ => pyNext it >>= fun r => match r with
      | none => pure (.done .next)
      | some v => letOwnedTupleGo t2 it v >>= fun _ => assign t2 env v >>= fun _ =>
        (eval elt env >>= fun x => call (.builtin "list.append") [acc, x] >>= fun _ => pure ()) >>= fun _ =>
          again (.compLoop (.ListComp elt [⟨t1, i1, [], 0⟩, ⟨t2, i2, [], 0⟩] scope pos) 1 it acc env)) := by rfl

theorem turn_d0 (elt t1 i1 t2 i2 : Expr) (scope : Scope) (pos : Pos) (it acc : Value) (env : Env) :
    compTurn (.ListComp elt [⟨t1, i1, [], 0⟩, ⟨t2, i2, [], 0⟩] scope pos) 0 it acc env = (standAt i1.pos >>= fun _ => pyNext it >>= fun r => match r with
      | none => pure (.done .next)
      | some v => letOwnedTupleGo t1 it v >>= fun _ => assign t1 env v >>= fun _ =>
        eval i2 env >>= fun x => standAt i2.pos >>= fun _ => foldedSetIterable i2 env x >>= fun x => holding [x] (pyIter x) >>= fun it2 => runOwn (.compStart (.ListComp elt [⟨t1, i1, [], 0⟩, ⟨t2, i2, [], 0⟩] scope pos) 1 it2 acc env) env >>= fun _ =>
          again (.compLoop (.ListComp elt [⟨t1, i1, [], 0⟩, ⟨t2, i2, [], 0⟩] scope pos) 0 it acc env)) := by rfl

theorem loop_d1 {elt t1 i1 t2 i2 : Expr} {scope : Scope} {pos : Pos} {it acc : Value} {env : Env} (I : Nat → Shared → Prop)
    (turn : ∀ n s, I n s → wpAny (model prog w) A (pyNext it) (fun r s₁ => match r with
      | none => R (.ok .next) s₁
      | some v => wpAny (model prog w) A (assign t2 env v) (fun _ s₂ => wpAny (model prog w) A (eval elt env) (fun x s₃ =>
          wpAny (model prog w) A (call (.builtin "list.append") [acc, x]) (fun _ s₄ => ∃ m, m < n ∧ I m s₄) (notedBy (model prog w) A env fun e s' => R (.error e) s') s₃)
          (notedBy (model prog w) A env fun e s' => R (.error e) s') s₂) (notedBy (model prog w) A env fun e s' => R (.error e) s') s₁) (notedBy (model prog w) A env fun e s' => R (.error e) s') s)
    (n : Nat) (h : I n s) (ht : ∀ v, letOwnedTupleGo t2 it v = pure () := by intro _; rfl) :
    codeAny (model prog w) A (.compLoop (.ListComp elt [⟨t1, i1, [], 0⟩, ⟨t2, i2, [], 0⟩] scope pos) 1 it acc env) R s := by
  refine codeAny_loop rfl I (fun n s hI => ?_) n h
  show wpAny _ _ ((compTurn (.ListComp elt [⟨t1, i1, [], 0⟩, ⟨t2, i2, [], 0⟩] scope pos) 1 it acc env).onRaise (fun x => do noteFrame x env; theTreesLotGoes x)) _ _ s
  refine wpAny_noted ?_
  rw [turn_d1]
  refine wpAny_bind (wpAny_standAt (wpAny_bind (wpAny_mono (turn n s hI) (fun r s₁ h₁ => ?_) fun _ _ h' => h')))
  cases r with
  | none => exact wpAny_pure h₁
  | some v =>
    refine wpAny_bind (wpAny_of_eq (ht v) ?_)
    exact wpAny_bind (wpAny_mono h₁ (fun _ s₂ h₂ => wpAny_bind (wpAny_bind (wpAny_mono h₂ (fun x s₃ h₃ => wpAny_bind (wpAny_mono h₃
      (fun _ s₄ h₄ => wpAny_pure (wpAny_pure ⟨rfl, h₄⟩)) fun _ _ h' => h')) fun _ _ h' => h'))) fun _ _ h' => h')

theorem loop_d0 {elt t1 i1 t2 i2 : Expr} {scope : Scope} {pos : Pos} {it acc : Value} {env : Env} (I : Nat → Shared → Prop)
    (turn : ∀ n s, I n s → wpAny (model prog w) A (pyNext it) (fun r s₁ => match r with
      | none => R (.ok .next) s₁
      | some v => wpAny (model prog w) A (assign t1 env v) (fun _ s₂ => wpAny (model prog w) A (eval i2 env) (fun x s₃ =>
          wpAny (model prog w) A (pyIter x) (fun it2 s₄ => ∀ R' : Result → Shared → Prop, (∀ s₅, (∃ m, m < n ∧ I m s₅) → R' (.ok .next) s₅) →
            codeAny (model prog w) A (.compStart (.ListComp elt [⟨t1, i1, [], 0⟩, ⟨t2, i2, [], 0⟩] scope pos) 1 it2 acc env) R' s₄) (notedBy (model prog w) A env fun e s' => R (.error e) s') s₃)
          (notedBy (model prog w) A env fun e s' => R (.error e) s') s₂) (notedBy (model prog w) A env fun e s' => R (.error e) s') s₁) (notedBy (model prog w) A env fun e s' => R (.error e) s') s)
    (n : Nat) (h : I n s) (ht : ∀ v, letOwnedTupleGo t1 it v = pure () := by intro _; rfl) (hs : ∀ x, foldedSetIterable i2 env x = pure x := by intro _; rfl) :
    codeAny (model prog w) A (.compLoop (.ListComp elt [⟨t1, i1, [], 0⟩, ⟨t2, i2, [], 0⟩] scope pos) 0 it acc env) R s := by
  refine codeAny_loop rfl I (fun n s hI => ?_) n h
  show wpAny _ _ ((compTurn (.ListComp elt [⟨t1, i1, [], 0⟩, ⟨t2, i2, [], 0⟩] scope pos) 0 it acc env).onRaise (fun x => do noteFrame x env; theTreesLotGoes x)) _ _ s
  refine wpAny_noted ?_
  rw [turn_d0]
  refine wpAny_bind (wpAny_standAt (wpAny_bind (wpAny_mono (turn n s hI) (fun r s₁ h₁ => ?_) fun _ _ h' => h')))
  cases r with
  | none => exact wpAny_pure h₁
  | some v =>
    refine wpAny_bind (wpAny_of_eq (ht v) ?_)
    refine wpAny_bind (wpAny_mono h₁ (fun _ s₂ h₂ => wpAny_bind (wpAny_mono h₂ (fun x s₃ h₃ => wpAny_bind (wpAny_standAt (wpAny_bind (wpAny_of_eq (hs x) (wpAny_bind (wpAny_holding (wpAny_mono h₃
      (fun it2 s₄ h₄ => wpAny_bind (wpAny_runOwn ?_)) fun _ _ h' => h'))))))) fun _ _ h' => h')) fun _ _ h' => h')
    refine h₄ _ fun s₅ h₅ => ?_
    exact wpAny_pure ⟨rfl, h₅⟩

theorem start_d1 {elt t1 i1 t2 i2 : Expr} {scope : Scope} {pos : Pos} {it acc : Value} {env : Env}
    (h0 : codeAny (model prog w) A (.compLoop (.ListComp elt [⟨t1, i1, [], 0⟩, ⟨t2, i2, [], 0⟩] scope pos) 1 it acc env) R s)
    (h : wpAny (model prog w) A (pyIter it) (fun it' s' => codeAny (model prog w) A (.compLoop (.ListComp elt [⟨t1, i1, [], 0⟩, ⟨t2, i2, [], 0⟩] scope pos) 1 it' acc env) R s')
      (notedBy (model prog w) A env fun x s' => R (.error x) s') s) :
    codeAny (model prog w) A (.compStart (.ListComp elt [⟨t1, i1, [], 0⟩, ⟨t2, i2, [], 0⟩] scope pos) 1 it acc env) R s := by
  refine codeAny_of_tree ?_
  show wpAny _ _ ((compStart (.ListComp elt [⟨t1, i1, [], 0⟩, ⟨t2, i2, [], 0⟩] scope pos) 1 it acc env).onRaise (fun x => do noteFrame x env; standAt theWindowsPlace)) _ _ s
  refine wpAny_notedAt ?_
  unfold compStart
  show wpAny _ _ (ask >>= _) _ _ s
  refine wpAny_bind (wpAny_askSetting (wpAny_ite ?_))
  split
  · first
      | exact wpAny_bind (wpAny_pure (wpAny_pure (And.intro rfl h0)))
      | exact wpAny_pure (And.intro rfl h0)
  · first
      | exact wpAny_bind (wpAny_rule (wpAny_bind (wpAny_standAt (wpAny_bind (wpAny_mono h (fun it' s' h' => wpAny_pure (And.intro rfl h')) fun _ _ x => x)))))
      | (refine wpAny_bind (wpAny_rule ?_); show wpAny _ _ (standAt i2.pos >>= _) _ _ s; exact wpAny_bind (wpAny_standAt (wpAny_bind (wpAny_mono h (fun it' s' h' => wpAny_pure (And.intro rfl h')) fun _ _ x => x))))

/-- what stands while the two clauses turn -/
structure C2 (h₂ : Heap) (I ax D C : Addr) (its : Array Value) (i : Nat) (ys : List Value) (h : Heap) : Prop where
  it : h.IsListIter I ax i
  src : h.IsList ax its
  acc : h.PlainList D ys.toArray
  keep : ∀ b o, b ≠ I → b ≠ C → b ≠ D → h₂.get? b = some o → h.get? b = some o

/-- the two clauses' pairs -/
def pairs2 (its : List Value) (z : List Nat) : List (Value × Nat) := its.flatMap fun v => z.map fun c => (v, c)

theorem comp2_inner {elt i1 i2 : Expr} {a b : Str} {pa pb : Pos} {scope : Scope} {pos : Pos} {cenv : Env} {h₂ : Heap} {I ax D C J : Addr} {its : Array Value} {i : Nat} {ys : List Value} {z : Str} {St : Nat → Heap → Prop} {v : Value} {m : Str → Option Value}
    (Rel : Value → Nat → Value → Prop)
    (hC : cenv.locals = C) (hb : cenv.kindOf b = some .local) (hab : a ≠ b) (hp : (cenv.scope.kind == .class || (cenv.scope.kind == .module && cenv.locals != cenv.globals)) = false)
    (W : Walks prog w A J [J] [J] z.cps.size (SignAt z) St) (hIC : I ≠ C) (hID : I ≠ D) (hCD : C ≠ D) (haI : ax ≠ I) (haC : ax ≠ C) (haD : ax ≠ D) (hJ : J ≠ I ∧ J ≠ C ∧ J ≠ D ∧ J ≠ ax) (hJ₂ : h₂.get? J = none)
    (hel : ∀ (s₃ : Shared) (m₃ : Str → Option Value) (c : Nat) (u : Tok) (Q' : Value → Shared → Prop) (E' : Value → Shared → Prop), s₃.heap.Ns C m₃ → m₃ a = some v → m₃ b = some (.str ⟨#[c]⟩ u) → c ∈ z.cps.toList → (∀ r tk, Rel v c r → Q' r { s₃ with toks := tk }) → wpAny (model prog w) A (eval elt cenv) Q' E' s₃)
    (hsz : ys.length + z.cps.size ≤ sizeLine)
    (hst : St 0 s.heap) (hinv : C2 h₂ I ax D C its i ys s.heap) (hn : s.heap.Ns C m) (hma : m a = some v)
    (hR : ∀ h' tk zs m', Paired (fun c y => Rel v c y) z.cps.toList zs → C2 h₂ I ax D C its i (ys ++ zs) h' → h'.Ns C m' → R (.ok .next) { s with heap := h', toks := tk }) :
    codeAny (model prog w) A (.compLoop (.ListComp elt [⟨.Name a pa, i1, [], 0⟩, ⟨.Name b pb, i2, [], 0⟩] scope pos) 1 (.ref J) (.ref D) cenv) R s := by
  refine loop_d1 (fun k s' => ∃ h' tk j zs m', s' = { s with heap := h', toks := tk } ∧ j ≤ z.cps.size ∧ k = z.cps.size + 1 - j ∧ St j h' ∧ C2 h₂ I ax D C its i (ys ++ zs) h' ∧ h'.Ns C m' ∧ m' a = some v ∧
    Paired (fun c y => Rel v c y) (z.cps.toList.take j) zs ∧ zs.length = j) ?_ (z.cps.size + 1) ⟨s.heap, s.toks, 0, [], m, rfl, Nat.zero_le _, rfl, hst, by simpa using hinv, hn, hma, by simpa using Paired.nil, rfl⟩
  rintro k s' ⟨H, tk, j, zs, m', rfl, hj, rfl, hst', hinv', hn', hma', hP, hzl⟩
  by_cases hlt : j < z.cps.size
  · refine W.item j _ _ _ hlt hst' fun v' h₁ tk₁ hPv hst₁ hk₁ => ?_
    obtain ⟨c, u, hc, rfl⟩ := hPv
    have k1 : ∀ b o, b ≠ J → H.get? b = some o → h₁.get? b = some o := fun b o hb e => hk₁ b o (by simpa using hb) e
    refine wpAny_assign_Name (wpAny_storeName_local hb (by rw [hC]; exact hn'.at' fun o e => k1 _ o (Ne.symm hJ.2.1) e) (fun h₃ hn₃ hs₃ => ?_) hp)
    rw [hC] at hn₃ hs₃
    have k3 : ∀ b o, b ≠ J → b ≠ C → H.get? b = some o → h₃.get? b = some o := fun b o h1 h2 e => hs₃.extBut b o h2 (k1 b o h1 e)
    have hcm : c ∈ z.cps.toList := Array.mem_toList_iff.mpr (Array.mem_of_getElem? hc)
    refine hel _ _ c u _ _ hn₃ ?_ (by simp) hcm fun r tk₃ hr => ?_
    · show (if a = b then _ else m' a) = _
      rw [if_neg hab]; exact hma'
    obtain ⟨nD, hD⟩ := hinv'.acc
    have hD₃ := k3 D _ (Ne.symm hJ.2.2.1) (Ne.symm hCD) hD
    refine append_at (hsz := by simp only [List.size_toArray, List.length_append]; omega) hD₃ fun h₅ hs₅ hD₅ => ?_
    have k5 : ∀ b o, b ≠ J → b ≠ C → b ≠ D → H.get? b = some o → h₅.get? b = some o := fun b o h1 h2 h3 e => hs₅.extBut b o h3 (k3 b o h1 h2 e)
    refine ⟨z.cps.size + 1 - (j + 1), by omega, h₅, tk₃, j + 1, zs ++ [r], _, rfl, hlt, rfl, ?_, ⟨?_, ?_, ?_, ?_⟩, hn₃.sameBut hs₅ hCD, ?_, ?_, by simp [hzl]⟩
    · refine W.frame _ _ _ hst₁ fun b hb o e => ?_
      rw [List.mem_singleton.mp hb] at e ⊢
      exact hs₅.extBut _ _ hJ.2.2.1 (hs₃.extBut _ _ hJ.2.1 e)
    · exact hinv'.it.at fun o e => k5 _ o (Ne.symm hJ.1) hIC hID e
    · exact hinv'.src.at fun o e => k5 _ o (Ne.symm hJ.2.2.2) haC haD e
    · refine ⟨nD + 1, hD₅.trans ?_⟩
      rw [← List.append_assoc, ← List.push_toArray]
    · intro b' o h1 h2 h3 e
      have hbJ : b' ≠ J := fun q => by rw [q, hJ₂] at e; cases e
      exact k5 b' o hbJ h2 h3 (hinv'.keep b' o h1 h2 h3 e)
    · show (if a = b then _ else m' a) = _
      rw [if_neg hab]; exact hma'
    · have : z.cps.toList.take (j + 1) = z.cps.toList.take j ++ [c] := by
        rw [List.take_add_one, Array.getElem?_toList, hc]; rfl
      rw [this]; exact hP.snoc hr
  · have hjz : j = z.cps.size := by omega
    refine W.done _ _ _ (hjz ▸ hst') fun h₁ tk₁ hk₁ => ?_
    have k1 : ∀ b o, b ≠ J → H.get? b = some o → h₁.get? b = some o := fun b o hb e => hk₁ b o (by simpa using hb) e
    refine hR h₁ tk₁ zs m' ?_ ⟨?_, ?_, ?_, ?_⟩ (hn'.at' fun o e => k1 _ o (Ne.symm hJ.2.1) e)
    · rw [hjz, List.take_of_length_le (by simp)] at hP; exact hP
    · exact hinv'.it.at fun o e => k1 _ o (Ne.symm hJ.1) e
    · exact hinv'.src.at fun o e => k1 _ o (Ne.symm hJ.2.2.2) e
    · exact hinv'.acc.at fun o e => k1 _ o (Ne.symm hJ.2.2.1) e
    · intro b' o h1 h2 h3 e
      have hbJ : b' ≠ J := fun q => by rw [q, hJ₂] at e; cases e
      exact k1 b' o hbJ (hinv'.keep b' o h1 h2 h3 e)

theorem paired_append {α β : Type} {F : α → β → Prop} : ∀ {l₁ l₂ : List α} {r₁ r₂ : List β}, Paired F l₁ r₁ → Paired F l₂ r₂ → Paired F (l₁ ++ l₂) (r₁ ++ r₂)
  | _, _, _, _, .nil, h => h
  | _, _, _, _, .cons h t, h' => .cons h (paired_append t h')
theorem paired_map {α β γ : Type} {F : γ → β → Prop} {g : α → γ} : ∀ {l : List α} {r : List β}, Paired (fun a b => F (g a) b) l r → Paired F (l.map g) r
  | _, _, .nil => .nil
  | _, _, .cons h t => .cons h (paired_map t)
theorem paired_length {α β : Type} {F : α → β → Prop} : ∀ {l : List α} {r : List β}, Paired F l r → l.length = r.length
  | _, _, .nil => rfl
  | _, _, .cons _ t => by rw [List.length_cons, List.length_cons, paired_length t]

theorem comp2_outer {elt i1 i2 : Expr} {a b : Str} {pa pb : Pos} {scope : Scope} {pos : Pos} {cenv : Env} {h₂ : Heap} {I ax D C : Addr} {its : Array Value} {z : Str} {m : Str → Option Value}
    (Rel : Value → Nat → Value → Prop) (hh : A.handled = none)
    (hC : cenv.locals = C) (ha : cenv.kindOf a = some .local) (hb : cenv.kindOf b = some .local) (hab : a ≠ b) (hp : (cenv.scope.kind == .class || (cenv.scope.kind == .module && cenv.locals != cenv.globals)) = false)
    (hIC : I ≠ C) (hID : I ≠ D) (hCD : C ≠ D) (haI : ax ≠ I) (haC : ax ≠ C) (haD : ax ≠ D)
    (hi2 : ∀ (s₃ : Shared) (Q' : Value → Shared → Prop) (E' : Value → Shared → Prop), (∀ t tk, Q' (.str z t) { s₃ with toks := tk }) → wpAny (model prog w) A (eval i2 cenv) Q' E' s₃)
    (hel : ∀ (s₃ : Shared) (m₃ : Str → Option Value) (v : Value) (c : Nat) (u : Tok) (Q' : Value → Shared → Prop) (E' : Value → Shared → Prop), s₃.heap.Ns C m₃ → m₃ a = some v → m₃ b = some (.str ⟨#[c]⟩ u) → v ∈ its.toList → c ∈ z.cps.toList → (∀ r tk, Rel v c r → Q' r { s₃ with toks := tk }) → wpAny (model prog w) A (eval elt cenv) Q' E' s₃)
    (hsz : its.size * z.cps.size ≤ sizeLine)
    (hinv : C2 h₂ I ax D C its 0 [] s.heap) (hn : s.heap.Ns C m) (hfs : ∀ x, foldedSetIterable i2 cenv x = pure x)
    (hR : ∀ h' tk ys m', Paired (fun (p : Value × Nat) y => Rel p.1 p.2 y) (pairs2 its.toList z.cps.toList) ys → h'.PlainList D ys.toArray → h'.Ns C m' → (∀ b o, b ≠ I → b ≠ C → b ≠ D → h₂.get? b = some o → h'.get? b = some o) → R (.ok .next) { s with heap := h', toks := tk }) :
    codeAny (model prog w) A (.compLoop (.ListComp elt [⟨.Name a pa, i1, [], 0⟩, ⟨.Name b pb, i2, [], 0⟩] scope pos) 0 (.ref I) (.ref D) cenv) R s := by
  have W := Walks.list (prog := prog) (w := w) hh I ax haI its
  refine loop_d0 (fun k s' => ∃ h' tk i ys m', s' = { s with heap := h', toks := tk } ∧ i ≤ its.size ∧ k = its.size + 1 - i ∧ C2 h₂ I ax D C its i ys h' ∧ h'.Ns C m' ∧ ys.length = i * z.cps.size ∧
    Paired (fun (p : Value × Nat) y => Rel p.1 p.2 y) (pairs2 (its.toList.take i) z.cps.toList) ys) ?_ (its.size + 1) ⟨s.heap, s.toks, 0, [], m, rfl, Nat.zero_le _, rfl, hinv, hn, by simp, by simpa [pairs2] using Paired.nil⟩ (hs := hfs)
  rintro k s' ⟨H, tk, i, ys, m', rfl, hi, rfl, hinv', hn', hyl, hP⟩
  by_cases hlt : i < its.size
  · refine W.item i _ _ _ hlt ⟨hinv'.it, hinv'.src⟩ fun v h₁ tk₁ hPv hst₁ hk₁ => ?_
    have hv : its.toList[i]? = some v := by simpa using hPv
    have k1 : ∀ b o, b ≠ I → H.get? b = some o → h₁.get? b = some o := fun b o hb e => hk₁ b o (by simpa using hb) e
    refine wpAny_assign_Name (wpAny_storeName_local ha (by rw [hC]; exact hn'.at' fun o e => k1 _ o (Ne.symm hIC) e) (fun h₃ hn₃ hs₃ => ?_) hp)
    rw [hC] at hn₃ hs₃
    have k3 : ∀ b o, b ≠ I → b ≠ C → H.get? b = some o → h₃.get? b = some o := fun b o h1 h2 e => hs₃.extBut b o h2 (k1 b o h1 e)
    have inv₃ : C2 h₂ I ax D C its (i + 1) ys h₃ := ⟨hst₁.1.at fun o e => hs₃.extBut _ _ hIC e, hst₁.2.at fun o e => hs₃.extBut _ _ haC e, hinv'.acc.at fun o e => k3 _ o (Ne.symm hID) (Ne.symm hCD) e,
      fun b' o h1 h2 h3 e => k3 b' o h1 h2 (hinv'.keep b' o h1 h2 h3 e)⟩
    refine hi2 _ _ _ fun t tk₃ => ?_
    refine wpAny_pyIter_str fun o St hW hst => ?_
    intro R' hR'
    have lt : ∀ {b : Addr} {o : Obj}, h₃.get? b = some o → h₃.objs.size ≠ b := fun e q => absurd (Heap.lt_size e) (q ▸ Nat.lt_irrefl _)
    obtain ⟨oI, heI, _⟩ := id inv₃.it
    obtain ⟨oA, heA, _⟩ := id inv₃.src
    obtain ⟨nD, heD⟩ := inv₃.acc
    obtain ⟨oC, _, _, heC, _⟩ := id hn₃
    have hJ₂ : h₂.get? h₃.objs.size = none := by
      cases q : h₂.get? h₃.objs.size with
      | none => rfl
      | some o' => exact absurd rfl (lt (inv₃.keep _ o' (lt heI) (lt heC) (lt heD) q))
    have hsz2 : ys.length + z.cps.size ≤ sizeLine := by
      rw [hyl]
      have : (i + 1) * z.cps.size ≤ its.size * z.cps.size := Nat.mul_le_mul_right _ hlt
      rw [Nat.add_mul, Nat.one_mul] at this
      omega
    have loop : ∀ s₆ : Shared, s₆ = { s with heap := h₃.push o, toks := tk₃ } → codeAny (model prog w) A (.compLoop (.ListComp elt [⟨.Name a pa, i1, [], 0⟩, ⟨.Name b pb, i2, [], 0⟩] scope pos) 1 (.ref h₃.objs.size) (.ref D) cenv) R' s₆ := by
      rintro s₆ rfl
      refine comp2_inner (v := v) Rel hC hb hab hp (hW A hh) hIC hID hCD haI haC haD ⟨lt heI, lt heC, lt heD, lt heA⟩ hJ₂
        (fun s₃ m₃ c u Q' E' h1 h2 h3 h4 h5 => hel s₃ m₃ v c u Q' E' h1 h2 h3 (List.mem_of_getElem? hv) h4 h5) hsz2 hst
        ⟨inv₃.it.at fun o e => Heap.get?_push_of_some _ e, inv₃.src.at fun o e => Heap.get?_push_of_some _ e, inv₃.acc.at fun o e => Heap.get?_push_of_some _ e, fun b' o h1 h2 h3 e => Heap.get?_push_of_some _ (inv₃.keep b' o h1 h2 h3 e)⟩
        (hn₃.at' fun o e => Heap.get?_push_of_some _ e) (by simp) ?_
      intro h' tk' zs m'' hPz hinv'' hn''
      refine hR' _ ⟨its.size + 1 - (i + 1), by omega, h', tk', i + 1, ys ++ zs, m'', rfl, hlt, rfl, hinv'', hn'', ?_, ?_⟩
      · have := paired_length hPz
        rw [List.length_append, hyl, ← this, Nat.add_mul]; simp
      · have : pairs2 (its.toList.take (i + 1)) z.cps.toList = pairs2 (its.toList.take i) z.cps.toList ++ z.cps.toList.map fun c => (v, c) := by
          unfold pairs2
          rw [List.take_add_one, hv]
          simp
        rw [this]
        exact paired_append hP (paired_map hPz)
    exact start_d1 (loop _ rfl) ((hW A hh).self 0 _ _ _ hst (loop _ rfl))
  · have hin : i = its.size := by omega
    refine W.done _ _ _ (hin ▸ ⟨hinv'.it, hinv'.src⟩) fun h₁ tk₁ hk₁ => ?_
    have k1 : ∀ b o, b ≠ I → H.get? b = some o → h₁.get? b = some o := fun b o hb e => hk₁ b o (by simpa using hb) e
    refine hR h₁ tk₁ ys m' ?_ (hinv'.acc.at fun o e => k1 _ o (Ne.symm hID) e) (hn'.at' fun o e => k1 _ o (Ne.symm hIC) e) fun b' o h1 h2 h3 e => k1 b' o h1 (hinv'.keep b' o h1 h2 h3 e)
    rw [hin, List.take_of_length_le (by simp)] at hP
    exact hP
end
end Mine
end
section
open PySem PySem.W PyProof.Rows PySem.Calls PySem.Spec
set_option maxRecDepth 100000
namespace Mine
section
variable {prog : Program} {w : World} {A : Around} {s : Shared} {K : Frag} {Q E : Value → Shared → Prop} {name qual : Str} {params : Arguments} {scope : Scope} {dV kV doc pm cdv ct oc : Value} {an od : Option Addr}
  {osl : Array (Option Value)} {f : Addr} {pos : List Value} {kw : List (Str × Value)} {binds : List (Str × Value)}

/-- all but the one object stay -/
def StayBut (P : Addr) (h h' : Heap) : Prop := ∀ b o, b ≠ P → h.get? b = some o → h'.get? b = some o

theorem enterLam {body : Expr} {cl : List (Str × Addr)} {c' : Addr} {ctv : Value} (ho : s.heap.get? f = some (kla_obj name qual params body scope cl pm c' ctv)) (hcd : s.heap.CodeRec (.ref c') qual) (hlim : s.heap.NoLimit) (hroom : A.depth < recursionLimit)
    (hbind : bindArgs (kla_fn name qual params body scope cl pm (.ref c') ctv) ⟨pos, kw⟩ = pure binds) (hloc : ∀ y ∈ binds, scope.names.lookup y.1 = some .local)
    (hco : scope.isCoroutine = false) (hgen : scope.isGenerator = false) (hk : scope.kind = .function) (hcell : ∀ x ∈ scope.names, x.2 ≠ .cell)
    (h : ∀ L h₁ tk, Fr s.heap L h₁ (fun y => binds.reverse.lookup y) → News s.heap L h₁ [] →
      wpAny (model prog w) (A.deeper (envX qual scope L f (.ref c') cl)) (eval body (envX qual scope L f (.ref c') cl)) (fun v s' => Q v s') (fun _ _ => False) { s with heap := h₁, toks := tk }) :
    wpAny (model prog w) A (call (.ref f) pos kw) Q E s := by
  refine wpAny_call ?_
  refine kla_callFunE hroom ho rfl hco hgen rfl hcd ?_
  rw [hbind]
  refine wpAny_pure (wpAny_newFunctionEnv hcell hloc (fun h₁ hns hsb => ⟨hlim.fresh _ hsb, ?_⟩) hk)
  show codeAny _ _ (.expr body (envX qual scope s.heap.objs.size f (.ref c') cl)) _ _
  have hk₁ : ∀ b o, s.heap.get? b = some o → h₁.get? b = some o := fun b o e => hsb.extBut b o (Nat.ne_of_lt (Heap.lt_size e)) (Heap.get?_push_of_some _ e)
  exact kla_codeExpr (wpAny_mono (h s.heap.objs.size h₁ (s.toks + binds.length) ⟨hns, hk₁, Nat.le_refl _⟩ News.nil) (fun v s' hl => hl) fun _ _ y => y.elim)

/-- a def whose frame has cells, and whose own table may grow -/
theorem enterP {body : List Stmt} {P : Addr} {tab : Obj} (X : K.In s.heap) (hlim : s.heap.NoLimit) (hP : s.heap.get? P = some tab)
    (ho : K.lookup f = some ⟨oc, od, .func (fnOf name qual params body scope dV kV doc pm an cdv ct), osl⟩) (hcd : codeIn K cdv qual = true) (hroom : A.depth < recursionLimit)
    (hbind : BindsTo s (fnOf name qual params body scope dV kV doc pm an cdv ct) ⟨pos, kw⟩ binds)
    (hkind : (binds.all fun y => scope.names.lookup y.1 == some .local || scope.names.lookup y.1 == some .cell) = true)
    (hnd : ((cellsFrom 0 scope.names []).map (·.1)).Nodup)
    (hco : scope.isCoroutine = false) (hgen : scope.isGenerator = false) (hk : scope.kind = .function)
    (h : ∀ L h₁ tk cells, Fr (s.heap.hide P) L h₁ (bindL (envOfC qual scope L f cdv).kindOf binds fun _ => none) → News (s.heap.hide P) L h₁ (cells ++ [(P, tab)]) →
      CellsAre (bindC (envOfC qual scope L f cdv).kindOf binds fun _ => none) (cellsFrom (L + 1) scope.names []) cells → P < L →
      wpAny (model prog w) (A.deeper (envOfC qual scope L f cdv)) (execs body (envOfC qual scope L f cdv))
        (fun fl s' => Q (match fl with | .ret v => v | _ => .none) s') (fun _ _ => False) { s with heap := h₁, toks := tk }) :
    wpAny (model prog w) A (call (.ref f) pos kw) Q E s := by
  refine enterC X hlim ho hcd hroom hbind hkind hnd hco hgen hk fun L h₁ tk cells F N Y => ?_
  have hPL : P < L := Nat.lt_of_lt_of_le (Heap.lt_size hP) F.above
  refine h L h₁ tk cells ⟨F.ns, fun b o e => F.keep b o (Heap.of_hide e), Nat.le_trans (Nat.le_of_eq (Heap.hide_size _ _)) F.above⟩ (fun p hp => ?_) Y hPL
  rcases List.mem_append.mp hp with hp | hp
  · have z := N p hp
    refine ⟨z.1, z.2.1, ?_⟩
    cases q : (s.heap.hide P).get? p.1 with
    | none => rfl
    | some o => rw [Heap.of_hide q] at z; cases z.2.2
  · rw [List.mem_singleton.mp hp]
    exact ⟨F.keep _ _ hP, Nat.ne_of_lt hPL, Heap.hide_self _ _⟩

theorem stay_hide {g h : Heap} {P : Addr} (hg : Stay g h) (hP : g.get? P = none) : Stay g (h.hide P) := fun b o e => by
  have hb : b ≠ P := fun q => by rw [q, hP] at e; cases e
  rw [Heap.hide_ne h hb]; exact hg b o e
theorem stayBut_of {h h' : Heap} {P : Addr} (k : ∀ b o, (h.hide P).get? b = some o → h'.get? b = some o) : StayBut P h h' := fun b o hb e => k b o (by rw [Heap.hide_ne h hb]; exact e)
end

/-- the def's own table: nothing yet, or the one lambda's code -/
def TabOk (line col : Nat) (qual : Str) (ps : Array Value) (extra : List (Addr × Obj)) : Prop :=
  (ps = #[] ∧ extra = []) ∨ ∃ c' oc vs t, ps = #[rawInt line, rawInt col, .ref c'] ∧ extra = [(c', oc)] ∧ oc.data = .fields vs ∧ vs[1]? = some (.str qual t)

theorem updF_mid {d : Addr} {o : Obj} : ∀ {pre post : List (Addr × Obj)}, (∀ p ∈ pre, p.1 ≠ d) → (∀ p ∈ post, p.1 ≠ d) → UpdF d o (pre ++ (d, o) :: post) (fun o' => pre ++ (d, o') :: post)
  | [], _, _, h => .head h
  | p :: _, _, h1, h2 => .tail (h1 p (.head _)) (updF_mid (fun q hq => h1 q (.tail _ hq)) h2)

section
variable {M : Model} {A : Around} {E : Value → Shared → Prop} {s : Shared} {h₀ : Heap} {L a c P : Addr} {m mg mb : Str → Option Value} {cn : Str} {cs : Scope} {ccd : Value} {cl : List (Str × Addr)} {pre extra own : List (Addr × Obj)}
  {p : Program} {loose : List Str} {mean : ExcName → Option Value} {name qual : Str} {params : Arguments} {body : Expr} {scope : Scope} {ps : Array Value} {pos : Pos} {firstLine : Nat} {clos : List (Str × Addr)}
/-- a lambda made, the first time or again -/
theorem lam_make {Q : Value → Shared → Prop} (F : Fr h₀ L s.heap m) (N : News h₀ L s.heap (pre ++ (P, tabObj ps) :: (extra ++ own))) (T : Top p loose mean mg mb h₀) (C : CodeHd h₀ c P) (hcd : ccd = .ref c)
    (htab : TabOk pos.line pos.col qual ps extra) (hpre : ∀ q ∈ pre, q.1 ≠ P) (hext : ∀ q ∈ extra, q.1 ≠ P) (hown : ∀ q ∈ own, q.1 ≠ P) (hlow : ∀ q ∈ extra, ∀ r ∈ pre, @LT.lt Nat _ r.1 q.1) (hoff : ∀ q ∈ extra, ∀ r ∈ own, r.1 ≠ q.1)
    (hcl : closureFor scope (envX cn cs L a ccd cl) = pure clos)
    (h : ∀ f c' oc vs t ctv h' tk, Fr h₀ L h' m →
      News h₀ L h' ((f, kla_obj name qual params body scope clos ((mg "__name__").getD .none) c' ctv) :: (pre ++ (P, tabObj #[rawInt pos.line, rawInt pos.col, .ref c']) :: ((c', oc) :: own))) →
      oc.data = .fields vs → vs[1]? = some (.str qual t) → (∀ q ∈ pre ++ own, @LT.lt Nat _ q.1 f) → @LT.lt Nat _ P f → @LT.lt Nat _ c' f → (∀ r ∈ pre, @LT.lt Nat _ r.1 c') → c' ≠ P → (∀ r ∈ own, r.1 ≠ c') → Q (.ref f) { s with heap := h', toks := tk }) :
    wpAny M A (makeFunction name qual params (.expr body) scope (envX cn cs L a ccd cl) [] [] [] pos firstLine) Q E s := by
  rcases htab with ⟨rfl, rfl⟩ | ⟨c', oc, vs, t, rfl, rfl, hoc, hv⟩
  · refine kla_nest F N T C hcd (updF_mid hpre (by simpa using hown)) True.intro rfl hcl ?_
    intro f c' oc vs t ctv h' tk F' N' hoc hv hlt hcf
    have lo : ∀ q ∈ pre ++ own, @LT.lt Nat _ q.1 c' := fun q hq => hlt q (by
      rcases List.mem_append.mp hq with h | h
      · exact List.mem_append_left _ h
      · exact List.mem_append_right _ (List.mem_cons_of_mem _ (by simpa using h)))
    have hPc : @LT.lt Nat _ P c' := hlt (P, tabObj #[]) (List.mem_append_right _ (.head _))
    refine h f c' oc vs t ctv h' tk F' (fun q hq => N' q ?_) hoc hv (fun q hq => Nat.lt_trans (lo q hq) hcf) (Nat.lt_trans hPc hcf) hcf (fun r hr => lo r (List.mem_append_left _ hr)) (Nat.ne_of_gt hPc) fun r hr => Nat.ne_of_lt (lo r (List.mem_append_right _ hr))
    rcases List.mem_cons.mp hq with rfl | hq
    · exact .head _
    · refine .tail _ ?_
      rcases List.mem_append.mp hq with hq | hq
      · exact .tail _ (List.mem_append_left _ hq)
      · rcases List.mem_cons.mp hq with rfl | hq
        · exact .tail _ (List.mem_append_right _ (.head _))
        · rcases List.mem_cons.mp hq with rfl | hq
          · exact .head _
          · exact .tail _ (List.mem_append_right _ (List.mem_cons_of_mem _ (by simpa using hq)))
  · refine kla_hit (c' := c') F N T C hcd (List.mem_append_right _ (.head _)) (by simp [TriplesOk, rawInt]) (by simp [codeAmong, rawInt]) hcl ?_
    intro f ctv h' tk F' N' hlt
    refine h f c' oc vs t ctv h' tk F' N' hoc hv (fun q hq => hlt q ?_) (hlt _ (List.mem_append_right _ (.head _))) (hlt (c', oc) (List.mem_append_right _ (.tail _ (.head _)))) (fun r hr => hlow _ (.head _) r hr) (hext _ (.head _)) fun r hr => hoff _ (.head _) r hr
    rcases List.mem_append.mp hq with h | h
    · exact List.mem_append_left _ h
    · exact List.mem_append_right _ (.tail _ (.tail _ h))
end
end Mine
end
section
open PySem PySem.W PyProof.Rows PySem.Calls PySem.Spec
set_option maxRecDepth 100000
namespace Mine
section
variable {prog : Program} {w : World} {A : Around} {E : Value → Shared → Prop} {s : Shared} {h₀ : Heap} {env : Env}

theorem assign_comp2 {elt i1 i2 : Expr} {a b y : Str} {pa pb py : Pos} {scope : Scope} {pos spos : Pos} {z : Str} {Q : Flow → Shared → Prop} (Rel : Value → Nat → Value → Prop) (hh : A.handled = none)
    (hsw : swapsWith (.ListComp elt [⟨.Name a pa, i1, [], 0⟩, ⟨.Name b pb, i2, [], 0⟩] scope pos) (some (.Name y py)) spos.line env = pure true)
    (hclos : closureFor scope env = pure []) (hcell : ∀ x ∈ scope.names, x.2 ≠ .cell) (hkind : scope.kind = .function)
    (hnames : ∀ x ∈ scope.names, x.2 = .local → scope.names.lookup x.1 = some .local) (ha : scope.names.lookup a = some .local) (hb : scope.names.lookup b = some .local) (hab : a ≠ b)
    (hy : env.kindOf y = some .local) (hp : (env.scope.kind == .class || (env.scope.kind == .module && env.locals != env.globals)) = false)
    (hi2 : ∀ (C : Addr) (s₃ : Shared) (Q' : Value → Shared → Prop) (E' : Value → Shared → Prop), (∀ t tk, Q' (.str z t) { s₃ with toks := tk }) → wpAny (model prog w) A (eval i2 (compEnvC scope [] C env)) Q' E' s₃)
    (hfs : ∀ C x, foldedSetIterable i2 (compEnvC scope [] C env) x = pure x)
    (h : wpAny (model prog w) A (eval i1 env) (fun xv s₁ => ∃ ax its m news, xv = .ref ax ∧ s₁.heap.IsList ax its ∧ its.size * z.cps.size ≤ sizeLine ∧ Fr h₀ env.locals s₁.heap m ∧ News h₀ env.locals s₁.heap news ∧
      (∀ (C : Addr) (s₃ : Shared) (m₃ : Str → Option Value) (v : Value) (c : Nat) (u : Tok) (Q' : Value → Shared → Prop) (E' : Value → Shared → Prop), s₃.heap.Ns C m₃ → m₃ a = some v → m₃ b = some (.str ⟨#[c]⟩ u) → v ∈ its.toList → c ∈ z.cps.toList → (∀ r tk, Rel v c r → Q' r { s₃ with toks := tk }) →
        wpAny (model prog w) A (eval elt (compEnvC scope [] C env)) Q' E' s₃) ∧
      ∀ D n h' tk ys, Paired (fun (p : Value × Nat) r => Rel p.1 p.2 r) (pairs2 its.toList z.cps.toList) ys → Fr h₀ env.locals h' (fun x => if x = y then some (.ref D) else m x) → News h₀ env.locals h' ((D, listOf ys.toArray n) :: news) → (∀ p ∈ news, p.1 ≠ D) →
        Q .next { s₁ with heap := h', toks := tk }) E s)
    (hs : ∀ x, foldedSetIterable i1 env x = pure x := by intro _; rfl) :
    wpAny (model prog w) A (exec (.Assign [.Name y py] (.ListComp elt [⟨.Name a pa, i1, [], 0⟩, ⟨.Name b pb, i2, [], 0⟩] scope pos) spos) env) Q E s := by
  rw [exec_Assign_Name_used _ _ _ _ hsw]
  refine wpAny_bind (wpAny_standAt (wpAny_bind ?_))
  show wpAny _ A (do let _ ← comprehension (.ListComp elt [⟨.Name a pa, i1, [], 0⟩, ⟨.Name b pb, i2, [], 0⟩] scope pos) scope env _ (newList []) false (eval i1 env) (some (assign (.Name y py) env))) _ _ s
  refine wpAny_bind (wpAny_mono (wpAny_comprehension_free (use := some (assign (.Name y py) env)) (Q := fun _ s' => Q .next s') rfl hs hclos hkind hnames
    (wpAny_mono h (fun xv s₁ h₁ => ?_) fun _ _ e => e)) (fun _ s' hq => wpAny_pure (wpAny_pure hq)) fun _ _ e => e)
  obtain ⟨ax, its, m, news, rfl, hl, hsz, F, N, hel, hQ⟩ := h₁
  refine wpAny_pyIter_list hl ?_
  generalize hs₂ : s₁.heap.push { cls := .type "list_iterator", data := .fields #[.ref ax, .int 0 0] } = H₂
  have hI : s₁.heap.objs.size < H₂.objs.size := by rw [← hs₂, Heap.size_push]; exact Nat.lt_succ_self _
  have up : ∀ b o, s₁.heap.get? b = some o → H₂.get? b = some o := fun b o e => hs₂ ▸ Heap.get?_push_of_some _ e
  have hIt : H₂.get? s₁.heap.objs.size = some { cls := .type "list_iterator", data := .fields #[.ref ax, .int 0 0] } := hs₂ ▸ Heap.get?_push_size _ rfl
  obtain ⟨oA, heA, hAr⟩ := id hl
  have haI : ax ≠ s₁.heap.objs.size := Nat.ne_of_lt (Heap.lt_size heA)
  refine wpAny_newObj_type (wpAny_newFunctionEnv hcell (by intro x hx; simp at hx) (fun h₁ hns₁ hsb₁ => ?_) hkind)
  dsimp only at hns₁ hsb₁ ⊢
  generalize hH3 : H₂.push { cls := .type "list", dict := none, data := .seq ([] : List Value).toArray } = H3 at hns₁ hsb₁ ⊢
  have hC : H3.objs.size = H₂.objs.size + 1 := by rw [← hH3, Heap.size_push]
  have below : ∀ b, b < H₂.objs.size → b ≠ H3.objs.size ∧ b ≠ H₂.objs.size := fun b hb => ⟨by rw [hC]; exact Nat.ne_of_lt (Nat.lt_succ_of_lt hb), Nat.ne_of_lt hb⟩
  have hCD : H3.objs.size ≠ H₂.objs.size := by rw [hC]; exact Nat.ne_of_gt (Nat.lt_succ_self _)
  have old : ∀ b o, H₂.get? b = some o → h₁.get? b = some o := fun b o e => hsb₁.extBut b o (below b (Heap.lt_size e)).1 (Heap.get?_push_of_some _ (hH3 ▸ Heap.get?_push_of_some _ e))
  have hacc : h₁.PlainList H₂.objs.size ([] : List Value).toArray := ⟨_, hsb₁.extBut _ _ (Ne.symm hCD) (Heap.get?_push_of_some _ (hH3 ▸ Heap.get?_push_size _ rfl))⟩
  have hIC := (below _ hI).1
  have hID := (below _ hI).2
  have haC := (below _ (Nat.lt_trans (Heap.lt_size heA) hI)).1
  have haD := (below _ (Nat.lt_trans (Heap.lt_size heA) hI)).2
  have hL : env.locals < s₁.heap.objs.size := F.ns.lt
  have fresh : ∀ a, s₁.heap.objs.size ≤ a → h₀.get? a = none := fun a ha => by
    cases e : h₀.get? a with
    | none => rfl
    | some o' => exact absurd (Heap.lt_size (F.keep a o' e)) (Nat.not_lt.mpr ha)
  have loop : ∀ s₃ : Shared, s₃ = { s₁ with heap := h₁, toks := s₁.toks + ([] : List (Str × Value)).length } →
      codeAny (model prog w) A (.compLoop (.ListComp elt [⟨.Name a pa, i1, [], 0⟩, ⟨.Name b pb, i2, [], 0⟩] scope pos) 0 (.ref s₁.heap.objs.size) (.ref H₂.objs.size) (compEnvC scope [] H3.objs.size env))
        (compPost (model prog w) A E (some (assign (.Name y py) env)) (fun _ s' => Q .next s') (.ref H₂.objs.size) H3.objs.size) s₃ := by
    rintro s₃ rfl
    refine comp2_outer (h₂ := H₂) (C := H3.objs.size) (cenv := compEnvC scope [] H3.objs.size env) Rel hh rfl (lookup_relabel_local ha) (lookup_relabel_local hb) hab (by simp [compEnvC, relabel, hkind]) hIC hID hCD haI haC haD (hi2 _) (hel _) hsz
      ⟨⟨_, old _ _ hIt, rfl, rfl⟩, ⟨oA, old _ _ (up _ _ heA), hAr⟩, hacc, fun b' o _ _ _ e => old b' o e⟩ hns₁ (hfs _) ?_
    intro h' tk ys m' hP hD hn hk
    have k' : ∀ b o, s₁.heap.get? b = some o → h'.get? b = some o := fun b o e => hk b o (Nat.ne_of_lt (Heap.lt_size e)) (below _ (Nat.lt_trans (Heap.lt_size e) hI)).1 (below _ (Nat.lt_trans (Heap.lt_size e) hI)).2 (up b o e)
    have F' : Fr h₀ env.locals h' m := F.grownK k'
    have hLC : env.locals ≠ H3.objs.size := (below _ (Nat.lt_trans hL hI)).1
    have hLD : env.locals ≠ H₂.objs.size := (below _ (Nat.lt_trans hL hI)).2
    obtain ⟨n, hDo⟩ := hD
    show wpAny _ A (assign (.Name y py) env (.ref H₂.objs.size)) _ _ _
    refine wpAny_assign_Name (wpAny_storeName_local hy F'.ns (fun h₂ hn₂ hs₂ => ?_) hp)
    refine ⟨m', hn.sameBut hs₂ (Ne.symm hLC), fun h₃ hs₃ => ?_⟩
    have F₂ := F'.set hn₂ hs₂
    have F₃ : Fr h₀ env.locals h₃ (fun x => if x = y then some (.ref H₂.objs.size) else m x) := F₂.change hs₃ (Ne.symm hLC) (fresh _ (by omega))
    refine hQ H₂.objs.size n h₃ _ ys hP F₃ (fun p hp => ?_) fun p hp => Nat.ne_of_lt (Nat.lt_trans (Heap.lt_size (N p hp).1) hI)
    rcases List.mem_cons.mp hp with rfl | hp
    · exact ⟨hs₃.extBut _ _ (Ne.symm hCD) (hs₂.extBut _ _ (Ne.symm hLD) hDo), Ne.symm hLD, fresh _ (by omega)⟩
    · have z := N p hp
      exact ⟨hs₃.extBut _ _ (below _ (Nat.lt_trans (Heap.lt_size z.1) hI)).1 (hs₂.extBut _ _ z.2.1 (k' _ _ z.1)), z.2⟩
  exact codeAny_compStart_list (loop _ rfl) ((Walks.list (prog := prog) (w := w) hh s₁.heap.objs.size ax haI its).self 0 _ _ _ ⟨⟨_, old _ _ hIt, rfl, rfl⟩, ⟨oA, old _ _ (up _ _ heA), hAr⟩⟩ (loop _ rfl))
end
end Mine
end
section
open PySem PySem.W PyProof.Rows PySem.Calls PySem.Spec
set_option maxRecDepth 100000
namespace Mine
theorem stay_hideAll {g h : Heap} {l : List Addr} (hg : Stay g h) (hl : ∀ a ∈ l, g.get? a = none) : Stay g (hideAll h l) :=
  fun b o e => hideAll_get l (hg b o e) (fun hb => by rw [hl b hb] at e; cases e)
theorem stay_back {h h' : Heap} {news : List (Addr × Obj)} (hn : ∀ p ∈ news, h.get? p.1 = some p.2) (hk : ∀ b o, (hideAll h (news.map (·.1))).get? b = some o → h'.get? b = some o) (hN : ∀ p ∈ news, h'.get? p.1 = some p.2) : Stay h h' := by
  intro b o e
  by_cases hb : b ∈ news.map (·.1)
  · obtain ⟨p, hp, rfl⟩ := List.mem_map.mp hb
    rw [hn p hp] at e; rw [hN p hp]; exact e
  · exact hk b o (hideAll_get _ e hb)
section
variable {prog : Program} {w : World} {A : Around} {s : Shared} {K : Frag} {Q E : Value → Shared → Prop} {name qual : Str} {params : Arguments} {scope : Scope} {dV kV doc pm cdv ct oc : Value} {an od : Option Addr}
  {osl : Array (Option Value)} {f : Addr} {pos : List Value} {kw : List (Str × Value)} {binds : List (Str × Value)}
theorem enterLamC {body : Expr} {cl : List (Str × Addr)} {c' : Addr} {ctv : Value} (news : List (Addr × Obj)) (hn : ∀ p ∈ news, s.heap.get? p.1 = some p.2)
    (ho : s.heap.get? f = some (kla_obj name qual params body scope cl pm c' ctv)) (hcd : s.heap.CodeRec (.ref c') qual) (hlim : s.heap.NoLimit) (hroom : A.depth < recursionLimit)
    (hbind : bindArgs (kla_fn name qual params body scope cl pm (.ref c') ctv) ⟨pos, kw⟩ = pure binds) (hloc : ∀ y ∈ binds, scope.names.lookup y.1 = some .local)
    (hco : scope.isCoroutine = false) (hgen : scope.isGenerator = false) (hk : scope.kind = .function) (hcell : ∀ x ∈ scope.names, x.2 ≠ .cell)
    (h : ∀ L h₁ tk, Fr (hideAll s.heap (news.map (·.1))) L h₁ (fun y => binds.reverse.lookup y) → News (hideAll s.heap (news.map (·.1))) L h₁ news →
      wpAny (model prog w) (A.deeper (envX qual scope L f (.ref c') cl)) (eval body (envX qual scope L f (.ref c') cl)) (fun v s' => Q v s') (fun _ _ => False) { s with heap := h₁, toks := tk }) :
    wpAny (model prog w) A (call (.ref f) pos kw) Q E s := by
  refine enterLam ho hcd hlim hroom hbind hloc hco hgen hk hcell fun L h₁ tk F N => ?_
  refine h L h₁ tk ⟨F.ns, fun b o e => F.keep b o (of_hideAll _ e), Nat.le_trans (Nat.le_of_eq (hideAll_size _ _)) F.above⟩ fun p hp => ?_
  exact ⟨F.keep _ _ (hn p hp), Nat.ne_of_lt (Nat.lt_of_lt_of_le (Heap.lt_size (hn p hp)) F.above), hideAll_none _ (List.mem_map_of_mem hp)⟩
end
end Mine
end
section
open PySem PySem.W PyProof.Rows
namespace Mine
theorem sub_one (c : Nat) (l : List Nat) : sub [c] l = decide (c ∈ l) := by
  by_cases h : c ∈ l
  · rw [decide_eq_true h]
    induction l with
    | nil => cases h
    | cons d r ih =>
      rw [sub_cons]
      by_cases e : c = d
      · rw [if_pos e, sub_nil]
      · rw [if_neg e]
        have hr : c ∈ r := by simpa [e] using h
        exact ih hr
  · rw [sub_miss h, decide_eq_false h]
/-- every letter is there -/
def full (l : List Nat) : Bool := sub [97] l && (sub [98] l && sub [99] l)
theorem full_iff (l : List Nat) : full l = true ↔ 97 ∈ l ∧ 98 ∈ l ∧ 99 ∈ l := by
  unfold full
  rw [sub_one, sub_one, sub_one]
  simp
theorem full_sub {l r : List Nat} (h : ∀ x ∈ l, x ∈ r) (hl : full l = true) : full r = true := by
  rw [full_iff] at hl ⊢
  exact ⟨h _ hl.1, h _ hl.2.1, h _ hl.2.2⟩
theorem full_take {l : List Nat} {i j : Nat} (h : i ≤ j) (hl : full (l.take i) = true) : full (l.take j) = true := by
  refine full_sub (fun x hx => ?_) hl
  have : l.take i = (l.take j).take i := by rw [List.take_take, Nat.min_eq_left h]
  rw [this] at hx
  exact List.mem_of_mem_take hx
/-- the first end, from a place on, up to which every letter is there -/
def nextEnd (l : List Nat) (s : Nat) : Option Nat := (List.range (l.length + 1)).find? fun r => decide (s ≤ r) && full ((l.drop s).take (r - s))
def endsF (l : List Nat) : Nat → Nat → List Nat
  | 0, _ => []
  | f + 1, s => match nextEnd l s with
    | none => []
    | some r => r :: endsF l f r
/-- the last beginning, up to a place, from which every letter is there -/
def prevStart (l : List Nat) (e : Nat) : Option Nat := (List.range (e + 1)).reverse.find? fun r => full ((l.take e).drop r)
def startsF (l : List Nat) : Nat → Nat → List Nat
  | 0, _ => []
  | f + 1, e => match prevStart l e with
    | none => []
    | some r => r :: startsF l f r
theorem find_range {p : Nat → Bool} {n r : Nat} (h1 : ∀ i, i < r → p i = false) (h2 : p r = true) (hr : r < n) : (List.range n).find? p = some r := by
  rw [List.find?_range_eq_some]
  exact ⟨h2, by simpa using hr, fun j hj => by simp [h1 j hj]⟩
theorem nextEnd_some {l : List Nat} {s r : Nat} (hs : s ≤ r) (hr : r ≤ l.length) (h1 : ∀ i, s ≤ i → i < r → full ((l.drop s).take (i - s)) = false) (h2 : full ((l.drop s).take (r - s)) = true) : nextEnd l s = some r := by
  unfold nextEnd
  refine find_range (fun i hi => ?_) ?_ (by omega)
  · by_cases q : s ≤ i
    · rw [h1 i q hi]; simp
    · simp [q]
  · simp [hs, h2]
theorem nextEnd_none {l : List Nat} {s : Nat} (h1 : ∀ i, s ≤ i → i < l.length + 1 → full ((l.drop s).take (i - s)) = false) : nextEnd l s = none := by
  unfold nextEnd
  rw [List.find?_eq_none]
  intro i hi
  rw [List.mem_range] at hi
  by_cases q : s ≤ i
  · simp [h1 i q hi]
  · simp [q]
theorem full_drop {l : List Nat} {i j : Nat} (h : i ≤ j) (hl : full (l.drop j) = true) : full (l.drop i) = true := by
  refine full_sub (fun x hx => ?_) hl
  have : l.drop j = (l.drop i).drop (j - i) := by rw [List.drop_drop]; congr 1; omega
  rw [this] at hx
  exact List.mem_of_mem_drop hx
theorem find_rev {p : Nat → Bool} : ∀ {n r : Nat}, (∀ i, r < i → i < n → p i = false) → p r = true → r < n → (List.range n).reverse.find? p = some r
  | 0, _, _, _, h => absurd h (Nat.not_lt_zero _)
  | n + 1, r, h1, h2, hr => by
    rw [List.range_succ, List.reverse_append]
    show (n :: (List.range n).reverse).find? p = _
    rcases Nat.lt_or_ge r n with q | q
    · rw [List.find?_cons_of_neg (by rw [h1 n q (Nat.lt_succ_self _)]; simp)]
      exact find_rev (fun i a b => h1 i a (by omega)) h2 q
    · have : n = r := by omega
      subst this
      rw [List.find?_cons_of_pos h2]
theorem prevStart_some {l : List Nat} {e r : Nat} (hr : r ≤ e) (h1 : ∀ i, r < i → i ≤ e → full ((l.take e).drop i) = false) (h2 : full ((l.take e).drop r) = true) : prevStart l e = some r :=
  find_rev (fun i a b => h1 i a (by omega)) h2 (by omega)
theorem prevStart_none {l : List Nat} {e : Nat} (h1 : ∀ i, i ≤ e → full ((l.take e).drop i) = false) : prevStart l e = none := by
  unfold prevStart
  rw [List.find?_eq_none]
  intro i hi
  rw [List.mem_reverse, List.mem_range] at hi
  simp [h1 i (by omega)]
end Mine
end
section
open PySem PySem.W PyProof.Rows PySem.Calls PySem.Spec PySem.Builtin PySem.Builtin.Str PySem.StrLaws
namespace Mine
theorem ints_get {v : Value} : ∀ {vs : List Value} {ns : List Int} {i : Nat}, IntsAre vs ns → vs[i]? = some v → ∃ n t, v = Value.int n t ∧ ns[i]? = some n
  | _, _, _, .nil, h => by simp at h
  | _, _, 0, .cons n t _, h => ⟨n, t, (Option.some.inj h).symm, rfl⟩
  | _, _, i + 1, .cons _ _ r, h => by
    obtain ⟨n, t, e, g⟩ := ints_get (i := i) r (by simpa using h)
    exact ⟨n, t, e, by simpa using g⟩
theorem strs_build {α : Type} (f : α → Str) : ∀ (l : List α) (ys : List Value), ys.length = l.length → (∀ (i : Nat) (y : Value), ys[i]? = some y → ∃ (a : α) (t : Tok), l[i]? = some a ∧ y = Value.str (f a) t) → StrsAre ys (l.map f)
  | [], [], _, _ => .nil
  | [], _ :: _, h, _ => by simp at h
  | _ :: _, [], h, _ => by simp at h
  | a :: l, y :: ys, h, H => by
    obtain ⟨b, t, e, rfl⟩ := H 0 y rfl
    obtain rfl : a = b := Option.some.inj e
    exact .cons _ t (strs_build f l ys (by simpa using h) fun i z hz => by
      obtain ⟨b, t, e, g⟩ := H (i + 1) z (by simpa using hz)
      exact ⟨b, t, by simpa using e, g⟩)
/-- a number's letter -/
def resid (n : Int) : Nat := 97 + (n.fmod 3).toNat
theorem resid_mem (n : Int) : resid n = 97 ∨ resid n = 98 ∨ resid n = 99 := by
  unfold resid
  have h1 : 0 ≤ n.fmod 3 := Int.fmod_nonneg_of_pos n (by omega)
  have h2 : n.fmod 3 < 3 := Int.fmod_lt_of_pos n (by omega)
  omega
theorem abc_cl : cl (Str.ofString "abc") = [97, 98, 99] := by decide +kernel
theorem item_abc (n : Int) : Txt.item (Str.ofString "abc") (n.fmod 3) = tx [resid n] := by
  have h1 : 0 ≤ n.fmod 3 := Int.fmod_nonneg_of_pos n (by omega)
  have h2 : n.fmod 3 < 3 := Int.fmod_lt_of_pos n (by omega)
  have e : n.fmod 3 = ((n.fmod 3).toNat : Int) := by omega
  rw [e]
  refine item_at ?_
  rw [abc_cl]
  unfold resid
  have : (n.fmod 3).toNat = 0 ∨ (n.fmod 3).toNat = 1 ∨ (n.fmod 3).toNat = 2 := by omega
  rcases this with q | q | q <;> rw [q] <;> rfl
theorem join_singles (l : List Nat) : Txt.join (Str.ofString "") (l.map fun n => tx [n]) = tx l := by
  have e : Str.ofString "" = (⟨#[]⟩ : Str) := str_ext empty_cl
  rw [e]
  show glued _ _ = _
  rw [glued_eq_join]
  exact join_nil_signs (tx l)
theorem sum_singles (l : List Nat) : ((l.map fun n => tx [n]).map (·.length)).sum = l.length := by
  induction l with
  | nil => rfl
  | cons a l ih => rw [List.map_cons, List.map_cons, List.sum_cons, ih, List.length_cons]; show 1 + _ = _; omega
section
variable {prog : Program} {w : World} {A : Around} {E : Value → Shared → Prop} {s : Shared} {h₀ : Heap} {L : Addr} {m : Str → Option Value} {Q : Value → Shared → Prop}
/-- single letters, glued -/
theorem join_letters {D : Addr} {ys : List Value} {l : List Nat} {t : Tok} (hl : s.heap.IsList D ys.toArray) (hi : StrsAre ys (l.map fun n => tx [n])) (hs : l.length ≤ 1000)
    (h : ∀ t' tk, Q (Value.str (tx l) t') { s with toks := tk }) : wpAny (model prog w) A (call (.builtin "str.join") [Value.str (Str.ofString "") t, Value.ref D]) Q E s := by
  refine join_listW hl hi (by show (Str.ofString "").length ≤ 16; decide +kernel) (by rw [sum_singles, List.length_map]; omega) ?_
  rw [join_singles]
  intro t' tk
  exact h t' tk
end
end Mine
end
section
open PySem PySem.W PyProof.Rows
namespace Mine
/-- a step of the walk that gathers letters -/
def gstep (st : List Nat × List Nat) (k c : Nat) : List Nat × List Nat :=
  let seen := if c ∈ st.1 then st.1 else st.1 ++ [c]
  if seen.length = 3 then ([], st.2 ++ [k + 1]) else (seen, st.2)
def gathI (l : List Nat) : Nat → List Nat × List Nat
  | 0 => ([], [])
  | i + 1 => gstep (gathI l i) i (l.getD i 0)
def gath (l : List Nat) : List Nat := (gathI l l.length).2
/-- all words of so many letters -/
def wordsL : Nat → List (List Nat)
  | 0 => [[]]
  | n + 1 => (wordsL n).flatMap fun w => [97, 98, 99].map fun c => w ++ [c]
def Es (l : List Nat) : List Nat := endsF l l.length 0
def Ss (l : List Nat) : List Nat := startsF l l.length l.length
def lastsL (l : List Nat) : List Nat := (Es l).map fun e => l.getD (e - 1) 0
def firstsL (l : List Nat) : List Nat := (Ss l).reverse.map fun s => l.getD s 0
/-- what the law asks, in plain words -/
structure Plain (l : List Nat) : Prop where
  ends : Es l = gath l
  starts : Ss l = (gath l.reverse).map fun e => l.length - e
  back : ∀ e ∈ gath l.reverse, e ≤ l.length
  size : (Ss l).length = (Es l).length
  pos : 1 ≤ (Es l).length
  few : (Es l).length ≤ 3
  endsIn : ∀ e ∈ Es l, 1 ≤ e ∧ e ≤ l.length
  startsIn : ∀ e ∈ Ss l, e < l.length
  words : ∀ w ∈ wordsL (Es l).length, sub w l = true
  laid : ∀ w, sub w.reverse l.reverse = sub w l
  front : ∀ w ∈ wordsL ((Es l).length + 1), sub w l = false → ∀ k, k < (Es l).length → sub (w.take (k + 1)) (l.take ((Es l).getD k 0)) = true ∧ sub (w.take (k + 1)) (l.take ((Ss l).getD ((Es l).length - 1 - k) 0)) = false
  no46l : 46 ∉ lastsL l
  no46f : 46 ∉ firstsL l
  lasts : ∀ k, k < (Es l).length → sub ((lastsL l).take (k + 1)) (l.take ((Es l).getD k 0)) = true ∧ sub ((lastsL l).take (k + 1)) (l.take ((Es l).getD k 0 - 1)) = false
  firsts : ∀ k, k < (Es l).length → sub ((firstsL l).drop ((Es l).length - 1 - k)) (l.drop ((Ss l).getD k 0)) = true ∧ sub ((firstsL l).drop ((Es l).length - 1 - k)) (l.drop ((Ss l).getD k 0 + 1)) = false
end Mine
end
section
open PySem PySem.W PyProof.Rows PySem.Calls PySem.Spec
namespace Mine
theorem newsAdd {g h h' : Heap} {L a : Addr} {m : Str → Option Value} {own : List (Addr × Obj)} {o : Obj} (F : Fr g L h m) (N' : News g L h' own) (ha : h.get? a = none) (hao : h'.get? a = some o) : News g L h' ((a, o) :: own) := by
  intro p hp
  rcases List.mem_cons.mp hp with rfl | hp
  · refine ⟨hao, fun e => ?_, ?_⟩
    · have e' : a = L := e
      obtain ⟨o', _, _, ho', _⟩ := F.ns
      rw [← e', ha] at ho'
      cases ho'
    · cases q : g.get? a with
      | none => rfl
      | some o' => rw [F.keep _ _ q] at ha; cases ha
  · exact N' p hp
theorem afterP {g h h' : Heap} {L a P : Addr} {m : Str → Option Value} {own : List (Addr × Obj)} {oa po : Obj} (F : Fr g L h m) (N : News g L h own) (hP : g.get? P = none) (hLP : L ≠ P) (hown : ∀ p ∈ own, p.1 ≠ P) (k : StayBut P h h')
    (ha : h.get? a = none) (hao : h'.get? a = some oa) (hPo : h'.get? P = some po) : Fr g L h' m ∧ News g L h' ((a, oa) :: (P, po) :: own) := by
  refine ⟨⟨F.ns.at' fun o e => k L o hLP e, fun b o e => k b o (fun q => by rw [q, hP] at e; cases e) (F.keep b o e), F.above⟩, newsAdd F ?_ ha hao⟩
  intro p hp
  rcases List.mem_cons.mp hp with rfl | hp
  · exact ⟨hPo, fun e => hLP e.symm, hP⟩
  · have z := N p hp
    exact ⟨k _ _ (hown p hp) z.1, z.2⟩
theorem ints_build {α : Type} (f : α → Int) : ∀ (l : List α) (ys : List Value), ys.length = l.length → (∀ (i : Nat) (y : Value), ys[i]? = some y → ∃ (a : α) (t : Tok), l[i]? = some a ∧ y = Value.int (f a) t) → IntsAre ys (l.map f)
  | [], [], _, _ => .nil
  | [], _ :: _, h, _ => by simp at h
  | _ :: _, [], h, _ => by simp at h
  | a :: l, y :: ys, h, H => by
    obtain ⟨b, t, e, rfl⟩ := H 0 y rfl
    obtain rfl : a = b := Option.some.inj e
    exact .cons _ t (ints_build f l ys (by simpa using h) fun i z hz => by
      obtain ⟨b, t, e, g⟩ := H (i + 1) z (by simpa using hz)
      exact ⟨b, t, by simpa using e, g⟩)
end Mine
end
section
open PySem PySem.W PyProof.Rows PySem.Calls
set_option maxRecDepth 100000
set_option maxHeartbeats 8000000
namespace Mine
structure Rm (A : Around) (d u : Nat) : Prop where
  hd : A.handled = none
  dp : A.depth + d < recursionLimit
  un : A.units + u < cLine

theorem strs_get {ll : List (Str × Tok)} {i : Nat} {v : Value} (h : (strValues ll).toArray[i]? = some v) : ∃ x t, v = .str x t ∧ (ll.map (·.1))[i]? = some x := by
  simp only [strValues, List.getElem?_toArray, List.getElem?_map] at h
  cases e : ll[i]? with
  | none => rw [e] at h; cases h
  | some p =>
    rw [e] at h
    obtain rfl := Option.some.inj h
    exact ⟨p.1, p.2, rfl, by simp [e]⟩
theorem piece_get {l : List Nat} {i : Nat} {x : Str} (h : (tx [] :: ((l.map fun n => tx [n]) ++ [tx []]))[i]? = some x) :
    (x = tx [] ∧ (i = 0 ∨ i = l.length + 1)) ∨ ∃ c, x = tx [c] ∧ 1 ≤ i ∧ l[i - 1]? = some c := by
  cases i with
  | zero => exact .inl ⟨(Option.some.inj h).symm, .inl rfl⟩
  | succ i =>
    simp only [List.getElem?_cons_succ] at h
    rcases Nat.lt_or_ge i l.length with q | q
    · rw [List.getElem?_append_left (by simpa using q)] at h
      simp only [List.getElem?_map] at h
      cases e : l[i]? with
      | none => rw [e] at h; cases h
      | some c => rw [e] at h; exact .inr ⟨c, (Option.some.inj h).symm, by omega, by simpa using e⟩
    · rw [List.getElem?_append_right (by simpa using q)] at h
      simp only [List.length_map] at h
      have hi : i = l.length := by
        rcases Nat.lt_or_ge l.length i with q' | q'
        · rw [List.getElem?_eq_none (by simp; omega)] at h; cases h
        · omega
      subst hi
      simp at h
      exact .inl ⟨h.symm, .inr rfl⟩
/-- what the loop over the pieces keeps -/
def MatchJ (l : List Nat) (got : Str) (u : Tok) (i : Nat) (m : Str → Option Value) (mt : List (Addr × Obj)) : Prop :=
  mt = [] ∧ ∃ (k : Nat) (z : Int) (t te : Tok), Knows m [(Str.ofString "got", .str got u), (Str.ofString "endpos", .int got.length te), (Str.ofString "startpos", .int z t)] ∧ z = (k : Int) ∧
    k ≤ got.length ∧ sub l (cl got) = sub (l.drop (i - 1)) ((cl got).drop k)

theorem match_spec {w : World} {A : Around} {s : Shared} {want got : Str} {t u : Tok} (l : List Nat) {p : Program} {loose : List Str} {mean : ExcName → Option Value} {mg mb : Str → Option Value}
    (X : (hd.heap_39 w.params).In s.heap) (T : Top p loose mean mg mb s.heap) (hA : Rm A 2 20)
    (hw : cl want = gapL l) (hl : 46 ∉ l) (hwl : want.length ≤ 1000) (hgl : got.length ≤ 1000) :
    Runs (model PySem.Challenge.rw_pe0110_01.row.prog w) A (call (.ref 39) [.str want t, .str got u]) s (fun v _ => v = .bool (sub l (cl got))) := by
  revert X
  k_fill
  w_top off
  intro X
  intro Q E hret
  obtain ⟨ah, dp, fr, gd, un⟩ := A
  obtain ⟨h1, hdp, hun⟩ := hA
  dsimp only at h1 hdp hun
  subst h1
  refine enter (binds := [(Str.ofString "want", .str want t), (Str.ofString "got", .str got u)]) X T.nolimit (by k_is) (by k_is) (by show dp < _; omega) (BindsTo.of_eq rfl) (locs rfl) rfl rfl rfl (by decide) ?_
  intro L h₁ tk F N
  have hocc : (Builtin.Str.occurrences want (Str.ofString "...") 0 want.length 1).isEmpty = false := has_dots hw
  have hsp : Txt.split want (Str.ofString "...") = tx [] :: ((l.map fun n => tx [n]) ++ [tx []]) := split_gaps hw hl
  k_steps
  rotate_left
  · rename (List.map _ _ = Txt.split _ _) => hlk
    rename (¬ 2 ≤ _) => h2
    have := congrArg List.length (hlk.trans hsp)
    simp at this
    omega
  rename (List.map _ _ = Txt.split _ _) => hlk
  rename (_[_]? = some _) => hy
  rw [hlk, hsp] at hy
  obtain rfl := Option.some.inj hy
  refine P.truthy_str (by decide) ?_
  dsimp only [tx]
  k_steps
  have hl9 : (List.map (fun x : Str × Tok => x.fst) ‹List (Str × Tok)›).getD (-1 + ((List.map (fun x : Str × Tok => x.fst) ‹List (Str × Tok)›).length : Int)).toNat Str.empty = tx [] := by
    rw [hlk, hsp]
    have e : (-1 + ((tx [] :: ((l.map fun n => tx [n]) ++ [tx []])).length : Int)).toNat = l.length + 1 := by
      simp only [List.length_cons, List.length_append, List.length_map, List.length_nil]; omega
    rw [e]
    simp [List.getD]
  rw [hl9]
  refine P.truthy_str (by decide) ?_
  dsimp only [tx]
  k_steps
  rename Fr _ _ _ _ => F1
  rename News _ _ _ _ => N1
  have hlen : (strValues ‹List (Str × Tok)›).toArray.size = l.length + 2 := by
    have := congrArg List.length (hlk.trans hsp)
    simp at this
    simp [strValues, this]
  refine iter_list (mt := []) (J := MatchJ l got u) rfl ⟨_, (N1 _ (.tail _ (.head _))).1, rfl, _, rfl⟩ (.inr ⟨_, .tail _ (.head _)⟩) (by intro p hp b hb; cases hb) F1 N1 (fun e => (N1 _ (.tail _ (.head _))).2.1 e.symm) ?_ ?_ ?_
  · exact ⟨rfl, 0, _, _, _, ⟨rfl, rfl, rfl, trivial⟩, rfl, Nat.zero_le _, rfl⟩
  · rintro i v m₁ mt₁ h tk own hi hv ⟨rfl, k, _, tk0, te, hkn, rfl, hk, hsub⟩ hown hfix F2 N2
    obtain ⟨x, tx0, rfl, hx⟩ := strs_get hv
    rw [hlk, hsp] at hx
    have F3 := Fr_more F2 (hkn.upd rfl)
    clear F2 F1 N1
    rw [List.nil_append] at N2
    k_steps
    refine call_find4 ?_
    rcases piece_get hx with ⟨rfl, hi2⟩ | ⟨c, rfl, hi1, hc⟩
    · rw [find4_nil _ _ hk]
      k_steps
      refine PyProof.Rows.len_str (by decide) ?_
      k_steps
      rename Fr _ _ _ _ => F9
      rename News _ _ _ _ => N9
      refine ⟨_, _, _, [], rfl, F9, N9, (by intro p hp b hb; cases hb), rfl, k, _, _, _, ⟨rfl, rfl, rfl, trivial⟩, ?_, hk, ?_⟩
      · rfl
      · rw [hsub]
        rcases hi2 with rfl | rfl
        · rfl
        · rw [List.drop_eq_nil_of_le (i := l.length + 1 - 1) (as := l) (by omega), List.drop_eq_nil_of_le (i := l.length + 1 + 1 - 1) (as := l) (by omega)]
    · rcases find4_one got c k with ⟨e, hn⟩ | ⟨j, e, h1, h2, h3, h4⟩
      · rw [e]
        k_steps
        rename Fr _ _ _ _ => F9
        have hf : sub l (cl got) = false := by
          rw [hsub, List.drop_eq_getElem_cons (List.getElem?_eq_some_iff.mp hc).1, (List.getElem?_eq_some_iff.mp hc).2]
          exact sub_drop_miss hn
        rw [hf] at hret
        exact hret _ _ _ rfl F9.keep
      · rw [e]
        k_steps
        rename Fr _ _ _ _ => F9
        rename News _ _ _ _ => N9
        refine ⟨_, _, _, [], rfl, F9, N9, (by intro p hp b hb; cases hb), rfl, j + 1, _, _, _, ⟨rfl, rfl, rfl, trivial⟩, ?_, h2, ?_⟩
        · rfl
        · rw [hsub, List.drop_eq_getElem_cons (List.getElem?_eq_some_iff.mp hc).1, (List.getElem?_eq_some_iff.mp hc).2, sub_drop_hit h1 h3 h4]
          have : i - 1 + 1 = i + 1 - 1 := by omega
          rw [this]
  · rintro m₁ mt₁ h tk ⟨rfl, k, _, tk0, te, hkn, rfl, hk, hsub⟩ F2 N2 hoff
    have hf : sub l (cl got) = true := by
      rw [hsub, hlen, List.drop_eq_nil_of_le (by omega)]
      exact sub_nil _
    rw [hf] at hret
    clear F1 N1
    k_steps
    rename Fr _ _ _ _ => F9
    exact hret _ _ _ rfl F9.keep
end Mine
end
section
open PySem PySem.W PyProof.Rows PySem.Calls
set_option maxRecDepth 100000
set_option maxHeartbeats 8000000
namespace Mine
theorem gaps_len (x : Str) : (Txt.join dots (signs x)).length ≤ x.length + x.length * 3 := by
  show (Builtin.Str.glued dots (signs x)).length ≤ _
  rw [StrLaws.glued_eq_join]
  refine Nat.le_trans (StrLaws.join_length_le _ _) ?_
  have h1 : ((signs x).map (·.length)).sum ≤ (signs x).length * 1 := StrLaws.sumLen_le _ (by
    intro y hy
    simp only [signs, List.mem_map] at hy
    obtain ⟨n, _, rfl⟩ := hy
    exact Nat.le_refl _)
  rw [signs_length] at h1 ⊢
  rw [dots_len]
  omega

section
local macro_rules | `(tactic| k_steps) => `(tactic| repeat' (first
  | ((fail_if_success (with_reducible show wpAny _ _ (exec (Stmt.While _ _ _ _) _) _ _ _)); (fail_if_success (with_reducible show wpAny _ _ (exec (Stmt.For _ _ _ _ _) _) _ _ _)); (fail_if_success (with_reducible show wpAny _ _ (eval (Expr.ListComp _ _ _ _) _) _ _ _)); (fail_if_success (with_reducible show wpAny _ _ (exec (Stmt.Assign _ (Expr.ListComp _ _ _ _) _) _) _ _ _)); (fail_if_success (with_reducible show wpAny _ _ (call (Value.ref _) _ _) _ _ _)); (fail_if_success (with_reducible show wpAny _ _ (pyIter _) _ _ _)); (fail_if_success (with_reducible show LCg.CompSrc _ _ _ _ _ _ _ _ _ _ _ _ _ _)); (fail_if_success (with_reducible show LCt.CompSrcT _ _ _ _ _ _ _ _ _ _ _ _ _ _ _)); (fail_if_success (with_reducible show wpAny _ _ (compareOp _ (Value.ref _) (Value.ref _)) _ _ _)); (fail_if_success (with_reducible show EltEnd _ _ _ _ _ _ _ _)); (fail_if_success (with_reducible show wpAny _ _ (call (Value.builtin "str.join") _ _) _ _ _));
     (first | (k_unfold; (try dsimp only)) | (k_end; kc_close) | walk1 | (dsimp only; walk1) | (leave1; walk_say "STEP leave1"; (try dsimp only)) | fail "no step"))))
theorem gaps_spec {w : World} {A : Around} {s : Shared} {word : Str} {t : Tok} {p : Program} {loose : List Str} {mean : ExcName → Option Value} {mg mb : Str → Option Value}
    (X : (hd.heap_39 w.params).In s.heap) (T : Top p loose mean mg mb s.heap) (hA : Rm A 2 20) (hwl : word.length ≤ 100) :
    Runs (model PySem.Challenge.rw_pe0110_01.row.prog w) A (call (.ref 84) [.str word t]) s (fun v _ => ∃ u, v = .str (gaps word) u) := by
  revert X
  k_fill
  w_top off
  intro X
  intro Q E hret
  obtain ⟨ah, dp, fr, gd, un⟩ := A
  obtain ⟨h1, hdp, hun⟩ := hA
  dsimp only at h1 hdp hun
  subst h1
  refine enter (binds := [(Str.ofString "word", .str word t)]) X T.nolimit (by k_is) (by k_is) (by show dp < _; omega) (BindsTo.of_eq rfl) (locs rfl) rfl rfl rfl (by decide) ?_
  intro L h₁ tk F N
  have hj : (Txt.join (Str.ofString "...") (signs word)).length ≤ word.length + word.length * 3 := gaps_len word
  have hd3 : (Str.ofString "...").length = 3 := dots_len
  k_steps
  have hsum : ((signs word).map (·.length)).sum + (signs word).length * (Str.ofString "...").length ≤ 16777216 := by
    have h1 : ((signs word).map (·.length)).sum ≤ (signs word).length * 1 := StrLaws.sumLen_le _ (by
      intro y hy
      simp only [signs, List.mem_map] at hy
      obtain ⟨n, _, rfl⟩ := hy
      exact Nat.le_refl _)
    rw [signs_length] at h1 ⊢
    rw [hd3]
    omega
  rename Fr _ _ _ _ => F5
  rename News _ _ _ _ => N5
  refine PySem.SC.joinStr rfl (joinOk_of hsum) ?_
  intro h6 k6 t6 hk6
  have F6 := F5.grownK hk6
  have N6 := N5.grown hk6
  clear F5 N5
  k_steps
  rename Fr _ _ _ _ => F9
  exact hret _ _ _ ⟨_, rfl⟩ F9.keep

end

theorem one_gap (c : Nat) : cl (Str.ofString "..." ++ (⟨#[c]⟩ : Str) ++ Str.ofString "...") = gapL [c] := by
  show ((dots ++ (⟨#[c]⟩ : Str) ++ dots).cps).toList = _
  rw [Str.cps_append, Str.cps_append, Array.toList_append, Array.toList_append, show dots.cps.toList = [46, 46, 46] from dots_cl]
  rfl

theorem full_spec {w : World} {A : Around} {s : Shared} {x : Str} {t : Tok} {p : Program} {loose : List Str} {mean : ExcName → Option Value} {mg mb : Str → Option Value}
    (X : (hd.heap_39 w.params).In s.heap) (T : Top p loose mean mg mb s.heap) (hA : Rm A 6 80) (hxl : x.length ≤ 100) :
    Runs (model PySem.Challenge.rw_pe0110_01.row.prog w) A (call (.ref 44) [.str x t]) s (fun v _ => v = .bool (full (cl x))) := by
  revert X
  k_fill
  w_top off
  intro X
  intro Q E hret
  obtain ⟨ah, dp, fr, gd, un⟩ := A
  obtain ⟨h1, hdp, hun⟩ := hA
  dsimp only at h1 hdp hun
  subst h1
  refine enterC (binds := [(Str.ofString "stretch", .str x t)]) X T.nolimit (by k_is) (by k_is) (by show dp < _; omega) (BindsTo.of_eq rfl) rfl (by decide) rfl rfl rfl ?_
  intro L h₁ tk cells F N Y
  obtain ⟨o, rfl, hod⟩ := CellsAre.one Y
  iterate 3 walk1
  refine ListComp_S F (by with_unfolding_all rfl) (by decide) rfl (by decide) rfl ?_
  k_steps
  have hod' : o.data = Data.cell (some (.str x t)) := hod
  clear hod Y
  refine ⟨_, _, _, rfl, rfl, F, N, by decide, fun g => ?_⟩
  refine compRest_of (fun i v => ∀ c, (Str.ofString "abc").cps[i]? = some c → v = .bool (sub [c] (cl x))) trivial ?_ ?_
  · intro i v I oI C oC D ys m₂ h tk E' hi hP hC hx F N off ne
    obtain ⟨c, u, hc, rfl⟩ := hP
    have hc46 : 46 ∉ [c] := by
      have : c ∈ cl (Str.ofString "abc") := Array.mem_toList_iff.mpr (Array.mem_of_getElem? hc)
      intro h46
      rw [← List.mem_singleton.mp h46] at this
      revert this; decide +kernel
    have hl3 : (Str.ofString "...").length = 3 := dots_len
    have hl1 : (⟨#[c]⟩ : Str).length = 1 := rfl
    k_steps
    refine Runs.use (match_spec [c] (X.keeps F.keep) (T.keeps F.keep) ⟨rfl, by show dp + 1 + 2 < _; omega, by show un + 3 + 20 < _; omega⟩ (one_gap c) hc46 (by omega) (by omega)) F N ?_
    intro v h' tk' hv st F' N'
    subst hv
    k_steps
    refine ⟨_, _, rfl, F', N', fun c' h => ?_⟩
    rw [hc] at h
    obtain rfl := Option.some.inj h
    rfl
  · intro ys hlen hys D h tk F N hoff
    have e : ys = [.bool (sub [97] (cl x)), .bool (sub [98] (cl x)), .bool (sub [99] (cl x))] := by
      have hl3 : ys.length = 3 := hlen
      match ys, hl3, hys with
      | [a, b, c], _, hys => rw [hys 0 a rfl 97 rfl, hys 1 b rfl 98 rfl, hys 2 c rfl 99 rfl]
    subst e
    k_steps
    rename Fr _ _ _ _ => F9
    rename News _ _ _ _ => N9
    refine hret _ _ _ ?_ F9.keep
    show Value.bool _ = Value.bool _
    unfold full
    cases sub [97] (cl x) <;> cases sub [98] (cl x) <;> cases sub [99] (cl x) <;> rfl
end Mine
end
section
open PySem PySem.W PyProof.Rows PySem.Calls
set_option maxRecDepth 100000
set_option maxHeartbeats 8000000
namespace Mine
local macro_rules | `(tactic| k_steps) => `(tactic| repeat' (first
  | ((fail_if_success (with_reducible show wpAny _ _ (exec (Stmt.While _ _ _ _) _) _ _ _)); (fail_if_success (with_reducible show wpAny _ _ (exec (Stmt.For _ _ _ _ _) _) _ _ _)); (fail_if_success (with_reducible show wpAny _ _ (eval (Expr.ListComp _ _ _ _) _) _ _ _)); (fail_if_success (with_reducible show wpAny _ _ (exec (Stmt.Assign _ (Expr.ListComp _ _ _ _) _) _) _ _ _)); (fail_if_success (with_reducible show wpAny _ _ (call (Value.ref _) _ _) _ _ _));
     (first | (k_unfold; (try dsimp only)) | (k_end; kc_close) | walk1 | (dsimp only; walk1) | (leave1; walk_say "STEP leave1"; (try dsimp only)) | fail "no step"))))

theorem fnAt_keeps {q : Addr} {h h' : Heap} (x : FnAt q h) (k : Stay h h') : FnAt q h' := let ⟨a, b, c, d, e⟩ := x; ⟨a, b, c, d, k _ _ e⟩

/-- where a halving stands: nothing ahead of lo tells, all from hi on tell -/
def Halved (g : Nat → Bool) (lo₀ hi₀ lo hi : Nat) : Prop :=
  lo₀ ≤ lo ∧ lo ≤ hi ∧ hi ≤ hi₀ ∧ (∀ i, lo₀ ≤ i → i < lo → g i = false) ∧ (∀ i, hi ≤ i → i < hi₀ → g i = true)

theorem bisL_spec {w : World} {A : Around} {s : Shared} {a kf : Addr} {vs : List Value} {ns : List Int} {f : Int → Bool} {lo : Nat} {tl : Tok} {p : Program} {loose : List Str} {mean : ExcName → Option Value} {mg mb : Str → Option Value}
    (X : (hd.heap_39 w.params).In s.heap) (T : Top p loose mean mg mb s.heap) (hA : Rm A 12 200)
    (hl : s.heap.IsList a vs.toArray) (hi : IntsAre vs ns) (hfn : FnAt kf s.heap) (hlen : ns.length ≤ 1000) (hlo : lo ≤ ns.length)
    (hkey : ∀ A' s' n t, Rm A' 10 180 → Stay s.heap s'.heap → n ∈ ns → Runs (model PySem.Challenge.rw_pe0110_01.row.prog w) A' (call (.ref kf) [.int n t]) s' (fun v _ => v = .bool (f n)))
    (hmono : ∀ i j, lo ≤ i → i ≤ j → j < ns.length → f (ns.getD i 0) = true → f (ns.getD j 0) = true) :
    Runs (model PySem.Challenge.rw_pe0110_01.row.prog w) A (call (.ref 32) [.ref a, .bool true, .int lo tl] [(Str.ofString "key", .ref kf)]) s
      (fun v _ => ∃ (r : Nat) (t : Tok), v = .int (r : Int) t ∧ Halved (fun i => f (ns.getD i 0)) lo ns.length r r) := by
  revert X
  k_fill
  w_top off
  intro X
  intro Q E hret
  obtain ⟨ah, dp, fr, gd, un⟩ := A
  obtain ⟨h1, hdp, hun⟩ := hA
  dsimp only at h1 hdp hun
  subst h1
  refine enter (binds := [(Str.ofString "a", .ref a), (Str.ofString "x", .bool true), (Str.ofString "lo", .int lo tl), (Str.ofString "hi", .none), (Str.ofString "key", .ref kf)]) X T.nolimit (by k_is) (by k_is) (by show dp < _; omega) (kp_binds X (fun S => by kernel_rfl)) (locs rfl) rfl rfl rfl (by decide) ?_
  intro L h₁ tk F N
  k_steps
  rename Fr _ _ _ _ => F1
  rename News _ _ _ _ => N1
  refine While_inv2 (n₀ := ns.length - lo) (fun n m nw => nw = [] ∧ ∃ (x y : Nat) (z1 z2 : Int) (t1 t2 : Tok), Knows m [(Str.ofString "lo", .int z1 t1), (Str.ofString "hi", .int z2 t2), (Str.ofString "a", .ref a), (Str.ofString "x", .bool true), (Str.ofString "key", .ref kf)] ∧
    z1 = (x : Int) ∧ z2 = (y : Int) ∧ n = y - x ∧ Halved (fun i => f (ns.getD i 0)) lo ns.length x y) F1 N1 ?_ ?_ PassesOwn.never
  · exact ⟨rfl, lo, ns.length, _, _, _, _, ⟨rfl, rfl, rfl, rfl, rfl, trivial⟩, rfl, rfl, rfl, Nat.le_refl _, hlo, Nat.le_refl _, fun i h1 h2 => by omega, fun i h1 h2 => by omega⟩
  · rintro n m₁ nw h₂ tk₂ F2 N2 ⟨rfl, x, y, _, _, t1, t2, hkn, rfl, rfl, rfl, hh⟩
    have F3 := Fr_more F2 hkn
    clear F2 F1 N1
    obtain ⟨hh1, hh2, hh3, hh4, hh5⟩ := hh
    k_steps
    · rename Fr _ _ _ _ => F4
      rename News _ _ _ _ => N4
      refine callWith_F (fnAt_keeps hfn F4.keep) ?_
      k_steps
      · exact fnAt_keeps hfn F4.keep
      rename ((_ : Int) < _) => hlt
      have e : ((x : Int) + (y : Int)).fdiv 2 = (((x + y) / 2 : Nat) : Int) := by
        rw [Int.fdiv_eq_ediv_of_nonneg _ (by omega)]; omega
      have e2 : ((x : Int) + (y : Int)).fdiv 2 + 1 = (((x + y) / 2 + 1 : Nat) : Int) := by rw [e]; omega
      have hmx : x ≤ (x + y) / 2 := by omega
      have hmy : (x + y) / 2 < y := by omega
      have hm : (((x : Int) + (y : Int)).fdiv 2).toNat = (x + y) / 2 := by rw [e]; rfl
      rw [hm]
      refine Runs.use (hkey _ _ _ _ ⟨rfl, by show dp + 1 + 10 < _; omega, by show un + 3 + 180 < _; omega⟩ F4.keep ?_) F4 N4 ?_
      · rw [List.getD_eq_getElem?_getD, List.getElem?_eq_getElem (by omega)]
        exact List.getElem_mem _
      intro v h' tk' hv st F5 N5
      subst hv
      cases hf : f (ns.getD ((x + y) / 2) 0)
      · k_steps
        rename Fr _ _ _ _ => F6
        rename News _ _ _ _ => N6
        refine ⟨_, _, _, _, _, rfl, F6, N6, ?_, rfl, (x + y) / 2 + 1, y, _, _, _, _, ⟨rfl, rfl, rfl, rfl, rfl, trivial⟩, e2, rfl, rfl, by omega, by omega, hh3, ?_, hh5⟩
        · omega
        · intro i h1 h2
          show f (ns.getD i 0) = false
          rcases Nat.lt_or_ge i x with q | q
          · exact hh4 i h1 q
          · cases hi' : f (ns.getD i 0) with
            | false => rfl
            | true => rw [hmono i ((x + y) / 2) h1 (by omega) (by omega) hi'] at hf; cases hf
      · k_steps
        rename Fr _ _ _ _ => F6
        rename News _ _ _ _ => N6
        refine ⟨_, _, _, _, _, rfl, F6, N6, ?_, rfl, x, (x + y) / 2, _, _, _, _, ⟨rfl, rfl, rfl, rfl, rfl, trivial⟩, rfl, e, rfl, hh1, hmx, by omega, hh4, ?_⟩
        · omega
        · intro i h1 h2
          exact hmono _ i (by omega) h1 h2 hf
    · rename Fr _ _ _ _ => F4
      rename (¬ _ < _) => hlt
      have e : x = y := by omega
      subst e
      exact hret _ _ _ ⟨x, _, rfl, hh1, hh2, hh3, hh4, hh5⟩ F4.keep
end Mine
end
section
open PySem PySem.W PyProof.Rows PySem.Calls
set_option maxRecDepth 100000
set_option maxHeartbeats 8000000
namespace Mine
local macro_rules | `(tactic| k_steps) => `(tactic| repeat' (first
  | ((fail_if_success (with_reducible show wpAny _ _ (exec (Stmt.While _ _ _ _) _) _ _ _)); (fail_if_success (with_reducible show wpAny _ _ (exec (Stmt.For _ _ _ _ _) _) _ _ _)); (fail_if_success (with_reducible show wpAny _ _ (eval (Expr.ListComp _ _ _ _) _) _ _ _)); (fail_if_success (with_reducible show wpAny _ _ (exec (Stmt.Assign _ (Expr.ListComp _ _ _ _) _) _) _ _ _)); (fail_if_success (with_reducible show wpAny _ _ (call (Value.ref _) _ _) _ _ _));
     (first | (k_unfold; (try dsimp only)) | (k_end; kc_close) | walk1 | (dsimp only; walk1) | (leave1; walk_say "STEP leave1"; (try dsimp only)) | fail "no step"))))

theorem bisR_spec {w : World} {A : Around} {s : Shared} {a kf : Addr} {vs : List Value} {ns : List Int} {f : Int → Bool} {lo hi₀ : Nat} {tl th : Tok} {p : Program} {loose : List Str} {mean : ExcName → Option Value} {mg mb : Str → Option Value}
    (X : (hd.heap_39 w.params).In s.heap) (T : Top p loose mean mg mb s.heap) (hA : Rm A 12 200)
    (hl : s.heap.IsList a vs.toArray) (hi : IntsAre vs ns) (hfn : FnAt kf s.heap) (hlen : ns.length ≤ 1000) (hlo : lo ≤ hi₀) (hhi : hi₀ ≤ ns.length)
    (hkey : ∀ A' s' n t, Rm A' 10 180 → Stay s.heap s'.heap → n ∈ ns → Runs (model PySem.Challenge.rw_pe0110_01.row.prog w) A' (call (.ref kf) [.int n t]) s' (fun v _ => v = .bool (f n)))
    (hmono : ∀ i j, lo ≤ i → i ≤ j → j < hi₀ → f (ns.getD i 0) = true → f (ns.getD j 0) = true) :
    Runs (model PySem.Challenge.rw_pe0110_01.row.prog w) A (call (.ref 23) [.ref a, .bool false, .int lo tl, .int hi₀ th] [(Str.ofString "key", .ref kf)]) s
      (fun v _ => ∃ (r : Nat) (t : Tok), v = .int (r : Int) t ∧ Halved (fun i => f (ns.getD i 0)) lo hi₀ r r) := by
  revert X
  k_fill
  w_top off
  intro X
  intro Q E hret
  obtain ⟨ah, dp, fr, gd, un⟩ := A
  obtain ⟨h1, hdp, hun⟩ := hA
  dsimp only at h1 hdp hun
  subst h1
  refine enter (binds := [(Str.ofString "a", .ref a), (Str.ofString "x", .bool false), (Str.ofString "lo", .int lo tl), (Str.ofString "hi", .int hi₀ th), (Str.ofString "key", .ref kf)]) X T.nolimit (by k_is) (by k_is) (by show dp < _; omega) (kp_binds X (fun S => by kernel_rfl)) (locs rfl) rfl rfl rfl (by decide) ?_
  intro L h₁ tk F N
  k_steps
  rename Fr _ _ _ _ => F1
  rename News _ _ _ _ => N1
  refine While_inv2 (n₀ := hi₀ - lo) (fun n m nw => nw = [] ∧ ∃ (x y : Nat) (z1 z2 : Int) (t1 t2 : Tok), Knows m [(Str.ofString "lo", .int z1 t1), (Str.ofString "hi", .int z2 t2), (Str.ofString "a", .ref a), (Str.ofString "x", .bool false), (Str.ofString "key", .ref kf)] ∧
    z1 = (x : Int) ∧ z2 = (y : Int) ∧ n = y - x ∧ Halved (fun i => f (ns.getD i 0)) lo hi₀ x y) F1 N1 ?_ ?_ PassesOwn.never
  · exact ⟨rfl, lo, hi₀, _, _, _, _, ⟨rfl, rfl, rfl, rfl, rfl, trivial⟩, rfl, rfl, rfl, Nat.le_refl _, hlo, Nat.le_refl _, fun i h1 h2 => by omega, fun i h1 h2 => by omega⟩
  · rintro n m₁ nw h₂ tk₂ F2 N2 ⟨rfl, x, y, _, _, t1, t2, hkn, rfl, rfl, rfl, hh⟩
    have F3 := Fr_more F2 hkn
    clear F2 F1 N1
    obtain ⟨hh1, hh2, hh3, hh4, hh5⟩ := hh
    k_steps
    · rename Fr _ _ _ _ => F4
      rename News _ _ _ _ => N4
      refine callWith_F (fnAt_keeps hfn F4.keep) ?_
      k_steps
      · exact fnAt_keeps hfn F4.keep
      rename ((_ : Int) < _) => hlt
      have e : ((x : Int) + (y : Int)).fdiv 2 = (((x + y) / 2 : Nat) : Int) := by
        rw [Int.fdiv_eq_ediv_of_nonneg _ (by omega)]; omega
      have e2 : ((x : Int) + (y : Int)).fdiv 2 + 1 = (((x + y) / 2 + 1 : Nat) : Int) := by rw [e]; omega
      have hmx : x ≤ (x + y) / 2 := by omega
      have hmy : (x + y) / 2 < y := by omega
      have hm : (((x : Int) + (y : Int)).fdiv 2).toNat = (x + y) / 2 := by rw [e]; rfl
      rw [hm]
      refine Runs.use (hkey _ _ _ _ ⟨rfl, by show dp + 1 + 10 < _; omega, by show un + 3 + 180 < _; omega⟩ F4.keep ?_) F4 N4 ?_
      · rw [List.getD_eq_getElem?_getD, List.getElem?_eq_getElem (by omega)]
        exact List.getElem_mem _
      intro v h' tk' hv st F5 N5
      subst hv
      cases hf : f (ns.getD ((x + y) / 2) 0)
      · k_steps
        rename Fr _ _ _ _ => F6
        rename News _ _ _ _ => N6
        refine ⟨_, _, _, _, _, rfl, F6, N6, ?_, rfl, (x + y) / 2 + 1, y, _, _, _, _, ⟨rfl, rfl, rfl, rfl, rfl, trivial⟩, e2, rfl, rfl, by omega, by omega, hh3, ?_, hh5⟩
        · omega
        · intro i h1 h2
          show f (ns.getD i 0) = false
          rcases Nat.lt_or_ge i x with q | q
          · exact hh4 i h1 q
          · cases hi' : f (ns.getD i 0) with
            | false => rfl
            | true => rw [hmono i ((x + y) / 2) h1 (by omega) (by omega) hi'] at hf; cases hf
      · k_steps
        rename Fr _ _ _ _ => F6
        rename News _ _ _ _ => N6
        refine ⟨_, _, _, _, _, rfl, F6, N6, ?_, rfl, x, (x + y) / 2, _, _, _, _, ⟨rfl, rfl, rfl, rfl, rfl, trivial⟩, rfl, e, rfl, hh1, hmx, by omega, hh4, ?_⟩
        · omega
        · intro i h1 h2
          exact hmono _ i (by omega) h1 h2 hf
    · rename Fr _ _ _ _ => F4
      rename (¬ _ < _) => hlt
      have e : x = y := by omega
      subst e
      exact hret _ _ _ ⟨x, _, rfl, hh1, hh2, hh3, hh4, hh5⟩ F4.keep
end Mine
end
section
open PySem PySem.W PyProof.Rows PySem.Calls
set_option maxRecDepth 100000
set_option maxHeartbeats 8000000
namespace Mine
local macro_rules | `(tactic| k_steps) => `(tactic| repeat' (first
  | ((fail_if_success (with_reducible show wpAny _ _ (exec (Stmt.While _ _ _ _) _) _ _ _)); (fail_if_success (with_reducible show wpAny _ _ (exec (Stmt.For _ _ _ _ _) _) _ _ _)); (fail_if_success (with_reducible show wpAny _ _ (eval (Expr.ListComp _ _ _ _) _) _ _ _)); (fail_if_success (with_reducible show wpAny _ _ (exec (Stmt.Assign _ (Expr.ListComp _ _ _ _) _) _) _ _ _)); (fail_if_success (with_reducible show wpAny _ _ (call (Value.ref _) _ _) _ _ _));
     (first | (k_unfold; (try dsimp only)) | (k_end; kc_close) | walk1 | (dsimp only; walk1) | (leave1; walk_say "STEP leave1"; (try dsimp only)) | fail "no step"))))

theorem laid_spec {w : World} {A : Around} {s : Shared} {x word : Str} {t u : Tok} {p : Program} {loose : List Str} {mean : ExcName → Option Value} {mg mb : Str → Option Value}
    (X : (hd.heap_39 w.params).In s.heap) (T : Top p loose mean mg mb s.heap) (hA : Rm A 2 20) (hxl : x.length ≤ 100) (hwl : word.length ≤ 100) :
    Runs (model PySem.Challenge.rw_pe0110_01.row.prog w) A (call (.ref 77) [.str x t, .str word u]) s (fun v _ => v = .bool (sub (cl word).reverse (cl x).reverse)) := by
  revert X
  k_fill
  w_top off
  intro X
  intro Q E hret
  obtain ⟨ah, dp, fr, gd, un⟩ := A
  obtain ⟨h1, hdp, hun⟩ := hA
  dsimp only at h1 hdp hun
  subst h1
  refine enter (binds := [(Str.ofString "text", .str x t), (Str.ofString "word", .str word u)]) X T.nolimit (by k_is) (by k_is) (by show dp < _; omega) (BindsTo.of_eq rfl) (locs rfl) rfl rfl rfl (by decide) ?_
  intro L h₁ tk F N
  k_steps
  refine For_invV s.heap rfl rfl ?_ (hE := PassesOwn.never)
  k_steps
  rename Fr _ _ _ _ => F1
  rename News _ _ _ _ => N1
  rw [slice_rev]
  refine iter_str (mt := []) (fixed := []) (J := fun i m mt => mt = [] ∧ ∃ (y : Str) (ty : Tok), Knows m [(Str.ofString "left", .str y ty)] ∧ y.length ≤ 100 ∧ sub (cl word).reverse (cl x).reverse = sub (cl y).reverse ((cl x).reverse.drop i)) rfl (by intro p hp b hb; cases hb) F1 N1 ?_ ?_ ?_
  · exact ⟨rfl, _, _, ⟨rfl, trivial⟩, hwl, rfl⟩
  · rintro i c u' m₁ mt₁ h tk own hi hc ⟨rfl, y, ty, hkn, hyl, hsub⟩ hown hfix F2 N2
    have F3 := Fr_more F2 (hkn.upd rfl)
    clear F2 F1 N1
    rw [List.nil_append] at N2
    have hc' : (cl x).reverse[i]? = some c := by simpa using hc
    have hdr : (cl x).reverse.drop i = c :: (cl x).reverse.drop (i + 1) := by
      obtain ⟨q1, q2⟩ := List.getElem?_eq_some_iff.mp hc'
      rw [List.drop_eq_getElem_cons q1, q2]
    rw [hdr] at hsub
    k_steps
    · rename Fr _ _ _ _ => F9
      rename News _ _ _ _ => N9
      rename (1 ≤ Str.length y) => hp
      rename (_ == _) = true => he
      rename (Str.length (Txt.slice _ _ _) ≤ _) => hsl
      refine ⟨_, _, _, [], rfl, F9, N9, (by intro p hp b hb; cases hb), rfl, _, _, ⟨rfl, trivial⟩, by omega, ?_⟩
      rw [slice_but, hsub]
      cases hr : (cl y).reverse with
      | nil =>
        have : (cl y).length = 0 := by simpa using congrArg List.length hr
        rw [cl_len] at this
        omega
      | cons d r =>
        rw [item_last hr] at he
        have hdc : d = c := by simpa using congrArg cl (eq_of_beq he)
        have hdl : (cl y).dropLast.reverse = r := by
          rw [← List.tail_reverse, hr]; rfl
        rw [cl_tx, hdl, hdc, sub_cons, if_pos rfl]
    · rename Fr _ _ _ _ => F9
      rename News _ _ _ _ => N9
      rename (1 ≤ Str.length y) => hp
      rename (_ == _) = false => he
      refine ⟨_, _, _, [], rfl, F9, N9, (by intro p hp b hb; cases hb), rfl, _, _, ⟨rfl, trivial⟩, hyl, ?_⟩
      rw [hsub]
      cases hr : (cl y).reverse with
      | nil => rw [sub_nil, sub_nil]
      | cons d r =>
        rw [item_last hr] at he
        have hdc : d ≠ c := fun e => by subst e; simp at he
        rw [sub_cons, if_neg hdc]
    · rename Fr _ _ _ _ => F9
      rename News _ _ _ _ => N9
      rename (_ != _) = false => he
      have hy : y = Str.ofString "" := by simpa using he
      refine ⟨_, _, _, [], rfl, F9, N9, (by intro p hp b hb; cases hb), rfl, _, _, ⟨rfl, trivial⟩, hyl, ?_⟩
      rw [hsub, hy, empty_cl]
      show sub [] _ = sub [] _
      rw [sub_nil, sub_nil]
  · rintro m₁ mt₁ h tk ⟨rfl, y, ty, hkn, hyl, hsub⟩ F2 N2 hoff
    have F3 := Fr_more F2 hkn
    clear F2 F1 N1
    k_steps
    rename Fr _ _ _ _ => F9
    refine hret _ _ _ ?_ F9.keep
    show Value.bool _ = Value.bool _
    congr 1
    rw [hsub, List.drop_eq_nil_of_le (by simp)]
    cases hr : (cl y).reverse with
    | nil =>
      have : cl y = [] := by simpa using hr
      have : y = Str.ofString "" := str_ext (this.trans empty_cl.symm)
      rw [this]; rfl
    | cons d r =>
      show _ = false
      refine beq_eq_false_iff_ne.mpr fun e => ?_
      rw [e, empty_cl] at hr
      cases hr
end Mine
end
section
open PySem PySem.W PyProof.Rows PySem.Calls
set_option maxRecDepth 100000
set_option maxHeartbeats 8000000
namespace Mine
local macro_rules | `(tactic| k_steps) => `(tactic| repeat' (first
  | ((fail_if_success (with_reducible show wpAny _ _ (exec (Stmt.While _ _ _ _) _) _ _ _)); (fail_if_success (with_reducible show wpAny _ _ (exec (Stmt.For _ _ _ _ _) _) _ _ _)); (fail_if_success (with_reducible show wpAny _ _ (eval (Expr.ListComp _ _ _ _) _) _ _ _)); (fail_if_success (with_reducible show wpAny _ _ (exec (Stmt.Assign _ (Expr.ListComp _ _ _ _) _) _) _ _ _)); (fail_if_success (with_reducible show wpAny _ _ (call (Value.ref _) _ _) _ _ _)); (fail_if_success (with_reducible show wpAny _ _ (pyIter _) _ _ _));
     (first | (k_unfold; (try dsimp only)) | (k_end; kc_close) | walk1 | (dsimp only; walk1) | (leave1; walk_say "STEP leave1"; (try dsimp only)) | fail "no step"))))

theorem gath_spec {w : World} {A : Around} {s : Shared} {x : Str} {t : Tok} {p : Program} {loose : List Str} {mean : ExcName → Option Value} {mg mb : Str → Option Value}
    (X : (hd.heap_39 w.params).In s.heap) (T : Top p loose mean mg mb s.heap) (hA : Rm A 2 20) (hxl : x.length ≤ 100) :
    Runs (model PySem.Challenge.rw_pe0110_01.row.prog w) A (call (.ref 65) [.str x t]) s (fun v h' => ∃ (a : Addr) (vs : List Value) (n : Nat), v = .ref a ∧ s.heap.get? a = none ∧ h'.get? a = some (listOf vs.toArray n) ∧ IntsAre vs ((gath (cl x)).map Int.ofNat)) := by
  revert X
  k_fill
  w_top off
  intro X
  intro Q E hret
  obtain ⟨ah, dp, fr, gd, un⟩ := A
  obtain ⟨h1, hdp, hun⟩ := hA
  dsimp only at h1 hdp hun
  subst h1
  refine enter (binds := [(Str.ofString "text", .str x t)]) X T.nolimit (by k_is) (by k_is) (by show dp < _; omega) (BindsTo.of_eq rfl) (locs rfl) rfl rfl rfl (by decide) ?_
  intro L h₁ tk F N
  k_steps
  rename_i D _ _ _ _ _ _
  refine For_invV s.heap rfl rfl ?_ (hE := PassesOwn.never)
  k_steps
  rename Fr _ _ _ _ => F1
  rename News _ _ _ _ => N1
  rename IsRange _ _ _ _ _ _ _ _ => hr
  refine iter_range (n := x.length) (mt := [(D, listOf #[] 0)]) (fixed := []) (J := fun i m mt => ∃ (vs : List Value) (n : Nat) (y : Str) (ty : Tok), mt = [(D, listOf vs.toArray n)] ∧ Knows m [(Str.ofString "text", .str x t), (Str.ofString "ends", .ref D), (Str.ofString "seen", .str y ty)] ∧
      cl y = (gathI (cl x) i).1 ∧ y.length ≤ 2 ∧ IntsAre vs ((gathI (cl x) i).2.map Int.ofNat) ∧ vs.length ≤ i) rfl hr (by omega) (by intro p hp; cases hp) F1 N1 ?_ ?_ ?_
  · exact ⟨[], 0, _, _, rfl, ⟨rfl, rfl, rfl, trivial⟩, empty_cl, by decide, .nil, Nat.le_refl _⟩
  · rintro i q m₁ mt₁ h tk own hi ⟨vs, n, y, ty, rfl, hkn, hy, hyl, hvs, hvl⟩ hown hfix F2 N2
    have F3 := Fr_more F2 (hkn.upd rfl)
    have hown' : OwnOff own [D] := hown
    have N3 : News s.heap L h ((D, listOf vs.toArray n) :: own) := N2
    clear F2 F1 N1 N2 hown
    have hc : (cl x)[i]? = some ((cl x).getD i 0) := by
      rw [List.getElem?_eq_getElem (by rw [cl_len]; exact hi), List.getD_eq_getElem?_getD, List.getElem?_eq_getElem (by rw [cl_len]; exact hi)]; rfl
    have hit : Txt.item x (i : Int) = tx [(cl x).getD i 0] := item_at hc
    have hvz : vs.toArray.size ≤ 100 := by simp; omega
    k_steps
    · rename Fr _ _ _ _ => F9
      rename News _ _ _ _ => N9
      rename (List.isEmpty _ = true) => he
      rename (_ = (3 : Int)) => h3
      rw [hit] at he h3
      rw [in_one] at he
      have hm : (cl x).getD i 0 ∉ (gathI (cl x) i).1 := by rw [← hy]; simpa using he
      have hl3 : ((gathI (cl x) i).1 ++ [(cl x).getD i 0]).length = 3 := by
        have : (y ++ tx [(cl x).getD i 0]).length = 3 := by omega
        rw [← cl_len, cl_append, hy] at this
        exact this
      have hg : gathI (cl x) (i + 1) = ([], (gathI (cl x) i).2 ++ [i + 1]) := by
        show gstep _ _ _ = _
        unfold gstep
        simp only [if_neg hm, hl3, if_true]
      refine ⟨_, _, _, [(D, _)], rfl, F9, N9, hown', vs ++ [.int ((i : Int) + 1) _], _, _, _, (by rw [← List.push_toArray]), ⟨rfl, rfl, rfl, trivial⟩, ?_, by decide, ?_, by simp; omega⟩
      · rw [hg]; exact empty_cl
      · rw [hg, List.map_append]
        exact ints_snoc (n := ((i + 1 : Nat) : Int)) (by rfl) hvs
    · rename Fr _ _ _ _ => F9
      rename News _ _ _ _ => N9
      rename (List.isEmpty _ = true) => he
      rename (_ ≠ (3 : Int)) => h3
      rw [hit] at he h3
      rw [in_one] at he
      have hm : (cl x).getD i 0 ∉ (gathI (cl x) i).1 := by rw [← hy]; simpa using he
      have hcl : cl (y ++ Txt.item x (i : Int)) = (gathI (cl x) i).1 ++ [(cl x).getD i 0] := by rw [hit, cl_append, hy]
      have hl3 : ((gathI (cl x) i).1 ++ [(cl x).getD i 0]).length ≠ 3 := by
        intro e
        rw [← hcl, hit, cl_len] at e
        omega
      have hg : gathI (cl x) (i + 1) = ((gathI (cl x) i).1 ++ [(cl x).getD i 0], (gathI (cl x) i).2) := by
        show gstep _ _ _ = _
        unfold gstep
        simp only [if_neg hm, hl3, if_false]
      refine ⟨_, _, _, [(D, _)], rfl, F9, N9, hown', vs, _, _, _, rfl, ⟨rfl, rfl, rfl, trivial⟩, ?_, ?_, ?_, by omega⟩
      · rw [hg]; exact hcl
      · have : (y ++ Txt.item x (i : Int)).length = y.length + 1 := by rw [hit, Str.length_append]; rfl
        rw [hit] at this ⊢
        omega
      · rw [hg]; exact hvs
    · exfalso; omega
    · rename Fr _ _ _ _ => F9
      rename News _ _ _ _ => N9
      rename (List.isEmpty _ = false) => he
      rw [hit, in_one] at he
      have hm : (cl x).getD i 0 ∈ (gathI (cl x) i).1 := by rw [← hy]; simpa using he
      have hl3 : (gathI (cl x) i).1.length ≠ 3 := by
        intro e
        rw [← hy, cl_len] at e
        omega
      have hg : gathI (cl x) (i + 1) = ((gathI (cl x) i).1, (gathI (cl x) i).2) := by
        show gstep _ _ _ = _
        unfold gstep
        simp only [if_pos hm, hl3, if_false]
      refine ⟨_, _, _, [(D, _)], rfl, F9, N9, hown', vs, _, _, _, rfl, ⟨rfl, rfl, rfl, trivial⟩, ?_, hyl, ?_, by omega⟩
      · rw [hg]; exact hy
      · rw [hg]; exact hvs
  · rintro m₁ mt₁ h tk ⟨vs, n, y, ty, rfl, hkn, hy, hyl, hvs, hvl⟩ F2 N2 hoff
    have F3 := Fr_more F2 hkn
    clear F2 F1 N1
    k_steps
    rename Fr _ _ _ _ => F9
    refine hret _ _ _ ⟨D, vs, n, rfl, (N2 _ (.head _)).2.2, (N2 _ (.head _)).1, ?_⟩ F9.keep
    rw [gath, cl_len]; exact hvs
end Mine
end
section
open PySem PySem.W PyProof.Rows PySem.Calls
set_option maxRecDepth 100000
set_option maxHeartbeats 8000000
namespace Mine
local macro_rules | `(tactic| k_steps) => `(tactic| repeat' (first
  | ((fail_if_success (with_reducible show wpAny _ _ (exec (Stmt.While _ _ _ _) _) _ _ _)); (fail_if_success (with_reducible show wpAny _ _ (exec (Stmt.For _ _ _ _ _) _) _ _ _)); (fail_if_success (with_reducible show wpAny _ _ (eval (Expr.ListComp _ _ _ _) _) _ _ _)); (fail_if_success (with_reducible show wpAny _ _ (exec (Stmt.Assign _ (Expr.ListComp _ _ _ _) _) _) _ _ _)); (fail_if_success (with_reducible show wpAny _ _ (call (Value.ref _) _ _) _ _ _)); (fail_if_success (with_reducible show wpAny _ _ (pyIter _) _ _ _));
     (first | (k_unfold; (try dsimp only)) | (k_end; kc_close) | walk1 | (dsimp only; walk1) | (leave1; walk_say "STEP leave1"; (try dsimp only)) | fail "no step"))))

theorem wordsL_length : ∀ n, (wordsL n).length = 3 ^ n
  | 0 => rfl
  | n + 1 => by
    have h : ∀ l : List (List Nat), (l.flatMap fun w => [97, 98, 99].map fun c => w ++ [c]).length = 3 * l.length := by
      intro l
      induction l with
      | nil => rfl
      | cons a l ih => rw [List.flatMap_cons, List.length_append, ih, List.length_cons]; simp; omega
    rw [wordsL, h, wordsL_length n, Nat.pow_succ]; omega
theorem wordsL_len : ∀ n, ∀ w ∈ wordsL n, w.length = n
  | 0, w, h => by simp [wordsL] at h; simp [h]
  | n + 1, w, h => by
    simp only [wordsL, List.mem_flatMap] at h
    obtain ⟨v, hv, h⟩ := h
    have := wordsL_len n v hv
    simp at h
    rcases h with rfl | rfl | rfl <;> simp [this]

theorem strs_get' : ∀ {vs : List Value} {ws : List Str} {v : Value}, StrsAre vs ws → v ∈ vs → ∃ x t, v = .str x t ∧ x ∈ ws
  | _, _, _, .nil, h => nomatch h
  | _, _, _, .cons y t r, h => by
    rcases List.mem_cons.mp h with rfl | h
    · exact ⟨y, t, rfl, .head _⟩
    · obtain ⟨x, t', e, m⟩ := strs_get' r h
      exact ⟨x, t', e, .tail _ m⟩
theorem strs_len : ∀ {vs : List Value} {ws : List Str}, StrsAre vs ws → vs.length = ws.length
  | _, _, .nil => rfl
  | _, _, .cons _ _ r => by rw [List.length_cons, List.length_cons, strs_len r]

def WRel (v : Value) (c : Nat) (r : Value) : Prop := ∀ x t, v = .str x t → ∃ t', r = .str (x ++ tx [c]) t'

theorem words_pairs : ∀ {vs : List Value} {ws : List (List Nat)} {ys : List Value}, StrsAre vs (ws.map tx) → Paired (fun (p : Value × Nat) r => WRel p.1 p.2 r) (pairs2 vs [97, 98, 99]) ys →
    StrsAre ys ((ws.flatMap fun w => [97, 98, 99].map fun c => w ++ [c]).map tx) := by
  intro vs ws
  induction ws generalizing vs with
  | nil =>
    intro ys h hP
    cases h
    cases hP
    exact .nil
  | cons w ws ih =>
    intro ys h hP
    cases h with
    | cons _ t r =>
      rename_i vs'
      have e : pairs2 (Value.str (tx w) t :: vs') [97, 98, 99] = (Value.str (tx w) t, 97) :: (Value.str (tx w) t, 98) :: (Value.str (tx w) t, 99) :: pairs2 vs' [97, 98, 99] := rfl
      rw [e] at hP
      cases hP with
      | cons h1 hP =>
        cases hP with
        | cons h2 hP =>
          cases hP with
          | cons h3 hP =>
            obtain ⟨t1, rfl⟩ := h1 _ _ rfl
            obtain ⟨t2, rfl⟩ := h2 _ _ rfl
            obtain ⟨t3, rfl⟩ := h3 _ _ rfl
            have e2 : ∀ c, tx w ++ tx [c] = tx (w ++ [c]) := fun c => str_ext (by rw [cl_append])
            rw [List.flatMap_cons, List.map_append]
            show StrsAre _ (tx (w ++ [97]) :: tx (w ++ [98]) :: tx (w ++ [99]) :: _)
            rw [e2, e2, e2]
            exact .cons _ _ (.cons _ _ (.cons _ _ (ih r hP)))

theorem words_spec {w : World} {A : Around} {s : Shared} {n : Nat} {t : Tok} {p : Program} {loose : List Str} {mean : ExcName → Option Value} {mg mb : Str → Option Value}
    (X : (hd.heap_39 w.params).In s.heap) (T : Top p loose mean mg mb s.heap) (hA : Rm A 2 20) (hn : n ≤ 5) :
    Runs (model PySem.Challenge.rw_pe0110_01.row.prog w) A (call (.ref 70) [.int n t]) s (fun v h' => ∃ (a : Addr) (vs : List Value) (k : Nat), v = .ref a ∧ s.heap.get? a = none ∧ h'.get? a = some (listOf vs.toArray k) ∧ StrsAre vs ((wordsL n).map tx)) := by
  revert X
  k_fill
  w_top off
  intro X
  intro Q E hret
  obtain ⟨ah, dp, fr, gd, un⟩ := A
  obtain ⟨h1, hdp, hun⟩ := hA
  dsimp only at h1 hdp hun
  subst h1
  refine enter (binds := [(Str.ofString "size", .int n t)]) X T.nolimit (by k_is) (by k_is) (by show dp < _; omega) (BindsTo.of_eq rfl) (locs rfl) rfl rfl rfl (by decide) ?_
  intro L h₁ tk F N
  k_steps
  refine For_invV s.heap rfl rfl ?_ (hE := PassesOwn.never)
  k_steps
  rename Fr _ _ _ _ => F1
  rename News _ _ _ _ => N1
  rename IsRange _ _ _ _ _ _ _ _ => hr
  refine iter_range (n := n) (mt := [(_, _)]) (fixed := []) (J := fun i m mt => ∃ (D : Addr) (vs : List Value) (k : Nat), mt = [(D, listOf vs.toArray k)] ∧ Knows m [(Str.ofString "words", .ref D)] ∧ StrsAre vs ((wordsL i).map tx)) rfl hr (by omega) (by intro p hp; cases hp) F1 N1 ?_ ?_ ?_
  · exact ⟨_, [_], 0, rfl, ⟨rfl, trivial⟩, .cons (tx []) _ .nil⟩
  · rintro i q m₁ mt₁ h tk own hi ⟨D, vs, k, rfl, hkn, hvs⟩ hown hfix F2 N2
    have F3 := Fr_more F2 (hkn.upd rfl)
    have N3 : News s.heap L h ((D, listOf vs.toArray k) :: own) := N2
    clear F2 F1 N1 N2
    walk1
    refine assign_comp2 (h₀ := s.heap) (z := Str.ofString "abc") WRel rfl (by with_unfolding_all rfl) (by with_unfolding_all rfl) (by decide) rfl (by decide) rfl rfl (by decide) rfl rfl ?_ (fun _ _ => rfl) ?_
    · intro C s₃ Q' E' hq
      exact wpAny_Constant_str (hq _ _)
    · walk1
      have hvl : vs.length = 3 ^ i := by rw [strs_len hvs, List.length_map, wordsL_length]
      have h3 : 3 ^ i ≤ 3 ^ 5 := Nat.pow_le_pow_right (by omega) (by omega)
      refine ⟨D, vs.toArray, _, _, rfl, ⟨_, (N3 _ (.head _)).1, rfl, _, rfl⟩, ?_, F3, N3, ?_, ?_⟩
      · rw [List.size_toArray, hvl, show (Str.ofString "abc").cps.size = 3 from by decide +kernel, sizeLine_eq]
        omega
      · intro C s₃ m₃ v c u Q' E' hns h1 h2 hv hc hq
        obtain ⟨x, tx0, rfl, hx⟩ := strs_get' hvs (by simpa using hv)
        have hxl : x.length ≤ 5 := by
          obtain ⟨w, hw, rfl⟩ := List.mem_map.mp hx
          have := wordsL_len i w hw
          show w.length ≤ 5
          omega
        refine wpAny_BinOp (ldVarK hns h1 (ldVarK hns h2 (PyProof.Rows.add_str (fun t' tk => hq _ _ ?_) ?_)))
        · rintro x' t'' e
          cases e
          exact ⟨_, rfl⟩
        · have : (⟨#[c]⟩ : Str).length = 1 := rfl
          rw [sizeLine_eq]
          omega
      · intro D' k' h' tk' ys hP F4 N4 hne
        have hys := words_pairs hvs hP
        refine wpAny_execs_nil ?_
        refine ⟨_, _, _, [(D', listOf ys.toArray k')], rfl, F4, ?_, ?_, D', ys, k', rfl, ⟨rfl, trivial⟩, hys⟩
        · intro p hp
          refine N4 p ?_
          rcases List.mem_cons.mp hp with rfl | hp
          · exact .head _
          · exact .tail _ (.tail _ hp)
        · intro p hp b hb
          have : b = D' := by simpa using hb
          rw [this]
          exact hne p (.tail _ hp)
  · rintro m₁ mt₁ h tk ⟨D, vs, k, rfl, hkn, hvs⟩ F2 N2 hoff
    have F3 := Fr_more F2 hkn
    clear F2 F1 N1
    k_steps
    rename Fr _ _ _ _ => F9
    exact hret _ _ _ ⟨D, vs, k, rfl, (N2 _ (.head _)).2.2, (N2 _ (.head _)).1, hvs⟩ F9.keep
end Mine
end
section
open PySem PySem.W PyProof.Rows PySem.Calls
set_option maxRecDepth 100000
set_option maxHeartbeats 2000000
namespace Mine
local macro_rules | `(tactic| k_steps) => `(tactic| repeat' (first
  | ((fail_if_success (with_reducible show wpAny _ _ (exec (Stmt.While _ _ _ _) _) _ _ _)); (fail_if_success (with_reducible show wpAny _ _ (exec (Stmt.For _ _ _ _ _) _) _ _ _)); (fail_if_success (with_reducible show wpAny _ _ (eval (Expr.ListComp _ _ _ _) _) _ _ _)); (fail_if_success (with_reducible show wpAny _ _ (exec (Stmt.Assign _ (Expr.ListComp _ _ _ _) _) _) _ _ _)); (fail_if_success (with_reducible show wpAny _ _ (call (Value.ref _) _ _) _ _ _)); (fail_if_success (with_reducible show wpAny _ _ (pyIter _) _ _ _));
     (first | (k_unfold; (try dsimp only)) | (k_end; kc_close) | walk1 | (dsimp only; walk1) | (leave1; walk_say "STEP leave1"; (try dsimp only)) | fail "no step"))))

def EndsJ (x : Str) (L D De : Addr) (i : Nat) (m : Str → Option Value) (mt : List (Addr × Obj)) : Prop :=
  ∃ (es : List Nat) (vs : List Value) (n : Nat) (os : Obj) (ts : Tok) (z : Int) (start : Nat) (ps : Array Value) (extra : List (Addr × Obj)),
    mt = (De, listOf vs.toArray n) :: (L + 1 + 1, os) :: (46, tabObj ps) :: extra ∧ Knows m [(Str.ofString "ends", .ref De), (Str.ofString "places", .ref D)] ∧ os.data = .cell (some (.int z ts)) ∧ z = (start : Int) ∧ start ≤ x.length ∧
    IntsAre vs (es.map Int.ofNat) ∧ es.length ≤ i ∧ endsF (cl x) x.length 0 = es ++ endsF (cl x) (x.length - i) start ∧ TabOk 80 51 (Str.ofString "_law_ends" ++ ".<locals>." ++ "<lambda>") ps extra ∧ (∀ p ∈ extra, @LT.lt Nat _ De p.1) ∧ (∀ p ∈ extra, p.1 ≠ 46)

theorem ends_spec {w : World} {A : Around} {s : Shared} {x : Str} {t : Tok} {g : Heap} {p : Program} {loose : List Str} {mean : ExcName → Option Value} {mg mb : Str → Option Value} {Q E : Value → Shared → Prop}
    (X : (hd.heap_39 w.params).In g) (T : Top p loose mean mg mb g) (hg : Stay g s.heap) (hgP : g.get? 46 = none) (hP : s.heap.get? 46 = some (tabObj #[])) (hA : Rm A 20 300) (hxl : x.length ≤ 100)
    (hret : ∀ (a : Addr) (vs : List Value) (n : Nat) ps h' tk', s.heap.get? a = none → h'.get? a = some (listOf vs.toArray n) → IntsAre vs ((endsF (cl x) x.length 0).map Int.ofNat) → StayBut 46 s.heap h' → h'.get? 46 = some (tabObj ps) → Q (.ref a) { s with heap := h', toks := tk' }) :
    wpAny (model PySem.Challenge.rw_pe0110_01.row.prog w) A (call (.ref 51) [.str x t]) Q E s := by
  revert X
  k_fill
  w_top off
  intro X
  obtain ⟨ah, dp, fr, gd, un⟩ := A
  obtain ⟨h1, hdp, hun⟩ := hA
  dsimp only at h1 hdp hun
  subst h1
  have X₀ := X.keeps (stay_hide hg hgP)
  have T₀ := T.keeps (stay_hide hg hgP)
  have C₀ : CodeHd (s.heap.hide 46) 50 46 := codeHd_of_K X₀ (by kernel_rfl)
  refine enterP (P := 46) (binds := [(Str.ofString "text", .str x t)]) (X.keeps hg) (T.keeps hg).nolimit hP (by k_is) (by k_is) (by show dp < _; omega) (BindsTo.of_eq rfl) rfl (by decide) rfl rfl rfl ?_
  intro L h₁ tk cells F N Y hPL
  obtain ⟨o1, o2, rfl, hod1, hod2⟩ := CellsAre.two Y
  clear Y X T
  have hod2' : o2.data = Data.cell (some (.str x t)) := hod2
  have hod1' : o1.data = Data.cell none := hod1
  clear hod2 hod1
  k_steps
  rename_i D pvs pc _ _ hDl hI _ _ De _ hDe _ _ _ _ os F1 N1 hos
  have N1' : News (s.heap.hide 46) L _ ([(De, listOf #[] 0), (L + 1 + 1, os), (46, tabObj #[])] ++ [(D, listOf pvs.toArray pc), (L + 1, o2)]) := fun p hp => N1 p (by
    simp only [List.mem_append, List.mem_cons, List.not_mem_nil, or_false] at hp ⊢
    rcases hp with (h | h | h) | h | h <;> simp [h])
  refine For_invV (s.heap.hide 46) rfl rfl ?_ (hE := PassesOwn.never)
  k_steps
  rename Fr _ _ _ _ => F2
  rename News _ _ _ _ => N2
  rename IsRange _ _ _ _ _ _ _ _ => hr
  refine iter_range (n := x.length) (J := EndsJ x L D De) rfl hr (by omega) ?_ F2 N2 ?_ ?_ ?_
  · intro p hp b hb
    have h3 : @LT.lt Nat _ 46 D := hDl (46, tabObj #[]) (by simp)
    have h4 : @LT.lt Nat _ (L + 1 + 1) D := hDl (L + 1 + 1, o1) (by simp)
    have h5 : @LT.lt Nat _ (L + 1 + 1) De := hDe.2.1
    have h6 : @LT.lt Nat _ D De := hDe.1
    have h7 : @LT.lt Nat _ 46 L := hPL
    simp only [List.mem_cons, List.not_mem_nil, or_false, List.map_cons, List.map_nil] at hp hb
    rcases hp with rfl | rfl <;> rcases hb with rfl | rfl | rfl <;> (refine neN ?_; dsimp only; omega)
  · exact ⟨[], [], 0, os, _, _, 0, #[], [], rfl, ⟨rfl, rfl, trivial⟩, hos, rfl, Nat.zero_le _, .nil, Nat.zero_le _, rfl, .inl ⟨rfl, rfl⟩, (fun _ h => nomatch h), (fun _ h => nomatch h)⟩
  · rintro i q m₁ mt₁ h tk own hi ⟨es, vs, n, os', ts, _, start, ps, extra, rfl, hkn, hos', rfl, hst, hvs, hel, hends, htab, hx1, hx2⟩ hown hfix F3 N3
    have F4 := Fr_more F3 (hkn.upd rfl)
    have hm1 := hfix (D, listOf pvs.toArray pc) (.head _)
    have hm2 := hfix (L + 1, o2) (.tail _ (.head _))
    clear F3 F2 N2
    (try clear N1)
    have h5 : @LT.lt Nat _ (L + 1 + 1) De := hDe.2.1
    have h7 : @LT.lt Nat _ 46 L := hPL
    have N4 : News (s.heap.hide 46) L h ([(De, listOf vs.toArray n), (L + 1 + 1, os')] ++ (46, tabObj ps) :: (extra ++ own)) := N3
    have hown' : ∀ p ∈ own, p.1 ≠ De ∧ p.1 ≠ L + 1 + 1 ∧ p.1 ≠ 46 ∧ ∀ q ∈ extra, p.1 ≠ q.1 := fun p hp => ⟨hown p hp _ (.head _), hown p hp _ (.tail _ (.head _)), hown p hp _ (.tail _ (.tail _ (.head _))), fun q hq => hown p hp _ (.tail _ (.tail _ (.tail _ (List.mem_map_of_mem hq))))⟩
    have N5 : News (s.heap.hide 46) L h ((De, listOf vs.toArray n) :: (L + 1 + 1, os') :: (46, tabObj ps) :: own) := fun p hp => N4 p (by
      simp only [List.mem_append, List.mem_cons, List.not_mem_nil, or_false] at hp ⊢
      rcases hp with h | h | h | h <;> simp [h])
    clear N3
    k_steps
    refine kla_eval rfl ?_
    refine lam_make (P := 46) (c := 50) (pre := [(De, listOf vs.toArray n), (L + 1 + 1, os')]) F4 N4 T₀ C₀ rfl htab ?_ hx2 (fun p hp => (hown' p hp).2.2.1) ?_ (fun q hq r hr => (hown' r hr).2.2.2 q hq) rfl ?_
    · intro q hq
      simp only [List.mem_cons, List.not_mem_nil, or_false] at hq
      rcases hq with rfl | rfl <;> (refine neN ?_; dsimp only; omega)
    · intro q hq r hr
      have h8 := hx1 q hq
      simp only [List.mem_cons, List.not_mem_nil, or_false] at hr
      rcases hr with rfl | rfl <;> dsimp only <;> omega
    intro f c' oc cvs ct ctv h' tk' F6 N6 hoc hcv hlf hPf hcf hprec hcP hownc
    clear N4 N5
    k_steps
    show wpAny _ _ (call (.ref 32) [.ref D, .bool true, .int start ts] [(Str.ofString "key", .ref f)]) _ _ _
    have hsz : (s.heap.hide 46).objs.size ≤ h'.objs.size := Nat.le_trans F6.above (Nat.le_of_lt F6.ns.lt)
    have hLh : L < h'.objs.size := F6.ns.lt
    have nD := N6 (D, listOf pvs.toArray pc) (by simp [hm1])
    have nf := N6 (f, _) (.head _)
    have nc := N6 (c', oc) (by simp)
    have n1 := N6 (L + 1, o2) (by simp [hm2])
    have n2 := N6 (L + 1 + 1, os') (by simp)
    have hlen : (rangeKs 0 ((x.length : Int) + 1 - 0).toNat).length = x.length + 1 := by rw [rangeKs_length]; omega
    have hget : ∀ i, i < x.length + 1 → (rangeKs 0 ((x.length : Int) + 1 - 0).toNat).getD i 0 = (i : Int) := fun i hi => by rw [kll_at (by omega)]; omega
    refine Runs.use (bisL_spec (f := fun z => full (((cl x).drop start).take (z.toNat - start))) (X₀.keeps F6.keep) (T₀.keeps F6.keep) ⟨rfl, by show dp + 1 + 12 < _; omega, by show un + 3 + 200 < _; omega⟩
      ⟨_, nD.1, rfl, _, rfl⟩ hI ⟨_, _, _, _, nf.1⟩ (by omega) (by omega) ?_ ?_) F6 N6 ?_
    · intro A' s' z t' hA' st hz
      intro Q' E' hret'
      obtain ⟨ah, dp', fr', gd', un'⟩ := A'
      obtain ⟨h1', hdp', hun'⟩ := hA'
      dsimp only at h1' hdp' hun'
      subst h1'
      obtain ⟨hz0, hz1⟩ := mem_rangeKs hz
      have hc12 : ∀ p ∈ [(L + 1, o2), (L + 1 + 1, os')], s'.heap.get? p.1 = some p.2 ∧ (s.heap.hide 46).get? p.1 = none := by
        intro p hp
        simp only [List.mem_cons, List.not_mem_nil, or_false] at hp
        rcases hp with rfl | rfl
        · exact ⟨st _ _ n1.1, n1.2.2⟩
        · exact ⟨st _ _ n2.1, n2.2.2⟩
      have hsg : Stay (s.heap.hide 46) (hideAll s'.heap ([(L + 1, o2), (L + 1 + 1, os')].map (·.1))) := stay_hideAll (fun b o e => st b o (F6.keep b o e)) (by
        intro a ha
        obtain ⟨p, hp, rfl⟩ := List.mem_map.mp ha
        exact (hc12 p hp).2)
      have X₁ := X₀.keeps hsg
      have T₁ := T₀.keeps hsg
      refine enterLamC [(L + 1, o2), (L + 1 + 1, os')] (fun p hp => (hc12 p hp).1) (st _ _ nf.1) ⟨c', oc, cvs, ct, rfl, st _ _ nc.1, hoc, hcv⟩ ((T₀.keeps F6.keep).keeps st).nolimit (by show dp' < _; omega) rfl (locs rfl) rfl rfl rfl (by decide) ?_
      intro L' h₂ tk₂ F8 N8
      clear F6 N6 F4 X₀ T₀
      k_steps
      rename Fr _ _ _ _ => F9
      rename News _ _ _ _ => N9
      rename (Str.length (Txt.slice _ _ _) ≤ _) => hsl
      refine Runs.use (full_spec (X₁.keeps F9.keep) (T₁.keeps F9.keep) ⟨rfl, by show dp' + 1 + 6 < _; omega, by show un' + 3 + 80 < _; omega⟩ (by omega)) F9 N9 ?_
      intro v h₃ tk₃ hv st₃ F10 N10
      subst hv
      refine hret' _ _ _ ?_ (stay_back (fun p hp => (hc12 p hp).1) F10.keep fun p hp => (N10 p hp).1)
      have e : z = (z.toNat : Int) := by omega
      rw [e, slice_both]
      rfl
    · intro i j h1 h2 h3 h4
      rw [hlen] at h3
      rw [hget i (by omega)] at h4
      rw [hget j (by omega)]
      exact full_take (by simp only [Int.toNat_natCast]; omega) h4
    · rintro v h₃ tk₃ ⟨r, tr, rfl, hh1, hh2, hh3, hh4, hh5⟩ st₃ F7 N7
      rw [hlen] at hh3 hh5
      clear N6 F6
      have hq1 : ∀ i, start ≤ i → i < r → full (((cl x).drop start).take (i - start)) = false := fun i h1 h2 => by
        have := hh4 i h1 h2
        dsimp only at this
        rw [hget i (by omega)] at this
        exact this
      have hq2 : r ≤ x.length → full (((cl x).drop start).take (r - start)) = true := fun h2 => by
        have := hh5 r (Nat.le_refl _) (by omega)
        dsimp only at this
        rw [hget r (by omega)] at this
        exact this
      have g1 : @LT.lt Nat _ De c' := hprec (De, listOf vs.toArray n) (.head _)
      have g2 : @LT.lt Nat _ (L + 1 + 1) c' := hprec (L + 1 + 1, os') (.tail _ (.head _))
      have g3 : @LT.lt Nat _ (L + 1 + 1) D := hDl (L + 1 + 1, o1) (by simp)
      have g4 : @LT.lt Nat _ D De := hDe.1
      have hownA : OwnOff own [De, L + 1 + 1] := fun p hp b hb => by
        simp only [List.mem_cons, List.not_mem_nil, or_false] at hb
        rcases hb with rfl | rfl
        · exact (hown' p hp).1
        · exact (hown' p hp).2.1
      have hvz : vs.toArray.size ≤ 100 := by
        have := hvs.length
        simp only [List.length_map] at this
        simp only [List.size_toArray]
        omega
      have N8 : News (s.heap.hide 46) L h₃ ((De, listOf vs.toArray n) :: (L + 1 + 1, os') :: (46, tabObj #[rawInt 80, rawInt 51, .ref c']) :: (c', oc) :: (L + 1, o2) :: (D, listOf pvs.toArray pc) :: own) := fun p hp => N7 p (by
        simp only [List.mem_cons, List.mem_append, List.not_mem_nil, or_false] at hp ⊢
        rcases hp with h | h | h | h | h | h | h
        · simp [h]
        · simp [h]
        · exact .inr (.inr (.inl h))
        · simp [h]
        · simp [h, hm2]
        · simp [h, hm1]
        · simp [h])
      clear N7
      k_steps
      · rename Fr _ _ _ _ => F9
        rename News _ _ _ _ => N9
        have nd := N9 (De, _) (.head _)
        have hDe46 : De ≠ 46 := neN (by omega)
        have hr9 : r = x.length + 1 := by omega
        refine hret De vs n _ _ _ ?_ nd.1 ?_ (stayBut_of F9.keep) (N9 (46, _) (.tail _ (.tail _ (.head _)))).1
        · have := nd.2.2
          rw [Heap.hide_ne _ hDe46] at this
          exact this
        · have e0 : nextEnd (cl x) start = none := nextEnd_none fun i h1 h2 => hq1 i h1 (by rw [cl_len] at h2; omega)
          have e1 : x.length - i = (x.length - i - 1) + 1 := by omega
          rw [hends, e1]
          show IntsAre vs ((es ++ (match nextEnd (cl x) start with | none => [] | some r => r :: endsF (cl x) (x.length - i - 1) r)).map Int.ofNat)
          rw [e0, List.append_nil]
          exact hvs
      · rename Fr _ _ _ _ => F9
        rename News _ _ _ _ => N9
        rename (_ = Data.cell _) => hod9
        rename_i o9
        have hrx : r ≤ x.length := by omega
        refine ⟨_, _, _, [(De, listOf (vs.toArray.push (.int r tr)) (n + 1)), (L + 1 + 1, o9), (46, tabObj #[rawInt 80, rawInt 51, .ref c']), (c', oc)], rfl, F9, (fun p hp => N9 p ?_), ?_, es ++ [r], vs ++ [.int r tr], n + 1, o9, tr, _, r, #[rawInt 80, rawInt 51, .ref c'], [(c', oc)], ?_, ⟨rfl, rfl, trivial⟩, hod9, rfl, hrx, ?_, ?_, ?_, ?_, ?_, ?_⟩
        · simp only [List.mem_cons, List.mem_append, List.not_mem_nil, or_false] at hp ⊢
          rcases hp with (h | h | h | h) | h <;> simp [h]
        · intro p hp b hb
          simp only [List.map_cons, List.map_nil, List.mem_cons, List.not_mem_nil, or_false] at hb
          have a1 := hown' p hp
          rcases hb with rfl | rfl | rfl | rfl
          · exact a1.1
          · exact a1.2.1
          · exact a1.2.2.1
          · exact hownc p hp
        · rw [← List.push_toArray]
        · rw [List.map_append]
          exact ints_snoc (n := (r : Int)) rfl hvs
        · rw [List.length_append]
          show es.length + 1 ≤ i + 1
          omega
        · have e0 : nextEnd (cl x) start = some r := nextEnd_some hh1 (by rw [cl_len]; exact hrx) hq1 (hq2 hrx)
          have e1 : x.length - i = (x.length - (i + 1)) + 1 := by omega
          rw [hends, e1]
          show es ++ (match nextEnd (cl x) start with | none => [] | some r => r :: endsF (cl x) (x.length - (i + 1)) r) = _
          rw [e0, List.append_assoc]
          rfl
        · exact .inr ⟨c', oc, cvs, ct, rfl, rfl, hoc, hcv⟩
        · intro p hp
          rw [List.mem_singleton.mp hp]
          exact g1
        · intro p hp
          rw [List.mem_singleton.mp hp]
          exact hcP
  · rintro m₁ mt₁ h tk ⟨es, vs, n, os', ts, _, start, ps, extra, rfl, hkn, hos', rfl, hst, hvs, hel, hends, htab, hx1, hx2⟩ F3 N3 hoff
    have F4 := Fr_more F3 hkn
    have nd := N3 (De, _) (.head _)
    have np := N3 (46, tabObj ps) (.tail _ (.tail _ (.head _)))
    clear F3 F2 N2
    (try clear N1)
    have h5 : @LT.lt Nat _ (L + 1 + 1) De := hDe.2.1
    have h7 : @LT.lt Nat _ 46 L := hPL
    have hDe46 : De ≠ 46 := neN (by omega)
    have N5 : News (s.heap.hide 46) L h [(De, listOf vs.toArray n), (46, tabObj ps)] := fun p hp => by
      simp only [List.mem_cons, List.not_mem_nil, or_false] at hp
      rcases hp with rfl | rfl
      · exact nd
      · exact np
    clear N3
    k_steps
    rename Fr _ _ _ _ => F9
    rename News _ _ _ _ => N9
    refine hret De vs n ps _ _ ?_ (N9 (De, _) (.head _)).1 ?_ (stayBut_of F9.keep) (N9 (46, _) (.tail _ (.head _))).1
    · have := nd.2.2
      rw [Heap.hide_ne _ hDe46] at this
      exact this
    · rw [hends, Nat.sub_self]
      show IntsAre vs ((es ++ []).map Int.ofNat)
      rw [List.append_nil]
      exact hvs
end Mine
end
section
open PySem PySem.W PyProof.Rows PySem.Calls
set_option maxRecDepth 100000
set_option maxHeartbeats 2000000
namespace Mine
local macro_rules | `(tactic| k_steps) => `(tactic| repeat' (first
  | ((fail_if_success (with_reducible show wpAny _ _ (exec (Stmt.While _ _ _ _) _) _ _ _)); (fail_if_success (with_reducible show wpAny _ _ (exec (Stmt.For _ _ _ _ _) _) _ _ _)); (fail_if_success (with_reducible show wpAny _ _ (eval (Expr.ListComp _ _ _ _) _) _ _ _)); (fail_if_success (with_reducible show wpAny _ _ (exec (Stmt.Assign _ (Expr.ListComp _ _ _ _) _) _) _ _ _)); (fail_if_success (with_reducible show wpAny _ _ (call (Value.ref _) _ _) _ _ _)); (fail_if_success (with_reducible show wpAny _ _ (pyIter _) _ _ _));
     (first | (k_unfold; (try dsimp only)) | (k_end; kc_close) | walk1 | (dsimp only; walk1) | (leave1; walk_say "STEP leave1"; (try dsimp only)) | fail "no step"))))

def StartsJ (x : Str) (L D De : Addr) (i : Nat) (m : Str → Option Value) (mt : List (Addr × Obj)) : Prop :=
  ∃ (es : List Nat) (vs : List Value) (n : Nat) (os : Obj) (ts : Tok) (z : Int) (start : Nat) (ps : Array Value) (extra : List (Addr × Obj)),
    mt = (De, listOf vs.toArray n) :: (L + 1 + 1, os) :: (53, tabObj ps) :: extra ∧ Knows m [(Str.ofString "starts", .ref De), (Str.ofString "places", .ref D)] ∧ os.data = .cell (some (.int z ts)) ∧ z = (start : Int) ∧ start ≤ x.length ∧
    IntsAre vs (es.map Int.ofNat) ∧ es.length ≤ i ∧ startsF (cl x) x.length x.length = es ++ startsF (cl x) (x.length - i) start ∧ TabOk 91 61 (Str.ofString "_law_starts" ++ ".<locals>." ++ "<lambda>") ps extra ∧ (∀ p ∈ extra, @LT.lt Nat _ De p.1) ∧ (∀ p ∈ extra, p.1 ≠ 53)

theorem starts_spec {w : World} {A : Around} {s : Shared} {x : Str} {t : Tok} {g : Heap} {p : Program} {loose : List Str} {mean : ExcName → Option Value} {mg mb : Str → Option Value} {Q E : Value → Shared → Prop}
    (X : (hd.heap_39 w.params).In g) (T : Top p loose mean mg mb g) (hg : Stay g s.heap) (hgP : g.get? 53 = none) (hP : s.heap.get? 53 = some (tabObj #[])) (hA : Rm A 20 300) (hxl : x.length ≤ 100)
    (hret : ∀ (a : Addr) (vs : List Value) (n : Nat) ps h' tk', s.heap.get? a = none → h'.get? a = some (listOf vs.toArray n) → IntsAre vs ((startsF (cl x) x.length x.length).map Int.ofNat) → StayBut 53 s.heap h' → h'.get? 53 = some (tabObj ps) → Q (.ref a) { s with heap := h', toks := tk' }) :
    wpAny (model PySem.Challenge.rw_pe0110_01.row.prog w) A (call (.ref 58) [.str x t]) Q E s := by
  revert X
  k_fill
  w_top off
  intro X
  obtain ⟨ah, dp, fr, gd, un⟩ := A
  obtain ⟨h1, hdp, hun⟩ := hA
  dsimp only at h1 hdp hun
  subst h1
  have X₀ := X.keeps (stay_hide hg hgP)
  have T₀ := T.keeps (stay_hide hg hgP)
  have C₀ : CodeHd (s.heap.hide 53) 57 53 := codeHd_of_K X₀ (by kernel_rfl)
  refine enterP (P := 53) (binds := [(Str.ofString "text", .str x t)]) (X.keeps hg) (T.keeps hg).nolimit hP (by k_is) (by k_is) (by show dp < _; omega) (BindsTo.of_eq rfl) rfl (by decide) rfl rfl rfl ?_
  intro L h₁ tk cells F N Y hPL
  obtain ⟨o1, o2, rfl, hod1, hod2⟩ := CellsAre.two Y
  clear Y X T
  have hod2' : o2.data = Data.cell (some (.str x t)) := hod2
  have hod1' : o1.data = Data.cell none := hod1
  clear hod2 hod1
  k_steps
  rename_i D pvs pc _ _ hDl hI _ _ De _ hDe _ _ _ _ _ os F1 N1 hos
  have N1' : News (s.heap.hide 53) L _ ([(De, listOf #[] 0), (L + 1 + 1, os), (53, tabObj #[])] ++ [(D, listOf pvs.toArray pc), (L + 1, o2)]) := fun p hp => N1 p (by
    simp only [List.mem_append, List.mem_cons, List.not_mem_nil, or_false] at hp ⊢
    rcases hp with (h | h | h) | h | h <;> simp [h])
  refine For_invV (s.heap.hide 53) rfl rfl ?_ (hE := PassesOwn.never)
  k_steps
  rename Fr _ _ _ _ => F2
  rename News _ _ _ _ => N2
  rename IsRange _ _ _ _ _ _ _ _ => hr
  refine iter_range (n := x.length) (J := StartsJ x L D De) rfl hr (by omega) ?_ F2 N2 ?_ ?_ ?_
  · intro p hp b hb
    have h3 : @LT.lt Nat _ 53 D := hDl (53, tabObj #[]) (by simp)
    have h4 : @LT.lt Nat _ (L + 1 + 1) D := hDl (L + 1 + 1, o1) (by simp)
    have h5 : @LT.lt Nat _ (L + 1 + 1) De := hDe.2.1
    have h6 : @LT.lt Nat _ D De := hDe.1
    have h7 : @LT.lt Nat _ 53 L := hPL
    simp only [List.mem_cons, List.not_mem_nil, or_false, List.map_cons, List.map_nil] at hp hb
    rcases hp with rfl | rfl <;> rcases hb with rfl | rfl | rfl <;> (refine neN ?_; dsimp only; omega)
  · exact ⟨[], [], 0, os, _, _, x.length, #[], [], rfl, ⟨rfl, rfl, trivial⟩, hos, rfl, Nat.le_refl _, .nil, Nat.zero_le _, rfl, .inl ⟨rfl, rfl⟩, (fun _ h => nomatch h), (fun _ h => nomatch h)⟩
  · rintro i q m₁ mt₁ h tk own hi ⟨es, vs, n, os', ts, _, start, ps, extra, rfl, hkn, hos', rfl, hst, hvs, hel, hends, htab, hx1, hx2⟩ hown hfix F3 N3
    have F4 := Fr_more F3 (hkn.upd rfl)
    have hm1 := hfix (D, listOf pvs.toArray pc) (.head _)
    have hm2 := hfix (L + 1, o2) (.tail _ (.head _))
    clear F3 F2 N2
    (try clear N1)
    have h5 : @LT.lt Nat _ (L + 1 + 1) De := hDe.2.1
    have h7 : @LT.lt Nat _ 53 L := hPL
    have N4 : News (s.heap.hide 53) L h ([(De, listOf vs.toArray n), (L + 1 + 1, os')] ++ (53, tabObj ps) :: (extra ++ own)) := N3
    have hown' : ∀ p ∈ own, p.1 ≠ De ∧ p.1 ≠ L + 1 + 1 ∧ p.1 ≠ 53 ∧ ∀ q ∈ extra, p.1 ≠ q.1 := fun p hp => ⟨hown p hp _ (.head _), hown p hp _ (.tail _ (.head _)), hown p hp _ (.tail _ (.tail _ (.head _))), fun q hq => hown p hp _ (.tail _ (.tail _ (.tail _ (List.mem_map_of_mem hq))))⟩
    have N5 : News (s.heap.hide 53) L h ((De, listOf vs.toArray n) :: (L + 1 + 1, os') :: (53, tabObj ps) :: own) := fun p hp => N4 p (by
      simp only [List.mem_append, List.mem_cons, List.not_mem_nil, or_false] at hp ⊢
      rcases hp with h | h | h | h <;> simp [h])
    clear N3
    k_steps
    refine kla_eval rfl ?_
    refine lam_make (P := 53) (c := 57) (pre := [(De, listOf vs.toArray n), (L + 1 + 1, os')]) F4 N4 T₀ C₀ rfl htab ?_ hx2 (fun p hp => (hown' p hp).2.2.1) ?_ (fun q hq r hr => (hown' r hr).2.2.2 q hq) rfl ?_
    · intro q hq
      simp only [List.mem_cons, List.not_mem_nil, or_false] at hq
      rcases hq with rfl | rfl <;> (refine neN ?_; dsimp only; omega)
    · intro q hq r hr
      have h8 := hx1 q hq
      simp only [List.mem_cons, List.not_mem_nil, or_false] at hr
      rcases hr with rfl | rfl <;> dsimp only <;> omega
    intro f c' oc cvs ct ctv h' tk' F6 N6 hoc hcv hlf hPf hcf hprec hcP hownc
    clear N4 N5
    k_steps
    have e1 : (start : Int) + 1 = ((start + 1 : Nat) : Int) := by omega
    rw [e1]
    show wpAny _ _ (call (.ref 23) [.ref D, .bool false, .int ((0 : Nat) : Int) _, .int ((start + 1 : Nat) : Int) _] [(Str.ofString "key", .ref f)]) _ _ _
    have hsz : (s.heap.hide 53).objs.size ≤ h'.objs.size := Nat.le_trans F6.above (Nat.le_of_lt F6.ns.lt)
    have hLh : L < h'.objs.size := F6.ns.lt
    have nD := N6 (D, listOf pvs.toArray pc) (by simp [hm1])
    have nf := N6 (f, _) (.head _)
    have nc := N6 (c', oc) (by simp)
    have n1 := N6 (L + 1, o2) (by simp [hm2])
    have n2 := N6 (L + 1 + 1, os') (by simp)
    have hlen : (rangeKs 0 ((x.length : Int) + 1 - 0).toNat).length = x.length + 1 := by rw [rangeKs_length]; omega
    have hget : ∀ i, i < x.length + 1 → (rangeKs 0 ((x.length : Int) + 1 - 0).toNat).getD i 0 = (i : Int) := fun i hi => by rw [kll_at (by omega)]; omega
    refine Runs.use (bisR_spec (f := fun z => !full (((cl x).drop z.toNat).take (start - z.toNat))) (X₀.keeps F6.keep) (T₀.keeps F6.keep) ⟨rfl, by show dp + 1 + 12 < _; omega, by show un + 3 + 200 < _; omega⟩
      ⟨_, nD.1, rfl, _, rfl⟩ hI ⟨_, _, _, _, nf.1⟩ (by omega) (by omega) (by omega) ?_ ?_) F6 N6 ?_
    · intro A' s' z t' hA' st hz
      intro Q' E' hret'
      obtain ⟨ah, dp', fr', gd', un'⟩ := A'
      obtain ⟨h1', hdp', hun'⟩ := hA'
      dsimp only at h1' hdp' hun'
      subst h1'
      obtain ⟨hz0, hz1⟩ := mem_rangeKs hz
      have hc12 : ∀ p ∈ [(L + 1, o2), (L + 1 + 1, os')], s'.heap.get? p.1 = some p.2 ∧ (s.heap.hide 53).get? p.1 = none := by
        intro p hp
        simp only [List.mem_cons, List.not_mem_nil, or_false] at hp
        rcases hp with rfl | rfl
        · exact ⟨st _ _ n1.1, n1.2.2⟩
        · exact ⟨st _ _ n2.1, n2.2.2⟩
      have hsg : Stay (s.heap.hide 53) (hideAll s'.heap ([(L + 1, o2), (L + 1 + 1, os')].map (·.1))) := stay_hideAll (fun b o e => st b o (F6.keep b o e)) (by
        intro a ha
        obtain ⟨p, hp, rfl⟩ := List.mem_map.mp ha
        exact (hc12 p hp).2)
      have X₁ := X₀.keeps hsg
      have T₁ := T₀.keeps hsg
      refine enterLamC [(L + 1, o2), (L + 1 + 1, os')] (fun p hp => (hc12 p hp).1) (st _ _ nf.1) ⟨c', oc, cvs, ct, rfl, st _ _ nc.1, hoc, hcv⟩ ((T₀.keeps F6.keep).keeps st).nolimit (by show dp' < _; omega) rfl (locs rfl) rfl rfl rfl (by decide) ?_
      intro L' h₂ tk₂ F8 N8
      clear F6 N6 F4 X₀ T₀
      k_steps
      rename Fr _ _ _ _ => F9
      rename News _ _ _ _ => N9
      rename (Str.length (Txt.slice _ _ _) ≤ _) => hsl
      refine Runs.use (full_spec (X₁.keeps F9.keep) (T₁.keeps F9.keep) ⟨rfl, by show dp' + 1 + 6 < _; omega, by show un' + 3 + 80 < _; omega⟩ (by omega)) F9 N9 ?_
      intro v h₃ tk₃ hv st₃ F10 N10
      subst hv
      k_steps
      rename Fr _ _ _ _ => F11
      rename News _ _ _ _ => N11
      refine hret' _ _ _ ?_ (stay_back (fun p hp => (hc12 p hp).1) F11.keep fun p hp => (N11 p hp).1)
      have e : z = (z.toNat : Int) := by omega
      rw [e, slice_both]
      rfl
    · intro i j h1 h2 h3 h4
      rw [hget i (by omega)] at h4
      rw [hget j (by omega)]
      simp only [Int.toNat_natCast, ← List.drop_take] at h4 ⊢
      cases q : full (((cl x).take start).drop j) with
      | false => rfl
      | true => rw [full_drop h2 q] at h4; cases h4
    · rintro v h₃ tk₃ ⟨r, tr, rfl, hh1, hh2, hh3, hh4, hh5⟩ st₃ F7 N7
      clear N6 F6
      have hq1 : ∀ i, i < r → full (((cl x).take start).drop i) = true := fun i h2 => by
        have := hh4 i (Nat.zero_le _) h2
        dsimp only at this
        rw [hget i (by omega)] at this
        rw [List.drop_take]
        simpa using this
      have hq2 : ∀ i, r ≤ i → i ≤ start → full (((cl x).take start).drop i) = false := fun i h1 h2 => by
        have := hh5 i h1 (by omega)
        dsimp only at this
        rw [hget i (by omega)] at this
        rw [List.drop_take]
        simpa using this
      have g1 : @LT.lt Nat _ De c' := hprec (De, listOf vs.toArray n) (.head _)
      have g2 : @LT.lt Nat _ (L + 1 + 1) c' := hprec (L + 1 + 1, os') (.tail _ (.head _))
      have g3 : @LT.lt Nat _ (L + 1 + 1) D := hDl (L + 1 + 1, o1) (by simp)
      have g4 : @LT.lt Nat _ D De := hDe.1
      have hownA : OwnOff own [De, L + 1 + 1] := fun p hp b hb => by
        simp only [List.mem_cons, List.not_mem_nil, or_false] at hb
        rcases hb with rfl | rfl
        · exact (hown' p hp).1
        · exact (hown' p hp).2.1
      have hvz : vs.toArray.size ≤ 100 := by
        have := hvs.length
        simp only [List.length_map] at this
        simp only [List.size_toArray]
        omega
      have N8 : News (s.heap.hide 53) L h₃ ((De, listOf vs.toArray n) :: (L + 1 + 1, os') :: (53, tabObj #[rawInt 91, rawInt 61, .ref c']) :: (c', oc) :: (L + 1, o2) :: (D, listOf pvs.toArray pc) :: own) := fun p hp => N7 p (by
        simp only [List.mem_cons, List.mem_append, List.not_mem_nil, or_false] at hp ⊢
        rcases hp with h | h | h | h | h | h | h
        · simp [h]
        · simp [h]
        · exact .inr (.inr (.inl h))
        · simp [h]
        · simp [h, hm2]
        · simp [h, hm1]
        · simp [h])
      clear N7
      k_steps
      · rename Fr _ _ _ _ => F9
        rename News _ _ _ _ => N9
        have nd := N9 (De, _) (.head _)
        have hDe46 : De ≠ 53 := neN (by omega)
        have hr9 : r = 0 := by omega
        refine hret De vs n _ _ _ ?_ nd.1 ?_ (stayBut_of F9.keep) (N9 (53, _) (.tail _ (.tail _ (.head _)))).1
        · have := nd.2.2
          rw [Heap.hide_ne _ hDe46] at this
          exact this
        · have e0 : prevStart (cl x) start = none := prevStart_none fun i h1 => hq2 i (by omega) h1
          have e1 : x.length - i = (x.length - i - 1) + 1 := by omega
          rw [hends, e1]
          show IntsAre vs ((es ++ (match prevStart (cl x) start with | none => [] | some r => r :: startsF (cl x) (x.length - i - 1) r)).map Int.ofNat)
          rw [e0, List.append_nil]
          exact hvs
      · rename Fr _ _ _ _ => F9
        rename News _ _ _ _ => N9
        rename (_ = Data.cell _) => hod9
        have hr0 : r ≠ 0 := by omega
        obtain ⟨r, rfl⟩ := Nat.exists_eq_succ_of_ne_zero hr0
        have hrx : r ≤ x.length := by omega
        have er : ((r.succ : Nat) : Int) - 1 = (r : Int) := by omega
        rw [er] at N9 hod9
        rename Obj => o9
        obtain ⟨T9, N9, hod9⟩ : ∃ T : Tok, News (s.heap.hide 53) L _ ((De, listOf (vs.toArray.push (.int r T)) (n + 1)) :: (L + 1 + 1, o9) :: (53, tabObj #[rawInt 91, rawInt 61, .ref c']) :: (c', oc) :: (L + 1, o2) :: (D, listOf pvs.toArray pc) :: own) ∧ o9.data = Data.cell (some (.int r T)) := ⟨_, N9, hod9⟩
        refine ⟨_, _, _, [(De, listOf (vs.toArray.push (.int r T9)) (n + 1)), (L + 1 + 1, o9), (53, tabObj #[rawInt 91, rawInt 61, .ref c']), (c', oc)], rfl, F9, (fun p hp => N9 p ?_), ?_, es ++ [r], vs ++ [.int r T9], n + 1, o9, T9, _, r, #[rawInt 91, rawInt 61, .ref c'], [(c', oc)], ?_, ⟨rfl, rfl, trivial⟩, hod9, rfl, hrx, ?_, ?_, ?_, ?_, ?_, ?_⟩
        · simp only [List.mem_cons, List.mem_append, List.not_mem_nil, or_false] at hp ⊢
          rcases hp with (h | h | h | h) | h <;> simp [h]
        · intro p hp b hb
          simp only [List.map_cons, List.map_nil, List.mem_cons, List.not_mem_nil, or_false] at hb
          have a1 := hown' p hp
          rcases hb with rfl | rfl | rfl | rfl
          · exact a1.1
          · exact a1.2.1
          · exact a1.2.2.1
          · exact hownc p hp
        · rw [← List.push_toArray]
        · rw [List.map_append]
          exact ints_snoc (n := (r : Int)) rfl hvs
        · rw [List.length_append]
          show es.length + 1 ≤ i + 1
          omega
        · have e0 : prevStart (cl x) start = some r := prevStart_some (by omega) (fun i h1 h2 => hq2 i (by omega) h2) (hq1 r (Nat.lt_succ_self _))
          have e1 : x.length - i = (x.length - (i + 1)) + 1 := by omega
          rw [hends, e1]
          show es ++ (match prevStart (cl x) start with | none => [] | some r => r :: startsF (cl x) (x.length - (i + 1)) r) = _
          rw [e0, List.append_assoc]
          rfl
        · exact .inr ⟨c', oc, cvs, ct, rfl, rfl, hoc, hcv⟩
        · intro p hp
          rw [List.mem_singleton.mp hp]
          exact g1
        · intro p hp
          rw [List.mem_singleton.mp hp]
          exact hcP
  · rintro m₁ mt₁ h tk ⟨es, vs, n, os', ts, _, start, ps, extra, rfl, hkn, hos', rfl, hst, hvs, hel, hends, htab, hx1, hx2⟩ F3 N3 hoff
    have F4 := Fr_more F3 hkn
    have nd := N3 (De, _) (.head _)
    have np := N3 (53, tabObj ps) (.tail _ (.tail _ (.head _)))
    clear F3 F2 N2
    (try clear N1)
    have h5 : @LT.lt Nat _ (L + 1 + 1) De := hDe.2.1
    have h7 : @LT.lt Nat _ 53 L := hPL
    have hDe46 : De ≠ 53 := neN (by omega)
    have N5 : News (s.heap.hide 53) L h [(De, listOf vs.toArray n), (53, tabObj ps)] := fun p hp => by
      simp only [List.mem_cons, List.not_mem_nil, or_false] at hp
      rcases hp with rfl | rfl
      · exact nd
      · exact np
    clear N3
    k_steps
    rename Fr _ _ _ _ => F9
    rename News _ _ _ _ => N9
    refine hret De vs n ps _ _ ?_ (N9 (De, _) (.head _)).1 ?_ (stayBut_of F9.keep) (N9 (53, _) (.tail _ (.head _))).1
    · have := nd.2.2
      rw [Heap.hide_ne _ hDe46] at this
      exact this
    · rw [hends, Nat.sub_self]
      show IntsAre vs ((es ++ []).map Int.ofNat)
      rw [List.append_nil]
      exact hvs
end Mine
end
section
open PySem PySem.W PyProof.Rows
namespace Mine
theorem wordsL_abc : ∀ n, ∀ w ∈ wordsL n, 46 ∉ w
  | 0, w, h => by simp [wordsL] at h; simp [h]
  | n + 1, w, h => by
    simp only [wordsL, List.mem_flatMap] at h
    obtain ⟨v, hv, h⟩ := h
    have := wordsL_abc n v hv
    simp at h
    rcases h with rfl | rfl | rfl <;> simp [this]
theorem gapL_length (l : List Nat) : (gapL l).length = 3 + 4 * l.length := by
  unfold gapL
  have : ∀ l : List Nat, (l.flatMap fun d => [d, 46, 46, 46]).length = 4 * l.length := by
    intro l
    induction l with
    | nil => rfl
    | cons a l ih => rw [List.flatMap_cons, List.length_append, ih, List.length_cons]; simp; omega
  rw [List.length_append, this]; rfl
theorem gaps_length {l : List Nat} (h : l ≠ []) : (gaps (tx l)).length = 3 + 4 * l.length := by
  rw [← cl_len, gaps_cl h, gapL_length]
end Mine
namespace Mine
theorem nats_getD (E : List Nat) (k : Nat) : (List.map Int.ofNat E).getD k 0 = ((E.getD k 0 : Nat) : Int) := by
  rw [List.getD_eq_getElem?_getD, List.getD_eq_getElem?_getD, List.getElem?_map]
  cases E[k]? <;> rfl
end Mine
end
section
open PySem PySem.W PyProof.Rows PySem.Calls PySem.Spec PyProof.V
set_option maxRecDepth 100000
namespace Mine
section
variable {prog : Program} {w : World} {A : Around} {E : Value → Shared → Prop} {s : Shared} {Q : Value → Shared → Prop}
theorem lay_ints' : ∀ ns : List Int, PyData.canLayAll0 (ns.map PyData.int) = true
  | [] => rfl
  | _ :: r => by simp [PyData.canLayAll0, PyData.canLay0, lay_ints' r]
theorem depth_ints' : ∀ ns : List Int, PyData.depthAll (ns.map PyData.int) = 0
  | [] => rfl
  | _ :: r => by simp [PyData.depthAll, PyData.depth, depth_ints' r]
theorem shaped_ints' (ns : List Int) : SeqAt.shaped (.list (ns.map PyData.int)) = true := by
  simp [SeqAt.shaped, PyData.canLay0, PyData.depth, lay_ints', depth_ints']
theorem same_ints' : ∀ ns ms : List Int, PySem.Spec.sameAll (ns.map PyData.int) (ms.map PyData.int) = decide (ns = ms)
  | [], [] => by simp [PySem.Spec.sameAll]
  | [], _ :: _ => by simp [PySem.Spec.sameAll]
  | _ :: _, [] => by simp [PySem.Spec.sameAll]
  | a :: r, b :: t => by
    simp only [List.map_cons, PySem.Spec.sameAll, PySem.Spec.same, same_ints' r t]
    by_cases h : a = b <;> by_cases h' : r = t <;> simp [h, h']
theorem carried_ints : ∀ {vs : List Value} {ns : List Int}, IntsAre vs ns → CarriedAll vs (ns.map PyData.int)
  | _, _, .nil => .nil
  | _, _, .cons _ t r => .cons (.int _ t) (carried_ints r)
theorem ne_ints' {a b : Addr} {xs ys : List Value} {ns ms : List Int} (ha : s.heap.IsList a xs.toArray) (hx : IntsAre xs ns) (hb : s.heap.IsList b ys.toArray) (hy : IntsAre ys ms) (hu : A.units + 64 < cLine) (h : Q (.bool (!decide (ns = ms))) s) :
    wpAny (model prog w) A (compareOp .NotEq (.ref a) (.ref b)) Q E s :=
  ne_dataH_same (reads_newData ha (carried_ints hx)) (reads_newData hb (carried_ints hy)) (shaped_ints' _) (shaped_ints' _) hu (SeqAt.noMix_of_shape (.list .int) rfl _ _ (list_map_has fun _ => rfl) (list_map_has fun _ => rfl))
    (by simp only [PySem.Spec.same]; rw [same_ints']; exact h)
end
end Mine
end
section
open PySem PySem.W PyProof.Rows
namespace Mine
theorem sub_iff {w l : List Nat} : sub w l = true ↔ w.Sublist l := List.isSublist_iff_sublist
theorem sub_false {w l : List Nat} : sub w l = false ↔ ¬ w.Sublist l := by rw [← sub_iff, Bool.not_eq_true]
def abc (x : Nat) : Prop := x = 97 ∨ x = 98 ∨ x = 99

theorem nextEnd_iff {l : List Nat} {s r : Nat} : nextEnd l s = some r ↔ s ≤ r ∧ r ≤ l.length ∧ full ((l.drop s).take (r - s)) = true ∧ ∀ i, s ≤ i → i < r → full ((l.drop s).take (i - s)) = false := by
  unfold nextEnd
  rw [List.find?_range_eq_some]
  simp only [Bool.and_eq_true, decide_eq_true_eq, List.mem_range, Bool.not_eq_true', Bool.and_eq_false_imp]
  constructor
  · rintro ⟨⟨h1, h2⟩, h3, h4⟩
    exact ⟨h1, by omega, h2, fun i a b => h4 i b a⟩
  · rintro ⟨h1, h2, h3, h4⟩
    exact ⟨⟨h1, h3⟩, by omega, fun j a b => h4 j b a⟩
theorem nextEnd_none' {l : List Nat} {s : Nat} (h : nextEnd l s = none) : ∀ i, s ≤ i → i ≤ l.length → full ((l.drop s).take (i - s)) = false := by
  unfold nextEnd at h
  rw [List.find?_eq_none] at h
  intro i h1 h2
  have := h i (by rw [List.mem_range]; omega)
  simpa [h1] using this

theorem full_len {l : List Nat} (h : full l = true) : 3 ≤ l.length := by
  rw [full_iff] at h
  match l, h with
  | [], h => simp at h
  | [a], h => simp at h; omega
  | [a, b], h => simp at h; omega
  | a :: b :: c :: r, _ => simp
theorem not_full {l : List Nat} (h : full l = false) : ∃ x, abc x ∧ x ∉ l := by
  by_cases h1 : 97 ∈ l
  · by_cases h2 : 98 ∈ l
    · by_cases h3 : 99 ∈ l
      · rw [(full_iff l).mpr ⟨h1, h2, h3⟩] at h; cases h
      · exact ⟨99, .inr (.inr rfl), h3⟩
    · exact ⟨98, .inr (.inl rfl), h2⟩
  · exact ⟨97, .inl rfl, h1⟩
theorem full_has {l : List Nat} (h : full l = true) {x : Nat} (hx : abc x) : x ∈ l := by
  rw [full_iff] at h
  rcases hx with rfl | rfl | rfl
  · exact h.1
  · exact h.2.1
  · exact h.2.2

/-- an arch: its last letter is new -/
theorem arch {l : List Nat} {s r : Nat} (h : nextEnd l s = some r) : s + 3 ≤ r ∧ r ≤ l.length ∧ (l.drop s).take (r - s) = (l.drop s).take (r - 1 - s) ++ [l.getD (r - 1) 0] ∧ l.getD (r - 1) 0 ∉ (l.drop s).take (r - 1 - s) := by
  obtain ⟨h1, h2, h3, h4⟩ := nextEnd_iff.mp h
  have hl := full_len h3
  rw [List.length_take, List.length_drop] at hl
  have e : (l.drop s).take (r - s) = (l.drop s).take (r - 1 - s) ++ [l.getD (r - 1) 0] := by
    have : r - s = (r - 1 - s) + 1 := by omega
    rw [this, List.take_add_one]
    congr 1
    rw [List.getElem?_drop, show s + (r - 1 - s) = r - 1 by omega, List.getD_eq_getElem?_getD, List.getElem?_eq_getElem (by omega)]
    rfl
  refine ⟨by omega, h2, e, fun hm => ?_⟩
  obtain ⟨x, hx, hn⟩ := not_full (h4 (r - 1) (by omega) (by omega))
  have := full_has h3 hx
  rw [e] at this
  rcases List.mem_append.mp this with q | q
  · exact hn q
  · rw [List.mem_singleton.mp q] at hn; exact hn hm

theorem endsF_step {l : List Nat} {f s : Nat} : (endsF l (f + 1) s = [] ∧ nextEnd l s = none) ∨ ∃ r, nextEnd l s = some r ∧ endsF l (f + 1) s = r :: endsF l f r := by
  cases e : nextEnd l s with
  | none => left; refine ⟨?_, rfl⟩; show (match nextEnd l s with | none => [] | some r => r :: endsF l f r) = _; rw [e]
  | some r => right; refine ⟨r, rfl, ?_⟩; show (match nextEnd l s with | none => [] | some r => r :: endsF l f r) = _; rw [e]

theorem endsF_ge {l : List Nat} : ∀ f s j, j < (endsF l f s).length → s + 3 * (j + 1) ≤ (endsF l f s).getD j 0 ∧ (endsF l f s).getD j 0 ≤ l.length := by
  intro f
  induction f with
  | zero => intro s j h; exact absurd h (Nat.not_lt_zero _)
  | succ f ih =>
    intro s j h
    rcases endsF_step (l := l) (f := f) (s := s) with ⟨e, _⟩ | ⟨r, hr, e⟩
    · rw [e] at h; exact absurd h (Nat.not_lt_zero _)
    · rw [e] at h ⊢
      have ha := arch hr
      cases j with
      | zero => show s + 3 * 1 ≤ r ∧ r ≤ _; exact ⟨by omega, ha.2.1⟩
      | succ j =>
        have := ih r j (by simpa using h)
        show s + 3 * (j + 1 + 1) ≤ (endsF l f r).getD j 0 ∧ _
        exact ⟨by omega, this.2⟩

theorem split_drop {l : List Nat} {s r e : Nat} (h1 : s ≤ r) (h2 : r ≤ e) : (l.drop s).take (e - s) = (l.drop s).take (r - s) ++ (l.drop r).take (e - r) := by
  have h3 : e - s = (r - s) + (e - r) := by omega
  rw [h3, List.take_add, List.drop_drop]
  congr 3
  omega

/-- each word of so many letters is taken in so many arches -/
theorem univ {l : List Nat} : ∀ (f s j : Nat) (w : List Nat), j < (endsF l f s).length → w.length ≤ j + 1 → (∀ x ∈ w, abc x) → w.Sublist ((l.drop s).take ((endsF l f s).getD j 0 - s)) := by
  intro f
  induction f with
  | zero => intro s j w h; exact absurd h (Nat.not_lt_zero _)
  | succ f ih =>
    intro s j w h hw hx
    have hge := endsF_ge (l := l) (f + 1) s j h
    rcases endsF_step (l := l) (f := f) (s := s) with ⟨e, _⟩ | ⟨r, hr, e⟩
    · rw [e] at h; exact absurd h (Nat.not_lt_zero _)
    · rw [e] at h hge ⊢
      have ha := arch hr
      have hfull := (nextEnd_iff.mp hr).2.2.1
      cases w with
      | nil => exact List.nil_sublist _
      | cons c w =>
        have hc : [c].Sublist ((l.drop s).take (r - s)) := List.singleton_sublist.mpr (full_has hfull (hx c (.head _)))
        cases j with
        | zero =>
          have : w = [] := List.eq_nil_of_length_eq_zero (by rw [List.length_cons] at hw; omega)
          rw [this]; exact hc
        | succ j =>
          have hj : j < (endsF l f r).length := by simpa using h
          have h5 := endsF_ge (l := l) f r j hj
          have := ih r j w hj (by simpa using hw) fun x q => hx x (.tail _ q)
          show (c :: w).Sublist ((l.drop s).take ((endsF l f r).getD j 0 - s))
          rw [split_drop (r := r) (by omega) (by omega)]
          exact hc.append this

/-- what the last letters of the arches spell -/
def lastsOf (l : List Nat) (es : List Nat) : List Nat := es.map fun e => l.getD (e - 1) 0

theorem cons_past {c : Nat} {A B w : List Nat} (hc : c ∉ A) (h : (c :: w).Sublist (A ++ c :: B)) : w.Sublist B := by
  induction A with
  | nil => exact List.cons_sublist_cons.mp h
  | cons a A ih =>
    cases h with
    | cons _ h => exact ih (fun q => hc (.tail _ q)) h
    | cons_cons => exact absurd (List.Mem.head _) hc

theorem late {l : List Nat} : ∀ f s j, j < (endsF l f s).length → ¬ ((lastsOf l (endsF l f s)).take (j + 1)).Sublist ((l.drop s).take ((endsF l f s).getD j 0 - 1 - s)) := by
  intro f
  induction f with
  | zero => intro s j h; exact absurd h (Nat.not_lt_zero _)
  | succ f ih =>
    intro s j h hs
    rcases endsF_step (l := l) (f := f) (s := s) with ⟨e, _⟩ | ⟨r, hr, e⟩
    · rw [e] at h; exact absurd h (Nat.not_lt_zero _)
    · rw [e] at h hs
      obtain ⟨a1, a2, a3, a4⟩ := arch hr
      cases j with
      | zero =>
        have : [l.getD (r - 1) 0].Sublist ((l.drop s).take (r - 1 - s)) := hs
        exact a4 (List.singleton_sublist.mp this)
      | succ j =>
        have hj : j < (endsF l f r).length := by simpa using h
        have h5 := endsF_ge (l := l) f r j hj
        have hs' : (l.getD (r - 1) 0 :: (lastsOf l (endsF l f r)).take (j + 1)).Sublist ((l.drop s).take ((endsF l f r).getD j 0 - 1 - s)) := hs
        rw [split_drop (r := r) (by omega) (by omega), a3, List.append_assoc] at hs'
        exact ih r j hj (cons_past a4 hs')

theorem missing {l : List Nat} : ∀ f s, l.length ≤ f + s → ∃ x, abc x ∧ ¬ (lastsOf l (endsF l f s) ++ [x]).Sublist (l.drop s) := by
  intro f
  induction f with
  | zero =>
    intro s h
    refine ⟨97, .inl rfl, fun hs => ?_⟩
    rw [List.drop_eq_nil_of_le (by omega)] at hs
    have := hs.length_le
    simp at this
  | succ f ih =>
    intro s h
    rcases endsF_step (l := l) (f := f) (s := s) with ⟨e, hn⟩ | ⟨r, hr, e⟩
    · rcases Nat.lt_or_ge l.length s with q | q
      · refine ⟨97, .inl rfl, fun hs => ?_⟩
        rw [List.drop_eq_nil_of_le (by omega)] at hs
        have := hs.length_le
        simp at this
      · have := nextEnd_none' hn l.length q (Nat.le_refl _)
        rw [List.take_of_length_le (by rw [List.length_drop]; omega)] at this
        obtain ⟨x, hx, hm⟩ := not_full this
        refine ⟨x, hx, fun hs => hm ?_⟩
        rw [e] at hs
        exact List.singleton_sublist.mp hs
    · obtain ⟨a1, a2, a3, a4⟩ := arch hr
      obtain ⟨x, hx, hm⟩ := ih r (by omega)
      refine ⟨x, hx, fun hs => hm ?_⟩
      rw [e] at hs
      have hs' : (l.getD (r - 1) 0 :: (lastsOf l (endsF l f r) ++ [x])).Sublist (l.drop s) := hs
      have e2 : l.drop s = (l.drop s).take (r - s) ++ l.drop r := by
        have : l.drop r = (l.drop s).drop (r - s) := by rw [List.drop_drop]; congr 1; omega
        rw [this, List.take_append_drop]
      rw [e2, a3, List.append_assoc] at hs'
      exact cons_past a4 hs'
end Mine
end
section
open PySem PySem.W PyProof.Rows
namespace Mine
theorem full_rev (l : List Nat) : full l.reverse = full l := by
  rw [Bool.eq_iff_iff, full_iff, full_iff]; simp
theorem stretch_rev {l : List Nat} {r e : Nat} (h1 : r ≤ e) (h2 : e ≤ l.length) : (l.reverse.drop (l.length - e)).take (e - r) = ((l.take e).drop r).reverse := by
  rw [List.drop_reverse, List.take_reverse]
  have e1 : l.length - (l.length - e) = e := by omega
  rw [e1, List.length_take, Nat.min_eq_left h2, show e - (e - r) = r by omega]

theorem startsF_eq {l : List Nat} : ∀ f e, e ≤ l.length → startsF l f e = (endsF l.reverse f (l.length - e)).map fun r => l.length - r := by
  intro f
  induction f with
  | zero => intro e _; rfl
  | succ f ih =>
    intro e he
    have st : ∀ i, i ≤ e → full ((l.take e).drop i) = full ((l.reverse.drop (l.length - e)).take (l.length - i - (l.length - e))) := fun i hi => by
      rw [show l.length - i - (l.length - e) = e - i by omega, stretch_rev hi he, full_rev]
    rcases endsF_step (l := l.reverse) (f := f) (s := l.length - e) with ⟨h1, h2⟩ | ⟨r, h1, h2⟩
    · have hn := nextEnd_none' h2
      rw [List.length_reverse] at hn
      have : prevStart l e = none := prevStart_none fun i hi => by rw [st i hi]; exact hn _ (by omega) (by omega)
      rw [h1]
      show (match prevStart l e with | none => [] | some r => r :: startsF l f r) = _
      rw [this]; rfl
    · obtain ⟨a1, a2, a3, a4⟩ := nextEnd_iff.mp h1
      rw [List.length_reverse] at a2
      have : prevStart l e = some (l.length - r) := by
        refine prevStart_some (by omega) (fun i b1 b2 => ?_) ?_
        · rw [st i b2]; exact a4 _ (by omega) (by omega)
        · rw [st _ (by omega), show l.length - (l.length - r) = r by omega]; exact a3
      rw [h2]
      show (match prevStart l e with | none => [] | some r => r :: startsF l f r) = _
      rw [this]
      show (l.length - r) :: startsF l f (l.length - r) = _
      rw [ih _ (by omega), show l.length - (l.length - r) = r by omega]
      rfl

theorem three_few {l : List Nat} (h : l.length < 3) : full l = false := by
  cases e : full l with
  | false => rfl
  | true => have := full_len e; omega
theorem three_all {l : List Nat} (hn : l.Nodup) (h : l.length = 3) (hx : ∀ x ∈ l, abc x) : full l = true := by
  match l, h with
  | [a, b, c], _ =>
    simp at hn
    have h1 := hx a (by simp)
    have h2 := hx b (by simp)
    have h3 := hx c (by simp)
    rw [full_iff]
    unfold abc at h1 h2 h3
    simp
    omega

theorem gath_inv {l : List Nat} (habc : ∀ x ∈ l, abc x) : ∀ i, i ≤ l.length → ∃ s, s ≤ i ∧ (gathI l i).2.length ≤ s ∧ (gathI l i).1.Nodup ∧ (gathI l i).1.length < 3 ∧ (∀ x, x ∈ (gathI l i).1 ↔ x ∈ (l.drop s).take (i - s)) ∧
    endsF l l.length 0 = (gathI l i).2 ++ endsF l (l.length - (gathI l i).2.length) s := by
  intro i
  induction i with
  | zero => intro _; exact ⟨0, Nat.le_refl _, Nat.le_refl _, List.nodup_nil, by show 0 < 3; omega, fun x => by simp [gathI], rfl⟩
  | succ i ih =>
    intro hi
    obtain ⟨s, h1, h2, h3, h4, h5, h6⟩ := ih (by omega)
    have eg : gathI l (i + 1) = gstep (gathI l i) i (l.getD i 0) := rfl
    generalize gathI l i = g at h2 h3 h4 h5 h6 eg
    obtain ⟨seen, es⟩ := g
    dsimp only at h2 h3 h4 h5 h6
    have est : (l.drop s).take (i + 1 - s) = (l.drop s).take (i - s) ++ [l.getD i 0] := by
      rw [show i + 1 - s = (i - s) + 1 by omega, List.take_add_one]
      congr 1
      rw [List.getElem?_drop, show s + (i - s) = i by omega, List.getD_eq_getElem?_getD, List.getElem?_eq_getElem (by omega)]
      rfl
    have hcabc : abc (l.getD i 0) := habc _ (by rw [List.getD_eq_getElem?_getD, List.getElem?_eq_getElem (by omega)]; exact List.getElem_mem _)
    generalize l.getD i 0 = c at eg est hcabc
    by_cases hc : c ∈ seen
    · have e2 : gathI l (i + 1) = (seen, es) := by
        rw [eg]; unfold gstep
        simp only [if_pos hc]
        rw [if_neg (by omega)]
      rw [e2]
      refine ⟨s, by omega, h2, h3, h4, fun x => ?_, h6⟩
      rw [est, List.mem_append, ← h5 x, List.mem_singleton]
      exact ⟨.inl, fun h => h.elim id fun q => q ▸ hc⟩
    · have hnd : (seen ++ [c]).Nodup := by
        rw [List.nodup_append]
        refine ⟨h3, by simp, fun a ha b hb => ?_⟩
        rw [List.mem_singleton.mp hb]
        rintro rfl
        exact hc ha
      have hmem : ∀ x, x ∈ seen ++ [c] ↔ x ∈ (l.drop s).take (i + 1 - s) := fun x => by rw [est, List.mem_append, List.mem_append, h5 x]
      by_cases h7 : seen.length + 1 = 3
      · have e2 : gathI l (i + 1) = ([], es ++ [i + 1]) := by
          rw [eg]; unfold gstep
          simp only [if_neg hc, List.length_append, List.length_singleton, if_pos h7]
        rw [e2]
        have hne : nextEnd l s = some (i + 1) := by
          refine nextEnd_iff.mpr ⟨by omega, hi, ?_, fun j b1 b2 => ?_⟩
          · refine full_sub (fun x hx => (hmem x).mp hx) (three_all hnd (by simp [h7]) fun x hx => ?_)
            have := (hmem x).mp hx
            exact habc x (List.mem_of_mem_drop (List.mem_of_mem_take this))
          · cases q : full ((l.drop s).take (j - s)) with
            | false => rfl
            | true =>
              have := full_take (i := j - s) (j := i - s) (by omega) q
              have := full_sub (r := seen) (fun x hx => (h5 x).mpr hx) this
              rw [three_few h4] at this
              cases this
        refine ⟨i + 1, Nat.le_refl _, by rw [List.length_append]; simp; omega, List.nodup_nil, by show 0 < 3; omega, fun x => by simp, ?_⟩
        rw [h6, show l.length - es.length = (l.length - (es ++ [i + 1]).length) + 1 by rw [List.length_append]; simp; omega]
        rcases endsF_step (l := l) (f := l.length - (es ++ [i + 1]).length) (s := s) with ⟨_, q⟩ | ⟨r, q, q2⟩
        · rw [hne] at q; cases q
        · rw [hne] at q
          obtain rfl := Option.some.inj q
          rw [q2, List.append_assoc]; rfl
      · have e2 : gathI l (i + 1) = (seen ++ [c], es) := by
          rw [eg]; unfold gstep
          simp only [if_neg hc, List.length_append, List.length_singleton, if_neg h7]
        rw [e2]
        exact ⟨s, by omega, h2, hnd, by rw [List.length_append]; simp; omega, hmem, h6⟩

theorem ends_gath {l : List Nat} (habc : ∀ x ∈ l, abc x) : Es l = gath l := by
  obtain ⟨s, h1, h2, h3, h4, h5, h6⟩ := gath_inv habc l.length (Nat.le_refl _)
  unfold Es gath
  rw [h6]
  have : nextEnd l s = none := by
    refine nextEnd_none fun i b1 b2 => ?_
    cases q : full ((l.drop s).take (i - s)) with
    | false => rfl
    | true =>
      have := full_take (i := i - s) (j := l.length - s) (by omega) q
      have := full_sub (r := (gathI l l.length).1) (fun x hx => (h5 x).mpr hx) this
      rw [three_few h4] at this
      cases this
  cases hf : l.length - (gathI l l.length).2.length with
  | zero => show _ ++ [] = _; rw [List.append_nil]
  | succ f =>
    rcases endsF_step (l := l) (f := f) (s := s) with ⟨q, _⟩ | ⟨r, q, _⟩
    · rw [q, List.append_nil]
    · rw [this] at q; cases q

theorem Es_get {l : List Nat} {e : Nat} (h : e ∈ Es l) : 3 ≤ e ∧ e ≤ l.length := by
  obtain ⟨j, hj, rfl⟩ := List.getElem_of_mem h
  have : 0 + 3 * (j + 1) ≤ (Es l).getD j 0 ∧ (Es l).getD j 0 ≤ l.length := endsF_ge (l := l) l.length 0 j hj
  rw [List.getD_eq_getElem?_getD, List.getElem?_eq_getElem hj] at this
  have h2 : 0 + 3 * (j + 1) ≤ (Es l)[j] ∧ (Es l)[j] ≤ l.length := this
  omega
theorem getD_mem {l : List Nat} {i : Nat} (h : i < l.length) : l.getD i 0 ∈ l := by
  rw [List.getD_eq_getElem?_getD, List.getElem?_eq_getElem h]; exact List.getElem_mem _
theorem lasts_mem {l : List Nat} : ∀ y ∈ lastsL l, y ∈ l := by
  intro y hy
  obtain ⟨e, he, rfl⟩ := List.mem_map.mp hy
  have := Es_get he
  exact getD_mem (by omega)

/-- as many arches from behind -/
theorem arches_le {l : List Nat} (habc : ∀ x ∈ l, abc x) : (Es l.reverse).length ≤ (Es l).length := by
  obtain ⟨x, hx, hm⟩ := missing (l := l) l.length 0 (by omega)
  rcases Nat.lt_or_ge (Es l).length (Es l.reverse).length with q | q
  · exfalso
    refine hm ?_
    have hlen : (lastsOf l (endsF l l.length 0)).length = (Es l).length := by unfold lastsOf; rw [List.length_map]; rfl
    have hab : ∀ y ∈ lastsOf l (endsF l l.length 0) ++ [x], abc y := by
      intro y hy
      rcases List.mem_append.mp hy with hy | hy
      · exact habc y (lasts_mem y hy)
      · rw [List.mem_singleton.mp hy]; exact hx
    have := univ (l := l.reverse) l.reverse.length 0 ((Es l.reverse).length - 1) (lastsOf l (endsF l l.length 0) ++ [x]).reverse (by show _ < (Es l.reverse).length; omega) (by rw [List.length_reverse, List.length_append, hlen]; simp; omega) (fun y hy => hab y (List.mem_reverse.mp hy))
    have h2 := this.trans ((List.take_sublist _ _).trans (List.drop_sublist _ _))
    rw [List.drop_zero]
    exact List.reverse_sublist.mp h2
  · exact q
theorem arches_eq {l : List Nat} (habc : ∀ x ∈ l, abc x) : (Es l.reverse).length = (Es l).length := by
  refine Nat.le_antisymm (arches_le habc) ?_
  have := arches_le (l := l.reverse) fun x hx => habc x (List.mem_reverse.mp hx)
  rwa [List.reverse_reverse] at this

theorem Ss_eq (l : List Nat) : Ss l = (Es l.reverse).map fun e => l.length - e := by
  unfold Ss Es
  rw [startsF_eq _ _ (Nat.le_refl _), Nat.sub_self, List.length_reverse]

theorem wordsL_abc' : ∀ n, ∀ w ∈ wordsL n, w.length = n ∧ ∀ x ∈ w, abc x
  | 0, w, h => by simp [wordsL] at h; simp [h]
  | n + 1, w, h => by
    simp only [wordsL, List.mem_flatMap] at h
    obtain ⟨v, hv, h⟩ := h
    obtain ⟨h1, h2⟩ := wordsL_abc' n v hv
    simp at h
    rcases h with rfl | rfl | rfl <;> refine ⟨by simp [h1], fun x hx => ?_⟩ <;> rcases List.mem_append.mp hx with hx | hx <;> first | exact h2 x hx | (rw [List.mem_singleton.mp hx]; simp [abc])

theorem univ0 {l : List Nat} {j : Nat} {w : List Nat} (h : j < (Es l).length) (hw : w.length ≤ j + 1) (hx : ∀ x ∈ w, abc x) : w.Sublist (l.take ((Es l).getD j 0)) := univ l.length 0 j w h hw hx

theorem firsts_eq {l : List Nat} : firstsL l = (lastsL l.reverse).reverse := by
  unfold firstsL lastsL
  rw [Ss_eq, ← List.map_reverse, List.map_map, ← List.map_reverse]
  refine List.map_congr_left fun e he => ?_
  obtain ⟨h1, h2⟩ := Es_get (List.mem_reverse.mp he)
  rw [List.length_reverse] at h2
  show l.getD (l.length - e) 0 = l.reverse.getD (e - 1) 0
  rw [List.getD_eq_getElem?_getD, List.getD_eq_getElem?_getD, List.getElem?_reverse (by omega)]
  congr 2
  omega

theorem plain_law {l : List Nat} (habc : ∀ x ∈ l, abc x) (hfull : full l = true) (hlen : l.length ≤ 10) : Plain l := by
  have hrev : ∀ x ∈ l.reverse, abc x := fun x hx => habc x (List.mem_reverse.mp hx)
  have h46 : ∀ w : List Nat, (∀ x ∈ w, abc x) → 46 ∉ w := fun w h hm => by have := h 46 hm; simp [abc] at this
  have hsz := arches_eq habc
  have hSlen : (Ss l).length = (Es l).length := by rw [Ss_eq, List.length_map, hsz]
  have hpos : 1 ≤ (Es l).length := by
    have h3 := full_len hfull
    cases hl : l.length with
    | zero => omega
    | succ f =>
      unfold Es
      rw [hl]
      rcases endsF_step (l := l) (f := f) (s := 0) with ⟨q, hn⟩ | ⟨r, q, e⟩
      · have := nextEnd_none' hn l.length (Nat.zero_le _) (Nat.le_refl _)
        rw [Nat.sub_zero, List.drop_zero, List.take_length] at this
        rw [this] at hfull; cases hfull
      · rw [e]; simp
  have hSget : ∀ k, k < (Es l).length → (Ss l).getD k 0 = l.length - (Es l.reverse).getD k 0 ∧ 3 ≤ (Es l.reverse).getD k 0 ∧ (Es l.reverse).getD k 0 ≤ l.length := fun k hk => by
    have hm := getD_mem (l := Es l.reverse) (i := k) (by omega)
    have := Es_get hm
    rw [List.length_reverse] at this
    refine ⟨?_, this.1, this.2⟩
    rw [Ss_eq, List.getD_eq_getElem?_getD, List.getElem?_map, List.getD_eq_getElem?_getD, List.getElem?_eq_getElem (by omega)]
    rfl
  have hdrop : ∀ n, n ≤ l.length → l.drop (l.length - n) = (l.reverse.take n).reverse := fun n hn => by
    rw [List.take_reverse, List.reverse_reverse]
  refine ⟨ends_gath habc, by rw [Ss_eq, ends_gath hrev], fun e he => ?_, hSlen, hpos, ?_, fun e he => ?_, fun e he => ?_, fun w hw => ?_, fun w => ?_, ?_, ?_, ?_, ?_, ?_⟩
  · rw [← ends_gath hrev] at he
    have := (Es_get he).2
    rwa [List.length_reverse] at this
  · rcases Nat.lt_or_ge 3 (Es l).length with q | q
    · have := endsF_ge (l := l) l.length 0 3 q
      omega
    · exact q
  · have := Es_get he; omega
  · rw [Ss_eq] at he
    obtain ⟨e', he', rfl⟩ := List.mem_map.mp he
    have := Es_get he'
    rw [List.length_reverse] at this
    omega
  · obtain ⟨h1, h2⟩ := wordsL_abc' _ w hw
    exact sub_iff.mpr ((univ0 (j := (Es l).length - 1) (by omega) (by omega) h2).trans (List.take_sublist _ _))
  · rw [Bool.eq_iff_iff, sub_iff, sub_iff, List.reverse_sublist]
  · intro w hw hs k hk
    obtain ⟨h1, h2⟩ := wordsL_abc' _ w hw
    refine ⟨sub_iff.mpr (univ0 hk (by rw [List.length_take]; omega) fun x hx => h2 x (List.mem_of_mem_take hx)), sub_false.mpr fun hsub => sub_false.mp hs ?_⟩
    obtain ⟨e1, e2, e3⟩ := hSget ((Es l).length - 1 - k) (by omega)
    have hr : (w.drop (k + 1)).reverse.Sublist (l.reverse.take ((Es l.reverse).getD ((Es l).length - 1 - k) 0)) :=
      univ0 (by omega) (by rw [List.length_reverse, List.length_drop]; omega) fun x hx => h2 x (List.mem_of_mem_drop (List.mem_reverse.mp hx))
    have hr2 : (w.drop (k + 1)).Sublist (l.drop ((Ss l).getD ((Es l).length - 1 - k) 0)) := by
      rw [e1, hdrop _ e3, ← List.reverse_sublist, List.reverse_reverse]; exact hr
    have := hsub.append hr2
    rwa [List.take_append_drop, List.take_append_drop] at this
  · exact h46 _ fun x hx => habc x (lasts_mem x hx)
  · rw [firsts_eq]
    exact h46 _ fun x hx => hrev x (lasts_mem x (List.mem_reverse.mp hx))
  · intro k hk
    have hll : (lastsL l).length = (Es l).length := by unfold lastsL; rw [List.length_map]
    refine ⟨sub_iff.mpr (univ0 hk (by rw [List.length_take]; omega) fun x hx => habc x (lasts_mem x (List.mem_of_mem_take hx))), sub_false.mpr ?_⟩
    have := late (l := l) l.length 0 k hk
    exact this
  · intro k hk
    obtain ⟨e1, e2, e3⟩ := hSget k hk
    have hll : (lastsL l.reverse).length = (Es l).length := by unfold lastsL; rw [List.length_map, hsz]
    have hf : (firstsL l).drop ((Es l).length - 1 - k) = ((lastsL l.reverse).take (k + 1)).reverse := by
      rw [firsts_eq, List.drop_reverse, hll]
      congr 2
      omega
    rw [hf, e1]
    refine ⟨?_, ?_⟩
    · rw [hdrop _ e3, sub_iff, List.reverse_sublist]
      exact univ0 (by omega) (by rw [List.length_take]; omega) fun x hx => hrev x (lasts_mem x (List.mem_of_mem_take hx))
    · rw [show l.length - (Es l.reverse).getD k 0 + 1 = l.length - ((Es l.reverse).getD k 0 - 1) by omega, hdrop _ (by omega), sub_false, List.reverse_sublist]
      have := late (l := l.reverse) l.reverse.length 0 k (by show k < (Es l.reverse).length; omega)
      exact this
end Mine
end
section
open PySem PySem.W PyProof.Rows PySem.Calls
set_option maxRecDepth 100000
set_option maxHeartbeats 4000000
namespace Mine
local macro_rules | `(tactic| k_steps) => `(tactic| repeat' (first
  | ((fail_if_success (with_reducible show wpAny _ _ (exec (Stmt.While _ _ _ _) _) _ _ _)); (fail_if_success (with_reducible show wpAny _ _ (exec (Stmt.For _ _ _ _ _) _) _ _ _)); (fail_if_success (with_reducible show wpAny _ _ (eval (Expr.ListComp _ _ _ _) _) _ _ _)); (fail_if_success (with_reducible show wpAny _ _ (exec (Stmt.Assign _ (Expr.ListComp _ _ _ _) _) _) _ _ _)); (fail_if_success (with_reducible show wpAny _ _ (call (Value.ref _) _ _) _ _ _)); (fail_if_success (with_reducible show wpAny _ _ (pyIter _) _ _ _)); (fail_if_success (with_reducible show LCg.CompSrc _ _ _ _ _ _ _ _ _ _ _ _ _ _)); (fail_if_success (with_reducible show LCt.CompSrcT _ _ _ _ _ _ _ _ _ _ _ _ _ _ _)); (fail_if_success (with_reducible show EltEnd _ _ _ _ _ _ _ _)); (fail_if_success (with_reducible show wpAny _ _ (call (Value.builtin "str.join") _ _) _ _ _));
     (first | (k_unfold; (try dsimp only)) | (k_end; kc_close) | walk1 | (dsimp only; walk1) | (leave1; walk_say "STEP leave1"; (try dsimp only)) | fail "no step"))))

/-- the text that the law builds -/
def lawText (ns : List Int) : List Nat := (ns.take 4).map resid ++ [99, 97, 98] ++ ((ns.drop 4).take (min 7 ns.length - 4)).map resid
theorem lawText_len (ns : List Int) : (lawText ns).length ≤ 10 := by
  unfold lawText
  simp only [List.length_append, List.length_map, List.length_take, List.length_drop, List.length_cons, List.length_nil]
  omega
theorem lawText_str (ns : List Int) : tx ((ns.take 4).map resid) ++ Str.ofString "cab" ++ tx (((ns.drop 4).take (min 7 ns.length - 4)).map resid) = tx (lawText ns) := by
  refine str_ext ?_
  rw [cl_append, cl_append, show cl (Str.ofString "cab") = [99, 97, 98] from by decide +kernel]
  rfl
theorem lawText_plain (ns : List Int) : Plain (lawText ns) := by
  have hr : ∀ n : Int, abc (resid n) := resid_mem
  refine plain_law (fun x hx => ?_) ?_ (lawText_len ns)
  · unfold lawText at hx
    rcases List.mem_append.mp hx with hx | hx
    · rcases List.mem_append.mp hx with hx | hx
      · obtain ⟨n, _, rfl⟩ := List.mem_map.mp hx
        exact hr n
      · simp at hx
        unfold abc
        omega
    · obtain ⟨n, _, rfl⟩ := List.mem_map.mp hx
      exact hr n
  · rw [full_iff]
    unfold lawText
    simp
theorem Rm.le {A : Around} {d u d' u' : Nat} (h : Rm A d u) (hd : d' ≤ d) (hu : u' ≤ u) : Rm A d' u' := ⟨h.hd, Nat.lt_of_le_of_lt (Nat.add_le_add_left hd _) h.dp, Nat.lt_of_le_of_lt (Nat.add_le_add_left hu _) h.un⟩
theorem rm_law (env : Env) : Rm (callerA.deeper env) 100 400 := ⟨rfl, by show callerA.depth + 1 + 100 < _; decide +kernel, by show callerA.units + 3 + 400 < _; decide +kernel⟩
end Mine
end
section
open PySem PySem.W PyProof.Rows PySem.Calls
set_option maxRecDepth 100000
namespace Mine
local macro_rules | `(tactic| k_steps) => `(tactic| repeat' (first
  | ((fail_if_success (with_reducible show wpAny _ _ (exec (Stmt.While _ _ _ _) _) _ _ _)); (fail_if_success (with_reducible show wpAny _ _ (exec (Stmt.For _ _ _ _ _) _) _ _ _)); (fail_if_success (with_reducible show wpAny _ _ (eval (Expr.ListComp _ _ _ _) _) _ _ _)); (fail_if_success (with_reducible show wpAny _ _ (exec (Stmt.Assign _ (Expr.ListComp _ _ _ _) _) _) _ _ _)); (fail_if_success (with_reducible show wpAny _ _ (call (Value.ref _) _ _) _ _ _)); (fail_if_success (with_reducible show wpAny _ _ (pyIter _) _ _ _)); (fail_if_success (with_reducible show LCg.CompSrc _ _ _ _ _ _ _ _ _ _ _ _ _ _)); (fail_if_success (with_reducible show LCt.CompSrcT _ _ _ _ _ _ _ _ _ _ _ _ _ _ _)); (fail_if_success (with_reducible show wpAny _ _ (compareOp _ (Value.ref _) (Value.ref _)) _ _ _)); (fail_if_success (with_reducible show EltEnd _ _ _ _ _ _ _ _)); (fail_if_success (with_reducible show wpAny _ _ (call (Value.builtin "str.join") _ _) _ _ _));
     (first | (k_unfold; (try dsimp only)) | (k_end; kc_close) | walk1 | (dsimp only; walk1) | (leave1; walk_say "STEP leave1"; (try dsimp only)) | fail "no step"))))
set_option maxHeartbeats 100000000 in
theorem law_holds : PySem.Challenge.rw_pe0110_01.Holds := by
  refine hd ?_
  k_go0
  (all_goals try k_fold)
  rename_i w s0 s1 mg mb G Y fa o pm cd doc ho hcd hg X V T B TE TW ns hs hlay0 hL hr hl2 a1 a2 scr vs a3 hLs ra w1 r0 hI hr2 hc1 hc2 hD h1 tk1 oc right X0 X1 T1 K1 F1 codeHd1 N1 l0
  have hod : oc.data = Data.cell none := right
  clear G Y ho hcd V B TE TW hs hlay0 hL hr hl2 hLs ra w1 r0 hr2 hc2 hD right X0 K1 codeHd1 codeHd hT8 hT9 X T
  k_steps
  refine LCg.ListComp_U F1 (by with_unfolding_all rfl) (by decide) rfl (by decide) rfl ?_
  k_steps
  rename Fr _ _ _ _ => F2
  rename News _ _ _ _ => N2
  rename IntsAre _ (List.take 4 _) => hI2
  refine LCg.CompSrc.ledger rfl F2 N2 (.head _) (by have := hI2.length; have := List.length_take_le 4 ns; rw [sizeLine_eq]; simp only [List.size_toArray]; omega) fun g => ?_
  refine compRest_of (fun i v => ∃ (n : Int) (t : Tok), (List.take 4 ns)[i]? = some n ∧ v = .str (tx [resid n]) t) (.inr ⟨_, .head _, rfl, _, rfl⟩) ?_ ?_
  · intro i v I oI C oC D ys m₂ h tk E' hi hP hC hx F N off ne
    obtain ⟨n, t, rfl, hn⟩ := ints_get hI2 (by simpa using hP)
    k_steps
    rename Fr _ _ _ _ => F9
    rename News _ _ _ _ => N9
    exact ⟨_, _, rfl, F9, N9, n, _, hn, congrArg (Value.str · _) (item_abc n)⟩
  · intro ys hlen hys D h tk F N hoff
    have hS := strs_build (fun n => tx [resid n]) (List.take 4 ns) ys (by rw [hlen]; simpa using hI2.length) hys
    have hS' : StrsAre ys (((List.take 4 ns).map resid).map fun n => tx [n]) := by rw [List.map_map]; exact hS
    k_steps
    refine join_letters (N.isList (.head _)) hS' (by simp; omega) fun t' tk' => ?_
    k_steps
    have hta : (tx ((List.take 4 ns).map resid)).length ≤ 4 := by
      show ((List.take 4 ns).map resid).length ≤ 4
      rw [List.length_map, List.length_take]; omega
    have htc : (Str.ofString "cab").length = 3 := by decide +kernel
    refine PyProof.Rows.add_str (fun t2 tk2 => ?_) (by rw [sizeLine_eq]; omega)
    k_steps
    have N1 : News (ghostOf s1.heap [(57, 53), (50, 46)]) s1.heap.objs.size h [(s1.heap.objs.size + 1, oc), (53, tabObj #[]), (46, tabObj #[])] := fun p hp => N p (List.mem_cons_of_mem _ (List.mem_cons_of_mem _ hp))
    clear N N2 F2 hoff hS hS' hys hlen
    (try clear F1)
    refine LCg.ListComp_U F (by with_unfolding_all rfl) (by decide) rfl (by decide) rfl ?_
    k_steps
    rename Fr _ _ _ _ => F3
    rename News _ _ _ _ => N3
    rename IntsAre _ (List.take _ (List.drop 4 _)) => hI3
    have hl3 := hI3.length
    have hlt3 : (List.take (min 7 ns.length - 4) (List.drop 4 ns)).length ≤ 3 := by rw [List.length_take, List.length_drop]; omega
    refine LCg.CompSrc.ledger rfl F3 N3 (.head _) (by rw [sizeLine_eq]; simp only [List.size_toArray]; omega) fun g3 => ?_
    refine compRest_of (fun i v => ∃ (n : Int) (t : Tok), (List.take (min 7 ns.length - 4) (List.drop 4 ns))[i]? = some n ∧ v = .str (tx [resid n]) t) (.inr ⟨_, .head _, rfl, _, rfl⟩) ?_ ?_
    · intro i v I oI C oC D ys m₂ h tk E' hi hP hC hx F N off ne
      obtain ⟨n, t, rfl, hn⟩ := ints_get hI3 (by simpa using hP)
      k_steps
      rename Fr _ _ _ _ => F9
      rename News _ _ _ _ => N9
      exact ⟨_, _, rfl, F9, N9, n, _, hn, congrArg (Value.str · _) (item_abc n)⟩
    · intro ys hlen hys D h tk F N hoff
      have hS := strs_build (fun n => tx [resid n]) (List.take (min 7 ns.length - 4) (List.drop 4 ns)) ys (by rw [hlen]; simpa using hl3) hys
      have hS' : StrsAre ys (((List.take (min 7 ns.length - 4) (List.drop 4 ns)).map resid).map fun n => tx [n]) := by rw [List.map_map]; exact hS
      k_steps
      refine join_letters (N.isList (.head _)) hS' (by rw [List.length_map]; omega) fun t' tk' => ?_
      k_steps
      refine PyProof.Rows.add_str (fun t2 tk2 => ?_) (by
        have e1 : (tx (List.map resid (List.take 4 ns)) ++ Str.ofString "cab").length = (tx (List.map resid (List.take 4 ns))).length + (Str.ofString "cab").length := Str.length_append _ _
        have e2 : (tx (List.map resid (List.take (min 7 ns.length - 4) (List.drop 4 ns)))).length = (List.take (min 7 ns.length - 4) (List.drop 4 ns)).length := by show (List.map _ _).length = _; rw [List.length_map]
        rw [sizeLine_eq]; omega)
      rw [lawText_str]
      have hxl : (tx (lawText ns)).length ≤ 10 := lawText_len ns
      have N4 : News (ghostOf s1.heap [(57, 53), (50, 46)]) s1.heap.objs.size h [(s1.heap.objs.size + 1, oc), (53, tabObj #[]), (46, tabObj #[])] := fun p hp => N p (List.mem_cons_of_mem _ (List.mem_cons_of_mem _ hp))
      clear N N3 F3 hoff hS hS' hys hlen hI3 hl3 hlt3 hta htc hI2
      k_steps
      rename Fr _ _ _ _ => F1
      rename News _ _ _ _ => N1
      rename (_ = Data.cell (some _)) => hod1
      rename Obj => oc1
      clear hod
      w_top off
      have P : Plain (lawText ns) := lawText_plain ns
      skip
      generalize lawText ns = l at P hxl hod1 ⊢
      refine ends_spec (g := ghostOf s1.heap [(57, 53), (50, 46)]) X1 T1 F1.keep (N1 (46, tabObj #[]) (by simp)).2.2 (N1 (46, tabObj #[]) (by simp)).1 ((rm_law _).le (by omega) (by omega)) (by omega) ?_
      intro aE vE nE psE hE tkE e1 e2 e3 e4 e5
      have hE53 : aE ≠ 53 := fun q => by
        rw [q] at e1
        exact nomatch (N1 (53, tabObj #[]) (by simp)).1.symm.trans e1
      obtain ⟨F2, N2⟩ := afterP (P := 46) (own := [(s1.heap.objs.size + 1, oc1), (53, tabObj #[])]) F1 (fun p hp => N1 p (by simp at hp ⊢; rcases hp with h | h <;> simp [h])) (N1 (46, tabObj #[]) (by simp)).2.2 (neN (by omega)) (by
        intro p hp
        simp only [List.mem_cons, List.not_mem_nil, or_false] at hp
        rcases hp with rfl | rfl <;> (refine neN ?_; dsimp only; omega)) e4 e1 e2 e5
      clear F1 N1 e4 e1 e2 e5
      k_steps
      rename Fr _ _ _ _ => F3
      rename News _ _ _ _ => N3
      refine starts_spec (g := ghostOf s1.heap [(57, 53), (50, 46)]) X1 T1 F3.keep (N3 (53, tabObj #[]) (by simp)).2.2 (N3 (53, tabObj #[]) (by simp)).1 ((rm_law _).le (by omega) (by omega)) (by omega) ?_
      intro aS vS nS psS hS tkS e1 e2 e3' e4 e5
      obtain ⟨F4, N4⟩ := afterP (P := 53) (own := [(aE, listOf vE.toArray nE), (s1.heap.objs.size + 1, oc1), (46, tabObj psE)]) F3 (fun p hp => N3 p (by simp only [List.mem_cons, List.not_mem_nil, or_false] at hp ⊢; rcases hp with h | h | h <;> simp [h])) (N3 (53, tabObj #[]) (by simp)).2.2 (neN (by omega)) (by
        intro p hp
        simp only [List.mem_cons, List.not_mem_nil, or_false] at hp
        rcases hp with rfl | rfl | rfl
        · exact hE53
        · refine neN ?_; dsimp only; omega
        · refine neN ?_; dsimp only; omega) e4 e1 e2 e5
      clear F3 N3 e4 e1 e2 e5
      have N5 : News (ghostOf s1.heap [(57, 53), (50, 46)]) s1.heap.objs.size hS [(aS, listOf vS.toArray nS), (aE, listOf vE.toArray nE), (s1.heap.objs.size + 1, oc1), (53, tabObj psS), (46, tabObj psE)] := fun p hp => N4 p (by simp only [List.mem_cons, List.not_mem_nil, or_false] at hp ⊢; rcases hp with h | h | h | h | h <;> simp [h])
      clear N4
      k_steps
      rename Fr _ _ _ _ => F3
      rename News _ _ _ _ => N3
      refine Runs.use (gath_spec (X1.keeps F3.keep) (T1.keeps F3.keep) ((rm_law _).le (by omega) (by omega)) (by omega)) F3 N3 ?_
      rintro _ hG tkG ⟨aG, vG, nG, rfl, g1, g2, hIG⟩ st F5 N5
      have N6 := newsAdd F3 N5 g1 g2
      clear F3 N3 N5 g1 g2 st
      have hxl' : l.length ≤ 10 := hxl
      have hIE : IntsAre vE ((Es l).map Int.ofNat) := e3
      have hS' : IntsAre vS ((Ss l).map Int.ofNat) := e3'
      have hG' : IntsAre vG ((Es l).map Int.ofNat) := P.ends ▸ hIG
      clear e3 e3'
      obtain ⟨E, eE⟩ : ∃ E, Es l = E := ⟨_, rfl⟩
      rw [eE] at hIE hG'
      k_steps
      refine ne_ints' (N6.isList (.tail _ (.tail _ (.head _)))) hIE (N6.isList (.head _)) hG' (by show callerA.units + 3 + 64 < _; decide +kernel) ?_
      rw [decide_eq_true rfl]
      k_steps
      rename Fr _ _ _ _ => F3
      rename News _ _ _ _ => N3
      refine LCg.ListComp_U F3 (by with_unfolding_all rfl) (by decide) rfl (by decide) rfl ?_
      have N4 : News (ghostOf s1.heap [(57, 53), (50, 46)]) s1.heap.objs.size _ [(aS, listOf vS.toArray nS), (aE, listOf vE.toArray nE), (s1.heap.objs.size + 1, oc1), (53, tabObj psS), (46, tabObj psE)] := fun p hp => N3 p (.tail _ hp)
      clear N3
      k_steps
      rename Fr _ _ _ _ => F5
      rename News _ _ _ _ => N5
      rw [slice_rev]
      have hrl : (tx (cl (tx l)).reverse).length = l.length := by show (l.reverse).length = _; rw [List.length_reverse]
      refine Runs.use (gath_spec (X1.keeps F5.keep) (T1.keeps F5.keep) ((rm_law _).le (by omega) (by omega)) (by omega)) F5 N5 ?_
      rintro _ hG2 tkG2 ⟨aG2, vG2, nG2, rfl, g1, g2, hIG2⟩ st F6 N6
      have N7 := newsAdd F5 N6 g1 g2
      have hIG3 : IntsAre vG2 ((gath l.reverse).map Int.ofNat) := hIG2
      have hlG : vG2.length = (gath l.reverse).length := by rw [hIG3.length, List.length_map]
      have hSl : (Ss l).length = (gath l.reverse).length := by rw [P.starts, List.length_map]
      have hfew := P.few
      have hpos := P.pos
      have hsize := P.size
      clear F5 N5 N6 g1 g2 st
      refine LCg.CompSrc.ledger rfl F6 N7 (.head _) (by rw [sizeLine_eq, List.size_toArray]; omega) fun g => ?_
      refine compRest_of (fun i v => ∃ (n : Nat) (t : Tok), (gath l.reverse)[i]? = some n ∧ v = .int ((l.length : Int) - (n : Int)) t) (.inr ⟨_, .head _, rfl, _, rfl⟩) ?_ ?_
      · intro i v I oI C oC D ys m₂ h tk E' hi hP hC hx F N off ne
        obtain ⟨n, t, rfl, hn⟩ := ints_get hIG3 (by simpa using hP)
        rw [List.getElem?_map] at hn
        cases hq : (gath l.reverse)[i]? with
        | none => rw [hq] at hn; cases hn
        | some n' =>
          rw [hq] at hn
          obtain rfl := Option.some.inj hn
          k_steps
          rename Fr _ _ _ _ => F9
          rename News _ _ _ _ => N9
          exact ⟨_, _, rfl, F9, N9, n', _, rfl, rfl⟩
      · intro ys hlen hys D h tk F N hoff
        have hY := ints_build (fun n : Nat => (l.length : Int) - (n : Int)) (gath l.reverse) ys (by rw [hlen, List.size_toArray, hlG]) hys
        have hY' : IntsAre ys ((Ss l).map Int.ofNat) := by
          have e : (gath l.reverse).map (fun n : Nat => (l.length : Int) - (n : Int)) = (Ss l).map Int.ofNat := by
            rw [P.starts, List.map_map]
            refine List.map_congr_left fun n hn => ?_
            have := P.back n hn
            show (l.length : Int) - n = ((l.length - n : Nat) : Int)
            omega
          rw [← e]; exact hY
        have N4 : News (ghostOf s1.heap [(57, 53), (50, 46)]) s1.heap.objs.size _ [(D, LCg.lst ys), (aS, listOf vS.toArray nS), (aE, listOf vE.toArray nE), (s1.heap.objs.size + 1, oc1), (53, tabObj psS), (46, tabObj psE)] := fun p hp => N p (by simp only [List.mem_cons, List.not_mem_nil, or_false] at hp ⊢; rcases hp with h | h | h | h | h | h <;> simp [h])
        clear N hoff hlen hys hY hIG3 hIG2 hlG F6 N7
        obtain ⟨S, eS⟩ : ∃ S, Ss l = S := ⟨_, rfl⟩
        rw [eS] at hS' hY' hsize hSl
        rw [eE] at hsize hfew hpos
        k_steps
        refine ne_ints' (N4.isList (.tail _ (.head _))) hS' (N4.isList (.head _)) hY' (by show callerA.units + 3 + 64 < _; decide +kernel) ?_
        rw [decide_eq_true rfl]
        have N8 : News (ghostOf s1.heap [(57, 53), (50, 46)]) s1.heap.objs.size _ [(aS, listOf vS.toArray nS), (aE, listOf vE.toArray nE), (s1.heap.objs.size + 1, oc1), (53, tabObj psS), (46, tabObj psE)] := fun p hp => N4 p (.tail _ hp)
        clear N4
        have hlE := hIE.length
        have hlS := hS'.length
        rw [List.length_map] at hlE hlS
        k_steps
        rename Fr _ _ _ _ => F8
        rename News _ _ _ _ => N8
        clear hY' hrl
        rename Heap => hp8
        clear hE53 hG' lifted

        refine For_invV (ghostOf s1.heap [(57, 53), (50, 46)]) rfl rfl ?_
        k_steps
        have hle : (List.map Int.ofNat E).length = E.length := List.length_map _
        refine Runs.use (words_spec (X1.keeps F8.keep) (T1.keeps F8.keep) ((rm_law _).le (by omega) (by omega)) (by omega)) F8 N8 ?_
        rintro _ hW tkW ⟨aW, vW, nW, rfl, g1, g2, hSW⟩ st F9 N9
        have N10 := newsAdd F8 N9 g1 g2
        rw [hle] at hSW
        clear F8 N8 N9 g1 g2 st
        refine iter_list (mt := []) (J := fun i m mt => mt = [] ∧ ∃ ts : Tok, Knows m [(Str.ofString "ends", .ref aE), (Str.ofString "starts", .ref aS), (Str.ofString "size", .int ((List.map Int.ofNat E).length : Int) ts)]) rfl ⟨_, (N10 _ (.head _)).1, rfl, _, rfl⟩ (.inr ⟨_, .head _⟩) (by intro p hp b hb; cases hb) F9 N10 (fun e => (N10 _ (.head _)).2.1 e.symm) ?_ ?_ ?_
        · exact ⟨rfl, _, rfl, rfl, rfl, trivial⟩
        · rintro i v m₁ mt₁ h tk own hi hv ⟨rfl, tsz, hkn⟩ hown hfix F2 N2
          have F3 : Fr (ghostOf s1.heap [(57, 53), (50, 46)]) s1.heap.objs.size h _ := Fr_more F2 (hkn.upd rfl)
          have hm1 := hfix (s1.heap.objs.size + 1, oc1) (by simp)
          clear F2 F9 N10
          rw [List.nil_append] at N2
          obtain ⟨x, tx0, rfl, hx⟩ := strs_get' hSW (Array.mem_toList_iff.mpr (Array.mem_of_getElem? hv))
          obtain ⟨wd, hwd, rfl⟩ := List.mem_map.mp hx
          have N3 : News (ghostOf s1.heap [(57, 53), (50, 46)]) s1.heap.objs.size h ((s1.heap.objs.size + 1, oc1) :: own) := fun p hp => by
            rcases List.mem_cons.mp hp with rfl | hp
            · exact N2 _ hm1
            · exact N2 _ hp
          clear N2
          k_steps
          rename Fr _ _ _ _ => F4
          rename News _ _ _ _ => N4
          have hwl : wd.length = E.length := wordsL_len _ _ hwd
          have hne : wd ≠ [] := fun e => by rw [e] at hwl; simp at hwl; omega
          refine Runs.use (gaps_spec (X1.keeps F4.keep) (T1.keeps F4.keep) ((rm_law _).le (by omega) (by omega)) (by show wd.length ≤ 100; omega)) F4 N4 ?_
          rintro _ hA tkA ⟨ug, rfl⟩ st F5 N5
          clear F4 N4 st
          k_steps
          rename Fr _ _ _ _ => F6
          rename News _ _ _ _ => N6
          refine Runs.use (match_spec wd (X1.keeps F6.keep) (T1.keeps F6.keep) ((rm_law _).le (by omega) (by omega)) (gaps_cl hne) (wordsL_abc _ _ hwd) (by rw [gaps_length hne]; omega) (by omega)) F6 N6 ?_
          rintro _ hB tkB rfl st F7 N7
          rw [show sub wd (cl (tx l)) = true from P.words wd (by rw [eE]; exact hwd)]
          clear F6 N6 st
          (try clear F5)
          (try clear N5)
          k_steps
          rename Fr _ _ _ _ => F8
          rename News _ _ _ _ => N8
          exact ⟨_, _, _, [], rfl, F8, (fun p hp => N8 p (.tail _ hp)), (by intro p hp b hb; cases hb), rfl, _, rfl, rfl, rfl, trivial⟩
        · rintro m₁ mt₁ h tk ⟨rfl, tsz, hkn⟩ F2 N2 hoff
          have F3 : Fr (ghostOf s1.heap [(57, 53), (50, 46)]) s1.heap.objs.size h _ := Fr_more F2 hkn
          clear F2 F9 N10
          have N3 : News (ghostOf s1.heap [(57, 53), (50, 46)]) s1.heap.objs.size h [(aS, listOf vS.toArray nS), (aE, listOf vE.toArray nE), (s1.heap.objs.size + 1, oc1), (53, tabObj psS), (46, tabObj psE)] := fun p hp => N2 p (.tail _ hp)
          clear N2
          k_steps
          rename Fr _ _ _ _ => F4
          rename News _ _ _ _ => N4
          clear hSW
          refine For_invV (ghostOf s1.heap [(57, 53), (50, 46)]) rfl rfl ?_
          k_steps
          rename Fr _ _ _ _ => F8
          rename News _ _ _ _ => N8
          have ez : ((List.map Int.ofNat E).length : Int) + 1 = ((E.length + 1 : Nat) : Int) := by omega
          rw [ez]
          refine Runs.use (words_spec (X1.keeps F8.keep) (T1.keeps F8.keep) ((rm_law _).le (by omega) (by omega)) (by omega)) F8 N8 ?_
          rintro _ hW2 tkW2 ⟨aW2, vW2, nW2, rfl, g1, g2, hSW⟩ st F9 N9
          have N10 := newsAdd F8 N9 g1 g2
          clear F8 N8 N9 g1 g2 st
          (try clear F3)
          (try clear N3)
          refine iter_list (mt := []) (J := fun i m mt => mt = [] ∧ ∃ ts : Tok, Knows m [(Str.ofString "ends", .ref aE), (Str.ofString "starts", .ref aS), (Str.ofString "size", .int ((List.map Int.ofNat E).length : Int) ts)]) rfl ⟨_, (N10 _ (.head _)).1, rfl, _, rfl⟩ (.inr ⟨_, .head _⟩) (by intro p hp b hb; cases hb) F9 N10 (fun e => (N10 _ (.head _)).2.1 e.symm) ?_ ?_ ?_
          · exact ⟨rfl, _, rfl, rfl, rfl, trivial⟩
          · rintro i v m₁ mt₁ h tk own hi hv ⟨rfl, tsz, hkn⟩ hown hfix F2 N2
            have F3 : Fr (ghostOf s1.heap [(57, 53), (50, 46)]) s1.heap.objs.size h _ := Fr_more F2 (hkn.upd rfl)
            have hm1 := hfix (s1.heap.objs.size + 1, oc1) (by simp)
            have hm2 := hfix (aS, listOf vS.toArray nS) (by simp)
            have hm3 := hfix (aE, listOf vE.toArray nE) (by simp)
            clear F2 F9 N10
            rw [List.nil_append] at N2
            obtain ⟨x, tx0, rfl, hx⟩ := strs_get' hSW (Array.mem_toList_iff.mpr (Array.mem_of_getElem? hv))
            obtain ⟨wd, hwd, rfl⟩ := List.mem_map.mp hx
            have N3 : News (ghostOf s1.heap [(57, 53), (50, 46)]) s1.heap.objs.size h ((s1.heap.objs.size + 1, oc1) :: (aS, listOf vS.toArray nS) :: (aE, listOf vE.toArray nE) :: own) := fun p hp => by
              simp only [List.mem_cons] at hp
              rcases hp with rfl | rfl | rfl | hp
              · exact N2 _ hm1
              · exact N2 _ hm2
              · exact N2 _ hm3
              · exact N2 _ hp
            clear N2
            k_steps
            rename Fr _ _ _ _ => F4
            rename News _ _ _ _ => N4
            have hwl : wd.length = E.length + 1 := wordsL_len _ _ hwd
            have hne : wd ≠ [] := fun e => by rw [e] at hwl; simp at hwl
            refine Runs.use (gaps_spec (X1.keeps F4.keep) (T1.keeps F4.keep) ((rm_law _).le (by omega) (by omega)) (by show wd.length ≤ 100; omega)) F4 N4 ?_
            rintro _ hA tkA ⟨ug, rfl⟩ st F5 N5
            clear F4 N4 st
            k_steps
            rename Fr _ _ _ _ => F6
            rename News _ _ _ _ => N6
            refine Runs.use (match_spec wd (X1.keeps F6.keep) (T1.keeps F6.keep) ((rm_law _).le (by omega) (by omega)) (gaps_cl hne) (wordsL_abc _ _ hwd) (by rw [gaps_length hne]; omega) (by omega)) F6 N6 ?_
            rintro _ hB tkB rfl st F7 N7
            clear F6 N6 st
            (try clear F5)
            (try clear N5)
            k_steps
            rename Fr _ _ _ _ => F8
            rename News _ _ _ _ => N8
            refine Runs.use (laid_spec (X1.keeps F8.keep) (T1.keeps F8.keep) ((rm_law _).le (by omega) (by omega)) (by omega) (by show wd.length ≤ 100; omega)) F8 N8 ?_
            rintro _ hB tkB rfl st F10 N10
            rw [show sub (cl (tx wd)).reverse (cl (tx l)).reverse = sub wd l from P.laid wd]
            rw [show sub wd (cl (tx l)) = sub wd l from rfl] at F10
            clear F8 N8 st
            (try clear F7)
            (try clear N7)
            cases hs : sub wd l with
            | true =>
              rw [hs] at F10
              k_steps
              rename Fr _ _ _ _ => F8
              rename News _ _ _ _ => N8
              exact ⟨_, _, _, [], rfl, F8, (fun p hp => N8 p (.tail _ (.tail _ (.tail _ hp)))), (by intro p hp b hb; cases hb), rfl, _, rfl, rfl, rfl, trivial⟩
            | false =>
              rw [hs] at F10
              have hfr := P.front wd (by rw [eE]; exact hwd) hs
              rw [eE, eS] at hfr
              k_steps
              rename Fr _ _ _ _ => Fa
              rename News _ _ _ _ => Na
              refine For_invV (ghostOf s1.heap [(57, 53), (50, 46)]) rfl rfl ?_
              k_steps
              rename Fr _ _ _ _ => F4
              rename News _ _ _ _ => N4
              (try clear Fa)
              (try clear Na)
              rename IsRange _ _ _ _ _ _ _ _ => hr
              rw [hle] at hr
              refine iter_range (n := E.length) (mt := []) (J := fun i m mt => mt = [] ∧ ∃ ts tw : Tok, Knows m [(Str.ofString "ends", .ref aE), (Str.ofString "starts", .ref aS), (Str.ofString "size", .int ((List.map Int.ofNat E).length : Int) ts), (Str.ofString "word", .str (tx wd) tw)]) rfl hr (by omega) (by intro p hp b hb; cases hb) F4 N4 ?_ ?_ ?_
              · exact ⟨rfl, _, _, rfl, rfl, rfl, rfl, trivial⟩
              · rintro k q m₂ mt₂ h tk own2 hk ⟨rfl, tsz, tw, hkn⟩ hown2 hfix2 F2 N2
                have F3 : Fr (ghostOf s1.heap [(57, 53), (50, 46)]) s1.heap.objs.size h _ := Fr_more F2 (hkn.upd rfl)
                have hn1 := hfix2 (s1.heap.objs.size + 1, oc1) (.head _)
                have hn2 := hfix2 (aS, listOf vS.toArray nS) (.tail _ (.head _))
                have hn3 := hfix2 (aE, listOf vE.toArray nE) (.tail _ (.tail _ (.head _)))
                clear F2 F4 N4
                (try (rename Fr _ _ hB _ => Fz; clear Fz))
                (try (rename News _ _ hB _ => Nz; clear Nz))
                (try clear F10)
                (try clear N10)
                rw [List.nil_append] at N2
                have N3 : News (ghostOf s1.heap [(57, 53), (50, 46)]) s1.heap.objs.size h ((s1.heap.objs.size + 1, oc1) :: (aS, listOf vS.toArray nS) :: (aE, listOf vE.toArray nE) :: own2) := fun p hp => by
                  simp only [List.mem_cons] at hp
                  rcases hp with rfl | rfl | rfl | hp
                  · exact N2 _ hn1
                  · exact N2 _ hn2
                  · exact N2 _ hn3
                  · exact N2 _ hp
                clear N2
                have hk' : (k : Int) < (List.map Int.ofNat E).length := by omega
                have hSE : (List.map Int.ofNat S).length = (List.map Int.ofNat E).length := by rw [List.length_map, hle, hsize]
                k_steps
                rename Fr _ _ _ _ => F5
                rename News _ _ _ _ => N5
                have ek : (k : Int) + 1 = ((k + 1 : Nat) : Int) := by omega
                rw [ek, slice_to]
                have hfl : (wd.take (k + 1)).length = k + 1 := by rw [List.length_take]; omega
                have hfne : wd.take (k + 1) ≠ [] := fun e => by rw [e] at hfl; simp at hfl
                have hf46 : 46 ∉ wd.take (k + 1) := fun h => wordsL_abc _ _ hwd (List.mem_of_mem_take h)
                refine Runs.use (gaps_spec (X1.keeps F5.keep) (T1.keeps F5.keep) ((rm_law _).le (by omega) (by omega)) (by show (wd.take (k + 1)).length ≤ 100; omega)) F5 N5 ?_
                rintro _ hA tkA ⟨ug, rfl⟩ st F6 N6
                clear F5 N5 st
                k_steps
                rw [Int.toNat_natCast, nats_getD, slice_to]
                rename Fr _ _ _ _ => F5
                rename News _ _ _ _ => N5
                have hg1 : (gaps (tx (wd.take (k + 1)))).length ≤ 1000 := by rw [gaps_length hfne]; omega
                refine Runs.use (match_spec (wd.take (k + 1)) (X1.keeps F5.keep) (T1.keeps F5.keep) ((rm_law _).le (by omega) (by omega)) (gaps_cl hfne) hf46 hg1 (by show (l.take _).length ≤ 1000; rw [List.length_take]; omega)) F5 N5 ?_
                rintro _ hC tkC rfl st F7 N7
                rw [show sub (wd.take (k + 1)) (cl (tx ((cl (tx l)).take (E.getD k 0)))) = true from (hfr k hk).1]
                clear F5 N5 st
                (try clear F6)
                (try clear N6)
                k_steps
                have ei : (((List.map Int.ofNat E).length : Int) - 1 - (k : Int)).toNat = E.length - 1 - k := by omega
                rw [ei, nats_getD, slice_to]
                rename Fr _ _ _ _ => F5
                rename News _ _ _ _ => N5
                refine Runs.use (match_spec (wd.take (k + 1)) (X1.keeps F5.keep) (T1.keeps F5.keep) ((rm_law _).le (by omega) (by omega)) (gaps_cl hfne) hf46 hg1 (by show (l.take _).length ≤ 1000; rw [List.length_take]; omega)) F5 N5 ?_
                rintro _ hC2 tkC2 rfl st F8 N8
                rw [show sub (wd.take (k + 1)) (cl (tx ((cl (tx l)).take (S.getD (E.length - 1 - k) 0)))) = false from (hfr k hk).2]
                clear F5 N5 st
                (try clear F7)
                (try clear N7)
                k_steps
                rename Fr _ _ _ _ => F9
                rename News _ _ _ _ => N9
                exact ⟨_, _, _, [], rfl, F9, (fun p hp => N9 p (.tail _ (.tail _ (.tail _ hp)))), (by intro p hp b hb; cases hb), rfl, _, _, rfl, rfl, rfl, rfl, trivial⟩
              · rintro m₁ mt₁ h tk ⟨rfl, ts2, tw2, hkn2⟩ F2 N2 hoff
                have F3 : Fr (ghostOf s1.heap [(57, 53), (50, 46)]) s1.heap.objs.size h _ := Fr_more F2 hkn2
                have N3 : News (ghostOf s1.heap [(57, 53), (50, 46)]) s1.heap.objs.size h own := fun p hp => N2 p (.tail _ (.tail _ (.tail _ hp)))
                clear F2 N2 F4 N4
                k_steps
                exact ⟨_, _, _, [], rfl, F3, N3, (by intro p hp b hb; cases hb), rfl, _, rfl, rfl, rfl, trivial⟩
          · rintro m₁ mt₁ h tk ⟨rfl, tsz2, hkn⟩ F2 N2 hoff
            have F3 : Fr (ghostOf s1.heap [(57, 53), (50, 46)]) s1.heap.objs.size h _ := Fr_more F2 hkn
            clear F2 F9 N10
            have N3 : News (ghostOf s1.heap [(57, 53), (50, 46)]) s1.heap.objs.size h [(aS, listOf vS.toArray nS), (aE, listOf vE.toArray nE), (s1.heap.objs.size + 1, oc1), (53, tabObj psS), (46, tabObj psE)] := fun p hp => N2 p (.tail _ hp)
            clear N2
            k_steps
            rename Fr _ _ _ _ => F5
            rename News _ _ _ _ => N5
            clear hSW

            refine LCg.ListComp_U F5 (by with_unfolding_all rfl) (by decide) rfl (by decide) rfl ?_
            k_steps
            have hEin := P.endsIn
            have hSin := P.startsIn
            rw [eE] at hEin
            rw [eS] at hSin
            refine LCg.CompSrc.ledger rfl F5 N5 (.tail _ (.head _)) (by rw [sizeLine_eq, List.size_toArray]; omega) fun g8 => ?_
            refine compRest_of (fun i v => ∃ (n : Nat) (t : Tok), E[i]? = some n ∧ v = .str (tx [l.getD (n - 1) 0]) t) (.inr ⟨_, .tail _ (.head _), rfl, _, rfl⟩) ?_ ?_
            · intro i v I oI C oC D ys m₂ h tk E' hi hP hC hx F N off ne
              obtain ⟨n, t, rfl, hn⟩ := ints_get hIE (by simpa using hP)
              rw [List.getElem?_map] at hn
              cases hq : E[i]? with
              | none => rw [hq] at hn; cases hn
              | some n' =>
                rw [hq] at hn
                obtain rfl := Option.some.inj hn
                have hb := hEin n' (List.mem_of_getElem? hq)
                clear F5 N5
                have hxx : (tx l).length = l.length := rfl
                show wpAny _ _ _ _ _ _
                have e0 : Int.ofNat n' = (n' : Int) := rfl
                rw [e0] at hx
                k_steps
                rename Fr _ _ _ _ => F9
                rename News _ _ _ _ => N9
                have ei : (n' : Int) - 1 = ((n' - 1 : Nat) : Int) := by omega
                have hit : Txt.item (tx l) ((n' : Int) - 1) = tx [l.getD (n' - 1) 0] := by
                  rw [ei]
                  refine item_at (y := tx l) ?_
                  show l[n' - 1]? = some (l.getD (n' - 1) 0)
                  rw [List.getD_eq_getElem?_getD, List.getElem?_eq_getElem (by omega)]; rfl
                exact ⟨_, _, rfl, F9, N9, n', _, rfl, congrArg (Value.str · _) hit⟩
            · intro ys hlen hys D h tk F N hoff
              have hS0 := strs_build (fun n => tx [l.getD (n - 1) 0]) E ys (by rw [hlen, List.size_toArray, hlE]) hys
              have hS1 : StrsAre ys ((lastsL l).map fun n => tx [n]) := by
                unfold lastsL
                rw [List.map_map, eE]; exact hS0
              have hll : (lastsL l).length = E.length := by unfold lastsL; rw [List.length_map, eE]
              clear F5 N5
              k_steps
              refine join_letters (N.isList (.head _)) hS1 (by omega) fun t9 tk9 => ?_
              have N5 : News (ghostOf s1.heap [(57, 53), (50, 46)]) s1.heap.objs.size h [(aS, listOf vS.toArray nS), (aE, listOf vE.toArray nE), (s1.heap.objs.size + 1, oc1), (53, tabObj psS), (46, tabObj psE)] := fun p hp => N p (.tail _ hp)
              clear N hS0 hS1 hys hlen hoff
              k_steps
              rename Fr _ _ _ _ => F6
              rename News _ _ _ _ => N6
              refine LCg.ListComp_U F6 (by with_unfolding_all rfl) (by decide) rfl (by decide) rfl ?_
              k_steps
              rename IntsAre _ (List.reverse _) => hIR
              rename Fr _ _ _ _ => F7
              rename News _ _ _ _ => N7
              rw [← List.map_reverse] at hIR
              have hlR := hIR.length
              rw [List.length_map, List.length_reverse] at hlR
              refine LCg.CompSrc.ledger rfl F7 N7 (.head _) (by rw [sizeLine_eq, List.size_toArray]; omega) fun g8 => ?_
              refine compRest_of (fun i v => ∃ (n : Nat) (t : Tok), S.reverse[i]? = some n ∧ v = .str (tx [l.getD n 0]) t) (.inr ⟨_, .head _, rfl, _, rfl⟩) ?_ ?_
              · intro i v I oI C oC D ys m₂ h tk E' hi hP hC hx F N off ne
                obtain ⟨n, t, rfl, hn⟩ := ints_get hIR (by simpa using hP)
                rw [List.getElem?_map] at hn
                cases hq : S.reverse[i]? with
                | none => rw [hq] at hn; cases hn
                | some n' =>
                  rw [hq] at hn
                  obtain rfl := Option.some.inj hn
                  have hb := hSin n' (List.mem_reverse.mp (List.mem_of_getElem? hq))
                  (try clear F6)
                  (try clear N6)
                  clear F7 N7
                  have hxx : (tx l).length = l.length := rfl
                  have e0 : Int.ofNat n' = (n' : Int) := rfl
                  rw [e0] at hx
                  k_steps
                  rename Fr _ _ _ _ => F9
                  rename News _ _ _ _ => N9
                  have hit : Txt.item (tx l) (n' : Int) = tx [l.getD n' 0] := by
                    refine item_at (y := tx l) ?_
                    show l[n']? = some (l.getD n' 0)
                    rw [List.getD_eq_getElem?_getD, List.getElem?_eq_getElem (by omega)]; rfl
                  exact ⟨_, _, rfl, F9, N9, n', _, rfl, congrArg (Value.str · _) hit⟩
              · intro ys hlen hys D h tk F N hoff
                have hS0 := strs_build (fun n => tx [l.getD n 0]) S.reverse ys (by rw [hlen, List.size_toArray, hlR, List.length_reverse]) hys
                have hS1 : StrsAre ys ((firstsL l).map fun n => tx [n]) := by
                  unfold firstsL
                  rw [List.map_map, eS]; exact hS0
                have hfl : (firstsL l).length = E.length := by unfold firstsL; rw [List.length_map, eS, List.length_reverse, hsize]
                (try clear F6)
                (try clear N6)
                clear F7 N7
                k_steps
                refine join_letters (N.isList (.head _)) hS1 (by omega) fun t10 tk10 => ?_
                have N5 : News (ghostOf s1.heap [(57, 53), (50, 46)]) s1.heap.objs.size h [(aS, listOf vS.toArray nS), (aE, listOf vE.toArray nE), (s1.heap.objs.size + 1, oc1), (53, tabObj psS), (46, tabObj psE)] := fun p hp => N p (.tail _ (.tail _ hp))
                clear N hS0 hS1 hys hlen hoff hIR hlR
                k_steps
                rename Fr _ _ _ _ => F6
                rename News _ _ _ _ => N6
                refine For_invV (ghostOf s1.heap [(57, 53), (50, 46)]) rfl rfl ?_
                k_steps
                rename Fr _ _ _ _ => F7
                rename News _ _ _ _ => N7
                rename IsRange _ _ _ _ _ _ _ _ => hr
                rw [hle] at hr
                have hlast := P.lasts
                have hfirst := P.firsts
                rw [eE] at hlast hfirst
                rw [eS] at hfirst
                obtain ⟨la, hla⟩ : ∃ x, lastsL l = x := ⟨_, rfl⟩
                obtain ⟨fi, hfi⟩ : ∃ x, firstsL l = x := ⟨_, rfl⟩
                rw [hla] at hlast hll F7
                rw [hfi] at hfirst hfl F7
                have hn46l := P.no46l
                have hn46f := P.no46f
                rw [hla] at hn46l
                rw [hfi] at hn46f
                refine iter_range (n := E.length) (mt := []) (J := fun i m mt => mt = [] ∧ ∃ ts tl tf : Tok, Knows m [(Str.ofString "ends", .ref aE), (Str.ofString "starts", .ref aS), (Str.ofString "size", .int ((List.map Int.ofNat E).length : Int) ts), (Str.ofString "lasts", .str (tx la) tl), (Str.ofString "firsts", .str (tx fi) tf)]) rfl hr (by omega) (by intro p hp b hb; cases hb) F7 N7 ?_ ?_ ?_
                · exact ⟨rfl, _, _, _, rfl, rfl, rfl, rfl, rfl, trivial⟩
                · rintro k q m₂ mt₂ h tk own2 hk ⟨rfl, tsz, tl, tf, hkn⟩ hown2 hfix2 F2 N2
                  have F3 : Fr (ghostOf s1.heap [(57, 53), (50, 46)]) s1.heap.objs.size h _ := Fr_more F2 (hkn.upd rfl)
                  have hn1 := hfix2 (s1.heap.objs.size + 1, oc1) (by simp)
                  have hn2 := hfix2 (aS, listOf vS.toArray nS) (by simp)
                  have hn3 := hfix2 (aE, listOf vE.toArray nE) (by simp)
                  clear F2 F7 N7
                  (try clear F6)
                  (try clear N6)
                  rw [List.nil_append] at N2
                  have N3 : News (ghostOf s1.heap [(57, 53), (50, 46)]) s1.heap.objs.size h ((s1.heap.objs.size + 1, oc1) :: (aS, listOf vS.toArray nS) :: (aE, listOf vE.toArray nE) :: own2) := fun p hp => by
                    simp only [List.mem_cons] at hp
                    rcases hp with rfl | rfl | rfl | hp
                    · exact N2 _ hn1
                    · exact N2 _ hn2
                    · exact N2 _ hn3
                    · exact N2 _ hp
                  clear N2
                  have hk' : (k : Int) < (List.map Int.ofNat E).length := by omega
                  have hSE : (List.map Int.ofNat S).length = (List.map Int.ofNat E).length := by rw [List.length_map, hle, hsize]
                  have hlk := hlast k hk
                  have hfk := hfirst k hk
                  k_steps
                  · rename Fr _ _ _ _ => F5
                    rename News _ _ _ _ => N5
                    have ek : (k : Int) + 1 = ((k + 1 : Nat) : Int) := by omega
                    rw [ek, slice_to]
                    have hal : (la.take (k + 1)).length = k + 1 := by rw [List.length_take]; omega
                    have hane : la.take (k + 1) ≠ [] := fun e => by rw [e] at hal; simp at hal
                    have ha46 : 46 ∉ la.take (k + 1) := fun h => hn46l (List.mem_of_mem_take h)
                    have hag : (gaps (tx (la.take (k + 1)))).length ≤ 1000 := by rw [gaps_length hane]; omega
                    refine Runs.use (gaps_spec (X1.keeps F5.keep) (T1.keeps F5.keep) ((rm_law _).le (by omega) (by omega)) (by show (la.take (k + 1)).length ≤ 100; omega)) F5 N5 ?_
                    rintro _ hA tkA ⟨ug, rfl⟩ st F6 N6
                    clear F5 N5 st
                    k_steps
                    rename Fr _ _ _ _ => F5
                    rename News _ _ _ _ => N5
                    have ej : ((List.map Int.ofNat E).length : Int) - 1 - (k : Int) = ((E.length - 1 - k : Nat) : Int) := by omega
                    rw [ej, slice_from]
                    have hbl : (fi.drop (E.length - 1 - k)).length = k + 1 := by rw [List.length_drop]; omega
                    have hbne : fi.drop (E.length - 1 - k) ≠ [] := fun e => by rw [e] at hbl; simp at hbl
                    have hb46 : 46 ∉ fi.drop (E.length - 1 - k) := fun h => hn46f (List.mem_of_mem_drop h)
                    have hbg : (gaps (tx (fi.drop (E.length - 1 - k)))).length ≤ 1000 := by rw [gaps_length hbne]; omega
                    refine Runs.use (gaps_spec (X1.keeps F5.keep) (T1.keeps F5.keep) ((rm_law _).le (by omega) (by omega)) (by show (fi.drop (E.length - 1 - k)).length ≤ 100; omega)) F5 N5 ?_
                    rintro _ hB tkB ⟨ub, rfl⟩ st F6 N6
                    clear F5 N5 st
                    have hek : 1 ≤ E.getD k 0 ∧ E.getD k 0 ≤ l.length := hEin _ (by rw [List.getD_eq_getElem?_getD, List.getElem?_eq_getElem hk]; exact List.getElem_mem hk)
                    have hnE : (List.map Int.ofNat E).getD (k : Int).toNat 0 = ((E.getD k 0 : Nat) : Int) := by rw [Int.toNat_natCast, nats_getD]
                    have hnS : (List.map Int.ofNat S).getD (k : Int).toNat 0 = ((S.getD k 0 : Nat) : Int) := by rw [Int.toNat_natCast, nats_getD]
                    have eE1 : ((E.getD k 0 : Nat) : Int) - 1 = ((E.getD k 0 - 1 : Nat) : Int) := by omega
                    have eS1 : ((S.getD k 0 : Nat) : Int) + 1 = ((S.getD k 0 + 1 : Nat) : Int) := by omega
                    k_steps
                    rename Fr _ _ _ _ => F5
                    rename News _ _ _ _ => N5
                    rw [hnE, slice_to]
                    refine Runs.use (match_spec (la.take (k + 1)) (X1.keeps F5.keep) (T1.keeps F5.keep) ((rm_law _).le (by omega) (by omega)) (gaps_cl hane) ha46 hag (by show (l.take (E.getD k 0)).length ≤ 1000; simp only [List.length_take, List.length_drop]; omega)) F5 N5 ?_
                    rintro _ hC tkC rfl st F7 N7
                    rw [show sub (la.take (k + 1)) (cl (tx ((cl (tx l)).take (E.getD k 0)))) = true from hlk.1]
                    clear F5 N5 st
                    (try clear F6)
                    (try clear N6)
                    (try clear F8)
                    (try clear N8)
                    k_steps
                    (try (rename Fr _ _ _ _ => F8))
                    (try (rename News _ _ _ _ => N8))
                    (try clear F7)
                    (try clear N7)
                    rename Fr _ _ _ _ => F5
                    rename News _ _ _ _ => N5
                    rw [hnE, eE1, slice_to]
                    refine Runs.use (match_spec (la.take (k + 1)) (X1.keeps F5.keep) (T1.keeps F5.keep) ((rm_law _).le (by omega) (by omega)) (gaps_cl hane) ha46 hag (by show (l.take (E.getD k 0 - 1)).length ≤ 1000; simp only [List.length_take, List.length_drop]; omega)) F5 N5 ?_
                    rintro _ hC tkC rfl st F7 N7
                    rw [show sub (la.take (k + 1)) (cl (tx ((cl (tx l)).take (E.getD k 0 - 1)))) = false from hlk.2]
                    clear F5 N5 st
                    (try clear F6)
                    (try clear N6)
                    (try clear F8)
                    (try clear N8)
                    k_steps
                    (try (rename Fr _ _ _ _ => F8))
                    (try (rename News _ _ _ _ => N8))
                    (try clear F7)
                    (try clear N7)
                    rename Fr _ _ _ _ => F5
                    rename News _ _ _ _ => N5
                    rw [hnS, slice_from]
                    refine Runs.use (match_spec (fi.drop (E.length - 1 - k)) (X1.keeps F5.keep) (T1.keeps F5.keep) ((rm_law _).le (by omega) (by omega)) (gaps_cl hbne) hb46 hbg (by show (l.drop (S.getD k 0)).length ≤ 1000; simp only [List.length_take, List.length_drop]; omega)) F5 N5 ?_
                    rintro _ hC tkC rfl st F7 N7
                    rw [show sub (fi.drop (E.length - 1 - k)) (cl (tx ((cl (tx l)).drop (S.getD k 0)))) = true from hfk.1]
                    clear F5 N5 st
                    (try clear F6)
                    (try clear N6)
                    (try clear F8)
                    (try clear N8)
                    k_steps
                    (try (rename Fr _ _ _ _ => F8))
                    (try (rename News _ _ _ _ => N8))
                    (try clear F7)
                    (try clear N7)
                    rename Fr _ _ _ _ => F5
                    rename News _ _ _ _ => N5
                    rw [hnS, eS1, slice_from]
                    refine Runs.use (match_spec (fi.drop (E.length - 1 - k)) (X1.keeps F5.keep) (T1.keeps F5.keep) ((rm_law _).le (by omega) (by omega)) (gaps_cl hbne) hb46 hbg (by show (l.drop (S.getD k 0 + 1)).length ≤ 1000; simp only [List.length_take, List.length_drop]; omega)) F5 N5 ?_
                    rintro _ hC tkC rfl st F7 N7
                    rw [show sub (fi.drop (E.length - 1 - k)) (cl (tx ((cl (tx l)).drop (S.getD k 0 + 1)))) = false from hfk.2]
                    clear F5 N5 st
                    (try clear F6)
                    (try clear N6)
                    (try clear F8)
                    (try clear N8)
                    k_steps
                    (try (rename Fr _ _ _ _ => F8))
                    (try (rename News _ _ _ _ => N8))
                    (try clear F7)
                    (try clear N7)
                    rename Fr _ _ _ _ => F9
                    rename News _ _ _ _ => N9
                    exact ⟨_, _, _, [], rfl, F9, (fun p hp => N9 p (.tail _ (.tail _ (.tail _ hp)))), (by intro p hp b hb; cases hb), rfl, _, _, _, rfl, rfl, rfl, rfl, rfl, trivial⟩
                · rintro m₁ mt₁ h tk ⟨rfl, tsz, tl, tf, hkn⟩ F2 N2 hoff
                  have F3 : Fr (ghostOf s1.heap [(57, 53), (50, 46)]) s1.heap.objs.size h _ := Fr_more F2 hkn
                  have N3 : News (ghostOf s1.heap [(57, 53), (50, 46)]) s1.heap.objs.size h [(aS, listOf vS.toArray nS), (aE, listOf vE.toArray nE), (s1.heap.objs.size + 1, oc1), (53, tabObj psS), (46, tabObj psE)] := N2
                  clear F2 N2 F7 N7
                  (try clear F6)
                  (try clear N6)
                  k_steps
end Mine
end
theorem PySem.Challenge.cw_pe0110_01_holds : PySem.Challenge.rw_pe0110_01.Holds := by
  exact Mine.law_holds
