import PyProof.Rows.All
import Wide.All
import OpenK.AllK
import Wide.FinOn
import Lean
import PySem.Challenge.RW_pu0022_01
set_option Elab.async false
section
open PySem PySem.W PyProof.Rows
namespace Mine
set_option maxRecDepth 100000
set_option maxHeartbeats 8000000
open_top hd for PySem.Challenge.rw_pu0022_01
end Mine
end
section
open PySem PySem.W PySem.Calls PyProof.Rows
namespace Mine
set_option maxRecDepth 100000
set_option maxHeartbeats 8000000
/-- a halt for the walk -/
def Stop (P : Prop) : Prop := P
theorem stop_intro {P : Prop} (h : Stop P) : P := h
theorem Stop.go {P : Prop} (h : P) : Stop P := h
/-- every object of h stands in h' as it stood -/
def Kp (h h' : Heap) : Prop := ∀ b o, h.get? b = some o → h'.get? b = some o
theorem Kp.refl (h : Heap) : Kp h h := fun _ _ e => e
theorem Kp.trans {h h' h'' : Heap} (a : Kp h h') (b : Kp h' h'') : Kp h h'' := fun x o e => b x o (a x o e)
theorem Kp.fr {h₀ h h' : Heap} {L : Addr} {m : Str → Option Value} (F : Fr h₀ L h m) (k : Kp h h') : Fr h₀ L h' m :=
  ⟨F.ns.keeps k, fun b o e => k b o (F.keep b o e), F.above⟩
theorem Kp.news {h₀ h h' : Heap} {L : Addr} {news : List (Addr × Obj)} (N : News h₀ L h news) (k : Kp h h') : News h₀ L h' news :=
  fun q hq => ⟨k _ _ (N q hq).1, (N q hq).2.1, (N q hq).2.2⟩
theorem Kp.list {h h' : Heap} {a : Addr} {xs : Array Value} (k : Kp h h') (x : h.IsList a xs) : h'.IsList a xs := let ⟨o, ho, r⟩ := x; ⟨o, k _ _ ho, r⟩
theorem Kp.tup {h h' : Heap} {a : Addr} {xs : Array Value} (k : Kp h h') (x : IsTup h a xs) : IsTup h' a xs := let ⟨o, ho, r⟩ := x; ⟨o, k _ _ ho, r⟩
section
variable {w : World} {dp un : Nat} {fr : Option (List Env)} {gd : Option (List Code)} {s : Shared} {E Q : Value → Shared → Prop} {p : Program} {loose : List Str} {mean : ExcName → Option Value} {mg mb : Str → Option Value} {A : Around}
theorem enter {name qual : Str} {params : Arguments} {body : List Stmt} {scope : Scope} {dV kV doc pm cdv ct oc : Value} {an od : Option Addr} {osl : Array (Option Value)} {f : Addr} {args : List Value} {kw : List (Str × Value)} {binds : List (Str × Value)}
    (X : (hd.heap_39 w.params).In s.heap) (T : Top p loose mean mg mb s.heap) (hroom : A.depth < recursionLimit)
    (ho : (hd.heap_39 w.params).lookup f = some ⟨oc, od, .func (fnOf name qual params body scope dV kV doc pm an cdv ct), osl⟩) (hcd : codeIn (hd.heap_39 w.params) cdv qual = true)
    (hbind : BindsTo s (fnOf name qual params body scope dV kV doc pm an cdv ct) ⟨args, kw⟩ binds) (hloc : ∀ y ∈ binds, scope.names.lookup y.1 = some .local)
    (h : ∀ L h₁, Fr s.heap L h₁ (fun y => binds.reverse.lookup y) → News s.heap L h₁ [] → 
      wpAny (model PySem.Challenge.rw_pu0022_01.row.prog w) (A.deeper (envOf qual scope L f cdv)) (execs body (envOf qual scope L f cdv))
        (fun fl s' => Q (match fl with | .ret v => v | _ => .none) s') (fun _ _ => False)
        { s with heap := h₁, toks := s.toks + binds.length })
    (hco : scope.isCoroutine = false) (hgen : scope.isGenerator = false) (hk : scope.kind = .function)
    (hcell : ∀ x ∈ scope.names, x.2 ≠ .cell) : wpAny (model PySem.Challenge.rw_pu0022_01.row.prog w) A (call (.ref f) args kw) Q E s := by
  refine wpAny_call (codeAny_call_def (fd := fnOf name qual params body scope dV kV doc pm an cdv ct) (body := body) (binds := binds) hroom (X _ _ ho) rfl T.nolimit (codeRec_of X hcd) rfl hbind hcell hloc (fun h₁ hns hk₁ => ?_) hco hgen hk)
  exact wpAny_mono (h s.heap.objs.size h₁ ⟨hns, hk₁, Nat.le_refl _⟩ News.nil) (fun fl s' hl => hl) fun _ _ y => y.elim
theorem enterT {name qual : Str} {params : Arguments} {body : List Stmt} {scope : Scope} {dV kV doc pm cdv ct oc : Value} {an od : Option Addr} {osl : Array (Option Value)} {f : Addr} {args : List Value} {kw : List (Str × Value)} {binds : List (Str × Value)}
    (X : (hd.heap_39 w.params).In s.heap) (T : Top p loose mean mg mb s.heap) (hroom : A.depth < recursionLimit)
    (ho : (hd.heap_39 w.params).lookup f = some ⟨oc, od, .func (fnOf name qual params body scope dV kV doc pm an cdv ct), osl⟩) (hcd : codeIn (hd.heap_39 w.params) cdv qual = true)
    (hbind : BindsTo s (fnOf name qual params body scope dV kV doc pm an cdv ct) ⟨args, kw⟩ binds) (hloc : ∀ y ∈ binds, scope.names.lookup y.1 = some .local)
    (h : ∀ L h₁, Fr s.heap L h₁ (fun y => binds.reverse.lookup y) → News s.heap L h₁ [] → 
      wpAny (model PySem.Challenge.rw_pu0022_01.row.prog w) (A.deeper (envOf qual scope L f cdv)) (execs body (envOf qual scope L f cdv))
        (fun fl s' => 1 ≤ s'.toks → Q (match fl with | .ret v => v | _ => .none) s') (fun _ _ => False)
        { s with heap := h₁, toks := s.toks + binds.length })
    (hco : scope.isCoroutine = false) (hgen : scope.isGenerator = false) (hk : scope.kind = .function)
    (hcell : ∀ x ∈ scope.names, x.2 ≠ .cell) (hb : 1 ≤ binds.length) : wpAny (model PySem.Challenge.rw_pu0022_01.row.prog w) A (call (.ref f) args kw) Q E s := by
  refine wpAny_call (codeAny_call_def (fd := fnOf name qual params body scope dV kV doc pm an cdv ct) (body := body) (binds := binds) hroom (X _ _ ho) rfl T.nolimit (codeRec_of X hcd) rfl hbind hcell hloc (fun h₁ hns hk₁ => ?_) hco hgen hk)
  refine wpAny_with_toks (n := 1) (by show 1 ≤ s.toks + binds.length; omega) ?_
  exact wpAny_mono (h s.heap.objs.size h₁ ⟨hns, hk₁, Nat.le_refl _⟩ News.nil) (fun fl s' hl => hl) fun _ _ y => y.elim
theorem retB {h' : Heap} {tk : Nat} {x y : Bool} (h : ∀ h' tk, Kp s.heap h' → Q (.bool x) { s with heap := h', toks := tk }) (e : y = x) (k : Kp s.heap h') : Q (.bool y) { s with heap := h', toks := tk } := by
  subst e; exact h _ _ k
theorem retI {h' : Heap} {tk : Nat} {t : Tok} {x y : Int} (h : ∀ h' tk t, Kp s.heap h' → Q (.int x t) { s with heap := h', toks := tk }) (e : y = x) (k : Kp s.heap h') : Q (.int y t) { s with heap := h', toks := tk } := by
  subst e; exact h _ _ _ k
end
/-! loops -/
def TEnd (h₀ : Heap) (L : Addr) (J : (Str → Option Value) → List (Addr × Obj) → Prop) (I : Addr) (oI : Obj) (s₁ : Shared) (Q : Flow → Shared → Prop) (f : Flow) (s₂ : Shared) : Prop := match f with
  | .ret v => Q (.ret v) s₂
  | .brk => Q .next s₂
  | _ => ∃ h' tk m' news' nx, s₂ = { s₁ with heap := h', toks := tk } ∧ Fr h₀ L h' m' ∧ News h₀ L h' news' ∧ (I, oI) ∈ news' ∧ (∀ p ∈ nx, p ∈ news') ∧ (∀ p ∈ nx, p.1 ≠ I) ∧ J m' nx
section
variable {prog : Program} {w : World} {A : Around} {E : Value → Shared → Prop} {s : Shared} {env : Env} {h₀ : Heap} {x : Str} {body : List Stmt} {Q : Flow → Shared → Prop}
theorem loop_mk {I : Addr} {fp : List Addr} {n : Nat} {P : Nat → Value → Prop} {St : Nat → Heap → Prop} {m₀ : Str → Option Value} {news : List (Addr × Obj)} (J : Nat → (Str → Option Value) → List (Addr × Obj) → Prop)
    (W : Walks prog w A I fp [I] n P St) (hLf : env.locals ∉ fp) (hI : I ∈ fp) (hfp : ∀ b ∈ fp, b = I ∨ ∃ q, h₀.get? b = some q) (hI0 : h₀.get? I = none) (hst : St 0 s.heap) (hIs : ∀ i h, St i h → ∃ o, h.get? I = some o)
    (F : Fr h₀ env.locals s.heap m₀) (N : News h₀ env.locals s.heap news) (hIn : ∀ p ∈ news, p.1 ≠ I) (hj : J 0 m₀ news)
    (turn : ∀ i v m₁ news₁ h tk oI, i < n → P i v → J i m₁ news₁ → (∀ p ∈ news₁, p.1 ≠ I) → Fr h₀ env.locals h (fun y => if y = x then some v else m₁ y) → News h₀ env.locals h ((I, oI) :: news₁) →
      wpAny (model prog w) A (execs body env) (TEnd h₀ env.locals (J (i + 1)) I oI { s with heap := h, toks := tk } Q) E { s with heap := h, toks := tk })
    (done : ∀ m₁ news₁ h tk, J n m₁ news₁ → Fr h₀ env.locals h m₁ → News h₀ env.locals h news₁ → Q .next { s with heap := h, toks := tk }) : LoopAtV prog w A h₀ env x body Q E (.ref I) s := by
  refine ⟨I, fp, [I], n, P, St, m₀, news, J, rfl, W, hLf, ?_, ?_, hst, F, N, hj, ?_, ?_⟩
  · intro b hb; rw [List.mem_singleton.mp hb]; exact hI0
  · intro q hq hb; exact hIn q hq (List.mem_singleton.mp hb)
  · rintro i v m₁ news₁ s₁ own ⟨hh', tk', rfl⟩ hin hP hJ hoff hown hget hfp' hst' F₁ N₁
    obtain ⟨oI, hoI⟩ := hIs _ _ hst'
    have hIown : (I, oI) ∈ own := hfp' _ hI hI0 _ hoI
    have hall := own_one hown hfp hoI N₁
    refine wpAny_mono (turn i v m₁ news₁ hh' tk' oI hin hP hJ (fun q hq e => hoff q hq (List.mem_singleton.mpr e)) F₁ (news_one hIown N₁)) (fun f s₂ q => ?_) fun _ _ e => e
    have fin : (∃ h' tk m' news' nx, s₂ = { s with heap := h', toks := tk } ∧ Fr h₀ env.locals h' m' ∧ News h₀ env.locals h' news' ∧ (I, oI) ∈ news' ∧ (∀ p ∈ nx, p ∈ news') ∧ (∀ p ∈ nx, p.1 ≠ I) ∧ J (i + 1) m' nx) → LoopStepU h₀ env.locals [I] own (J (i + 1)) { s with heap := hh', toks := tk' } .next s₂ := by
      rintro ⟨h', tk, m', news', nx, e, F', N', hio, hn, hne, hm⟩
      refine ⟨rfl, h', tk, m', nx, e, F', fun q hq => ?_, fun q hq hb => hne q hq (List.mem_singleton.mp hb), hm⟩
      rcases List.mem_append.mp hq with hq | hq
      · rw [hall q hq]; exact N' _ hio
      · exact N' _ (hn q hq)
    cases f with
    | ret v => exact .ret q
    | brk => exact .brk q
    | next => exact .next (fin q)
    | cont => exact .cont (fin q)
  · rintro h' tk m' news' F' N' _ hJ
    exact done m' news' h' tk hJ F' N'
/-- for x in a list that stood ahead of the call -/
theorem loop_list {l : Addr} {items : Array Value} {m₀ : Str → Option Value} {news : List (Addr × Obj)} (J : Nat → (Str → Option Value) → List (Addr × Obj) → Prop)
    (hh : A.handled = none) (hl : h₀.IsList l items) (F : Fr h₀ env.locals s.heap m₀) (N : News h₀ env.locals s.heap news) (hj : J 0 m₀ news)
    (turn : ∀ I i v m₁ news₁ h tk oI, i < items.size → items[i]? = some v → J i m₁ news₁ → (∀ p ∈ news₁, p.1 ≠ I) → Fr h₀ env.locals h (fun y => if y = x then some v else m₁ y) → News h₀ env.locals h ((I, oI) :: news₁) →
      wpAny (model prog w) A (execs body env) (TEnd h₀ env.locals (J (i + 1)) I oI { s with heap := h, toks := tk } Q) E { s with heap := h, toks := tk })
    (done : ∀ m₁ news₁ h tk, J items.size m₁ news₁ → Fr h₀ env.locals h m₁ → News h₀ env.locals h news₁ → Q .next { s with heap := h, toks := tk }) :
    wpAny (model prog w) A (pyIter (.ref l)) (fun it s₂ => LoopAtV prog w A h₀ env x body Q E it s₂) E s := by
  have hls : s.heap.IsList l items := hl.at fun o e => F.keep l o e
  obtain ⟨ol, hol, _⟩ := id hl
  have hlt : l < h₀.objs.size := Heap.lt_size hol
  have hne : l ≠ s.heap.objs.size := Nat.ne_of_lt (Nat.lt_trans (Nat.lt_of_lt_of_le hlt F.above) F.ns.lt)
  refine wpAny_pyIter_list hls ?_
  refine loop_mk J (Walks.list (prog := prog) (w := w) hh s.heap.objs.size l hne items) ?_ (by simp) ?_ (next_is_new F) ⟨⟨_, Heap.get?_push_size _ rfl, rfl, rfl⟩, hls.at fun o e => Heap.get?_push_of_some _ e⟩ ?_ (F.push _)
    (fun p hp => ⟨Heap.get?_push_of_some _ (N p hp).1, (N p hp).2⟩) (fun p hp e => absurd (Heap.lt_size (N p hp).1) (e ▸ Nat.lt_irrefl _)) hj (turn _) done
  · intro hm
    rcases List.mem_cons.mp hm with e | hm
    · exact absurd F.ns.lt (e ▸ Nat.lt_irrefl _)
    · exact absurd (Nat.lt_of_lt_of_le hlt F.above) ((List.mem_singleton.mp hm) ▸ Nat.lt_irrefl _)
  · intro b hb
    rcases List.mem_cons.mp hb with e | hb
    · exact .inl e
    · exact .inr ⟨ol, (List.mem_singleton.mp hb) ▸ hol⟩
  · rintro i h ⟨⟨o, ho, _⟩, _⟩
    exact ⟨o, ho⟩
theorem walks_with {I l : Addr} {fp : List Addr} {n : Nat} {P : Nat → Value → Prop} {St : Nat → Heap → Prop} {ol : Obj} (W : Walks prog w A I fp [I] n P St) (hl : l ∈ fp) (hne : l ≠ I) :
    Walks prog w A I fp [I] n P (fun i h => St i h ∧ h.get? l = some ol) where
  sub := W.sub
  frame := fun i h h' st hk => ⟨W.frame i h h' st.1 hk, hk l hl _ st.2⟩
  item := fun i s Q E hi st hQ => W.item i s Q E hi st.1 fun v h' tk hP hst hk => hQ v h' tk hP ⟨hst, hk l ol (fun q => hne (List.mem_singleton.mp q)) st.2⟩ hk
  done := fun s Q E st hQ => W.done s Q E st.1 hQ
  self := fun i s Q E st hQ => W.self i s Q E st.1 hQ
/-- for x in a list that the call has made -/
theorem loop_own {l : Addr} {items : Array Value} {nn : Nat} {m₀ : Str → Option Value} {news : List (Addr × Obj)} (J : Nat → (Str → Option Value) → List (Addr × Obj) → Prop)
    (hh : A.handled = none) (F : Fr h₀ env.locals s.heap m₀) (N : News h₀ env.locals s.heap ((l, listOf items nn) :: news)) (hj : J 0 m₀ news)
    (turn : ∀ I i v m₁ news₁ h tk oI, i < items.size → items[i]? = some v → J i m₁ news₁ → I ≠ l → (∀ p ∈ news₁, p.1 ≠ I) → Fr h₀ env.locals h (fun y => if y = x then some v else m₁ y) → News h₀ env.locals h ((I, oI) :: (l, listOf items nn) :: news₁) →
      wpAny (model prog w) A (execs body env) (TEnd h₀ env.locals (fun m' nx => (l, listOf items nn) ∈ nx ∧ ∃ ny, nx = (l, listOf items nn) :: ny ∧ J (i + 1) m' ny) I oI { s with heap := h, toks := tk } Q) E { s with heap := h, toks := tk })
    (done : ∀ m₁ news₁ h tk, J items.size m₁ news₁ → Fr h₀ env.locals h m₁ → News h₀ env.locals h ((l, listOf items nn) :: news₁) → Q .next { s with heap := h, toks := tk }) :
    wpAny (model prog w) A (pyIter (.ref l)) (fun it s₂ => LoopAtV prog w A h₀ env x body Q E it s₂) E s := by
  have hls : s.heap.IsList l items := News.isList N (.head _)
  have hl1 := N _ (.head _)
  have hlt : l < s.heap.objs.size := Heap.lt_size hl1.1
  have hne : l ≠ s.heap.objs.size := Nat.ne_of_lt hlt
  refine wpAny_pyIter_list hls ?_
  have W := walks_with (ol := listOf items nn) (Walks.list (prog := prog) (w := w) hh s.heap.objs.size l hne items) (by simp) hne
  refine ⟨s.heap.objs.size, [s.heap.objs.size, l], [s.heap.objs.size], items.size, _, _, m₀, (l, listOf items nn) :: news, fun i m nx => ∃ ny, nx = (l, listOf items nn) :: ny ∧ J i m ny, rfl, W, ?_, ?_, ?_,
    ⟨⟨⟨_, Heap.get?_push_size _ rfl, rfl, rfl⟩, hls.at fun o e => Heap.get?_push_of_some _ e⟩, Heap.get?_push_of_some _ hl1.1⟩, F.push _, (fun p hp => ⟨Heap.get?_push_of_some _ (N p hp).1, (N p hp).2⟩), ⟨news, rfl, hj⟩, ?_, ?_⟩
  · intro hm
    rcases List.mem_cons.mp hm with e | hm
    · exact absurd F.ns.lt (e ▸ Nat.lt_irrefl _)
    · exact hl1.2.1 (List.mem_singleton.mp hm).symm
  · intro b hb; rw [List.mem_singleton.mp hb]; exact next_is_new F
  · intro q hq hb
    exact absurd (Heap.lt_size (N q hq).1) ((List.mem_singleton.mp hb) ▸ Nat.lt_irrefl _)
  · rintro i v m₁ news₁ s₁ own ⟨hh', tk', rfl⟩ hin hP ⟨ny, rfl, hJ⟩ hoff hown hget hfp' hst' F₁ N₁
    obtain ⟨⟨⟨oI, hoI, _⟩, _⟩, hol⟩ := id hst'
    have hI0 : h₀.get? s.heap.objs.size = none := next_is_new F
    have hIown : (s.heap.objs.size, oI) ∈ own := hfp' _ (by simp) hI0 _ hoI
    refine wpAny_mono (turn s.heap.objs.size i v m₁ ny hh' tk' oI hin hP hJ (Ne.symm hne) (fun q hq e => hoff q (.tail _ hq) (List.mem_singleton.mpr e)) F₁ (fun q hq => ?_)) (fun f s₂ q => ?_) fun _ _ e => e
    · rcases List.mem_cons.mp hq with rfl | hq
      · exact N₁ _ (List.mem_append_left _ hIown)
      · exact N₁ _ (List.mem_append_right _ hq)
    have fin : (∃ h' tk m' news' nx, s₂ = { s with heap := h', toks := tk } ∧ Fr h₀ env.locals h' m' ∧ News h₀ env.locals h' news' ∧ (s.heap.objs.size, oI) ∈ news' ∧ (∀ p ∈ nx, p ∈ news') ∧ (∀ p ∈ nx, p.1 ≠ s.heap.objs.size) ∧ ((l, listOf items nn) ∈ nx ∧ ∃ ny, nx = (l, listOf items nn) :: ny ∧ J (i + 1) m' ny)) →
        LoopStepU h₀ env.locals [s.heap.objs.size] own (fun m nx => ∃ ny, nx = (l, listOf items nn) :: ny ∧ J (i + 1) m ny) { s with heap := hh', toks := tk' } .next s₂ := by
      rintro ⟨h', tk, m', news', nx, e, F', N', hio, hn, hne', hm⟩
      refine ⟨rfl, h', tk, m', nx, e, F', fun q hq => ?_, fun q hq hb => hne' q hq (List.mem_singleton.mp hb), hm.2⟩
      rcases List.mem_append.mp hq with hq | hq
      · have hg := hget q hq
        rcases List.mem_cons.mp (hown q hq) with e1 | e1
        · have : q = (s.heap.objs.size, oI) := by
            refine Prod.ext e1 ?_
            rw [e1, hoI] at hg
            exact (Option.some.inj hg).symm
          rw [this]; exact N' _ hio
        · have e1 := List.mem_singleton.mp e1
          have : q = (l, listOf items nn) := by
            refine Prod.ext e1 ?_
            rw [e1, hol] at hg
            exact (Option.some.inj hg).symm
          rw [this]; exact N' _ (hn _ hm.1)
      · exact N' _ (hn q hq)
    cases f with
    | ret v => exact .ret q
    | brk => exact .brk q
    | next => exact .next (fin q)
    | cont => exact .cont (fin q)
  · rintro h' tk m' news' F' N' _ ⟨ny, rfl, hJ⟩
    exact done m' ny h' tk hJ F' N'
/-- for x in range(n) -/
theorem loop_range {r : Addr} {b₀ : Int} {t₀ u₀ v₀ : Tok} {n : Nat} {m₀ : Str → Option Value} {news : List (Addr × Obj)} (J : Nat → (Str → Option Value) → List (Addr × Obj) → Prop)
    (hh : A.handled = none) (hr : IsRange s.heap r 0 b₀ 1 t₀ u₀ v₀) (hb : b₀ = (n : Int)) (hn : n < 2 ^ 61) (F : Fr h₀ env.locals s.heap m₀) (N : News h₀ env.locals s.heap news) (hj : J 0 m₀ news)
    (turn : ∀ I i t m₁ news₁ h tk oI, i < n → J i m₁ news₁ → (∀ p ∈ news₁, p.1 ≠ I) → Fr h₀ env.locals h (fun y => if y = x then some (.int (i : Int) t) else m₁ y) → News h₀ env.locals h ((I, oI) :: news₁) →
      wpAny (model prog w) A (execs body env) (TEnd h₀ env.locals (J (i + 1)) I oI { s with heap := h, toks := tk } Q) E { s with heap := h, toks := tk })
    (done : ∀ m₁ news₁ h tk, J n m₁ news₁ → Fr h₀ env.locals h m₁ → News h₀ env.locals h news₁ → Q .next { s with heap := h, toks := tk }) :
    wpAny (model prog w) A (pyIter (.ref r)) (fun it s₂ => LoopAtV prog w A h₀ env x body Q E it s₂) E s := by
  subst hb
  have hsz : Builtin.Range.rangeSize 0 (n : Int) 1 = (n : Int) := by rw [rangeSize_one]; split <;> omega
  refine wpAny_pyIter_range hr (small_one (by omega) (by omega) (by omega) (by omega)) ?_
  refine loop_mk J (Walks.range (prog := prog) (w := w) hh s.heap.objs.size 0 1 n) ?_ (by simp) ?_ (next_is_new F) (by show IsRangeIter _ _ _ _ _; rw [hsz]; simpa using Heap.get?_push_size _ rfl) ?_ (F.push _)
    (fun p hp => ⟨Heap.get?_push_of_some _ (N p hp).1, (N p hp).2⟩) (fun p hp e => absurd (Heap.lt_size (N p hp).1) (e ▸ Nat.lt_irrefl _)) hj ?_ done
  · intro hm
    exact absurd F.ns.lt ((List.mem_singleton.mp hm) ▸ Nat.lt_irrefl _)
  · intro b hb
    exact .inl (List.mem_singleton.mp hb)
  · intro i h ho
    exact ⟨_, ho⟩
  · rintro i v m₁ news₁ h tk oI hi ⟨t, rfl⟩ hJ hne F₁ N₁
    have e : (0 : Int) + (i : Int) * 1 = (i : Int) := by omega
    rw [e] at F₁
    exact turn _ i t m₁ news₁ h tk oI hi hJ hne F₁ N₁
end
/-! while -/
def WEnd (h₀ : Heap) (L : Addr) (J : (Str → Option Value) → List (Addr × Obj) → Prop) (s₁ : Shared) (Q : Flow → Shared → Prop) (f : Flow) (s₂ : Shared) : Prop := match f with
  | .ret v => Q (.ret v) s₂
  | .brk => Q .next s₂
  | _ => ∃ h' tk m' nx, s₂ = { s₁ with heap := h', toks := tk } ∧ Fr h₀ L h' m' ∧ News h₀ L h' nx ∧ J m' nx
section
variable {prog : Program} {w : World} {A : Around} {E : Value → Shared → Prop} {s : Shared} {env : Env} {h₀ : Heap} {body : List Stmt} {test : PySem.Expr} {pos : Pos} {Q : Flow → Shared → Prop}
theorem loop_while {m₀ : Str → Option Value} {news : List (Addr × Obj)} (J : Nat → (Str → Option Value) → List (Addr × Obj) → Prop) (n : Nat)
    (F : Fr h₀ env.locals s.heap m₀) (N : News h₀ env.locals s.heap news) (hj : J n m₀ news)
    (turn : ∀ n m₁ news₁ h tk, J n m₁ news₁ → Fr h₀ env.locals h m₁ → News h₀ env.locals h news₁ →
      wpAny (model prog w) A (isTrue test env (eval test env)) (fun b s₂ => if b = true then wpAny (model prog w) A (execs body env) (WEnd h₀ env.locals (fun m' nx => ∃ k, k < n ∧ J k m' nx) { s with heap := h, toks := tk } Q) (fun _ _ => False) s₂ else Q .next s₂) (fun _ _ => False) { s with heap := h, toks := tk }) :
    wpAny (model prog w) A (exec (.While test body [] pos) env) Q E s := by
  refine wpAny_While (codeAny_whileLoop (fun n s' => ∃ h tk m₁ news₁, s' = { s with heap := h, toks := tk } ∧ J n m₁ news₁ ∧ Fr h₀ env.locals h m₁ ∧ News h₀ env.locals h news₁) ?_ n ⟨_, _, m₀, news, rfl, hj, F, N⟩)
  rintro n s' ⟨h, tk, m₁, news₁, rfl, hJ, F₁, N₁⟩
  refine wpAny_mono (turn n m₁ news₁ h tk hJ F₁ N₁) (fun b s₂ hb => ?_) fun _ _ e => e.elim
  cases b with
  | false =>
    simp only [Bool.false_eq_true, if_false] at hb ⊢
    exact wpAny_execs_nil hb
  | true =>
    simp only [if_true] at hb ⊢
    refine wpAny_mono hb (fun f s₃ hf => ?_) fun _ _ e => e.elim
    cases f with
    | ret v => exact hf
    | brk => exact hf
    | next => obtain ⟨h', tk', m', nx, e, F', N', k, hk, hJ'⟩ := hf; exact ⟨k, hk, h', tk', m', nx, e, hJ', F', N'⟩
    | cont => obtain ⟨h', tk', m', nx, e, F', N', k, hk, hJ'⟩ := hf; exact ⟨k, hk, h', tk', m', nx, e, hJ', F', N'⟩
theorem callWith_fn {a : Addr} {o : Obj} {fd : FuncData} {e : PySem.Expr} {Q : Value → Shared → Prop}
    (h : wpAny (model prog w) A (spliced (backTo pos (starEach [e] env))) (fun vs s₁ => (s₁.heap.get? a = some o ∧ o.data = .func fd) ∧ wpAny (model prog w) A (call (.ref a) vs) Q E s₁) E s)
    (he : starEach [e] env = (false, eval e env) :: starEach [] env := by rfl) :
    wpAny (model prog w) A (callWith pos (.ref a) [] (backTo pos (starEach [e] env)) []) Q E s := by
  rw [he] at h ⊢
  exact callWith_function (o := o) (fd := fd) (evalArgs_plain h)
end
theorem pin1 {m : Str → Option Value} {a : Str} {va : Option Value} (h1 : m a = va) : m = fun y => if y = a then va else m y := by
  funext y
  by_cases e0 : y = a
  · subst e0; simp [h1]
  simp [e0]
theorem pin2 {m : Str → Option Value} {a b : Str} {va vb : Option Value} (h1 : m a = va) (h2 : m b = vb) : m = fun y => if y = a then va else if y = b then vb else m y := by
  funext y
  by_cases e0 : y = a
  · subst e0; simp [h1]
  by_cases e1 : y = b
  · subst e1; simp [h2, e0]
  simp [e0, e1]
theorem pin3 {m : Str → Option Value} {a b c : Str} {va vb vc : Option Value} (h1 : m a = va) (h2 : m b = vb) (h3 : m c = vc) : m = fun y => if y = a then va else if y = b then vb else if y = c then vc else m y := by
  funext y
  by_cases e0 : y = a
  · subst e0; simp [h1]
  by_cases e1 : y = b
  · subst e1; simp [h2, e0]
  by_cases e2 : y = c
  · subst e2; simp [h3, e0, e1]
  simp [e0, e1, e2]
theorem pin4 {m : Str → Option Value} {a b c d : Str} {va vb vc vd : Option Value} (h1 : m a = va) (h2 : m b = vb) (h3 : m c = vc) (h4 : m d = vd) : m = fun y => if y = a then va else if y = b then vb else if y = c then vc else if y = d then vd else m y := by
  funext y
  by_cases e0 : y = a
  · subst e0; simp [h1]
  by_cases e1 : y = b
  · subst e1; simp [h2, e0]
  by_cases e2 : y = c
  · subst e2; simp [h3, e0, e1]
  by_cases e3 : y = d
  · subst e3; simp [h4, e0, e1, e2]
  simp [e0, e1, e2, e3]
theorem pin5 {m : Str → Option Value} {a b c d e : Str} {va vb vc vd ve : Option Value} (h1 : m a = va) (h2 : m b = vb) (h3 : m c = vc) (h4 : m d = vd) (h5 : m e = ve) : m = fun y => if y = a then va else if y = b then vb else if y = c then vc else if y = d then vd else if y = e then ve else m y := by
  funext y
  by_cases e0 : y = a
  · subst e0; simp [h1]
  by_cases e1 : y = b
  · subst e1; simp [h2, e0]
  by_cases e2 : y = c
  · subst e2; simp [h3, e0, e1]
  by_cases e3 : y = d
  · subst e3; simp [h4, e0, e1, e2]
  by_cases e4 : y = e
  · subst e4; simp [h5, e0, e1, e2, e3]
  simp [e0, e1, e2, e3, e4]
theorem pin6 {m : Str → Option Value} {a b c d e f : Str} {va vb vc vd ve vf : Option Value} (h1 : m a = va) (h2 : m b = vb) (h3 : m c = vc) (h4 : m d = vd) (h5 : m e = ve) (h6 : m f = vf) : m = fun y => if y = a then va else if y = b then vb else if y = c then vc else if y = d then vd else if y = e then ve else if y = f then vf else m y := by
  funext y
  by_cases e0 : y = a
  · subst e0; simp [h1]
  by_cases e1 : y = b
  · subst e1; simp [h2, e0]
  by_cases e2 : y = c
  · subst e2; simp [h3, e0, e1]
  by_cases e3 : y = d
  · subst e3; simp [h4, e0, e1, e2]
  by_cases e4 : y = e
  · subst e4; simp [h5, e0, e1, e2, e3]
  by_cases e5 : y = f
  · subst e5; simp [h6, e0, e1, e2, e3, e4]
  simp [e0, e1, e2, e3, e4, e5]
theorem pin7 {m : Str → Option Value} {a b c d e f g : Str} {va vb vc vd ve vf vg : Option Value} (h1 : m a = va) (h2 : m b = vb) (h3 : m c = vc) (h4 : m d = vd) (h5 : m e = ve) (h6 : m f = vf) (h7 : m g = vg) : m = fun y => if y = a then va else if y = b then vb else if y = c then vc else if y = d then vd else if y = e then ve else if y = f then vf else if y = g then vg else m y := by
  funext y
  by_cases e0 : y = a
  · subst e0; simp [h1]
  by_cases e1 : y = b
  · subst e1; simp [h2, e0]
  by_cases e2 : y = c
  · subst e2; simp [h3, e0, e1]
  by_cases e3 : y = d
  · subst e3; simp [h4, e0, e1, e2]
  by_cases e4 : y = e
  · subst e4; simp [h5, e0, e1, e2, e3]
  by_cases e5 : y = f
  · subst e5; simp [h6, e0, e1, e2, e3, e4]
  by_cases e6 : y = g
  · subst e6; simp [h7, e0, e1, e2, e3, e4, e5]
  simp [e0, e1, e2, e3, e4, e5, e6]
theorem news_sub {h₀ h : Heap} {L : Addr} {news news' : List (Addr × Obj)} (N : News h₀ L h news) (hs : ∀ q ∈ news', q ∈ news) : News h₀ L h news' := fun q hq => N q (hs q hq)
theorem passes_false {M : Model} {A : Around} {env : Env} : PassesOwn M A env (fun _ _ => False) := fun _ _ h => h.elim
section
variable {prog : Program} {w : World} {A : Around} {E : Value → Shared → Prop} {s : Shared}
theorem item_list {value slice : PySem.Expr} {l : Addr} {items : Array Value} {k : Int} {u : Tok} {v : Value} {Q : Value → Shared → Prop}
    (hl : s.heap.IsList l items) (h0 : 0 ≤ k) (hhi : k < 2 ^ 63) (hx : items[k.toNat]? = some v) (h : Q v s)
    (hs : subscripted slice false (.ref l) (.int k u) = operate [.ref l, .int k u] (getItem (.ref l) (.int k u)) := by with_unfolding_all rfl) :
    wpAny (model prog w) A (subscriptTail value slice (.ref l) (.int k u)) Q E s :=
  tail_any hl.typeIs slot_list_getitem.lookup (wpAny_getItem_list hl h0 hhi hx h) hs
theorem item_list_neg {value slice : PySem.Expr} {l : Addr} {items : Array Value} {k : Int} {u : Tok} {v : Value} {Q : Value → Shared → Prop}
    (hl : s.heap.IsList l items) (h0 : k < 0) (h1 : -(items.size : Int) ≤ k) (hhi : -(2 ^ 63) ≤ k) (hx : items[(k + items.size).toNat]? = some v) (h : Q v s)
    (hs : subscripted slice false (.ref l) (.int k u) = operate [.ref l, .int k u] (getItem (.ref l) (.int k u)) := by with_unfolding_all rfl) :
    wpAny (model prog w) A (subscriptTail value slice (.ref l) (.int k u)) Q E s :=
  tail_any hl.typeIs slot_list_getitem.lookup (wpAny_getItem_list_neg hl h0 h1 hhi hx h) hs
end
end Mine
end
section
open PySem
namespace Mine
set_option maxRecDepth 100000
set_option maxHeartbeats 4000000
set_option linter.unusedSimpArgs false
open PySem.Sre
theorem runFor_add (a b : Nat) (m : Sre.M) : M.runFor (a + b) m = M.runFor b (M.runFor a m) := by
  induction a generalizing m with
  | zero => simp [M.runFor]
  | succ a ih =>
    rw [show a + 1 + b = (a + b) + 1 by omega]
    simp only [M.runFor]
    split
    · rename_i h
      cases b with
      | zero => simp [M.runFor]
      | succ b => simp [M.runFor, h]
    · exact ih _
theorem runFor_done {m : Sre.M} (h : m.outcome.isSome = true) : ∀ n, M.runFor n m = m
  | 0 => rfl
  | n + 1 => by simp [M.runFor, h]
theorem runFor_one {m : Sre.M} (h : m.outcome = none) : M.runFor 1 m = m.step := by simp [M.runFor, h]
/-- m gets to m' in n steps at most -/
def Gets (n : Nat) (m m' : Sre.M) : Prop := ∃ k, k ≤ n ∧ M.runFor k m = m'
theorem Gets.refl (m : Sre.M) (n : Nat := 0) : Gets n m m := ⟨0, Nat.zero_le _, rfl⟩
theorem Gets.trans {a b : Nat} {m m' m'' : Sre.M} (h : Gets a m m') (h' : Gets b m' m'') : Gets (a + b) m m'' := by
  obtain ⟨k, hk, e⟩ := h
  obtain ⟨k', hk', e'⟩ := h'
  exact ⟨k + k', by omega, by rw [runFor_add, e, e']⟩
theorem Gets.le {a b : Nat} {m m' : Sre.M} (h : Gets a m m') (hab : a ≤ b) : Gets b m m' := let ⟨k, hk, e⟩ := h; ⟨k, by omega, e⟩
theorem Gets.step {n : Nat} {m m' m'' : Sre.M} (h0 : m.outcome = none) (h : m.step = m') (h' : Gets n m' m'') : Gets (n + 1) m m'' := by
  obtain ⟨k, hk, e⟩ := h'
  refine ⟨1 + k, by omega, ?_⟩
  rw [runFor_add, runFor_one h0, h, e]
/-! the dots' pattern: (?m)^\. -/
def cA : Array Nat := #[14, 4, 0, 1, 1, 6, 1, 16, 46, 1]
def mA (text : Array Nat) (lim s : Nat) (om : Bool) (sn : Seen) : Sre.M :=
  { code := cA, text, lim, start := s, lastStart := lim, pc := 5, pos := s, handed := s, outermost := om, marks := #[],
    frames := [{ wait := .nextStart, pc := 5, pos := s, outermost := om }], weight := 1, seen := sn }
/-- at s a row begins -/
def bol (text : Array Nat) (s : Nat) : Prop := s = 0 ∨ text[s - 1]?.getD 0 = 10
def fA (s : Nat) (om : Bool) : Sre.Frame := { wait := .nextStart, pc := 5, pos := s, outermost := om }
def sA (text : Array Nat) (lim s pc pos hd : Nat) (om : Bool) (fs : List Sre.Frame) (wt : Nat) (an : Option Bool) (oc : Option Sre.Outcome) (sn : Seen) : Sre.M :=
  { code := cA, text, lim, start := s, lastStart := lim, pc, pos, handed := hd, outermost := om, marks := #[], frames := fs, weight := wt, answer := an, seen := sn, outcome := oc }
section
variable {text : Array Nat} {lim s pc pos hd : Nat} {om : Bool} {sn : Seen}
theorem A_at_yes (hb : bol text s) : (sA text lim s 5 s hd om [fA s om] 1 none none sn).step = sA text lim s 7 s hd om [fA s om] 1 none none ((sn.add 6).add 44) := by
  rcases hb with hb | hb <;> simp [sA, M.step, M.exec, M.word, ops, M.isAt, cA, M.say, hb]
theorem A_at_no (hb : ¬ bol text s) : (sA text lim s 5 s hd om [fA s om] 1 none none sn).step = sA text lim s 5 s hd om [fA s om] 1 (some false) none ((sn.add 6).add 44) := by
  unfold bol at hb
  simp only [not_or] at hb
  simp [sA, M.step, M.exec, M.word, ops, M.isAt, cA, M.say, hb.1, hb.2]
theorem A_lit_yes (h1 : s < lim) (h2 : text[s]?.getD 0 = 46) : (sA text lim s 7 s hd om [fA s om] 1 none none sn).step = sA text lim s 9 (s + 1) hd om [fA s om] 1 none none (sn.add 16) := by
  simp [sA, M.step, M.exec, M.word, ops, cA, accepts, itemWidth, h2, Nat.not_le.mpr h1]
theorem A_lit_no (h2 : lim ≤ s ∨ text[s]?.getD 0 ≠ 46) : (sA text lim s 7 s hd om [fA s om] 1 none none sn).step = sA text lim s 7 s hd om [fA s om] 1 (some false) none (sn.add 16) := by
  by_cases h1 : lim ≤ s
  · simp [sA, M.step, M.exec, M.word, ops, cA, accepts, itemWidth, h1, M.say]
  · have h2 := beq_eq_false_iff_ne.mpr (h2.resolve_left h1)
    simp [sA, M.step, M.exec, M.word, ops, cA, accepts, itemWidth, h1, h2, M.say]
theorem A_succ : (sA text lim s 9 pos hd om [fA s om] 1 none none sn).step = sA text lim s 9 pos pos om [fA s om] 1 (some true) none (sn.add 1) := by
  simp [sA, M.step, M.exec, M.word, ops, cA, M.say]
theorem A_back_yes : (sA text lim s pc pos hd om [fA s om] 1 (some true) none sn).step = sA text lim s 5 s hd om [] 0 (some true) none sn := by
  simp [sA, fA, M.step, M.resume, M.say]
theorem A_back_no (h : s < lim) : (sA text lim s pc pos hd om [fA s om] 1 (some false) none sn).step = sA text lim (s + 1) 5 (s + 1) (s + 1) false [fA (s + 1) false] 1 none none sn := by
  simp [sA, fA, M.step, M.resume, M.say, M.attemptFrom, M.hasFirstSet, M.attemptAt, M.attempt, h, ops, cA]
theorem A_back_end (h : ¬ s < lim) : (sA text lim s pc pos hd om [fA s om] 1 (some false) none sn).step = sA text lim s 5 s hd om [] 0 (some false) none sn := by
  simp [sA, fA, M.step, M.resume, M.say, h]
theorem A_end {b : Bool} : (sA text lim s pc pos hd om [] 0 (some b) none sn).step = sA text lim s pc pos hd om [] 0 (some b) (some (if b then .matched else .failed)) sn := by
  simp [sA, M.step]
end
/-- the first place from s on, ahead of lim, that is hit -/
def nxt (hit : Nat → Bool) (lim : Nat) : Nat → Nat → Option Nat
  | 0, _ => none
  | fuel + 1, s => if lim ≤ s then none else if hit s then some s else nxt hit lim fuel (s + 1)
/-- the dots' pattern hits at s -/
def hitA (text : Array Nat) (s : Nat) : Bool := (s == 0 || text[s - 1]?.getD 0 == 10) && text[s]?.getD 0 == 46
def Ends (m : Sre.M) (r : Option (Nat × Nat)) : Prop := match r with
  | some (b, e) => m.outcome = some .matched ∧ m.start = b ∧ m.handed = e
  | none => m.outcome = some .failed
theorem A_search {text : Array Nat} {lim : Nat} : ∀ (fuel s : Nat) (om : Bool) (sn : Seen), lim < s + fuel → s ≤ lim →
    ∃ m', Gets (4 * fuel + 8) (sA text lim s 5 s s om [fA s om] 1 none none sn) m' ∧ Ends m' ((nxt (hitA text) lim fuel s).map fun j => (j, j + 1))
  | 0, s, _, _, h, h' => by omega
  | fuel + 1, s, om, sn, h, h' => by
    by_cases hb : bol text s
    · by_cases hl : lim ≤ s ∨ text[s]?.getD 0 ≠ 46
      · by_cases hs : s < lim
        · obtain ⟨m', g, e⟩ := A_search (text := text) (lim := lim) fuel (s + 1) false (((sn.add 6).add 44).add 16) (by omega) (by omega)
          refine ⟨m', ((Gets.step rfl (A_at_yes hb) (Gets.step rfl (A_lit_no hl) (Gets.step rfl (A_back_no hs) g))).le (by omega)), ?_⟩
          have hne := hl.resolve_left (by omega)
          have : hitA text s = false := by simp [hitA, hne]
          simpa [nxt, this, Nat.not_le.mpr hs] using e
        · refine ⟨_, ((Gets.step rfl (A_at_yes hb) (Gets.step rfl (A_lit_no hl) (Gets.step rfl (A_back_end hs) (Gets.step rfl A_end (Gets.refl _))))).le (by omega)), ?_⟩
          have : lim ≤ s := by omega
          simp [nxt, this, Ends, sA]
      · simp only [not_or, Nat.not_le, Decidable.not_not] at hl
        refine ⟨_, ((Gets.step rfl (A_at_yes hb) (Gets.step rfl (A_lit_yes hl.1 hl.2) (Gets.step rfl A_succ (Gets.step rfl A_back_yes (Gets.step rfl A_end (Gets.refl _)))))).le (by omega)), ?_⟩
        have : hitA text s = true := by
          unfold bol at hb
          rcases hb with hb | hb <;> simp [hitA, hb, hl.2]
          · subst hb; exact hl.2
        simp [nxt, this, Nat.not_le.mpr hl.1, Ends, sA]
    · have : hitA text s = false := by
        unfold bol at hb
        simp only [not_or] at hb
        simp [hitA, hb.1, hb.2]
      by_cases hs : s < lim
      · obtain ⟨m', g, e⟩ := A_search (text := text) (lim := lim) fuel (s + 1) false ((sn.add 6).add 44) (by omega) (by omega)
        refine ⟨m', ((Gets.step rfl (A_at_no hb) (Gets.step rfl (A_back_no hs) g)).le (by omega)), ?_⟩
        simpa [nxt, this, Nat.not_le.mpr hs] using e
      · refine ⟨_, ((Gets.step rfl (A_at_no hb) (Gets.step rfl (A_back_end hs) (Gets.step rfl A_end (Gets.refl _)))).le (by omega)), ?_⟩
        have : lim ≤ s := by omega
        simp [nxt, this, Ends, sA]
theorem A_forSearch {text : Array Nat} {pos lim : Nat} (h : pos ≤ lim) :
    ∃ m', Gets (4 * (lim + 1 - pos) + 8) (forSearch cA text 0 pos lim false) m' ∧ Ends m' ((nxt (hitA text) lim (lim + 1 - pos) pos).map fun j => (j, j + 1)) := by
  by_cases hp : pos < lim
  · have : forSearch cA text 0 pos lim false = sA text lim pos 5 pos pos true [fA pos true] 1 none none (({} : Seen).add 14) := by
      have h1 : ¬ lim < pos := by omega
      have h2 : ¬ lim - pos < 1 := by omega
      unfold forSearch
      simp only [show (header cA).1 = 1 from rfl, show (header cA).2 = 5 from rfl, h1, h2]
      rfl
    rw [this]
    exact A_search _ _ _ _ (by omega) h
  · obtain rfl : pos = lim := by omega
    have : ∃ m : Sre.M, forSearch cA text 0 pos pos false = m ∧ m.frames = [] ∧ m.answer = some false ∧ m.outcome = none := by
      refine ⟨_, rfl, ?_⟩
      unfold forSearch
      have h2 : pos - pos < 1 := by omega
      simp only [show (header cA).1 = 1 from rfl, show (header cA).2 = 5 from rfl, h2, decide_true, Bool.or_true, if_true]
      exact ⟨rfl, rfl, rfl⟩
    obtain ⟨m, e, h1, h2, h3⟩ := this
    rw [e]
    refine ⟨m.step, ((Gets.step h3 rfl (Gets.refl _)).le (by omega)), ?_⟩
    simp [nxt, Ends, show pos + 1 - pos = 1 by omega, M.step, h1, h2, h3]
/-! the line ends' pattern: (?:\r\n|\n|\r(?!\n)) -/
def cB : Array Nat := #[14, 9, 4, 1, 2, 16, 10, 16, 13, 0, 7, 7, 16, 13, 16, 10, 15, 18, 5, 16, 10, 15, 13, 11, 16, 13, 5, 5, 0, 16, 10, 1, 15, 2, 0, 1]
def kB : Sre.Kept := { lastmark := -1, lastindex := -1, whole := false, marks := #[] }
def fB (w : Wait) (pc pos : Nat) (om : Bool) : Sre.Frame := { wait := w, pc := pc, pos := pos, outermost := om, kept := kB }
def fB0 (s : Nat) (om : Bool) : Sre.Frame := { wait := .nextStart, pc := 10, pos := s, outermost := om }
def sB (text : Array Nat) (lim s pc pos hd : Nat) (om : Bool) (fs : List Sre.Frame) (wt : Nat) (an : Option Bool) (oc : Option Sre.Outcome) (sn : Seen) : Sre.M :=
  { code := cB, text, lim, start := s, lastStart := lim, pc, pos, handed := hd, outermost := om, marks := #[], frames := fs, weight := wt, answer := an, seen := sn, outcome := oc }
section
variable {text : Array Nat} {lim s pc pos hd wt : Nat} {om om' : Bool} {sn : Seen} {fs : List Sre.Frame}
theorem B_branch (hw : wt ≤ 10) : (sB text lim s 10 pos hd om fs wt none none sn).step = sB text lim s 12 pos pos om (fB .nextBranch 11 pos om :: fs) (wt + 1) none none (sn.add 7) := by
  have hw' : ¬ 16777216 < wt + 1 := by omega
  simp [sB, fB, kB, M.step, M.exec, M.word, ops, cB, M.alternative, M.attempt, M.frame, M.keep, hw']
theorem B_yes12 (h1 : pos < lim) (h2 : text[pos]?.getD 0 = 13) : (sB text lim s 12 pos hd om fs wt none none sn).step = sB text lim s 14 (pos + 1) hd om fs wt none none (sn.add 16) := by
  simp [sB, M.step, M.exec, M.word, ops, cB, accepts, itemWidth, h2, Nat.not_le.mpr h1]
theorem B_no12 (h2 : lim ≤ pos ∨ text[pos]?.getD 0 ≠ 13) : (sB text lim s 12 pos hd om fs wt none none sn).step = sB text lim s 12 pos hd om fs wt (some false) none (sn.add 16) := by
  by_cases h1 : lim ≤ pos
  · simp [sB, M.step, M.exec, M.word, ops, cB, accepts, itemWidth, h1, M.say]
  · have h2 := beq_eq_false_iff_ne.mpr (h2.resolve_left h1)
    simp [sB, M.step, M.exec, M.word, ops, cB, accepts, itemWidth, h1, h2, M.say]
theorem B_yes14 (h1 : pos < lim) (h2 : text[pos]?.getD 0 = 10) : (sB text lim s 14 pos hd om fs wt none none sn).step = sB text lim s 16 (pos + 1) hd om fs wt none none (sn.add 16) := by
  simp [sB, M.step, M.exec, M.word, ops, cB, accepts, itemWidth, h2, Nat.not_le.mpr h1]
theorem B_no14 (h2 : lim ≤ pos ∨ text[pos]?.getD 0 ≠ 10) : (sB text lim s 14 pos hd om fs wt none none sn).step = sB text lim s 14 pos hd om fs wt (some false) none (sn.add 16) := by
  by_cases h1 : lim ≤ pos
  · simp [sB, M.step, M.exec, M.word, ops, cB, accepts, itemWidth, h1, M.say]
  · have h2 := beq_eq_false_iff_ne.mpr (h2.resolve_left h1)
    simp [sB, M.step, M.exec, M.word, ops, cB, accepts, itemWidth, h1, h2, M.say]
theorem B_yes19 (h1 : pos < lim) (h2 : text[pos]?.getD 0 = 10) : (sB text lim s 19 pos hd om fs wt none none sn).step = sB text lim s 21 (pos + 1) hd om fs wt none none (sn.add 16) := by
  simp [sB, M.step, M.exec, M.word, ops, cB, accepts, itemWidth, h2, Nat.not_le.mpr h1]
theorem B_no19 (h2 : lim ≤ pos ∨ text[pos]?.getD 0 ≠ 10) : (sB text lim s 19 pos hd om fs wt none none sn).step = sB text lim s 19 pos hd om fs wt (some false) none (sn.add 16) := by
  by_cases h1 : lim ≤ pos
  · simp [sB, M.step, M.exec, M.word, ops, cB, accepts, itemWidth, h1, M.say]
  · have h2 := beq_eq_false_iff_ne.mpr (h2.resolve_left h1)
    simp [sB, M.step, M.exec, M.word, ops, cB, accepts, itemWidth, h1, h2, M.say]
theorem B_yes24 (h1 : pos < lim) (h2 : text[pos]?.getD 0 = 13) : (sB text lim s 24 pos hd om fs wt none none sn).step = sB text lim s 26 (pos + 1) hd om fs wt none none (sn.add 16) := by
  simp [sB, M.step, M.exec, M.word, ops, cB, accepts, itemWidth, h2, Nat.not_le.mpr h1]
theorem B_no24 (h2 : lim ≤ pos ∨ text[pos]?.getD 0 ≠ 13) : (sB text lim s 24 pos hd om fs wt none none sn).step = sB text lim s 24 pos hd om fs wt (some false) none (sn.add 16) := by
  by_cases h1 : lim ≤ pos
  · simp [sB, M.step, M.exec, M.word, ops, cB, accepts, itemWidth, h1, M.say]
  · have h2 := beq_eq_false_iff_ne.mpr (h2.resolve_left h1)
    simp [sB, M.step, M.exec, M.word, ops, cB, accepts, itemWidth, h1, h2, M.say]
theorem B_yes29 (h1 : pos < lim) (h2 : text[pos]?.getD 0 = 10) : (sB text lim s 29 pos hd om fs wt none none sn).step = sB text lim s 31 (pos + 1) hd om fs wt none none (sn.add 16) := by
  simp [sB, M.step, M.exec, M.word, ops, cB, accepts, itemWidth, h2, Nat.not_le.mpr h1]
theorem B_no29 (h2 : lim ≤ pos ∨ text[pos]?.getD 0 ≠ 10) : (sB text lim s 29 pos hd om fs wt none none sn).step = sB text lim s 29 pos hd om fs wt (some false) none (sn.add 16) := by
  by_cases h1 : lim ≤ pos
  · simp [sB, M.step, M.exec, M.word, ops, cB, accepts, itemWidth, h1, M.say]
  · have h2 := beq_eq_false_iff_ne.mpr (h2.resolve_left h1)
    simp [sB, M.step, M.exec, M.word, ops, cB, accepts, itemWidth, h1, h2, M.say]
theorem B_jump16 : (sB text lim s 16 pos hd om fs wt none none sn).step = sB text lim s 35 pos hd om fs wt none none (sn.add 15) := by
  simp [sB, M.step, M.exec, M.word, ops, cB]
theorem B_jump21 : (sB text lim s 21 pos hd om fs wt none none sn).step = sB text lim s 35 pos hd om fs wt none none (sn.add 15) := by
  simp [sB, M.step, M.exec, M.word, ops, cB]
theorem B_jump32 : (sB text lim s 32 pos hd om fs wt none none sn).step = sB text lim s 35 pos hd om fs wt none none (sn.add 15) := by
  simp [sB, M.step, M.exec, M.word, ops, cB]
theorem B_succ : (sB text lim s 35 pos hd om fs wt none none sn).step = sB text lim s 35 pos pos om fs wt (some true) none (sn.add 1) := by
  simp [sB, M.step, M.exec, M.word, ops, cB, M.say]
theorem B_bryes {q p : Nat} : (sB text lim s pc pos hd om (fB .nextBranch q p om' :: fs) (wt + 1) (some true) none sn).step = sB text lim s q p hd om' fs wt (some true) none sn := by
  simp [sB, fB, kB, M.step, M.resume, M.say]
theorem B_br18 (hw : wt ≤ 10) {p : Nat} : (sB text lim s pc pos hd om (fB .nextBranch 11 p om' :: fs) (wt + 1) (some false) none sn).step = sB text lim s 19 p p om' (fB .nextBranch 18 p om' :: fs) (wt + 1) none none sn := by
  have hw' : ¬ 16777216 < wt + 1 := by omega
  simp [sB, fB, kB, cB, M.step, M.resume, M.putBack, M.alternative, M.attempt, M.frame, hw']
theorem B_br23 (hw : wt ≤ 10) {p : Nat} : (sB text lim s pc pos hd om (fB .nextBranch 18 p om' :: fs) (wt + 1) (some false) none sn).step = sB text lim s 24 p p om' (fB .nextBranch 23 p om' :: fs) (wt + 1) none none sn := by
  have hw' : ¬ 16777216 < wt + 1 := by omega
  simp [sB, fB, kB, cB, M.step, M.resume, M.putBack, M.alternative, M.attempt, M.frame, hw']
theorem B_not (hw : wt ≤ 10) : (sB text lim s 26 pos hd om fs wt none none sn).step = sB text lim s 29 pos pos false (fB .lookNot 26 pos om :: fs) (wt + 1) none none (sn.add 5) := by
  have hw' : ¬ 16777216 < wt + 1 := by omega
  simp [sB, fB, kB, M.step, M.exec, M.word, ops, cB, M.attempt, M.frame, M.keep, hw']
theorem B_notno {p : Nat} : (sB text lim s pc pos hd om (fB .lookNot 26 p om' :: fs) (wt + 1) (some false) none sn).step = sB text lim s 32 p hd om' fs wt none none sn := by
  simp [sB, fB, kB, cB, M.step, M.resume, M.putBack, M.word]
theorem B_back_yes : (sB text lim s pc pos hd om [fB0 s om'] 1 (some true) none sn).step = sB text lim s 10 s hd om' [] 0 (some true) none sn := by
  simp [sB, fB0, M.step, M.resume, M.say]
theorem B_end {b : Bool} : (sB text lim s pc pos hd om [] 0 (some b) none sn).step = sB text lim s pc pos hd om [] 0 (some b) (some (if b then .matched else .failed)) sn := by
  simp [sB, M.step]
end
/-- where a line end that begins at s ends -/
def endB (text : Array Nat) (lim s : Nat) : Nat := if text[s]?.getD 0 = 13 ∧ s + 1 < lim ∧ text[s + 1]?.getD 0 = 10 then s + 2 else s + 1
def hitB (text : Array Nat) (s : Nat) : Bool := text[s]?.getD 0 == 10 || text[s]?.getD 0 == 13
theorem B_run {text : Array Nat} {lim s : Nat} {om : Bool} {sn : Seen} (h1 : s < lim) (h2 : hitB text s = true) :
    ∃ m', Gets 20 (sB text lim s 10 s s om [fB0 s om] 1 none none sn) m' ∧ Ends m' (some (s, endB text lim s)) := by
  simp only [hitB, Bool.or_eq_true, beq_iff_eq] at h2
  rcases h2 with h2 | h2
  · refine ⟨_, ((Gets.step rfl (B_branch (by omega)) (Gets.step rfl (B_no12 (.inr (by rw [h2]; decide))) (Gets.step rfl (B_br18 (by omega)) (Gets.step rfl (B_yes19 h1 h2)
      (Gets.step rfl B_jump21 (Gets.step rfl B_succ (Gets.step rfl B_bryes (Gets.step rfl B_back_yes (Gets.step rfl B_end (Gets.refl _)))))))))).le (by omega)), ?_⟩
    simp [Ends, sB, endB, h2]
  · by_cases h3 : s + 1 < lim ∧ text[s + 1]?.getD 0 = 10
    · refine ⟨_, ((Gets.step rfl (B_branch (by omega)) (Gets.step rfl (B_yes12 h1 h2) (Gets.step rfl (B_yes14 h3.1 h3.2)
        (Gets.step rfl B_jump16 (Gets.step rfl B_succ (Gets.step rfl B_bryes (Gets.step rfl B_back_yes (Gets.step rfl B_end (Gets.refl _))))))))).le (by omega)), ?_⟩
      simp [Ends, sB, endB, h2, h3]
    · have h4 : lim ≤ s + 1 ∨ text[s + 1]?.getD 0 ≠ 10 := by
        rcases Nat.lt_or_ge (s + 1) lim with q | q
        · exact .inr fun e => h3 ⟨q, e⟩
        · exact .inl q
      refine ⟨_, ((Gets.step rfl (B_branch (by omega)) (Gets.step rfl (B_yes12 h1 h2) (Gets.step rfl (B_no14 h4) (Gets.step rfl (B_br18 (by omega)) (Gets.step rfl (B_no19 (.inr (by rw [h2]; decide)))
        (Gets.step rfl (B_br23 (by omega)) (Gets.step rfl (B_yes24 h1 h2) (Gets.step rfl (B_not (by omega)) (Gets.step rfl (B_no29 h4) (Gets.step rfl B_notno
        (Gets.step rfl B_jump32 (Gets.step rfl B_succ (Gets.step rfl B_bryes (Gets.step rfl B_back_yes (Gets.step rfl B_end (Gets.refl _)))))))))))))))).le (by omega)), ?_⟩
      simp [Ends, sB, endB, h3]
theorem inSet_B (c : Nat) (sn : Seen) : ∃ sn', inSet cB c 36 5 true sn = .ok (c == 10 || c == 13, sn') := by
  by_cases h : c = 10
  · subst h
    exact ⟨_, rfl⟩
  · by_cases h' : c = 13
    · subst h'
      exact ⟨_, rfl⟩
    · have e1 : (c == 10) = false := by simpa using h
      have e2 : (c == 13) = false := by simpa using h'
      refine ⟨((sn.add 16).add 16).add 0, ?_⟩
      show inSet cB c (33 + 1 + 1 + 1) 5 true sn = _
      simp [inSet, ops, cB, e1, e2]
theorem B_admitted {text : Array Nat} {lim : Nat} (m : Sre.M) (hc : m.code = cB) (ht : m.text = text) (hl : m.lim = lim) : ∀ (fuel s : Nat) (sn : Seen),
    ∃ sn', M.admitted m fuel s sn = .ok (nxt (hitB text) lim fuel s, sn')
  | 0, s, sn => ⟨sn, rfl⟩
  | fuel + 1, s, sn => by
    simp only [M.admitted, nxt, hc, ht, hl]
    by_cases h : lim ≤ s
    · exact ⟨sn, by simp [h]⟩
    · obtain ⟨sn', e⟩ := inSet_B (text.getD s 0) sn
      have e' : inSet cB (text.getD s 0) cB.size 5 true sn = .ok (text.getD s 0 == 10 || text.getD s 0 == 13, sn') := e
      simp only [ge_iff_le, h, if_false]
      rw [e']
      have hh : (text.getD s 0 == 10 || text.getD s 0 == 13) = hitB text s := by simp [hitB]
      rw [hh]
      cases hq : hitB text s
      · obtain ⟨sn'', e''⟩ := B_admitted (text := text) (lim := lim) m hc ht hl fuel (s + 1) sn'
        exact ⟨sn'', by simpa using e''⟩
      · exact ⟨sn', by simp⟩
theorem nxt_spec {hit : Nat → Bool} {lim : Nat} : ∀ {fuel s j : Nat}, nxt hit lim fuel s = some j → s ≤ j ∧ j < lim ∧ hit j = true
  | 0, _, _, h => by cases h
  | fuel + 1, s, j, h => by
    simp only [nxt] at h
    split at h
    · cases h
    · split at h
      · cases h; exact ⟨Nat.le_refl _, by omega, by assumption⟩
      · obtain ⟨a, b, c⟩ := nxt_spec h
        exact ⟨by omega, b, c⟩
theorem B_forSearch {text : Array Nat} {pos lim : Nat} (h : pos ≤ lim) :
    ∃ m', Gets 24 (forSearch cB text 0 pos lim false) m' ∧ Ends m' ((nxt (hitB text) lim (lim + 1 - pos) pos).map fun j => (j, endB text lim j)) := by
  by_cases hp : pos < lim
  · have h1 : ¬ lim < pos := by omega
    have h2 : ¬ lim - pos < 1 := by omega
    have : ∃ m : Sre.M, m = sB text lim pos 10 pos pos true [] 0 none none (({} : Seen).add 14) ∧ forSearch cB text 0 pos lim false = m.attemptFrom pos true := by
      refine ⟨_, rfl, ?_⟩
      unfold forSearch
      simp only [show (header cB).1 = 1 from rfl, show (header cB).2 = 10 from rfl, h1, h2]
      rfl
    obtain ⟨m, hm, e⟩ := this
    rw [e]
    obtain ⟨sn', ea⟩ := B_admitted (text := text) (lim := lim) m (by rw [hm]; rfl) (by rw [hm]; rfl) (by rw [hm]; rfl) (lim + 1 - pos) pos m.seen
    have hf : m.hasFirstSet = true := by rw [hm]; rfl
    have hl : m.lim = lim := by rw [hm]; rfl
    unfold M.attemptFrom
    rw [hf, hl, ea]
    cases hn : nxt (hitB text) lim (lim + 1 - pos) pos with
    | none =>
      subst hm
      exact ⟨_, ((Gets.step rfl B_end (Gets.refl _)).le (by omega)), rfl⟩
    | some j =>
      obtain ⟨hj1, hj2, hj3⟩ := nxt_spec hn
      obtain ⟨m', g, en⟩ := B_run (text := text) (lim := lim) (s := j) (om := true) (sn := sn') hj2 hj3
      subst hm
      exact ⟨m', g.le (by omega), en⟩
  · obtain rfl : pos = lim := by omega
    have : ∃ m : Sre.M, forSearch cB text 0 pos pos false = m ∧ m.frames = [] ∧ m.answer = some false ∧ m.outcome = none := by
      refine ⟨_, rfl, ?_⟩
      unfold forSearch
      have h2 : pos - pos < 1 := by omega
      simp only [show (header cB).1 = 1 from rfl, show (header cB).2 = 10 from rfl, h2, decide_true, Bool.or_true, if_true]
      exact ⟨rfl, rfl, rfl⟩
    obtain ⟨m, e, h1, h2, h3⟩ := this
    rw [e]
    refine ⟨m.step, ((Gets.step h3 rfl (Gets.refl _)).le (by omega)), ?_⟩
    simp [nxt, Ends, show pos + 1 - pos = 1 by omega, M.step, h1, h2, h3]
end Mine
end
section
open PySem PySem.W PySem.Calls PyProof.Rows
namespace Mine
set_option maxRecDepth 100000
set_option maxHeartbeats 8000000
theorem pat_pa : PlainAttrs "re.Pattern" :=
  ⟨⟨"object.__getattribute__", by rw [typeLookup_type, builtinLookup_eq_fast]; kernel_rfl, by decide +kernel⟩, by rw [typeLookup_type, builtinLookup_eq_fast]; kernel_rfl⟩
theorem pat_slot : Slot "re.Pattern" "sub" "re.Pattern.sub" :=
  .of (owner := "re.Pattern") (n := "sub") (by rw [typeLookup_type, builtinLookup_eq_fast]; kernel_rfl) (by decide +kernel) (by decide +kernel) (by decide +kernel)
    (by first | exact .inl (by decide +kernel) | exact .inr (by decide +kernel)) (by rw [isSubtype_type]; kernel_rfl)
theorem pat_type : typeOf (.builtin "re.Pattern.sub") = pure (.type "method_descriptor") := by kernel_rfl
theorem pat_entry : entryFor table "re.Pattern.sub" = some Builtin.«re.Pattern.sub» := entryFor_of_fast (by kernel_rfl)
theorem pat_entry2 : entryFor table "re.Pattern.sub.loop" = some Builtin.«re.Pattern.sub.loop» := entryFor_of_fast (by kernel_rfl)
theorem pat_args (a b c : Value) : argsOk "re.Pattern.sub" ⟨[a, b, c], []⟩ := by unfold argsOk; kernel_rfl
end Mine
end
section
open PySem PySem.W PySem.Calls PyProof.Rows
open PySem.Builtin.Re
namespace Mine
set_option maxRecDepth 100000
set_option maxHeartbeats 4000000
section
variable {M : Model} {A : Around} {E : Value → Shared → Prop} {s : Shared}
theorem drive {m' : Sre.M} (ho : m'.outcome.isSome = true) {Q : Sre.M → Shared → Prop} (h : Q m' s) : ∀ (turns n : Nat) (m : Sre.M), Gets n m m' → n < 4 * turns → wpAny M A (reDrive turns m) Q E s
  | 0, n, m, _, hn => by omega
  | turns + 1, n, m, ⟨k, hk, e⟩, hn => by
    unfold reDrive
    show wpAny M A (if (Sre.M.runFor reTurnSteps m).outcome.isSome = true then pure (Sre.M.runFor reTurnSteps m) else _) Q E s
    by_cases hk4 : k ≤ 4
    · have e4 : Sre.M.runFor reTurnSteps m = m' := by
        show Sre.M.runFor 4 m = m'
        rw [show 4 = k + (4 - k) by omega, runFor_add, e, runFor_done ho]
      rw [e4, if_pos ho]
      exact wpAny_pure h
    · have e4 : Sre.M.runFor (k - 4) (Sre.M.runFor reTurnSteps m) = m' := by
        rw [← runFor_add, show reTurnSteps + (k - 4) = k by show 4 + (k - 4) = k; omega, e]
      split
      · rename_i ho4
        rw [runFor_done ho4] at e4
        rw [e4]
        exact wpAny_pure h
      · exact wpAny_bind (wpAny_rule (drive ho h turns (n - 4) _ ⟨k - 4, by omega, e4⟩ (by omega)))
theorem run_to_end {n : Nat} {m m' : Sre.M} {r : Option (Nat × Nat)} {Q : Option Sre.M → Shared → Prop} (g : Gets n m m') (hn : n < 2 ^ 64) (e : Ends m' r)
    (h : Q (r.map fun _ => m') s) : wpAny M A (reRunToEnd m) Q E s := by
  unfold reRunToEnd
  have ho : m'.outcome.isSome = true := by
    cases r with
    | none => rw [show m'.outcome = some .failed from e]; rfl
    | some x => rw [show m'.outcome = some .matched from e.1]; rfl
  refine wpAny_bind (drive ho ?_ _ n m g (by omega))
  refine wpAny_bind ?_
  refine wpAny_forIn_list _ (fun _ _ s' => s' = s) _ (fun x rest b s' hs => ?_) (fun b s' hs => ?_) _ _ rfl
  · subst hs
    split
    · exact wpAny_bind (wpAny_rule (wpAny_pure rfl))
    · exact wpAny_pure rfl
  · subst hs
    cases r with
    | none => rw [show m'.outcome = some .failed from e]; exact wpAny_pure h
    | some x => rw [show m'.outcome = some .matched from e.1]; exact wpAny_pure h
/-- a compiled pattern without groups stands at P -/
structure PatAt (h : Heap) (P : Addr) (code : Array Nat) : Prop where
  pat : ∃ o vs T oT n, h.get? P = some o ∧ o.cls = .type "re.Pattern" ∧ o.dict = none ∧ o.data = .fields vs ∧ vs.getD 2 .none = .int 0 0 ∧ vs.getD 5 .none = .ref T ∧ vs.getD 6 .none = .int 0 0 ∧
    h.get? T = some oT ∧ oT.data = .seq (code.map fun (c : Nat) => Value.int (c : Int) 0) n
theorem PatAt.keeps {h h' : Heap} {P : Addr} {code : Array Nat} (x : PatAt h P code) (k : ∀ b o, h.get? b = some o → h'.get? b = some o) : PatAt h' P code := by
  obtain ⟨o, vs, T, oT, n, h1, h2, h3, h4, h5, h6, h7, h8, h9⟩ := x.pat
  exact ⟨o, vs, T, oT, n, k _ _ h1, h2, h3, h4, h5, h6, h7, k _ _ h8, h9⟩
theorem whole_target {P : Addr} {code : Array Nat} {x : Str} {tx : Tok} {Q : ReTarget → Shared → Prop} (hp : PatAt s.heap P code)
    (h : Q { pattern := .ref P, string := .str x tx, code := code, text := x.cps, kind := 0, groups := 0, pos := 0, lim := x.cps.size } s) :
    wpAny M A (reWholeTarget (.ref P) (.str x tx)) Q E s := by
  obtain ⟨o, vs, T, oT, n, h1, h2, h3, h4, h5, h6, h7, h8, h9⟩ := hp.pat
  unfold reWholeTarget
  refine wpAny_bind (wpAny_fieldsOf h1 h4 ?_)
  refine wpAny_bind ?_
  unfold reTextOf
  refine wpAny_bind ?_
  refine wpAny_pure ?_
  refine wpAny_pure ?_
  rw [h5, h6, h7]
  show wpAny M A (do
    reNoCollectionInside (.str x tx) 0
    let c ← reRawItems (.ref T)
    pure { pattern := .ref P, string := .str x tx, code := c.map (·.toNat), text := x.cps, kind := 0, groups := 0, pos := 0, lim := x.cps.size }) Q E s
  refine wpAny_bind ?_
  refine wpAny_pure ?_
  refine wpAny_bind ?_
  unfold reRawItems
  refine wpAny_bind (wpAny_seqItems h8 h9 ?_)
  refine wpAny_pure ?_
  have : (((some (Array.map (fun (c : Nat) => Value.int c 0) code)).getD #[]).map reRawOf).map (·.toNat) = code := by
    simp only [Option.getD_some, Array.map_map]
    conv => rhs; rw [← Array.map_id code]
    rfl
  rw [this]
  exact wpAny_pure h
end
/-- what is written from place i on: where find says a match, r in its place -/
def outs (text : Array Nat) (find : Nat → Option (Nat × Nat)) (r : List Nat) : Nat → Nat → List Nat
  | 0, _ => []
  | fuel + 1, i => match find i with
    | none => text.toList.drop i
    | some (b, e) => (text.toList.drop i).take (b - i) ++ r ++ outs text find r fuel e
def cat (ps : List (Str × Tok)) : List Nat := ps.flatMap fun p => p.1.cps.toList
theorem cat_append (ps qs : List (Str × Tok)) : cat (ps ++ qs) = cat ps ++ cat qs := by simp [cat]
theorem cat_one (p : Str × Tok) : cat [p] = p.1.cps.toList := by simp [cat]
theorem join_empty (texts : List Str) : (Str.join Str.empty texts).cps.toList = texts.flatMap fun x => x.cps.toList := by
  induction texts with
  | nil => rfl
  | cons x r ih =>
    cases r with
    | nil => simp [Str.join]
    | cons y r =>
      rw [Str.join, Str.cps_append, Str.cps_append]
      · simp only [Array.toList_append]
        rw [ih]
        simp [Str.empty]
      · simp
def subArgs (P : Addr) (x : Str) (tx : Tok) (r : Str) (tr : Tok) (k i : Nat) (l : Addr) : Args :=
  ⟨[.ref P, .str x tx, .str r tr, rawInt 0, rawInt 0, rawInt k, rawInt i, rawInt i, .bool false, .ref l, .bool false], []⟩
structure Finds (code text : Array Nat) (find : Nat → Option (Nat × Nat)) : Prop where
  run : ∀ i, i ≤ text.size → ∃ n m', n < 2 ^ 64 ∧ Gets n (Sre.forSearch code text 0 i text.size false) m' ∧ Ends m' (find i)
  fits : ∀ i b e, i ≤ text.size → find i = some (b, e) → i ≤ b ∧ b < e ∧ e ≤ text.size
theorem push_item {M : Model} {A : Around} {E : Value → Shared → Prop} {s : Shared} {l : Addr} {items : Array Value} {v : Value} {Q : Unit → Shared → Prop} (hl : s.heap.IsList l items) (hsz : items.size < sizeLine)
    (h : ∀ h', h'.IsList l (items.push v) → (∀ b o, b ≠ l → s.heap.get? b = some o → h'.get? b = some o) → Q () { s with heap := h' }) : wpAny M A (updateSeq l (·.push v)) Q E s := by
  obtain ⟨o, ho, hc, n, hd⟩ := hl
  refine wpAny_updateSeq ho hd (h _ ?_ ?_) (by omega) (by rw [Array.size_push]; omega)
  · obtain ⟨c, d, dt, sl⟩ := o
    simp only at hc hd
    subst hc hd
    exact ⟨_, Heap.get?_update_self _ ho rfl, rfl, _, rfl⟩
  · intro b o' hb e
    exact (Heap.get?_update_ne _ _ _ _ hb).trans e
theorem extract_toList (text : Array Nat) (i b : Nat) : (text.extract i b).toList = (text.toList.drop i).take (b - i) := by
  simp
theorem strValues_append (ps qs : List (Str × Tok)) : strValues (ps ++ qs) = strValues ps ++ strValues qs := by simp [strValues]
theorem strValues_length (ps : List (Str × Tok)) : (strValues ps).length = ps.length := by simp [strValues]
theorem push_toArray (ps : List (Str × Tok)) (v : Str) (t : Tok) : (strValues ps).toArray.push (.str v t) = (strValues (ps ++ [(v, t)])).toArray := by
  simp [strValues]
theorem foldl_len : ∀ (l : List Str) (n : Nat), l.foldl (fun n s => n + s.length + Str.empty.length) n = n + (l.flatMap fun x => x.cps.toList).length
  | [], n => by simp
  | x :: r, n => by
    rw [List.foldl_cons, foldl_len r, List.flatMap_cons, List.length_append]
    have : x.cps.toList.length = x.cps.size := Array.length_toList
    rw [this]
    show n + x.cps.size + 0 + _ = _
    omega
theorem joinOk_of (ps : List (Str × Tok)) (h : (cat ps).length ≤ 1000000) : JoinOk Str.empty (ps.map (·.1)) = true := by
  unfold JoinOk Builtin.Str.tooLong
  rw [List.foldl_toArray, foldl_len, List.flatMap_map]
  have : ¬ (0 + (cat ps).length > sizeLine) := by rw [sizeLine_eq]; omega
  show (!decide (0 + (cat ps).length > sizeLine)) = true
  rw [decide_eq_false this]; rfl
theorem maybe_slice {α : Type} {M : Model} {A : Around} {E : Value → Shared → Prop} {s : Shared} {l : Addr} {ps : List (Str × Tok)} {text : Array Nat} {i b : Nat} {jp : Unit → Sem α} {Q : α → Shared → Prop}
    (hl : s.heap.IsList l (strValues ps).toArray) (hps : ps.length ≤ (cat ps).length) (hsz : (cat ps).length ≤ 1000000) (hb : b ≤ text.size) (htx : text.size ≤ 100000)
    (h : ∀ ps' h' tk, h'.IsList l (strValues ps').toArray → cat ps' = cat ps ++ (text.toList.drop i).take (b - i) → ps'.length ≤ (cat ps').length → (∀ c o, c ≠ l → s.heap.get? c = some o → h'.get? c = some o) →
      wpAny M A (jp ()) Q E { s with heap := h', toks := tk }) :
    wpAny M A (if i < b then (do let v ← reSlice text 0 i b; let r ← updateSeq l (fun x => x.push v); jp r) else jp ()) Q E s := by
  split
  · rename_i hib
    refine wpAny_bind (m := mkStr _) (wpAny_mkStr ?_ ?_)
    · refine wpAny_bind (push_item hl (by rw [List.size_toArray, strValues_length, sizeLine_eq]; omega) fun h' hl' hk' => ?_)
      rw [push_toArray] at hl'
      refine h _ _ _ hl' (by rw [cat_append, cat_one]; show cat ps ++ (text.extract i b).toList = _; rw [extract_toList]) ?_ hk'
      have hln : (text.extract i b).toList.length = b - i := by rw [Array.length_toList, Array.size_extract]; omega
      have hl2 : (ps ++ [((⟨text.extract i b⟩ : Str), s.toks)]).length = ps.length + 1 := by simp
      rw [hl2, cat_append, cat_one, List.length_append, hln]
      omega
    · show (text.extract i b).size ≤ sizeLine
      rw [Array.size_extract, sizeLine_eq]
      omega
  · rename_i hib
    have e0 : (text.toList.drop i).take (b - i) = [] := by rw [show b - i = 0 by omega]; rfl
    exact h ps s.heap s.toks hl (by rw [e0, List.append_nil]) hps fun _ _ _ e => e
section
variable {prog : Program} {w : World} {A : Around} {E Q : Value → Shared → Prop}
theorem sub_loop {P : Addr} {code : Array Nat} {x r : Str} {tx tr : Tok} {find : Nat → Option (Nat × Nat)} {l : Addr} {h₀ : Heap} (hf : Finds code x.cps find) (hx : x.cps.size ≤ 100000) (hrn : 0 < r.cps.size)
    (hp : PatAt h₀ P code) (hl0 : h₀.get? l = none) :
    ∀ (fuel i k : Nat) (ps : List (Str × Tok)) (s : Shared), x.cps.size < i + fuel → i ≤ x.cps.size → (∀ b o, h₀.get? b = some o → s.heap.get? b = some o) →
    s.heap.IsList l (strValues ps).toArray → ps.length ≤ (cat ps).length → (cat ps ++ outs x.cps find r.cps.toList fuel i).length ≤ 1000000 →
    (∀ h' tk t y, (∀ b o, h₀.get? b = some o → h'.get? b = some o) → y.cps.toList = cat ps ++ outs x.cps find r.cps.toList fuel i → Q (.str y t) { s with heap := h', toks := tk }) →
    codeAny (model prog w) A (.builtin "re.Pattern.sub.loop" (subArgs P x tx r tr k i l)) (wants Q E) s := by
  intro fuel
  induction fuel with
  | zero => intro i k ps s h h'; omega
  | succ fuel ih =>
    intro i k ps s h hi hk hl hps hsz hq
    refine codeAny_builtin pat_entry2 ?_
    unfold Builtin.«re.Pattern.sub.loop» subArgs rawInt
    refine wpAny_bind (whole_target (hp.keeps hk) ?_)
    refine wpAny_bind ?_
    refine wpAny_pure ?_
    obtain ⟨n, m', hn, hg, he⟩ := hf.run i hi
    refine wpAny_bind (run_to_end (r := find i) hg hn he ?_)
    have hne : ∀ b o, h₀.get? b = some o → b ≠ l := fun b o e q => by rw [q, hl0] at e; cases e
    have hcz : (cat ps).length ≤ 1000000 := by rw [List.length_append] at hsz; omega
    cases hfi : find i with
    | none =>
      refine maybe_slice (i := i) (b := x.cps.size) hl hps hcz (Nat.le_refl _) hx fun ps' h' tk hl' hc' hps' hk' => ?_
      have ho : cat ps' = cat ps ++ outs x.cps find r.cps.toList (fuel + 1) i := by
        rw [hc', outs, hfi]
        rw [List.take_of_length_le (by simp)]
      refine wpAny_bind (m := mkStr _) (wpAny_mkStr ?_ (by show (x.cps.extract 0 0).size ≤ sizeLine; rw [Array.size_extract, sizeLine_eq]; omega))
      obtain ⟨o, ho1, ho2, n', ho3⟩ := hl'
      refine wpAny_bind (wpAny_seqItems ho1 ho3 ?_)
      have hem : (⟨x.cps.extract 0 0⟩ : Str) = Str.empty := by simp [Str.empty]
      dsimp only
      rw [hem]
      simp only [Option.getD_some]
      split
      · rename_i hemp
        refine wpAny_bind (wpAny_pure ?_)
        have : ps' = [] := by
          simp [strValues] at hemp
          exact hemp
        exact wpAny_pure (hq _ _ _ _ (fun b o e => hk' b o (hne b o e) (hk b o e)) (by rw [← ho, this]; rfl))
      · refine wpAny_bind (SC.join (s := { s with heap := h', toks := tk + 1 }) (l := ps') (texts := ps'.map (·.1)) ⟨o, ho1, ho2, n', ho3⟩ rfl ?_ fun t' k' => ?_)
        · exact joinOk_of ps' (by rw [ho]; exact hsz)
        · refine wpAny_pure (hq _ _ _ _ (fun b o e => hk' b o (hne b o e) (hk b o e)) ?_)
          rw [← ho]
          show (Builtin.Str.glued _ _).cps.toList = _
          rw [StrLaws.glued_eq_join, join_empty, cat, List.flatMap_map]
    | some be =>
      obtain ⟨b, e⟩ := be
      rw [hfi] at he
      obtain ⟨f1, f2, f3⟩ := hf.fits i b e hi hfi
      obtain ⟨e1, e2, e3⟩ := he
      simp only [Option.map_some]
      rw [e2, e3]
      have hout : cat ps ++ outs x.cps find r.cps.toList (fuel + 1) i = cat ps ++ (x.cps.toList.drop i).take (b - i) ++ r.cps.toList ++ outs x.cps find r.cps.toList fuel e := by
        rw [outs, hfi]; simp
      refine maybe_slice (i := i) (b := b) hl hps hcz (by omega) hx fun ps' h' tk hl' hc' hps' hk' => ?_
      refine wpAny_bind (wpAny_pure ?_)
      have hcz' : (cat ps').length ≤ 1000000 := by
        rw [hout, ← hc'] at hsz
        simp only [List.length_append] at hsz
        omega
      refine wpAny_bind (push_item hl' (by rw [List.size_toArray, strValues_length, sizeLine_eq]; omega) fun h'' hl'' hk'' => ?_)
      rw [push_toArray] at hl''
      refine wpAny_pure ⟨plainId_quiet (by decide +kernel) _, ?_⟩
      have hbe : (e == b) = false := by simp; omega
      rw [hbe]
      have hc'' : cat (ps' ++ [(r, tr)]) ++ outs x.cps find r.cps.toList fuel e = cat ps ++ outs x.cps find r.cps.toList (fuel + 1) i := by
        rw [cat_append, cat_one, hc', hout]
      refine ih e (k + 1) (ps' ++ [(r, tr)]) { s with heap := h'', toks := tk } (by omega) f3 (fun b o e => hk'' b o (hne b o e) (hk' b o (hne b o e) (hk b o e))) hl'' ?_ (by rw [hc'']; exact hsz) ?_
      · have hl2 : (ps' ++ [(r, tr)]).length = ps'.length + 1 := by simp
        have hl3 : r.cps.toList.length = r.cps.size := Array.length_toList
        rw [hl2, cat_append, cat_one, List.length_append, hl3]
        omega
      · intro h3 tk3 t3 y hk3 hy
        exact hq h3 tk3 t3 y hk3 (by rw [hy, hc''])
theorem str_nocall : typeLookup (.type "str") "__call__" = pure none := by rw [typeLookup_type, builtinLookup_eq_fast]; kernel_rfl
theorem PatAt.typeIs {s : Shared} {P : Addr} {code : Array Nat} (hp : PatAt s.heap P code) : s.TypeIs (.ref P) "re.Pattern" := by
  obtain ⟨o, vs, T, oT, n, h1, h2, h3⟩ := hp.pat
  exact ⟨o, h1, h2⟩
theorem sub_call {s : Shared} {P : Addr} {code : Array Nat} {x r : Str} {tx tr : Tok} {find : Nat → Option (Nat × Nat)} (hf : Finds code x.cps find) (hx : x.cps.size ≤ 100000) (hrn : 0 < r.cps.size) (hrb : r.cps.contains 92 = false)
    (hp : PatAt s.heap P code) (hsz : (outs x.cps find r.cps.toList (x.cps.size + 1) 0).length ≤ 1000000)
    (hq : ∀ h' tk t y, (∀ b o, s.heap.get? b = some o → h'.get? b = some o) → y.cps.toList = outs x.cps find r.cps.toList (x.cps.size + 1) 0 → Q (.str y t) { s with heap := h', toks := tk }) :
    wpAny (model prog w) A (call (.builtin "re.Pattern.sub") [.ref P, .str r tr, .str x tx]) Q E s := by
  refine wpAny_call (codeAny_call_builtin pat_slot.plain pat_entry (pat_slot.check _ _ _ _ _ _ _ _ hp.typeIs (pat_args _ _ _) ?_))
  unfold Builtin.«re.Pattern.sub» reSubstitute
  have hnamed : reNamed "re.Pattern.sub" "sub" ["repl", "string", "count"] 2 [.str r tr, .str x tx] [] = pure [some (.str r tr), some (.str x tx), none] := rfl
  show wpAny _ _ (reNamed "re.Pattern.sub" "sub" ["repl", "string", "count"] 2 [.str r tr, .str x tx] [] >>= _) _ _ s
  rw [hnamed]
  refine wpAny_bind (wpAny_pure ?_)
  dsimp only
  refine wpAny_bind (wpAny_pure ?_)
  refine wpAny_bind (wpAny_specialOf (typeIs_str _ _ _) str_nocall ?_)
  simp only [Option.isSome_none, Bool.false_eq_true, if_false]
  refine wpAny_bind ?_
  refine wpAny_pure ?_
  refine wpAny_bind (wpAny_pure ?_)
  rw [hrb]
  simp only [Bool.not_false, if_true]
  refine wpAny_bind (wpAny_pure ?_)
  refine wpAny_bind (wpAny_holding (whole_target hp ?_))
  refine wpAny_bind (wpAny_newList ?_ (by simp))
  refine wpAny_pure ⟨plainId_quiet (by decide +kernel) _, ?_⟩
  have hk : ∀ b o, s.heap.get? b = some o → (s.heap.push { cls := .type "list", data := .seq [].toArray }).get? b = some o := fun b o e => Heap.get?_push_of_some _ e
  refine sub_loop (h₀ := s.heap) (P := P) (code := code) (find := find) hf hx hrn hp (Heap.get?_none_of_le (Nat.le_refl _)) (x.cps.size + 1) 0 0 [] _ (by omega) (by omega) hk ⟨_, Heap.get?_push_size _ rfl, rfl, _, rfl⟩ (by simp [cat]) (by simpa [cat] using hsz) ?_
  intro h' tk t y hk' hy
  exact hq h' tk t y hk' (by simpa [cat] using hy)
end
end Mine
end
section
open PySem PySem.W PySem.Calls PyProof.Rows
namespace Mine
set_option maxRecDepth 100000
set_option maxHeartbeats 4000000
def findOf (hit : Nat → Bool) (en : Nat → Nat) (n i : Nat) : Option (Nat × Nat) := (nxt hit n (n + 1 - i) i).map fun j => (j, en j)
section
variable {text : Array Nat} {hit : Nat → Bool} {en : Nat → Nat} {r : List Nat}
theorem find_stop : findOf hit en text.size text.size = none := by
  simp [findOf, nxt, show text.size + 1 - text.size = 1 by omega]
theorem find_hit {i : Nat} (hi : i < text.size) (h : hit i = true) : findOf hit en text.size i = some (i, en i) := by
  rw [findOf, show text.size + 1 - i = (text.size - i) + 1 by omega, nxt, if_neg (by omega), h]
  rfl
theorem find_miss {i : Nat} (hi : i < text.size) (h : hit i = false) : findOf hit en text.size i = findOf hit en text.size (i + 1) := by
  rw [findOf, show text.size + 1 - i = (text.size - i) + 1 by omega, nxt, if_neg (by omega), h, findOf, show text.size + 1 - (i + 1) = text.size - i by omega]
  rfl
theorem find_ge {i b e : Nat} (h : findOf hit en text.size i = some (b, e)) : i ≤ b ∧ b < text.size ∧ hit b = true ∧ e = en b := by
  unfold findOf at h
  cases hn : nxt hit text.size (text.size + 1 - i) i with
  | none => rw [hn] at h; cases h
  | some j =>
    rw [hn] at h
    cases h
    obtain ⟨a, b, c⟩ := nxt_spec hn
    exact ⟨a, b, c, rfl⟩
theorem outs_stop {f : Nat} : outs text (findOf hit en text.size) r (f + 1) text.size = [] := by
  rw [outs, find_stop]
  simp
theorem outs_hit {f i : Nat} (hi : i < text.size) (h : hit i = true) : outs text (findOf hit en text.size) r (f + 1) i = r ++ outs text (findOf hit en text.size) r f (en i) := by
  rw [outs, find_hit hi h]
  simp
theorem drop_all : text.toList.drop text.size = [] := List.drop_eq_nil_of_le (by simp)
theorem drop_cons {i : Nat} (hi : i < text.size) : text.toList.drop i = text[i]?.getD 0 :: text.toList.drop (i + 1) := by
  rw [List.drop_eq_getElem_cons (by simpa using hi)]
  simp [hi]
theorem outs_miss {f i : Nat} (hi : i < text.size) (h : hit i = false) :
    outs text (findOf hit en text.size) r (f + 1) i = text[i]?.getD 0 :: outs text (findOf hit en text.size) r (f + 1) (i + 1) := by
  rw [outs, outs, find_miss hi h]
  cases hf : findOf hit en text.size (i + 1) with
  | none => exact drop_cons hi
  | some be =>
    obtain ⟨b, e⟩ := be
    have hb := find_ge hf
    simp only
    rw [drop_cons hi, show b - i = (b - (i + 1)) + 1 by omega, List.take_succ_cons]
    rfl
end
/-- a dot at a row's front doubled; p: a row begins here -/
def gA : Bool → List Nat → List Nat
  | _, [] => []
  | p, c :: r => if p = true ∧ c = 46 then 46 :: 46 :: gA false r else c :: gA (c == 10) r
/-- every line end as 13, 10 -/
def gB : List Nat → List Nat
  | [] => []
  | 13 :: 10 :: r => 13 :: 10 :: gB r
  | c :: r => if c = 13 ∨ c = 10 then 13 :: 10 :: gB r else c :: gB r
theorem outs_A {text : Array Nat} : ∀ (k f i : Nat), text.size - i ≤ k → i ≤ text.size → text.size - i < f + 1 →
    outs text (findOf (hitA text) (· + 1) text.size) [46, 46] (f + 1) i = gA (i == 0 || text[i - 1]?.getD 0 == 10) (text.toList.drop i) := by
  intro k
  induction k with
  | zero =>
    intro f i hk hi hf
    obtain rfl : i = text.size := by omega
    rw [outs_stop, drop_all, gA]
  | succ k ih =>
    intro f i hk hi hf
    by_cases hlt : i < text.size
    · rw [drop_cons hlt, gA]
      cases hh : hitA text i
      · rw [outs_miss hlt hh, ih f (i + 1) (by omega) (by omega) (by omega), if_neg]
        · simp
        · unfold hitA at hh
          intro ⟨h1, h2⟩
          rw [h1, h2] at hh
          simp at hh
      · unfold hitA at hh
        simp only [Bool.and_eq_true, beq_iff_eq] at hh
        obtain ⟨f', rfl⟩ : ∃ f', f = f' + 1 := ⟨f - 1, by omega⟩
        rw [outs_hit hlt (by unfold hitA; rw [hh.1, hh.2]; rfl), ih f' (i + 1) (by omega) (by omega) (by omega), if_pos hh]
        rw [show ((i + 1 == 0 || text[i + 1 - 1]?.getD 0 == 10) : Bool) = false by simp [hh.2]]
        rfl
    · obtain rfl : i = text.size := by omega
      rw [outs_stop, drop_all, gA]
theorem outs_B {text : Array Nat} : ∀ (k f i : Nat), text.size - i ≤ k → i ≤ text.size → text.size - i < f + 1 →
    outs text (findOf (hitB text) (endB text text.size) text.size) [13, 10] (f + 1) i = gB (text.toList.drop i) := by
  intro k
  induction k with
  | zero =>
    intro f i hk hi hf
    obtain rfl : i = text.size := by omega
    rw [outs_stop, drop_all, gB]
  | succ k ih =>
    intro f i hk hi hf
    by_cases hlt : i < text.size
    · cases hh : hitB text i
      · rw [outs_miss hlt hh, ih f (i + 1) (by omega) (by omega) (by omega), drop_cons hlt]
        unfold hitB at hh
        simp only [Bool.or_eq_false_iff, beq_eq_false_iff_ne] at hh
        rw [gB, if_neg (by omega)]
        intro r e
        exact absurd e hh.2
      · obtain ⟨f', rfl⟩ : ∃ f', f = f' + 1 := ⟨f - 1, by omega⟩
        rw [outs_hit hlt hh]
        unfold hitB at hh
        simp only [Bool.or_eq_true, beq_iff_eq] at hh
        by_cases h2 : text[i]?.getD 0 = 13 ∧ i + 1 < text.size ∧ text[i + 1]?.getD 0 = 10
        · rw [show endB text text.size i = i + 2 from if_pos h2, ih f' (i + 2) (by omega) (by omega) (by omega), drop_cons hlt, drop_cons h2.2.1, h2.1, h2.2.2, gB]
          rfl
        · rw [show endB text text.size i = i + 1 from if_neg h2, ih f' (i + 1) (by omega) (by omega) (by omega), drop_cons hlt, gB]
          · rw [if_pos (by omega)]
            rfl
          · intro r e1 e2
            apply h2
            refine ⟨e1, ?_⟩
            by_cases h3 : i + 1 < text.size
            · rw [drop_cons h3] at e2
              injection e2 with e3 e4
              exact ⟨h3, e3⟩
            · rw [List.drop_eq_nil_of_le (by simp; omega)] at e2
              cases e2
    · obtain rfl : i = text.size := by omega
      rw [outs_stop, drop_all, gB]
theorem finds_A {text : Array Nat} (h : text.size ≤ 100000) : Finds cA text (findOf (hitA text) (· + 1) text.size) where
  run i hi := by
    obtain ⟨m', g, e⟩ := A_forSearch (text := text) hi
    exact ⟨_, m', by omega, g, e⟩
  fits i b e hi hf := by
    obtain ⟨h1, h2, h3, h4⟩ := find_ge hf
    subst h4
    exact ⟨h1, by show b < b + 1; omega, by show b + 1 ≤ _; omega⟩
theorem finds_B {text : Array Nat} : Finds cB text (findOf (hitB text) (endB text text.size) text.size) where
  run i hi := by
    obtain ⟨m', g, e⟩ := B_forSearch (text := text) hi
    exact ⟨_, m', by omega, g, e⟩
  fits i b e hi hf := by
    obtain ⟨h1, h2, h3, h4⟩ := find_ge hf
    subst h4
    unfold endB
    split
    · exact ⟨h1, by omega, by omega⟩
    · exact ⟨h1, by omega, by omega⟩
section
variable {prog : Program} {w : World} {A : Around} {E Q : Value → Shared → Prop} {s : Shared} {P : Addr} {x r : Str} {tx tr : Tok}
theorem sub_A (hx : x.cps.size ≤ 100000) (hr : r.cps = #[46, 46]) (hp : PatAt s.heap P cA) (hsz : (gA true x.cps.toList).length ≤ 1000000)
    (hq : ∀ h' tk t y, (∀ b o, s.heap.get? b = some o → h'.get? b = some o) → y.cps.toList = gA true x.cps.toList → Q (.str y t) { s with heap := h', toks := tk }) :
    wpAny (model prog w) A (call (.builtin "re.Pattern.sub") [.ref P, .str r tr, .str x tx]) Q E s := by
  have ho := outs_A (text := x.cps) x.cps.size x.cps.size 0 (by omega) (by omega) (by omega)
  have hrl : r.cps.toList = [46, 46] := by rw [hr]
  rw [show ((0 == 0 || x.cps[0 - 1]?.getD 0 == 10) : Bool) = true from rfl, List.drop_zero] at ho
  refine sub_call (finds_A hx) hx (by rw [hr]; decide) (by rw [hr]; simp) hp (by rw [hrl, ho]; exact hsz) fun h' tk t y hk hy => hq h' tk t y hk ?_
  rw [hy, hrl, ho]
theorem sub_B (hx : x.cps.size ≤ 100000) (hr : r.cps = #[13, 10]) (hp : PatAt s.heap P cB) (hsz : (gB x.cps.toList).length ≤ 1000000)
    (hq : ∀ h' tk t y, (∀ b o, s.heap.get? b = some o → h'.get? b = some o) → y.cps.toList = gB x.cps.toList → Q (.str y t) { s with heap := h', toks := tk }) :
    wpAny (model prog w) A (call (.builtin "re.Pattern.sub") [.ref P, .str r tr, .str x tx]) Q E s := by
  have ho := outs_B (text := x.cps) x.cps.size x.cps.size 0 (by omega) (by omega) (by omega)
  have hrl : r.cps.toList = [13, 10] := by rw [hr]
  rw [List.drop_zero] at ho
  refine sub_call finds_B hx (by rw [hr]; decide) (by rw [hr]; simp) hp (by rw [hrl, ho]; exact hsz) fun h' tk t y hk hy => hq h' tk t y hk ?_
  rw [hy, hrl, ho]
end
theorem gA_len : ∀ (p : Bool) (l : List Nat), (gA p l).length ≤ 2 * l.length
  | _, [] => by simp [gA]
  | p, c :: r => by
    rw [gA]
    split
    · have := gA_len false r
      simp only [List.length_cons]; omega
    · have := gA_len (c == 10) r
      simp only [List.length_cons]; omega
theorem gB_len (l : List Nat) : (gB l).length ≤ 2 * l.length := by
  induction l using gB.induct with
  | case1 => simp [gB]
  | case2 r ih => rw [gB]; simp only [List.length_cons]; omega
  | case3 c r h1 h2 ih => rw [gB, if_pos h2] <;> first | (simp only [List.length_cons]; omega) | assumption
  | case4 c r h1 h2 ih => rw [gB, if_neg h2] <;> first | (simp only [List.length_cons]; omega) | assumption
end Mine
end
section
open PySem
namespace Mine
set_option maxRecDepth 100000
set_option maxHeartbeats 4000000
open PySem.Builtin.Str PySem.StrLaws
def hitS (x y : Str) (i : Nat) : Bool := decide (i + y.length ≤ x.length) && subAt x y i
def scan (x y : Str) : Nat → Nat → List Nat
  | 0, _ => []
  | fuel + 1, i => if x.length < i then [] else if hitS x y i then i :: scan x y fuel (i + y.length) else scan x y fuel (i + 1)
theorem scan_fuel {x y : Str} (hy : 0 < y.length) : ∀ (f g i : Nat), x.length < i + f → x.length < i + g → scan x y f i = scan x y g i
  | 0, 0, _, _, _ => rfl
  | 0, g + 1, i, h, _ => by rw [scan, scan, if_pos (by omega)]
  | f + 1, 0, i, _, h => by rw [scan, scan, if_pos (by omega)]
  | f + 1, g + 1, i, h, h' => by
    rw [scan, scan]
    split
    · rfl
    · split
      · rw [scan_fuel hy f g (i + y.length) (by omega) (by omega)]
      · rw [scan_fuel hy f g (i + 1) (by omega) (by omega)]
theorem occ_run {x y : Str} (hy : 0 < y.length) (limit : Nat) : ∀ (m i free : Nat) (found : Array Nat), x.length + 1 - i = m → i ≤ x.length + 1 → found.size + (x.length + 1 - max i free) ≤ limit →
    (forIn (List.range' i m) (found, free) (occBody x y x.length limit)).run.fst.toList = found.toList ++ scan x y (x.length + 1) (max i free)
  | 0, i, free, found, hm, hi, hs => by
    have : x.length < max i free := by omega
    rw [scan, if_pos this]
    simp
  | m + 1, i, free, found, hm, hi, hs => by
    rw [List.range'_succ, List.forIn_cons]
    unfold occBody
    by_cases hf : free ≤ i
    · rw [Nat.max_eq_left hf] at hs ⊢
      cases hh : hitS x y i
      · have hn : ¬ (((found.size < limit ∧ free ≤ i) ∧ i + y.length ≤ x.length) ∧ subAt x y i = true) := by
          intro ⟨⟨_, h1⟩, h2⟩
          simp [hitS, h1, h2] at hh
        rw [if_neg hn]
        have := occ_run (x := x) hy limit m (i + 1) free found (by omega) (by omega) (by rw [Nat.max_eq_left (by omega)]; omega)
        rw [Nat.max_eq_left (by omega)] at this
        show (forIn (List.range' (i + 1) m) (found, free) (occBody x y x.length limit)).run.fst.toList = _
        have e : scan x y (x.length + 1) i = scan x y x.length (i + 1) := by rw [scan, if_neg (by omega), hh]; rfl
        rw [this, e, scan_fuel hy (x.length + 1) x.length (i + 1) (by omega) (by omega)]
      · have hc := hh
        simp only [hitS, Bool.and_eq_true, decide_eq_true_eq] at hc
        have hp : ((found.size < limit ∧ free ≤ i) ∧ i + y.length ≤ x.length) ∧ subAt x y i = true := ⟨⟨⟨by omega, hf⟩, hc.1⟩, hc.2⟩
        rw [if_pos hp]
        have := occ_run (x := x) hy limit m (i + 1) (i + y.length) (found.push i) (by omega) (by omega) (by rw [Nat.max_eq_right (by omega), Array.size_push]; omega)
        rw [Nat.max_eq_right (by omega)] at this
        show (forIn (List.range' (i + 1) m) (found.push i, i + y.length) (occBody x y x.length limit)).run.fst.toList = _
        have e : scan x y (x.length + 1) i = i :: scan x y x.length (i + y.length) := by rw [scan, if_neg (by omega), hh]; rfl
        rw [this, e, scan_fuel hy (x.length + 1) x.length (i + y.length) (by omega) (by omega)]
        simp
    · have hn : ¬ (((found.size < limit ∧ free ≤ i) ∧ i + y.length ≤ x.length) ∧ subAt x y i = true) := fun h => hf h.1.1.2
      rw [if_neg hn]
      rw [Nat.max_eq_right (by omega)] at hs ⊢
      have := occ_run (x := x) hy limit m (i + 1) free found (by omega) (by omega) (by rw [Nat.max_eq_right (by omega)]; omega)
      rw [Nat.max_eq_right (by omega)] at this
      exact this
theorem occ_scan {x y : Str} (hy : 0 < y.length) : occurrences x y 0 x.length (x.length + 1) = scan x y (x.length + 1) 0 := by
  rw [occ_eq]
  have := occ_run (x := x) hy (x.length + 1) (x.length + 1) 0 0 #[] (by omega) (by omega) (by simp)
  simpa using this
/-- the parts of a text between its separators; s signs of a separator are still to be left out -/
def spl (y : List Nat) : Nat → List Nat → List (List Nat)
  | _, [] => [[]]
  | s + 1, _ :: r => spl y s r
  | 0, c :: r => if y.isPrefixOf (c :: r) then [] :: spl y (y.length - 1) r else match spl y 0 r with
    | h :: t => (c :: h) :: t
    | [] => [[c]]
theorem spl_skip (y : List Nat) : ∀ (s : Nat) (l : List Nat), s ≤ l.length → spl y s l = spl y 0 (l.drop s)
  | 0, l, _ => rfl
  | s + 1, [], h => by simp at h
  | s + 1, c :: r, h => by
    rw [spl, spl_skip y s r (by simpa using h)]
    rfl
theorem spl_ne (y : List Nat) : ∀ (s : Nat) (l : List Nat), spl y s l ≠ []
  | s, [] => by cases s <;> simp [spl]
  | s + 1, c :: r => by rw [spl]; exact spl_ne y s r
  | 0, c :: r => by
    rw [spl]
    split
    · simp
    · split <;> simp
def partsL (l : List Nat) (cuts : List Nat) (k : Nat) (a : Nat) : List (List Nat) := ((a :: cuts.map (· + k)).zip (cuts ++ [l.length])).map fun p => (l.drop p.1).take (p.2 - p.1)
theorem prefix_take (y l : List Nat) : y.isPrefixOf l = (l.take y.length == y) := by
  induction y generalizing l with
  | nil => simp
  | cons c y ih =>
    cases l with
    | nil => simp
    | cons d l =>
      rw [List.isPrefixOf_cons_cons, ih, List.length_cons, List.take_succ_cons]
      by_cases h : c = d
      · subst h; simp
      · have h1 : (c == d) = false := by simpa using h
        have h2 : (d == c) = false := by simpa using fun e => h e.symm
        simp [h1, h2]
theorem hitS_prefix {x y : Str} {i : Nat} (hy : 0 < y.length) : hitS x y i = y.cps.toList.isPrefixOf (x.cps.toList.drop i) := by
  rw [hitS, subAt_eq, prefix_take]
  show (_ && ((x.cps.toList.drop i).take y.cps.size == y.cps.toList)) = ((x.cps.toList.drop i).take y.cps.toList.length == y.cps.toList)
  rw [Array.length_toList]
  cases h : ((x.cps.toList.drop i).take y.cps.size == y.cps.toList)
  · simp
  · have h1 := congrArg List.length (eq_of_beq h)
    simp only [List.length_take, List.length_drop, Array.length_toList] at h1
    have hy' : 0 < y.cps.size := hy
    have : i + y.length ≤ x.length := by show i + y.cps.size ≤ x.cps.size; omega
    simp [this]
theorem scan_ge {x y : Str} : ∀ (f a : Nat), ∀ i ∈ scan x y f a, a ≤ i
  | 0, _, i, h => by simp [scan] at h
  | f + 1, a, i, h => by
    rw [scan] at h
    split at h
    · simp at h
    · split at h
      · rcases List.mem_cons.mp h with rfl | h
        · exact Nat.le_refl _
        · have := scan_ge f _ i h; omega
      · have := scan_ge f _ i h; omega
theorem parts_spl {x y : Str} (hy : 0 < y.length) : ∀ (f a : Nat), x.length < a + f → a ≤ x.length →
    partsL x.cps.toList (scan x y f a) y.length a = spl y.cps.toList 0 (x.cps.toList.drop a)
  | 0, a, h, h' => by omega
  | f + 1, a, h, h' => by
    have hyl : y.cps.toList.length = y.length := Array.length_toList
    have hxl : x.cps.toList.length = x.length := Array.length_toList
    rw [scan, if_neg (by omega)]
    by_cases hlt : a < x.length
    · have hd : x.cps.toList.drop a = x.cps.toList[a]'(by omega) :: x.cps.toList.drop (a + 1) := List.drop_eq_getElem_cons (by omega)
      cases hh : hitS x y a
      · rw [if_neg (by simp)]
        have ih := parts_spl (x := x) hy f (a + 1) (by omega) (by omega)
        rw [hitS_prefix hy, hd] at hh
        rw [hd, spl, hh, if_neg (by simp), ← ih]
        cases hs : scan x y f (a + 1) with
        | nil =>
          simp only [partsL, List.map_nil, List.nil_append, List.zip_cons_cons, List.zip_nil_right, List.map_cons, hxl]
          rw [hd, show x.length - a = (x.length - (a + 1)) + 1 by omega, List.take_succ_cons]
        | cons i r =>
          have hi : a + 1 ≤ i := scan_ge f (a + 1) i (by rw [hs]; exact .head _)
          simp only [partsL, List.map_cons, List.cons_append, List.zip_cons_cons]
          rw [hd, show i - a = (i - (a + 1)) + 1 by omega, List.take_succ_cons]
      · rw [if_pos rfl]
        have hb := hh
        simp only [hitS, Bool.and_eq_true, decide_eq_true_eq] at hb
        have ih := parts_spl (x := x) hy f (a + y.length) (by omega) (by omega)
        rw [hitS_prefix hy, hd] at hh
        rw [hd, spl, hh, if_pos rfl]
        rw [spl_skip _ _ _ (by rw [hyl, List.length_drop]; omega), List.drop_drop, hyl, show a + 1 + (y.length - 1) = a + y.length by omega, ← ih]
        simp only [partsL, List.map_cons, List.cons_append, List.zip_cons_cons, Nat.sub_self, List.take_zero]
    · obtain rfl : a = x.length := by omega
      have hh : hitS x y x.length = false := by simp [hitS]; omega
      rw [hh, if_neg (by simp)]
      have : scan x y f (x.length + 1) = [] := by
        cases f with
        | zero => rfl
        | succ f => rw [scan, if_pos (by omega)]
      rw [this, List.drop_eq_nil_of_le (by omega), spl]
      simp [partsL, hxl]
theorem split_spl {x y : Str} (hy : 0 < y.length) (hk : Builtin.Str.strKind y = 1) : (Txt.split x y).map (fun p => p.cps.toList) = spl y.cps.toList 0 x.cps.toList := by
  have hp := parts_spl (x := x) hy (x.length + 1) 0 (by omega) (by omega)
  rw [List.drop_zero] at hp
  have hx1 : 1 ≤ Builtin.Str.strKind x := by unfold Builtin.Str.strKind; split <;> (try split) <;> omega
  have hxl : x.cps.toList.length = x.length := Array.length_toList
  unfold Txt.split
  rw [occ_scan hy]
  by_cases h1 : x.length < y.length
  · rw [if_pos (by simp [h1])]
    have : scan x y (x.length + 1) 0 = [] := by
      have hall : ∀ (f i : Nat), scan x y f i = [] := by
        intro f
        induction f with
        | zero => intro i; rfl
        | succ f ih =>
          intro i
          have : hitS x y i = false := by simp [hitS]; omega
          rw [scan, this, if_neg (by simp : ¬ (false = true)), ih]
          split <;> rfl
      exact hall _ _
    rw [this] at hp
    rw [← hp]
    simp [partsL]
    exact (List.take_of_length_le (Nat.le_of_eq hxl)).symm
  · rw [if_neg (by simp [h1, hk]; omega)]
    rw [← hp]
    cases hs : scan x y (x.length + 1) 0 with
    | nil =>
      simp [partsL]
      exact (List.take_of_length_le (Nat.le_of_eq hxl)).symm
    | cons i r =>
      rw [if_neg (by simp)]
      unfold partsBetween partsL
      rw [List.map_map, hxl]
      apply List.map_congr_left
      rintro ⟨a, b⟩ _
      simp [strSub_toList]
/-! parts, by hand -/
theorem spl_free {y : List Nat} {c : Nat} {ys : List Nat} (hy : y = c :: ys) : ∀ (t : List Nat), c ∉ t → spl y 0 t = [t]
  | [], _ => rfl
  | d :: t, h => by
    have hd : c ≠ d := fun e => h (by rw [e]; exact .head _)
    rw [spl, if_neg, spl_free hy t fun q => h (.tail _ q)]
    subst hy
    simp [hd]
theorem spl_cut {y : List Nat} {c : Nat} {ys : List Nat} (hy : y = c :: ys) (rest : List Nat) : ∀ (t : List Nat), c ∉ t → spl y 0 (t ++ y ++ rest) = t :: spl y 0 rest
  | [], _ => by
    subst hy
    rw [List.nil_append, List.cons_append, spl, if_pos, spl_skip]
    · simp
    · simp
    · rw [prefix_take]
      simp
  | d :: t, h => by
    have hd : c ≠ d := fun e => h (by rw [e]; exact .head _)
    have ih := spl_cut hy rest t fun q => h (.tail _ q)
    rw [List.cons_append, List.cons_append, spl, if_neg, ih]
    subst hy
    simp [hd]
/-- a sign turned into another -/
def swap (a b : Nat) (l : List Nat) : List Nat := l.map fun c => if c = a then b else c
def glue (z : List Nat) : List (List Nat) → List Nat
  | [] => []
  | [t] => t
  | t :: r => t ++ z ++ glue z r
theorem join_glue (z : Str) : ∀ l : List Str, (Str.join z l).cps.toList = glue z.cps.toList (l.map fun p => p.cps.toList)
  | [] => rfl
  | [t] => rfl
  | t :: u :: r => by
    rw [Str.join, Str.cps_append, Str.cps_append]
    · simp only [Array.toList_append]
      rw [join_glue z (u :: r)]
      rfl
    · simp
theorem glue_spl (a b : Nat) : ∀ l : List Nat, glue [b] (spl [a] 0 l) = swap a b l
  | [] => rfl
  | c :: r => by
    have ih := glue_spl a b r
    rw [spl]
    by_cases h : a = c
    · subst h
      rw [if_pos (by simp)]
      show glue [b] ([] :: spl [a] 0 r) = _
      cases hs : spl [a] 0 r with
      | nil => exact absurd hs (spl_ne _ _ _)
      | cons t u =>
        rw [hs] at ih
        show [] ++ [b] ++ glue [b] (t :: u) = _
        rw [ih]
        simp [swap]
    · rw [if_neg (by simp [h])]
      cases hs : spl [a] 0 r with
      | nil => exact absurd hs (spl_ne _ _ _)
      | cons t u =>
        rw [hs] at ih
        have h' : ¬ c = a := fun e => h e.symm
        cases u with
        | nil => simpa [glue, swap, h'] using ih
        | cons u v =>
          simp only [glue, swap, List.map_cons, h', if_false, List.cons_append] at ih ⊢
          rw [ih]
theorem replace_swap (x : Str) (a b : Nat) (ha : a < 256) : (Txt.replace x ⟨#[a]⟩ ⟨#[b]⟩).cps.toList = swap a b x.cps.toList := by
  rw [replace_one, join_glue, split_spl (by show 0 < 1; omega) (by simp [Builtin.Str.strKind, ha]), ← glue_spl]
end Mine
end
section
open PySem PySem.Builtin.Str PyProof.Rows
namespace Mine
set_option maxRecDepth 100000
set_option maxHeartbeats 4000000
section
variable {prog : Program} {w : World} {A : Around} {E : Value → Shared → Prop} {s : Shared} {x y : Str} {t u : Tok} {Q : Value → Shared → Prop}
theorem mul_toList (x : Str) (n : Int) (c : Nat) (hx : x.cps = #[c]) : (Txt.mul x n).cps.toList = List.replicate n.toNat c := by
  have hf : ∀ (k : Nat) (a : Array Nat), ((List.replicate k (#[c] : Array Nat)).foldl (· ++ ·) a).toList = a.toList ++ List.replicate k c := by
    intro k
    induction k with
    | zero => intro a; simp
    | succ k ih => intro a; rw [List.replicate_succ, List.foldl_cons, ih]; simp [List.replicate_succ]
  unfold Txt.mul
  split
  · rename_i h
    rw [show n.toNat = 0 by omega]
    rfl
  · split
    · rename_i h1 h2
      have : n = 1 := by
        have hl : (x.length == 0) = false := by show (x.cps.size == 0) = false; rw [hx]; rfl
        rw [hl, Bool.or_false] at h2
        exact eq_of_beq h2
      subst this
      rw [hx]
      rfl
    · show ((List.replicate n.toNat x.cps).foldl (· ++ ·) #[]).toList = _
      rw [hx, hf]
      rfl
theorem str_mul {c : Nat} {n : Int} (hx : x.cps = #[c]) (h0 : 0 ≤ n) (h1 : n ≤ 1000) (h : ∀ y t' k, y.cps.toList = List.replicate n.toNat c → Q (.str y t') { s with toks := k }) :
    wpAny (model prog w) A (binaryOp .Mult (.str x t) (.int n u)) Q E s :=
  SB.mul (mulOk_of 16 1048576 (by show x.cps.size ≤ 16; rw [hx]; show 1 ≤ 16; omega) (by omega) (by omega) (by decide) (by decide)) fun t' k => h _ t' k (mul_toList x n c hx)
theorem str_add (h1 : x.cps.toList.length ≤ 100000) (h2 : y.cps.toList.length ≤ 100000) (h : ∀ z t' k, z.cps.toList = x.cps.toList ++ y.cps.toList → Q (.str z t') { s with toks := k }) :
    wpAny (model prog w) A (binaryOp .Add (.str x t) (.str y u)) Q E s :=
  SB.add (fun t' k => h _ t' k (by rw [Str.cps_append]; simp)) (by
    have e1 : x.cps.toList.length = x.length := Array.length_toList
    have e2 : y.cps.toList.length = y.length := Array.length_toList
    rw [sizeLine_eq]; omega)
end
theorem crlf_kind : Builtin.Str.strKind (Str.ofString "\r\n") = 1 := by decide +kernel
theorem crlf_len : 0 < (Str.ofString "\r\n").length := by decide +kernel
theorem crlf_cps : (Str.ofString "\r\n").cps.toList = [13, 10] := by decide +kernel
theorem crlf_len0 : ((Str.ofString "\r\n").length == 0) = false := by decide +kernel
theorem dot_ofString : Str.ofString "." = ⟨#[46]⟩ := by decide +kernel
theorem bang_ofString : Str.ofString "!" = ⟨#[33]⟩ := by decide +kernel
theorem dot_bang : (Str.ofString "." == Str.ofString "!") = false := by decide +kernel
theorem bang_len : (Str.ofString "!").length ≤ 14 := by decide +kernel
theorem replace_dots (x : Str) : (Txt.replace x (Str.ofString ".") (Str.ofString "!")).cps.toList = swap 46 33 x.cps.toList := by
  rw [dot_ofString, bang_ofString, replace_swap x 46 33 (by omega)]
theorem split_crlf (x : Str) : (Txt.split x (Str.ofString "\r\n")).map (fun p => p.cps.toList) = spl [13, 10] 0 x.cps.toList := by
  rw [split_spl crlf_len crlf_kind, crlf_cps]
end Mine
end
section
open PySem
namespace Mine
set_option maxRecDepth 100000
set_option maxHeartbeats 4000000
/-- a row's signs: front, a, back -/
def rowT (d : Nat) (r : Int × Int) : List Nat := List.replicate r.1.toNat d ++ 97 :: List.replicate r.2.toNat d
def eolT (z : Int) : List Nat := if z % 3 = 0 then [10] else if z % 3 = 1 then [13] else [13, 10]
def mail0 : List (Int × Int) → Int → List Nat
  | [], _ => []
  | r :: rs, z => rowT 46 r ++ eolT z ++ mail0 rs (z + 1)
def grow (j : Int) (r : Int × Int) : Int × Int := (if r.1 = 0 then 0 else r.1 + j, r.2)
def mailQ (j : Int) : List (Int × Int) → List Nat
  | [] => []
  | r :: rs => rowT 46 (grow j r) ++ ([13, 10] ++ mailQ j rs)
theorem mem_rowT {d : Nat} {r : Int × Int} {c : Nat} (h : c ∈ rowT d r) : c = d ∨ c = 97 := by
  unfold rowT at h
  rcases List.mem_append.mp h with h | h
  · exact .inl (List.eq_of_mem_replicate h)
  · rcases List.mem_cons.mp h with h | h
    · exact .inr h
    · exact .inl (List.eq_of_mem_replicate h)
theorem gB_free : ∀ (t l : List Nat), 13 ∉ t → 10 ∉ t → gB (t ++ l) = t ++ gB l
  | [], _, _, _ => rfl
  | c :: t, l, h1, h2 => by
    have c1 : c ≠ 13 := fun e => h1 (by rw [e]; exact .head _)
    have c2 : c ≠ 10 := fun e => h2 (by rw [e]; exact .head _)
    rw [List.cons_append, gB, if_neg (by omega), gB_free t l (fun q => h1 (.tail _ q)) (fun q => h2 (.tail _ q))]
    · rfl
    · intro r e; exact absurd e c1
theorem gB_row (r : Int × Int) (l : List Nat) : gB (rowT 46 r ++ l) = rowT 46 r ++ gB l :=
  gB_free _ _ (fun h => by rcases mem_rowT h with h | h <;> cases h) (fun h => by rcases mem_rowT h with h | h <;> cases h)
theorem gB_eol (z : Int) (l : List Nat) (h : ∀ r, l ≠ 10 :: r) : gB (eolT z ++ l) = [13, 10] ++ gB l := by
  unfold eolT
  split
  · show gB (10 :: l) = _
    rw [gB, if_pos (by omega)]
    · rfl
    · intro r e; cases e
  · split
    · show gB (13 :: l) = _
      rw [gB, if_pos (by omega)]
      · rfl
      · intro r _ e; exact h r e
    · rfl
theorem mail0_head (rows : List (Int × Int)) (z : Int) : ∀ r, mail0 rows z ≠ 10 :: r := by
  intro r e
  cases rows with
  | nil => cases e
  | cons a rows =>
    rw [mail0] at e
    have : (10 : Nat) ∈ rowT 46 a := by
      cases hr : rowT 46 a with
      | nil => simp [rowT] at hr
      | cons c t =>
        rw [hr] at e
        injection e with e1 _
        rw [e1]; exact .head _
    rcases mem_rowT this with h | h <;> cases h
theorem grow_zero (r : Int × Int) : grow 0 r = r := by
  unfold grow
  split
  · rename_i h; rw [← h]
  · rw [Int.add_zero]
theorem gB_mail0 : ∀ (rows : List (Int × Int)) (z : Int), gB (mail0 rows z) = mailQ 0 rows
  | [], _ => rfl
  | r :: rs, z => by
    rw [mail0, List.append_assoc, gB_row, gB_eol _ _ (mail0_head _ _), gB_mail0 rs, mailQ, grow_zero]
theorem gB_mailQ (j : Int) : ∀ (rows : List (Int × Int)), gB (mailQ j rows) = mailQ j rows
  | [] => rfl
  | r :: rs => by
    rw [mailQ, gB_row]
    show rowT 46 (grow j r) ++ (13 :: 10 :: gB (mailQ j rs)) = _
    rw [gB_mailQ j rs]
    rfl
theorem gA_free : ∀ (t l : List Nat), 10 ∉ t → gA false (t ++ l) = t ++ gA false l
  | [], _, _ => rfl
  | c :: t, l, h => by
    have c2 : (c == 10) = false := by simpa using fun e => h (by rw [e]; exact .head _)
    rw [List.cons_append, gA, if_neg (by simp), c2, gA_free t l (fun q => h (.tail _ q))]
    rfl
theorem gA_mailQ (j : Int) : ∀ (rows : List (Int × Int)), (∀ r ∈ rows, 0 ≤ r.1 ∧ 0 ≤ r.1 + j) → (∀ r ∈ rows, r.1 ≠ 0 → 0 < r.1 + j) → gA true (mailQ j rows) = mailQ (j + 1) rows
  | [], _, _ => rfl
  | r :: rs, h, h2 => by
    have ih := gA_mailQ j rs (fun q hq => h q (.tail _ hq)) (fun q hq => h2 q (.tail _ hq))
    have hfree : ∀ l, gA false (97 :: List.replicate r.2.toNat 46 ++ (13 :: 10 :: l)) = 97 :: List.replicate r.2.toNat 46 ++ (13 :: 10 :: gA true l) := by
      intro l
      rw [gA_free]
      · rfl
      · intro hm
        rcases List.mem_cons.mp hm with e | e
        · cases e
        · cases List.eq_of_mem_replicate e
    rw [mailQ, mailQ]
    unfold rowT grow
    by_cases h0 : r.1 = 0
    · simp only [h0, if_true, Int.toNat_zero, List.replicate_zero, List.nil_append]
      have := hfree (mailQ j rs)
      show gA true (97 :: (List.replicate r.2.toNat 46 ++ (13 :: 10 :: mailQ j rs))) = 97 :: (List.replicate r.2.toNat 46 ++ (13 :: 10 :: mailQ (j + 1) rs))
      rw [gA, if_neg (by omega)]
      rw [List.cons_append, gA, if_neg (by simp)] at this
      rw [← ih]
      exact this
    · simp only [h0, if_false]
      have hp := h2 r (.head _) h0
      obtain ⟨k, hk⟩ : ∃ k : Nat, r.1 + j = k + 1 := ⟨(r.1 + j - 1).toNat, by omega⟩
      have e1 : (r.1 + j).toNat = k + 1 := by omega
      have e2 : (r.1 + (j + 1)).toNat = k + 2 := by omega
      rw [e1, e2, List.replicate_succ, List.replicate_succ, List.replicate_succ]
      show gA true (46 :: (List.replicate k 46 ++ (97 :: List.replicate r.2.toNat 46)) ++ (13 :: 10 :: mailQ j rs)) = _
      rw [List.cons_append, gA, if_pos ⟨rfl, rfl⟩, List.append_assoc, gA_free _ _ (fun hm => by cases List.eq_of_mem_replicate hm), hfree, ih]
      simp
theorem quote_mail0 (rows : List (Int × Int)) (z : Int) (h : ∀ r ∈ rows, 0 ≤ r.1) : gA true (gB (mail0 rows z)) = mailQ 1 rows := by
  rw [gB_mail0, gA_mailQ 0 rows (fun r hr => ⟨h r hr, by have := h r hr; omega⟩) (fun r hr h0 => by have := h r hr; omega)]
  rfl
theorem quote_mailQ (rows : List (Int × Int)) (j : Int) (hj : 0 ≤ j) (h : ∀ r ∈ rows, 0 ≤ r.1) : gA true (gB (mailQ j rows)) = mailQ (j + 1) rows := by
  rw [gB_mailQ, gA_mailQ j rows (fun r hr => ⟨h r hr, by have := h r hr; omega⟩) (fun r hr h0 => by have := h r hr; omega)]
/-- the rows of an hour, dots as exclamation marks -/
def hourT (j : Int) (rows : List (Int × Int)) : List (List Nat) := rows.map fun r => rowT 33 (grow j r)
theorem swap_row (r : Int × Int) : swap 46 33 (rowT 46 r) = rowT 33 r := by
  simp [swap, rowT]
theorem swap_append (a b : Nat) (l m : List Nat) : swap a b (l ++ m) = swap a b l ++ swap a b m := by simp [swap]
theorem spl_mailQ (j : Int) : ∀ (rows : List (Int × Int)), spl [13, 10] 0 (swap 46 33 (mailQ j rows)) = hourT j rows ++ [[]]
  | [] => rfl
  | r :: rs => by
    rw [mailQ, swap_append, swap_append, swap_row, ← List.append_assoc]
    show spl [13, 10] 0 (rowT 33 (grow j r) ++ [13, 10] ++ swap 46 33 (mailQ j rs)) = _
    rw [spl_cut rfl _ _ (fun h => by rcases mem_rowT h with h | h <;> cases h), spl_mailQ j rs]
    rfl
theorem rowT_length (d : Nat) (r : Int × Int) : (rowT d r).length = r.1.toNat + 1 + r.2.toNat := by simp [rowT]; omega
theorem eolT_length (z : Int) : (eolT z).length ≤ 2 := by unfold eolT; (repeat' split) <;> simp
theorem mail0_length : ∀ (rows : List (Int × Int)) (z : Int), (∀ r ∈ rows, r.1 ≤ 10 ∧ r.2 ≤ 10) → (mail0 rows z).length ≤ 50 * rows.length
  | [], _, _ => by simp [mail0]
  | r :: rs, z, h => by
    have ih := mail0_length rs (z + 1) fun q hq => h q (.tail _ hq)
    have := h r (.head _)
    have := eolT_length z
    rw [mail0, List.length_append, List.length_append, rowT_length, List.length_cons]
    omega
theorem mailQ_length (j : Int) (hj : 0 ≤ j) (hj' : j ≤ 10) : ∀ (rows : List (Int × Int)), (∀ r ∈ rows, r.1 ≤ 10 ∧ r.2 ≤ 10) → (mailQ j rows).length ≤ 50 * rows.length
  | [], _ => by simp [mailQ]
  | r :: rs, h => by
    have ih := mailQ_length j hj hj' rs fun q hq => h q (.tail _ hq)
    have := h r (.head _)
    have hg : (grow j r).1 ≤ 20 ∧ (grow j r).2 = r.2 := by unfold grow; constructor <;> (try split) <;> simp <;> omega
    rw [mailQ, List.length_append, List.length_append, rowT_length, List.length_cons]
    simp only [List.length_cons, List.length_nil]
    omega
theorem mail0_snoc : ∀ (rows : List (Int × Int)) (z : Int) (r : Int × Int), mail0 (rows ++ [r]) z = mail0 rows z ++ rowT 46 r ++ eolT (z + rows.length)
  | [], z, r => by simp [mail0]
  | a :: rows, z, r => by
    rw [List.cons_append, mail0, mail0_snoc rows, mail0, List.length_cons]
    rw [show z + 1 + (rows.length : Int) = z + ((rows.length + 1 : Nat) : Int) by push_cast; omega]
    simp
end Mine
end
section
open PySem PySem.Builtin.Str PyProof.Rows PySem.StrLaws
namespace Mine
set_option maxRecDepth 100000
set_option maxHeartbeats 4000000
/-- what is behind the first w in a text -/
def after (w : List Nat) : List Nat → Option (List Nat)
  | [] => if w.isPrefixOf [] then some [] else none
  | c :: r => if w.isPrefixOf (c :: r) then some ((c :: r).drop w.length) else after w r
/-- the texts are found one behind the other -/
def ell : List (List Nat) → List Nat → Bool
  | [], _ => true
  | w :: ws, g => match after w g with
    | none => false
    | some r => ell ws r
theorem at_prefix {x y : Str} {i : Nat} (hi : i ≤ x.length) : At x y x.length i ↔ y.cps.toList.isPrefixOf (x.cps.toList.drop i) = true := by
  unfold At
  rw [subAt_eq, prefix_take]
  have hyl : y.cps.toList.length = y.length := Array.length_toList
  have hxl : x.cps.toList.length = x.length := Array.length_toList
  rw [hyl]
  constructor
  · exact fun h => h.2
  · intro h
    refine ⟨?_, h⟩
    have h1 := congrArg List.length (eq_of_beq h)
    simp only [List.length_take, List.length_drop, hyl, hxl] at h1
    omega
theorem after_spec {x y : Str} : ∀ (n a : Nat), x.length - a = n → a ≤ x.length →
    ((∀ i, a ≤ i → ¬ At x y x.length i) ∧ after y.cps.toList (x.cps.toList.drop a) = none) ∨
    ∃ k, a ≤ k ∧ At x y x.length k ∧ (∀ i, a ≤ i → i < k → ¬ At x y x.length i) ∧ after y.cps.toList (x.cps.toList.drop a) = some (x.cps.toList.drop (k + y.length)) := by
  have hyl : y.cps.toList.length = y.length := Array.length_toList
  have hxl : x.cps.toList.length = x.length := Array.length_toList
  intro n
  induction n with
  | zero =>
    intro a hn ha
    obtain rfl : a = x.length := by omega
    have hd : x.cps.toList.drop x.length = [] := List.drop_eq_nil_of_le (by omega)
    by_cases h : At x y x.length x.length
    · refine .inr ⟨x.length, Nat.le_refl _, h, fun i h1 h2 => by omega, ?_⟩
      rw [hd, after, if_pos, List.drop_eq_nil_of_le (by omega)]
      rw [← hd]
      exact (at_prefix (Nat.le_refl _)).mp h
    · refine .inl ⟨fun i hi hA => ?_, ?_⟩
      · have := hA.1
        obtain rfl : i = x.length := by omega
        exact h hA
      · rw [hd, after, if_neg]
        rw [← hd]
        exact fun q => h ((at_prefix (Nat.le_refl _)).mpr q)
  | succ n ih =>
    intro a hn ha
    have hd : x.cps.toList.drop a = x.cps.toList[a]'(by omega) :: x.cps.toList.drop (a + 1) := List.drop_eq_getElem_cons (by omega)
    by_cases h : At x y x.length a
    · refine .inr ⟨a, Nat.le_refl _, h, fun i h1 h2 => by omega, ?_⟩
      rw [hd, after, if_pos, ← hd, List.drop_drop, hyl]
      rw [← hd]
      exact (at_prefix ha).mp h
    · have hp : ¬ y.cps.toList.isPrefixOf (x.cps.toList[a]'(by omega) :: x.cps.toList.drop (a + 1)) = true := by
        rw [← hd]; exact fun q => h ((at_prefix ha).mpr q)
      rw [hd, after, if_neg hp]
      rcases ih (a + 1) (by omega) (by omega) with ⟨h1, h2⟩ | ⟨k, h1, h2, h3, h4⟩
      · refine .inl ⟨fun i hi hA => ?_, h2⟩
        rcases Nat.lt_or_ge a i with q | q
        · exact h1 i q hA
        · obtain rfl : i = a := by omega
          exact h hA
      · refine .inr ⟨k, by omega, h2, fun i hi hik hA => ?_, h4⟩
        rcases Nat.lt_or_ge a i with q | q
        · exact h3 i q hik hA
        · obtain rfl : i = a := by omega
          exact h hA
def findN (x y : Str) (a : Nat) : Int := match occurrences x y a x.length 1 with | k :: _ => (k : Int) | [] => -1
theorem findN_spec {x y : Str} {a : Nat} (ha : a ≤ x.length) :
    (findN x y a = -1 ∧ after y.cps.toList (x.cps.toList.drop a) = none) ∨
    ∃ k : Nat, findN x y a = (k : Int) ∧ a ≤ k ∧ k + y.length ≤ x.length ∧ after y.cps.toList (x.cps.toList.drop a) = some (x.cps.toList.drop (k + y.length)) := by
  unfold findN
  rcases occ_head_from x y a 1 (Nat.le_refl _) with ⟨h1, h2⟩ | ⟨i, r, h1, h2, h3, h4⟩ <;> rcases after_spec (x := x) (y := y) _ a rfl ha with ⟨h5, h6⟩ | ⟨k, h5, h6, h7, h8⟩
  · exact .inl ⟨by rw [h1], h6⟩
  · exact absurd h6 (h2 k h5)
  · exact absurd h3 (h5 i h2)
  · refine .inr ⟨k, ?_, h5, h6.1, h8⟩
    rw [h1]
    rcases Nat.lt_trichotomy i k with q | q | q
    · exact absurd h3 (h7 i h2 q)
    · rw [q]
    · exact absurd h6 (h4 k h5 q)
section
variable {prog : Program} {w : World} {A : Around} {E : Value → Shared → Prop} {s : Shared} {x y : Str} {t u v z : Tok} {Q : Value → Shared → Prop}
theorem gives_find4 (x y : Str) (i j : Int) (t u v z : Tok) (a : Nat) (hi : i = a) (hj : j = x.length) : Gives (Builtin.«str.find» ⟨[.str x t, .str y u, .int i v, .int j z], []⟩) (.int (findN x y a)) := by
  show Gives (match occurrences x y (fromIndex x.length i) (min (fromIndex x.length j) x.length) 1 with | k :: _ => retInt k | [] => (do rule "str.find.not-found"; retInt (-1))) _
  have e1 : fromIndex x.length i = a := by unfold fromIndex; rw [if_neg (by omega)]; omega
  have e2 : min (fromIndex x.length j) x.length = x.length := by unfold fromIndex; rw [if_neg (by omega)]; omega
  rw [e1, e2]
  unfold findN
  cases occurrences x y a x.length 1 with
  | nil => exact .rule (.of_eq rfl)
  | cons k _ => exact .of_eq rfl
theorem str_find4 {i j : Int} {a : Nat} (hi : i = a) (hj : j = x.length) (hq : Q (.int (findN x y a) s.toks) { s with toks := s.toks + 1 }) :
    wpAny (model prog w) A (call (.builtin "str.find") [.str x t, .str y u, .int i v, .int j z]) Q E s :=
  call_gives F.slot_str_find (typeIs_str _ _ _) F.entry_str_find (F.args_str_find_4 _ _ _ _) (gives_find4 x y i j t u v z a hi hj) hq
end
section
variable {prog : Program} {w : World} {A : Around} {E : Value → Shared → Prop} {s : Shared} {x : Str} {t : Tok} {Q : Value → Shared → Prop}
theorem str_join {D : Addr} {l : List (Str × Tok)} (hl : s.heap.IsList D (strValues l).toArray) (hx : x.cps.size ≤ 100) (hn : l.length ≤ 1000) (hb : ∀ q ∈ l, q.1.cps.size ≤ 1000)
    (hq : ∀ z t' k, z.cps.toList = glue x.cps.toList (l.map fun q => q.1.cps.toList) → Q (.str z t') { s with toks := k }) :
    wpAny (model prog w) A (call (.builtin "str.join") [.str x t, .ref D]) Q E s := by
  refine SC.join (texts := l.map (·.1)) hl rfl ?_ fun t' k => hq _ t' k ?_
  · unfold JoinOk
    have := joinFits (sep := x) (texts := l.map (·.1)) (B := 1000) (by
      intro y hy
      obtain ⟨q, hq', rfl⟩ := List.mem_map.mp hy
      exact hb q hq') (by
      rw [List.length_map]
      have h1 : l.length * x.length ≤ 1000 * 100 := Nat.mul_le_mul hn hx
      omega)
    simpa using this
  · show (Builtin.Str.glued x (l.map (·.1))).cps.toList = _
    rw [glued_eq_join, join_glue, List.map_map]
    rfl
end
theorem dots_kind : Builtin.Str.strKind (Str.ofString "...") = 1 := by decide +kernel
theorem dots_len : 0 < (Str.ofString "...").length := by decide +kernel
theorem dots_cps : (Str.ofString "...").cps.toList = [46, 46, 46] := by decide +kernel
theorem dots_len0 : ((Str.ofString "...").length == 0) = false := by decide +kernel
theorem split_dots (x : Str) : (Txt.split x (Str.ofString "...")).map (fun p => p.cps.toList) = spl [46, 46, 46] 0 x.cps.toList := by
  rw [split_spl dots_len dots_kind, dots_cps]
theorem contains_dots {x : Str} {r : List Nat} (h : x.cps.toList = [46, 46, 46] ++ r) : Txt.contains x (Str.ofString "...") = true := by
  unfold Txt.contains
  rcases occ_head x (Str.ofString "...") 1 (Nat.le_refl _) with ⟨h1, h2⟩ | ⟨i, r, h1, _⟩
  · refine absurd ((at_prefix (Nat.zero_le _)).mpr ?_) (h2 0)
    rw [List.drop_zero, h, dots_cps]
    simp
  · rw [h1]; rfl
/-- the pattern of three wishes -/
def patL (w1 w2 w3 : Int) : List Nat := [46, 46, 46] ++ (List.replicate w1.toNat 33 ++ ([46, 46, 46] ++ ([13, 10] ++ ([46, 46, 46] ++ (List.replicate w2.toNat 33 ++ ([46, 46, 46] ++ ([13, 10] ++ ([46, 46, 46] ++ (List.replicate w3.toNat 33 ++ [46, 46, 46])))))))))
def patW (w1 w2 w3 : Int) : List (List Nat) := [[], List.replicate w1.toNat 33, [13, 10], List.replicate w2.toNat 33, [13, 10], List.replicate w3.toNat 33, []]
theorem spl_dot {t r : List Nat} (h : 46 ∉ t) : spl [46, 46, 46] 0 (t ++ ([46, 46, 46] ++ r)) = t :: spl [46, 46, 46] 0 r := by
  rw [← List.append_assoc]; exact spl_cut rfl r t h
theorem no46 (n : Nat) : 46 ∉ List.replicate n 33 := fun h => by cases List.eq_of_mem_replicate h
theorem spl_pat (w1 w2 w3 : Int) : spl [46, 46, 46] 0 (patL w1 w2 w3) = patW w1 w2 w3 := by
  unfold patL patW
  have h0 := spl_dot (t := []) (r := List.replicate w1.toNat 33 ++ ([46, 46, 46] ++ ([13, 10] ++ ([46, 46, 46] ++ (List.replicate w2.toNat 33 ++ ([46, 46, 46] ++ ([13, 10] ++ ([46, 46, 46] ++ (List.replicate w3.toNat 33 ++ [46, 46, 46]))))))))) (by simp)
  rw [List.nil_append] at h0
  have hl := spl_dot (t := List.replicate w3.toNat 33) (r := []) (no46 _)
  rw [List.append_nil] at hl
  rw [h0, spl_dot (no46 _), spl_dot (by decide), spl_dot (no46 _), spl_dot (by decide), hl]
  rfl
theorem mid_cps : (Str.ofString "...\r\n...").cps.toList = [46, 46, 46, 13, 10, 46, 46, 46] := by decide +kernel
theorem mid_size : (Str.ofString "...\r\n...").cps.size ≤ 100 := by decide +kernel
theorem dots_size : (Str.ofString "...").cps.toList.length ≤ 100000 := by decide +kernel
theorem crlf_size : (Str.ofString "\r\n").cps.size ≤ 100 := by decide +kernel
theorem pat_glue (w1 w2 w3 : Int) : [46, 46, 46] ++ glue [46, 46, 46, 13, 10, 46, 46, 46] [List.replicate w1.toNat 33, List.replicate w2.toNat 33, List.replicate w3.toNat 33] ++ [46, 46, 46] = patL w1 w2 w3 := by
  simp [glue, patL]
theorem glue_len (z : List Nat) : ∀ (l : List (List Nat)) (B : Nat), (∀ t ∈ l, t.length ≤ B) → (glue z l).length ≤ l.length * (B + z.length)
  | [], _, _ => by simp [glue]
  | [t], B, h => by
    have := h t (.head _)
    simp only [glue, List.length_cons, List.length_nil]
    omega
  | t :: u :: r, B, h => by
    have h1 := h t (.head _)
    have ih := glue_len z (u :: r) B fun q hq => h q (.tail _ hq)
    simp only [glue, List.length_append, List.length_cons] at ih ⊢
    rw [Nat.add_mul (r.length + 1) 1]
    omega
end Mine
end
section
open PySem PySem.W PySem.Calls PyProof.Rows
namespace Mine
set_option maxRecDepth 100000
set_option maxHeartbeats 8000000
section
variable {w : World} {dp un : Nat} {fr : Option (List Env)} {gd : Option (List Code)} {s : Shared} {E Q : Value → Shared → Prop} {p : Program} {loose : List Str} {mean : ExcName → Option Value} {mg mb : Str → Option Value}
def wait (f b wish : Int) : Int := if b ≥ wish then 0 else if f = 0 then 6 else max 0 (wish - f - 1)
theorem c_wait (X : (hd.heap_39 w.params).In s.heap) (T : Top p loose mean mg mb s.heap) {t : Addr} {f b wish : Int} {tf tb tw : Tok} (hr : dp + 1 < recursionLimit) (ht : IsTup s.heap t #[.int f tf, .int b tb])
    (h : ∀ h' tk t', Kp s.heap h' → Q (.int (wait f b wish) t') { s with heap := h', toks := tk }) :
    wpAny (model PySem.Challenge.rw_pu0022_01.row.prog w) ({ handled := none, depth := dp, frames := fr, guards := gd, units := un } : Around) (call (.ref 113) [.ref t, .int wish tw]) Q E s := by
  w_top off; revert X; k_fill; intro X
  refine' enter (binds := [("row", .ref t), ("wish", .int wish tw)]) X T (Nat.lt_of_succ_lt hr) ?k6 ?k7 ?k9 ?kB ?_ ?c2 ?c3 ?c4 ?c5
  case k6 => k_is
  case k7 => k_is
  case k9 => exact BindsTo.of_eq rfl
  case kB => exact locs rfl
  case c2 => exact rfl
  case c3 => exact rfl
  case c4 => exact rfl
  case c5 => decide
  intro L h₁ F N
  k_fold
  k_steps
  all_goals (rename Fr _ _ _ _ => F)
  all_goals exact retI (s := s) h (by unfold wait; (repeat' split) <;> omega) F.keep
end
end Mine
end
section
open PySem PySem.W PySem.Calls PyProof.Rows
namespace Mine
set_option maxRecDepth 100000
set_option maxHeartbeats 8000000
section
variable {w : World} {dp un : Nat} {fr : Option (List Env)} {gd : Option (List Code)} {s : Shared} {E Q : Value → Shared → Prop} {p : Program} {loose : List Str} {mean : ExcName → Option Value} {mg mb : Str → Option Value}
theorem pat36 {h : Heap} (X : (hd.heap_39 w.params).In h) : PatAt h 36 cA := by
  refine' ⟨_, _, _, _, _, X _ _ ?k1, ?k2, ?k3, ?k4, ?k5, ?k6, ?k7, X _ _ ?k8, ?k9⟩
  case k1 => exact rfl
  case k2 => exact rfl
  case k3 => exact rfl
  case k4 => exact rfl
  case k5 => exact rfl
  case k6 => exact rfl
  case k7 => exact rfl
  case k8 => exact rfl
  case k9 =>
    have hm : Array.map (fun (c : Nat) => Value.int (c : Int) 0) cA = (cA.toList.map (fun (c : Nat) => Value.int (c : Int) 0)).toArray := by unfold cA; simp
    rw [hm]
    exact rfl
theorem pat41 {h : Heap} (X : (hd.heap_39 w.params).In h) : PatAt h 41 cB := by
  refine' ⟨_, _, _, _, _, X _ _ ?k1, ?k2, ?k3, ?k4, ?k5, ?k6, ?k7, X _ _ ?k8, ?k9⟩
  case k1 => exact rfl
  case k2 => exact rfl
  case k3 => exact rfl
  case k4 => exact rfl
  case k5 => exact rfl
  case k6 => exact rfl
  case k7 => exact rfl
  case k8 => exact rfl
  case k9 =>
    have hm : Array.map (fun (c : Nat) => Value.int (c : Int) 0) cB = (cB.toList.map (fun (c : Nat) => Value.int (c : Int) 0)).toArray := by unfold cB; simp
    rw [hm]
    exact rfl
theorem pat_method {P : Addr} {code : Array Nat} {A : Around} {pl : Sem Bool} {Q : Value × List Value → Shared → Prop} (hp : PatAt s.heap P code) (h : Q (.builtin "re.Pattern.sub", [.ref P]) s) :
    wpAny (model PySem.Challenge.rw_pu0022_01.row.prog w) A (getMethod (.ref P) "sub" pl) Q E s := by
  refine getMethod_builtin hp.typeIs pat_pa pat_slot pat_type (fun a e => ?_) h
  cases e
  obtain ⟨o, vs, T, oT, n, h1, h2, h3, _⟩ := hp.pat
  exact ⟨o, h1, h3⟩
/-- what quotedata makes of a text -/
def quote (l : List Nat) : List Nat := gA true (gB l)
local macro_rules | `(tactic| walk_at "getMethod ref") => `(tactic| (k_here; (with_reducible show wpAny _ _ (getMethod (Value.ref 36) _ _) _ _ _); refine pat_method (pat36 (Frag.In.keeps (by k_asm) (Fr.keep (by k_asm)))) ?_))
local macro_rules | `(tactic| walk_at "getMethod ref") => `(tactic| (k_here; (with_reducible show wpAny _ _ (getMethod (Value.ref 41) _ _) _ _ _); refine pat_method (pat41 (Frag.In.keeps (by k_asm) (Fr.keep (by k_asm)))) ?_))
local macro_rules | `(tactic| walk_at "call builtin:re.Pattern.sub") => `(tactic| (k_here; (with_reducible show wpAny _ _ (call (Value.builtin _) [Value.ref 41, _, _]) _ _ _); refine sub_B (by omega) rfl (pat41 (Frag.In.keeps (by k_asm) (Fr.keep (by k_asm)))) (Nat.le_trans (gB_len _) (by rw [Array.length_toList]; omega)) ?_; intro h9 tk9 t9 y9 kp9 hy9))
theorem c_quote (X : (hd.heap_39 w.params).In s.heap) (T : Top p loose mean mg mb s.heap) {x : Str} {tx : Tok} (hr : dp + 1 < recursionLimit) (hx : x.cps.size ≤ 10000)
    (h : ∀ h' tk t' y, Kp s.heap h' → 1 ≤ tk → y.cps.toList = quote x.cps.toList → Q (.str y t') { s with heap := h', toks := tk }) :
    wpAny (model PySem.Challenge.rw_pu0022_01.row.prog w) ({ handled := none, depth := dp, frames := fr, guards := gd, units := un } : Around) (call (.ref 48) [.str x tx]) Q E s := by
  w_top off; revert X; k_fill; intro X
  refine' enterT (binds := [("data", .str x tx)]) X T (Nat.lt_of_succ_lt hr) ?k6 ?k7 ?k9 ?kB ?_ ?c2 ?c3 ?c4 ?c5 (Nat.le_refl 1)
  case k6 => k_is
  case k7 => k_is
  case k9 => exact BindsTo.of_eq rfl
  case kB => exact locs rfl
  case c2 => exact rfl
  case c3 => exact rfl
  case c4 => exact rfl
  case c5 => decide
  intro L h₁ F N
  k_fold
  k_steps
  rename_i h9 tk9 t9 y9 kp9 hy9
  have hyl : y9.cps.size ≤ 20000 := by
    have := gB_len x.cps.toList
    rw [← hy9, Array.length_toList, Array.length_toList] at this
    omega
  refine sub_A (by omega) rfl (pat36 (X.keeps (fun b o e => kp9 b o (F.keep b o e)))) (Nat.le_trans (gA_len _ _) (by rw [Array.length_toList]; omega)) ?_
  intro h8 tk8 t8 y8 kp8 hy8 htk8
  exact h _ _ _ _ (fun b o e => kp8 b o (kp9 b o (F.keep b o e))) htk8 (by rw [hy8, hy9]; rfl)
end
end Mine
end
section
open PySem PySem.W PySem.Calls PyProof.Rows
namespace Mine
set_option maxRecDepth 100000
set_option maxHeartbeats 8000000
section
variable {w : World} {dp un : Nat} {fr : Option (List Env)} {gd : Option (List Code)} {s : Shared} {E Q : Value → Shared → Prop} {p : Program} {loose : List Str} {mean : ExcName → Option Value} {mg mb : Str → Option Value}
/-- a list of pairs of ints -/
structure RowsAt (h : Heap) (a : Addr) (vs : List Value) (rows : List (Int × Int)) : Prop where
  list : h.IsList a vs.toArray
  len : vs.length = rows.length
  row : ∀ (i : Nat) (r : Int × Int), rows[i]? = some r → ∃ t tf tb, vs[i]? = some (.ref t) ∧ IsTup h t #[.int r.1 tf, .int r.2 tb]
theorem RowsAt.kp {h h' : Heap} {a : Addr} {vs : List Value} {rows : List (Int × Int)} (x : RowsAt h a vs rows) (k : Kp h h') : RowsAt h' a vs rows :=
  ⟨k.list x.list, x.len, fun i r e => let ⟨t, tf, tb, h1, h2⟩ := x.row i r e; ⟨t, tf, tb, h1, k.tup h2⟩⟩
def stepF (rows : List (Int × Int)) (wish : Int) (D : Nat → Int) : Nat → Int
  | 0 => 6
  | i + 1 => min (stepF rows wish D i) (max (D i) (wait (rows.getD i (0, 0)).1 (rows.getD i (0, 0)).2 wish))
def dueF (rows : List (Int × Int)) (goal : List Int) : Nat → Int := goal.foldl (fun D wish => stepF rows wish D) fun _ => 0
def upto (n : Nat) (D : Nat → Int) : List Int := (List.range n).map D
local macro_rules | `(tactic| walk_at "exec For Name Call cons nil") => `(tactic| refine stop_intro ?_)
local macro_rules | `(tactic| walk_at "exec For Name Name cons nil") => `(tactic| refine stop_intro ?_)
local macro_rules | `(tactic| walk_at "exec For Name List cons nil") => `(tactic| refine stop_intro ?_)
local macro_rules | `(tactic| walk_at "call ref") => `(tactic| refine stop_intro ?_)
local macro_rules | `(tactic| walk_at "exec While Compare cons nil") => `(tactic| refine stop_intro ?_)
local macro_rules | `(tactic| walk_at "pyIter ref") => `(tactic| refine stop_intro ?_)
local macro_rules | `(tactic| walk_at "subscriptTail Name UnaryOp ref int") => `(tactic| refine stop_intro ?_)
local macro_rules | `(tactic| walk_at "subscriptTail Name Name ref int") => `(tactic| refine stop_intro ?_)
local macro_rules | `(tactic| walk_at "binaryOp Mult str int") => `(tactic| refine stop_intro ?_)
local macro_rules | `(tactic| walk_at "binaryOp Add str str") => `(tactic| refine stop_intro ?_)
local macro_rules | `(tactic| walk_at "subscriptTail List BinOp ref int") => `(tactic| refine stop_intro ?_)
local macro_rules | `(tactic| walk_at "call builtin:str.split") => `(tactic| refine stop_intro ?_)
local macro_rules | `(tactic| walk_at "call builtin:str.replace") => `(tactic| refine stop_intro ?_)
local macro_rules | `(tactic| walk_at "call builtin:str.join") => `(tactic| refine stop_intro ?_)
local macro_rules | `(tactic| walk_at "call builtin:str.find") => `(tactic| refine stop_intro ?_)
local macro_rules | `(tactic| walk_at "call builtin:list.append") => `(tactic| refine stop_intro ?_)
local macro_rules | `(tactic| walk_at "subscriptTail Name Constant ref int") => `(tactic| refine stop_intro ?_)
local macro_rules | `(tactic| walk_at "eval Lambda") => `(tactic| refine stop_intro ?_)
local macro_rules | `(tactic| walk_at "subscriptTail Name Slice ref ref") => `(tactic| refine stop_intro ?_)
local macro_rules | `(tactic| walk_at "execs nil") => `(tactic| ((with_reducible show wpAny _ _ (execs [] _) (WEnd _ _ _ _ _) _ _); refine stop_intro ?_))
local macro_rules | `(tactic| walk_at "execs nil") => `(tactic| ((with_reducible show wpAny _ _ (execs [] _) (TEnd _ _ _ _ _ _ _) _ _); refine stop_intro ?_))
local macro_rules | `(tactic| walk_at "call builtin:len") => `(tactic| (k_here; (with_reducible show wpAny _ _ (call (Value.builtin _) [Value.ref _]) _ _ _); k_dflt (refine' call_len_list ?a ?b ?_; (case a => is_list); (case b => (simp only [List.size_toArray]; omega)); k_whole)))
theorem upto_length (n : Nat) (D : Nat → Int) : (upto n D).length = n := by simp [upto]
theorem upto_get {n i : Nat} (D : Nat → Int) (h : i < n) : (upto n D)[i]? = some (D i) := by simp [upto, h]
theorem upto_succ (n : Nat) (D : Nat → Int) : upto (n + 1) D = upto n D ++ [D n] := by simp [upto, List.range_succ]
theorem ints_snoc {vs : List Value} {ns : List Int} (h : IntsAre vs ns) (n : Int) (t : Tok) : IntsAre (vs ++ [.int n t]) (ns ++ [n]) := by
  induction h with
  | nil => exact .cons _ _ .nil
  | cons m u _ ih => exact .cons _ _ ih
theorem flatten_zero (k : Nat) : List.flatten (List.replicate k [(0 : Int)]) = upto k fun _ => 0 := by
  induction k with
  | zero => rfl
  | succ k ih =>
    rw [List.replicate_succ, List.flatten_cons, ih, upto, upto, List.range_succ_eq_map]
    simp
theorem step_min {rows : List (Int × Int)} {wish : Int} {D : Nat → Int} {k : Nat} {r : Int × Int} (hr : rows[k]? = some r) :
    stepF rows wish D (k + 1) = if (if wait r.1 r.2 wish > D k then wait r.1 r.2 wish else D k) < stepF rows wish D k then (if wait r.1 r.2 wish > D k then wait r.1 r.2 wish else D k) else stepF rows wish D k := by
  rw [stepF]
  have : rows.getD k (0, 0) = r := by rw [List.getD_eq_getElem?_getD, hr]; rfl
  rw [this]
  generalize wait r.1 r.2 wish = a
  generalize stepF rows wish D k = b
  (repeat' split) <;> omega
theorem dueF_succ {rows : List (Int × Int)} {goal : List Int} {i : Nat} {wish : Int} (h : goal[i]? = some wish) : dueF rows (goal.take (i + 1)) = stepF rows wish (dueF rows (goal.take i)) := by
  unfold dueF
  rw [List.take_add_one, h, Option.toList_some, List.foldl_append]
  rfl
def DueJ (lg lr : Addr) (rows : List (Int × Int)) (goal : List Int) (i : Nat) (m : Str → Option Value) (news : List (Addr × Obj)) : Prop :=
  ∃ d ds n, news = [(d, listOf ds.toArray n)] ∧ IntsAre ds (upto (rows.length + 1) (dueF rows (goal.take i))) ∧ m "due" = some (.ref d) ∧ m "goal" = some (.ref lg) ∧ m "rows" = some (.ref lr)
def LatJ (lg lr : Addr) (rows : List (Int × Int)) (wish : Int) (tw : Tok) (D : Nat → Int) (ds : List Value) (n : Nat) (d I : Addr) (oI : Obj) (la : Addr) (k : Nat) (m : Str → Option Value) (news : List (Addr × Obj)) : Prop :=
  ∃ lat nl, news = [(la, listOf lat.toArray nl), (I, oI), (d, listOf ds.toArray n)] ∧ IntsAre lat (upto (k + 1) (stepF rows wish D)) ∧
    m "later" = some (.ref la) ∧ m "wish" = some (.int wish tw) ∧ m "due" = some (.ref d) ∧ m "goal" = some (.ref lg) ∧ m "rows" = some (.ref lr)
theorem c_due (X : (hd.heap_39 w.params).In s.heap) (T : Top p loose mean mg mb s.heap) {lg lr : Addr} {gs vs : List Value} {goal : List Int} {rows : List (Int × Int)} (hr : dp + 2 < recursionLimit) (hg : s.heap.IsList lg gs.toArray) (hgi : IntsAre gs goal)
    (hrows : RowsAt s.heap lr vs rows) (hrn : rows.length ≤ 100)
    (h : ∀ h' tk l ds, Kp s.heap h' → h'.IsList l ds.toArray → IntsAre ds (upto (rows.length + 1) (dueF rows goal)) → Q (.ref l) { s with heap := h', toks := tk }) :
    wpAny (model PySem.Challenge.rw_pu0022_01.row.prog w) ({ handled := none, depth := dp, frames := fr, guards := gd, units := un } : Around) (call (.ref 120) [.ref lg, .ref lr]) Q E s := by
  w_top off; revert X; k_fill; intro X
  refine' enter (binds := [("goal", .ref lg), ("rows", .ref lr)]) X T (show dp < recursionLimit by omega) ?k6 ?k7 ?k9 ?kB ?_ ?c2 ?c3 ?c4 ?c5
  case k6 => k_is
  case k7 => k_is
  case k9 => exact BindsTo.of_eq rfl
  case kB => exact locs rfl
  case c2 => exact rfl
  case c3 => exact rfl
  case c4 => exact rfl
  case c5 => decide
  have hrl := hrows.list
  have hvl := hrows.len
  intro L h₁ F N
  k_fold
  k_steps
  rename Fr _ _ _ _ => F
  rename News _ _ _ _ => N
  rename IntsAre (List.flatten _) _ => i1
  refine Stop.go (For_invV s.heap rfl rfl ?_ (fun _ => rfl) passes_false)
  k_steps
  refine Stop.go (loop_list (DueJ lg lr rows goal) rfl hg F (news_sub N (news' := [_]) (fun q hq => by rw [List.mem_singleton.mp hq]; exact .head _)) ?_ ?_ ?_)
  · refine ⟨_, _, _, rfl, ?_, rfl, rfl, rfl⟩
    rw [flatten_zero] at i1
    have e : ((vs.toArray.size : Int) + 1).toNat = rows.length + 1 := by rw [List.size_toArray]; omega
    rw [e] at i1
    rw [e]
    exact i1
  · rintro I i v m₁ news₁ h tk oI hi hv ⟨d, ds, n, rfl, hds, hm1, hm2, hm3⟩ hne F N
    rw [pin3 hm1 hm2 hm3] at F
    have hwi : ∃ wish tw, v = .int wish tw ∧ goal[i]? = some wish := by
      have hlt : i < goal.length := by rw [← hgi.length]; simpa using hi
      obtain ⟨t, ht⟩ := hgi.get i goal[i] (by simp [hlt])
      have hv' : gs[i]? = some v := by simpa using hv
      rw [ht] at hv'
      exact ⟨_, _, (Option.some.inj hv').symm, by simp [hlt]⟩
    obtain ⟨wish, tw, rfl, hwish⟩ := hwi
    k_steps
    rename Fr _ _ _ _ => F
    rename News _ _ _ _ => N
    rename_i la _ _ _ hla _
    refine Stop.go (For_invV s.heap rfl rfl ?_ (fun _ => rfl) passes_false)
    k_steps
    rename Fr _ _ _ _ => F
    rename IsRange _ _ _ _ _ _ _ _ => hR
    rename IntsAre ds _ => hds
    have hne' : d ≠ I := hne _ (.head _)
    have hds' : ds.length = rows.length + 1 := by rw [hds.length, upto_length]
    refine Stop.go (loop_range (LatJ lg lr rows wish tw (dueF rows (goal.take i)) ds n d I oI la) rfl hR (congrArg Nat.cast hvl) (by omega) F (by assumption) ?_ ?_ ?_)
    · exact ⟨_, _, rfl, .cons _ _ .nil, rfl, rfl, rfl, rfl, rfl⟩
    · rintro I2 k t m₂ news₂ h tk oI2 hk ⟨lat, nl, rfl, hlat, hm1, hm2, hm3, hm4, hm5⟩ hne2 F N
      rw [pin5 hm1 hm2 hm3 hm4 hm5] at F
      have hlat' : lat.length = k + 1 := by rw [hlat.length, upto_length]
      obtain ⟨tl, hl1⟩ := hlat.get k _ (upto_get _ (by omega))
      obtain ⟨td, hd1⟩ := hds.get k _ (upto_get _ (by omega))
      obtain ⟨r, hrk⟩ : ∃ r, rows[k]? = some r := ⟨rows[k], by simp [hk]⟩
      obtain ⟨tt, tf, tb, hv1, hv2⟩ := hrows.row k r hrk
      have h1 : la ≠ I2 := hne2 _ (.head _)
      have h2 : I ≠ I2 := hne2 _ (.tail _ (.head _))
      have h3 : d ≠ I2 := hne2 _ (.tail _ (.tail _ (.head _)))
      k_steps
      refine Stop.go (item_list_neg (News.isList (by assumption) (.tail _ (.head _))) (by omega) (by simp; omega) (by omega) (v := .int (stepF rows wish (dueF rows (goal.take i)) k) tl) ?_ ?_)
      · rw [List.size_toArray, hlat', show ((-1 : Int) + ((k + 1 : Nat) : Int)).toNat = k by omega]
        simpa using hl1
      k_steps
      refine Stop.go (item_list (News.isList (by assumption) (.tail _ (.tail _ (.tail _ (.head _))))) (by omega) (by omega) (v := .int (dueF rows (goal.take i) k) td) ?_ ?_)
      · simpa using hd1
      k_steps
      refine Stop.go (item_list (F.lst hrl) (by omega) (by omega) (v := .ref tt) (by simpa using hv1) ?_)
      k_steps
      refine Stop.go (c_wait (X.keeps F.keep) (T.keeps F.keep) (show dp + 1 + 1 < recursionLimit by omega) (Kp.tup F.keep hv2) fun h9 tk9 t9 kp9 => ?_)
      have F := kp9.fr F
      have N := kp9.news N
      k_steps
      rename Fr _ _ _ _ => F
      rename News _ _ _ _ => N
      refine Stop.go (append_K F N (.tail (Ne.symm h1) (.head (by k_all))) (fun h8 F N => ?_) (by rw [List.size_toArray, sizeLine_eq]; omega))
      refine wpAny_execs_nil ?_
      refine ⟨_, _, _, _, _, rfl, F, N, .head _, fun q hq => .tail _ hq, ?_, ?_⟩
      · intro q hq
        rcases List.mem_cons.mp hq with rfl | hq
        · exact h1
        · exact hne2 q (.tail _ hq)
      · refine ⟨_, _, rfl, ?_, rfl, rfl, rfl, rfl, rfl⟩
        rw [upto_succ, step_min hrk, List.concat_eq_append]
        exact ints_snoc hlat _ _
    · rintro m₂ news₂ h tk ⟨lat, nl, rfl, hlat, hm1, hm2, hm3, hm4, hm5⟩ F N
      rw [pin5 hm1 hm2 hm3 hm4 hm5] at F
      k_steps
      rename Fr _ _ _ _ => F
      rename News _ _ _ _ => N
      refine Stop.go (wpAny_execs_nil ⟨_, _, _, _, _, rfl, F, N, .tail _ (.head _), fun q hq => by rw [List.mem_singleton.mp hq]; exact .head _, fun q hq => by rw [List.mem_singleton.mp hq]; exact Nat.ne_of_gt hla.1, ?_⟩)
      refine ⟨_, _, _, rfl, ?_, rfl, rfl, rfl⟩
      rw [dueF_succ hwish]
      exact hlat
  · rintro m₁ news₁ h8 tk ⟨d, ds, n, rfl, hds, hm1, hm2, hm3⟩ F N
    rw [pin3 hm1 hm2 hm3] at F
    rw [List.size_toArray, hgi.length, List.take_length] at hds
    k_steps
    exact h _ _ _ _ F.keep (News.isList N (.head _)) hds
end
end Mine
end
section
open PySem PySem.W PySem.Calls PyProof.Rows
namespace Mine
set_option maxRecDepth 100000
set_option maxHeartbeats 8000000
section
variable {w : World} {dp un : Nat} {fr : Option (List Env)} {gd : Option (List Code)} {s : Shared} {E Q : Value → Shared → Prop} {p : Program} {loose : List Str} {mean : ExcName → Option Value} {mg mb : Str → Option Value}
theorem mail_next {rows : List (Int × Int)} {turn : Int} {i : Nat} {r : Int × Int} {k : Int} (hr : rows[i]? = some r) (hk : Int.fmod (turn + i) 3 = k) {e : List Nat} (he : e = eolT k := by rfl) :
    mail0 (rows.take i) turn ++ List.replicate r.1.toNat 46 ++ [97] ++ List.replicate r.2.toNat 46 ++ e = mail0 (rows.take (i + 1)) turn := by
  have hlt : i < rows.length := by
    rcases Nat.lt_or_ge i rows.length with q | q
    · exact q
    · rw [List.getElem?_eq_none q] at hr; cases hr
  rw [List.take_add_one, hr, Option.toList_some, mail0_snoc, List.length_take, Nat.min_eq_left (by omega)]
  have hm : (turn + i) % 3 = k := by rw [← Int.fmod_eq_emod_of_nonneg _ (by decide : (0 : Int) ≤ 3)]; exact hk
  have hk3 : k % 3 = k := by rw [← hm]; exact Int.emod_emod_of_dvd _ (Int.dvd_refl 3)
  have : eolT (turn + i) = eolT k := by unfold eolT; rw [hm, hk3]
  rw [this, he]
  simp [rowT]
/-- a list of lists of texts -/
structure HoursAt (h : Heap) (a : Addr) (vs : List Value) (T : Nat → List (List Nat)) (n : Nat) : Prop where
  list : h.IsList a vs.toArray
  len : vs.length = n
  hour : ∀ k, k < n → ∃ l ps, vs[k]? = some (.ref l) ∧ h.IsList l (strValues ps).toArray ∧ ps.map (fun p => p.1.cps.toList) = T k
theorem HoursAt.kp {h h' : Heap} {a : Addr} {vs : List Value} {T : Nat → List (List Nat)} {n : Nat} (x : HoursAt h a vs T n) (k : Kp h h') : HoursAt h' a vs T n :=
  ⟨k.list x.list, x.len, fun i hi => let ⟨l, ps, h1, h2, h3⟩ := x.hour i hi; ⟨l, ps, h1, k.list h2, h3⟩⟩
def hoursT (rows : List (Int × Int)) (k : Nat) : List (List Nat) := hourT ((k : Int) + 1) rows ++ [[]]
def HourJ (lh : Addr) (rows : List (Int × Int)) (turn : Int) (k : Nat) (m : Str → Option Value) (news : List (Addr × Obj)) : Prop :=
  ∃ (x : Str) (t : Tok) (refs : List Value) (nh : Nat) (inner : List (Addr × Obj)), news = (lh, listOf refs.toArray nh) :: inner ∧ (∀ q ∈ inner, q.1 ≠ lh) ∧ m "mail" = some (.str x t) ∧ m "hours" = some (.ref lh) ∧
    x.cps.toList = (if k = 0 then mail0 rows turn else mailQ (k : Int) rows) ∧ refs.length = k ∧
    ∀ j, j < k → ∃ l ps n, refs[j]? = some (.ref l) ∧ (l, listOf (strValues ps).toArray n) ∈ inner ∧ ps.map (fun p => p.1.cps.toList) = hoursT rows j
def MailJ (lr : Addr) (rows : List (Int × Int)) (turn : Int) (tt : Tok) (i : Nat) (m : Str → Option Value) (news : List (Addr × Obj)) : Prop :=
  news = [] ∧ ∃ x t, x.cps.toList = mail0 (rows.take i) turn ∧ m "mail" = some (.str x t) ∧ m "rows" = some (.ref lr) ∧ m "turn" = some (.int turn tt)
local macro_rules | `(tactic| walk_at "exec For Name Call cons nil") => `(tactic| refine stop_intro ?_)
local macro_rules | `(tactic| walk_at "exec For Name Name cons nil") => `(tactic| refine stop_intro ?_)
local macro_rules | `(tactic| walk_at "exec For Name List cons nil") => `(tactic| refine stop_intro ?_)
local macro_rules | `(tactic| walk_at "call ref") => `(tactic| refine stop_intro ?_)
local macro_rules | `(tactic| walk_at "exec While Compare cons nil") => `(tactic| refine stop_intro ?_)
local macro_rules | `(tactic| walk_at "pyIter ref") => `(tactic| refine stop_intro ?_)
local macro_rules | `(tactic| walk_at "subscriptTail Name UnaryOp ref int") => `(tactic| refine stop_intro ?_)
local macro_rules | `(tactic| walk_at "subscriptTail Name Name ref int") => `(tactic| refine stop_intro ?_)
local macro_rules | `(tactic| walk_at "binaryOp Mult str int") => `(tactic| refine stop_intro ?_)
local macro_rules | `(tactic| walk_at "binaryOp Add str str") => `(tactic| refine stop_intro ?_)
local macro_rules | `(tactic| walk_at "subscriptTail List BinOp ref int") => `(tactic| refine stop_intro ?_)
local macro_rules | `(tactic| walk_at "call builtin:str.split") => `(tactic| refine stop_intro ?_)
local macro_rules | `(tactic| walk_at "call builtin:str.replace") => `(tactic| refine stop_intro ?_)
local macro_rules | `(tactic| walk_at "call builtin:str.join") => `(tactic| refine stop_intro ?_)
local macro_rules | `(tactic| walk_at "call builtin:str.find") => `(tactic| refine stop_intro ?_)
local macro_rules | `(tactic| walk_at "call builtin:list.append") => `(tactic| refine stop_intro ?_)
local macro_rules | `(tactic| walk_at "subscriptTail Name Constant ref int") => `(tactic| refine stop_intro ?_)
local macro_rules | `(tactic| walk_at "eval Lambda") => `(tactic| refine stop_intro ?_)
local macro_rules | `(tactic| walk_at "subscriptTail Name Slice ref ref") => `(tactic| refine stop_intro ?_)
local macro_rules | `(tactic| walk_at "execs nil") => `(tactic| ((with_reducible show wpAny _ _ (execs [] _) (WEnd _ _ _ _ _) _ _); refine stop_intro ?_))
local macro_rules | `(tactic| walk_at "execs nil") => `(tactic| ((with_reducible show wpAny _ _ (execs [] _) (TEnd _ _ _ _ _ _ _) _ _); refine stop_intro ?_))
local macro_rules | `(tactic| walk_at "call builtin:len") => `(tactic| (k_here; (with_reducible show wpAny _ _ (call (Value.builtin _) [Value.ref _]) _ _ _); k_dflt (refine' call_len_list ?a ?b ?_; (case a => is_list); (case b => (simp only [List.size_toArray]; omega)); k_whole)))
local macro_rules | `(tactic| walk_at "execs cons") => `(tactic| ((with_reducible rename 1 ≤ _ => h1tk); refine wpAny_execs_cons ?_))
theorem c_hours (X : (hd.heap_39 w.params).In s.heap) (T : Top p loose mean mg mb s.heap) {lr : Addr} {vs : List Value} {rows : List (Int × Int)} {turn : Int} {tt : Tok} (hr : dp + 3 < recursionLimit)
    (hrows : RowsAt s.heap lr vs rows) (hrn : rows.length ≤ 20) (hrb : ∀ r ∈ rows, (0 ≤ r.1 ∧ r.1 ≤ 10) ∧ 0 ≤ r.2 ∧ r.2 ≤ 10)
    (h : ∀ h' tk l hs, Kp s.heap h' → HoursAt h' l hs (hoursT rows) 6 → Q (.ref l) { s with heap := h', toks := tk }) :
    wpAny (model PySem.Challenge.rw_pu0022_01.row.prog w) ({ handled := none, depth := dp, frames := fr, guards := gd, units := un } : Around) (call (.ref 80) [.ref lr, .int turn tt]) Q E s := by
  w_top off; revert X; k_fill; intro X
  refine' enter (binds := [("rows", .ref lr), ("turn", .int turn tt)]) X T (show dp < recursionLimit by omega) ?k6 ?k7 ?k9 ?kB ?_ ?c2 ?c3 ?c4 ?c5
  case k6 => k_is
  case k7 => k_is
  case k9 => exact BindsTo.of_eq rfl
  case kB => exact locs rfl
  case c2 => exact rfl
  case c3 => exact rfl
  case c4 => exact rfl
  case c5 => decide
  have hrl := hrows.list
  have hvl := hrows.len
  intro L h₁ F N
  k_fold
  k_steps
  refine Stop.go (For_invV s.heap rfl rfl ?_ (fun _ => rfl) passes_false)
  k_steps
  rename Fr _ _ _ _ => F
  rename News _ _ _ _ => N
  rename IsRange _ _ _ _ _ _ _ _ => hR
  refine Stop.go (loop_range (MailJ lr rows turn tt) rfl hR (congrArg Nat.cast hvl) (by omega) F N ?_ ?_ ?_)
  · exact ⟨rfl, _, _, rfl, rfl, rfl, rfl⟩
  · rintro I i t m₁ news₁ h tk oI hi ⟨rfl, x, tx, hx, hm1, hm2, hm3⟩ hne F N
    rw [pin3 hm1 hm2 hm3] at F
    obtain ⟨r, hri⟩ : ∃ r, rows[i]? = some r := ⟨rows[i], by simp [hi]⟩
    obtain ⟨ta, tf, tb, hv1, hv2⟩ := hrows.row i r hri
    have hxl : x.length ≤ 1000 := by
      have := mail0_length (rows.take i) turn fun q hq => ⟨(hrb q (List.mem_of_mem_take hq)).1.2, (hrb q (List.mem_of_mem_take hq)).2.2⟩
      rw [← hx, Array.length_toList, List.length_take] at this
      show x.cps.size ≤ 1000
      omega
    k_steps
    refine Stop.go (item_list (F.lst hrl) (by omega) (by omega) (v := .ref ta) (by simpa using hv1) ?_)
    k_steps
    have hb := hrb r (List.mem_of_getElem? hri)
    have hx0 : x.cps.toList.length ≤ 1000 := by rw [Array.length_toList]; exact hxl
    refine Stop.go (str_mul (c := 46) rfl (by omega) (by omega) fun y1 t1 k1 hy1 => ?_)
    k_steps
    refine Stop.go (str_add (by omega) (by rw [hy1, List.length_replicate]; omega) fun y2 t2 k2 hy2 => ?_)
    k_steps
    have hl2 : y2.cps.toList.length ≤ 1010 := by rw [hy2, List.length_append, hy1, List.length_replicate]; omega
    refine Stop.go (str_add (by omega) (by decide) fun y3 t3 k3 hy3 => ?_)
    have hl3 : y3.cps.toList.length ≤ 1011 := by rw [hy3, List.length_append]; show _ + 1 ≤ _; omega
    k_steps
    refine Stop.go (str_mul (c := 46) rfl (by omega) (by omega) fun y4 t4 k4 hy4 => ?_)
    k_steps
    have hl4 : y4.cps.toList.length ≤ 10 := by rw [hy4, List.length_replicate]; omega
    refine Stop.go (str_add (by omega) (by omega) fun y5 t5 k5 hy5 => ?_)
    have hl5 : y5.cps.toList.length ≤ 1021 := by rw [hy5, List.length_append]; omega
    k_steps
    all_goals (
      rename Int.fmod _ _ = _ => hmod
      refine Stop.go (str_add (by omega) (by decide) fun y6 t6 k6 hy6 => ?_)
      k_steps
      rename Fr _ _ _ _ => F
      rename News _ _ _ _ => N
      refine Stop.go (wpAny_execs_nil ⟨_, _, _, _, [], rfl, F, N, by k_mem, (fun q hq => nomatch hq), (fun q hq => nomatch hq), ?_⟩)
      refine ⟨rfl, _, _, ?_, rfl, rfl, rfl⟩
      rw [hy6, hy5, hy4, hy3, hy2, hy1, hx]
      exact mail_next hri hmod)
  · rintro m₁ news₁ h8 tk ⟨rfl, x, tx, hx, hm1, hm2, hm3⟩ F N
    rw [pin3 hm1 hm2 hm3] at F
    k_steps
    rename Fr _ _ _ _ => F
    rename News _ _ _ _ => N
    rename_i lh _ _ _ _ _
    refine Stop.go (For_invV s.heap rfl rfl ?_ (fun _ => rfl) passes_false)
    k_steps
    rename Fr _ _ _ _ => F
    rename News _ _ _ _ => N
    rename IsRange _ _ _ _ _ _ _ _ => hR
    refine Stop.go (loop_range (n := 6) (HourJ lh rows turn) rfl hR rfl (by omega) F N ?_ ?_ ?_)
    · exact ⟨x, tx, [], _, [], rfl, (fun q hq => nomatch hq), rfl, rfl, (by rw [hx, List.take_length]; rfl), rfl, fun j hj => absurd hj (Nat.not_lt_zero _)⟩
    · rintro I k t m₂ news₂ h tk oI hk ⟨y, ty, refs, nh, inner, rfl, hin, hm1, hm2, hy, hrf, hall⟩ hne F N
      rw [pin2 hm1 hm2] at F
      have hyl : y.cps.size ≤ 1000 := by
        rw [← Array.length_toList, hy]
        split
        · have := mail0_length rows turn fun q hq => ⟨(hrb q hq).1.2, (hrb q hq).2.2⟩
          omega
        · have := mailQ_length (k : Int) (by omega) (by omega) rows fun q hq => ⟨(hrb q hq).1.2, (hrb q hq).2.2⟩
          omega
      k_steps
      refine Stop.go (c_quote (X.keeps F.keep) (T.keeps F.keep) (show dp + 1 + 1 < recursionLimit by omega) (by omega) fun h9 tk9 t9 y9 kp9 htk9 hy9 => ?_)
      have F := kp9.fr F
      have N := kp9.news N
      k_steps
      have hq1 : y9.cps.toList = mailQ ((k : Int) + 1) rows := by
        rw [hy9, hy, quote]
        split
        · rename_i hk0
          rw [quote_mail0 rows turn fun q hq => (hrb q hq).1.1, hk0]
          rfl
        · rw [quote_mailQ rows k (by omega) fun q hq => (hrb q hq).1.1]
      have hq2 : y9.cps.size ≤ 1000 := by
        rw [← Array.length_toList, hq1]
        have := mailQ_length ((k : Int) + 1) (by omega) (by omega) rows fun q hq => ⟨(hrb q hq).1.2, (hrb q hq).2.2⟩
        omega
      refine Stop.go (SC.replaceW (Nat.succ_ne_zero _) (Nat.succ_ne_zero _) (Nat.ne_of_lt (Nat.lt_succ_self _)) dot_bang (show y9.cps.size ≤ _ by omega) bang_len fun t7 k7 => ?_)
      have hz1 : (Txt.replace y9 (Str.ofString ".") (Str.ofString "!")).cps.toList = swap 46 33 (mailQ ((k : Int) + 1) rows) := by
        rw [replace_dots, hq1]
      generalize Txt.replace y9 (Str.ofString ".") (Str.ofString "!") = z at hz1
      have hz2 : (Txt.split z (Str.ofString "\r\n")).map (fun q => q.cps.toList) = hoursT rows k := by
        rw [split_crlf, hz1, spl_mailQ]
        rfl
      have hz3 : z.cps.size ≤ 1000 := by
        rw [← Array.length_toList, hz1, swap, List.length_map, ← hq1, Array.length_toList]
        exact hq2
      have hz4 : (Txt.split z (Str.ofString "\r\n")).length ≤ 100 := by
        have := congrArg List.length hz2
        rw [List.length_map, hoursT, List.length_append, hourT, List.length_map] at this
        simp at this
        omega
      k_steps
      rename Fr _ _ _ _ => F
      rename News _ _ _ _ => N
      rename_i hX
      refine Stop.go (splitN1 F N crlf_len0 (fun ps h5 tkp hps F N' => ?_) (by show z.cps.size + 2 ≤ _; rw [sizeLine_eq]; omega))
      k_steps
      have hlsz := Heap.lt_size (News.get N (.tail _ (.head _)))
      have hIsz := Heap.lt_size (News.get N (.head _))
      have hIl : lh ≠ I := hne _ (.head _)
      refine Stop.go (append_K F N' (.tail (Nat.ne_of_gt hlsz) (.tail (Ne.symm hIl) (.head hin))) (fun h6 F N => ?_) (by rw [List.size_toArray, sizeLine_eq]; omega))
      refine wpAny_execs_nil ⟨_, _, _, _, (lh, listOf (refs.toArray.push (.ref hX.objs.size)) (nh + 1)) :: (hX.objs.size, listOf (strValues ps).toArray 0) :: inner, rfl, F, N, .tail _ (.head _), ?_, ?_, ?_⟩
      · intro q hq
        rcases List.mem_cons.mp hq with rfl | hq
        · exact .tail _ (.tail _ (.head _))
        · rcases List.mem_cons.mp hq with rfl | hq
          · exact .head _
          · exact .tail _ (.tail _ (.tail _ hq))
      · intro q hq
        rcases List.mem_cons.mp hq with rfl | hq
        · exact hIl
        · rcases List.mem_cons.mp hq with rfl | hq
          · exact Nat.ne_of_gt hIsz
          · exact hne q (.tail _ hq)
      · refine ⟨y9, t9, refs ++ [.ref hX.objs.size], nh + 1, (hX.objs.size, listOf (strValues ps).toArray 0) :: inner, by rw [List.push_toArray], ?_, rfl, rfl, ?_, by simp [hrf], ?_⟩
        · intro q hq
          rcases List.mem_cons.mp hq with rfl | hq
          · exact Nat.ne_of_gt hlsz
          · exact hin q hq
        · rw [hq1, if_neg (by omega)]
          rfl
        · intro j hj
          rcases Nat.lt_or_ge j k with hjk | hjk
          · obtain ⟨l, qs, n, e1, e2, e3⟩ := hall j hjk
            exact ⟨l, qs, n, by rw [List.getElem?_append_left (by omega)]; exact e1, .tail _ e2, e3⟩
          · obtain rfl : j = k := by omega
            refine ⟨_, ps, 0, by rw [List.getElem?_append_right (by omega), hrf]; simp, .head _, ?_⟩
            rw [← hz2, ← hps, List.map_map]
            rfl
    · rintro m₂ news₂ h7 tk ⟨y, ty, refs, nh, inner, rfl, hin, hm1, hm2, hy, hrf, hall⟩ F N
      rw [pin2 hm1 hm2] at F
      k_steps
      refine h _ _ _ refs F.keep ⟨News.isList N (.head _), hrf, fun k hk => ?_⟩
      obtain ⟨l, qs, n, e1, e2, e3⟩ := hall k hk
      exact ⟨l, qs, e1, News.isList N (.tail _ e2), e3⟩
end
end Mine
end
section
open PySem PySem.W PySem.Calls PyProof.Rows
namespace Mine
set_option maxRecDepth 100000
set_option maxHeartbeats 8000000
section
variable {w : World} {dp un : Nat} {fr : Option (List Env)} {gd : Option (List Code)} {s : Shared} {E Q : Value → Shared → Prop} {p : Program} {loose : List Str} {mean : ExcName → Option Value} {mg mb : Str → Option Value}
local macro_rules | `(tactic| walk_at "exec For Name Call cons nil") => `(tactic| refine stop_intro ?_)
local macro_rules | `(tactic| walk_at "exec For Name Name cons nil") => `(tactic| refine stop_intro ?_)
local macro_rules | `(tactic| walk_at "exec For Name List cons nil") => `(tactic| refine stop_intro ?_)
local macro_rules | `(tactic| walk_at "call ref") => `(tactic| refine stop_intro ?_)
local macro_rules | `(tactic| walk_at "exec While Compare cons nil") => `(tactic| refine stop_intro ?_)
local macro_rules | `(tactic| walk_at "pyIter ref") => `(tactic| refine stop_intro ?_)
local macro_rules | `(tactic| walk_at "subscriptTail Name UnaryOp ref int") => `(tactic| refine stop_intro ?_)
local macro_rules | `(tactic| walk_at "subscriptTail Name Name ref int") => `(tactic| refine stop_intro ?_)
local macro_rules | `(tactic| walk_at "binaryOp Mult str int") => `(tactic| refine stop_intro ?_)
local macro_rules | `(tactic| walk_at "binaryOp Add str str") => `(tactic| refine stop_intro ?_)
local macro_rules | `(tactic| walk_at "subscriptTail List BinOp ref int") => `(tactic| refine stop_intro ?_)
local macro_rules | `(tactic| walk_at "call builtin:str.split") => `(tactic| refine stop_intro ?_)
local macro_rules | `(tactic| walk_at "call builtin:str.replace") => `(tactic| refine stop_intro ?_)
local macro_rules | `(tactic| walk_at "call builtin:str.join") => `(tactic| refine stop_intro ?_)
local macro_rules | `(tactic| walk_at "call builtin:str.find") => `(tactic| refine stop_intro ?_)
local macro_rules | `(tactic| walk_at "call builtin:list.append") => `(tactic| refine stop_intro ?_)
local macro_rules | `(tactic| walk_at "subscriptTail Name Constant ref int") => `(tactic| refine stop_intro ?_)
local macro_rules | `(tactic| walk_at "eval Lambda") => `(tactic| refine stop_intro ?_)
local macro_rules | `(tactic| walk_at "subscriptTail Name Slice ref ref") => `(tactic| refine stop_intro ?_)
local macro_rules | `(tactic| walk_at "execs nil") => `(tactic| ((with_reducible show wpAny _ _ (execs [] _) (WEnd _ _ _ _ _) _ _); refine stop_intro ?_))
local macro_rules | `(tactic| walk_at "execs nil") => `(tactic| ((with_reducible show wpAny _ _ (execs [] _) (TEnd _ _ _ _ _ _ _) _ _); refine stop_intro ?_))
local macro_rules | `(tactic| walk_at "call builtin:len") => `(tactic| (k_here; (with_reducible show wpAny _ _ (call (Value.builtin _) [Value.ref _]) _ _ _); k_dflt (refine' call_len_list ?a ?b ?_; (case a => is_list); (case b => (simp only [List.size_toArray]; omega)); k_whole)))
def EllJ (got : Str) (tg : Tok) (W : List (List Nat)) (i : Nat) (m : Str → Option Value) (news : List (Addr × Obj)) : Prop :=
  news = [] ∧ ∃ (a : Nat) (ta te : Tok), a ≤ got.length ∧ ell W got.cps.toList = ell (W.drop i) (got.cps.toList.drop a) ∧
    m "startpos" = some (.int (a : Int) ta) ∧ m "endpos" = some (.int (got.length : Int) te) ∧ m "got" = some (.str got tg)
theorem c_ell (X : (hd.heap_39 w.params).In s.heap) (T : Top p loose mean mg mb s.heap) {want got : Str} {tw tg : Tok} {w1 w2 w3 : Int} (hr : dp + 1 < recursionLimit) (hw : want.cps.toList = patL w1 w2 w3) (hb : (w1 ≤ 100 ∧ w2 ≤ 100) ∧ w3 ≤ 100) (hg : got.cps.size ≤ 100000)
    (h : ∀ h' tk, Kp s.heap h' → Q (.bool (ell (patW w1 w2 w3) got.cps.toList)) { s with heap := h', toks := tk }) :
    wpAny (model PySem.Challenge.rw_pu0022_01.row.prog w) ({ handled := none, depth := dp, frames := fr, guards := gd, units := un } : Around) (call (.ref 73) [.str want tw, .str got tg]) Q E s := by
  w_top off; revert X; k_fill; intro X
  refine' enter (binds := [("want", .str want tw), ("got", .str got tg)]) X T (show dp < recursionLimit by omega) ?k6 ?k7 ?k9 ?kB ?_ ?c2 ?c3 ?c4 ?c5
  case k6 => k_is
  case k7 => k_is
  case k9 => exact BindsTo.of_eq rfl
  case kB => exact locs rfl
  case c2 => exact rfl
  case c3 => exact rfl
  case c4 => exact rfl
  case c5 => decide
  have hc : Txt.contains want (Str.ofString "...") = true := contains_dots hw
  have hwl : want.cps.size ≤ 1000 := by
    rw [← Array.length_toList, hw]
    simp only [patL, List.length_append, List.length_replicate, List.length_cons, List.length_nil]
    omega
  intro L h₁ F N
  k_fold
  k_steps
  · exfalso
    rename List.isEmpty _ = true => hq
    unfold Txt.contains at hc
    rw [hq] at hc
    cases hc
  have hsp : (Txt.split want (Str.ofString "...")).map (fun q => q.cps.toList) = patW w1 w2 w3 := by rw [split_dots, hw, spl_pat]
  have hsl : (Txt.split want (Str.ofString "...")).length = 7 := by
    have := congrArg List.length hsp
    rw [List.length_map] at this
    exact this
  refine Stop.go (splitN1 F N dots_len0 (fun ps h5 tkp hps F N => ?_) (by show want.cps.size + 2 ≤ _; rw [sizeLine_eq]; omega))
  have hpl : (strValues ps).length = 7 := by rw [strValues, List.length_map, ← hsl, ← hps, List.length_map]
  have hpw : ps.map (fun q => q.1.cps.toList) = patW w1 w2 w3 := by rw [← hsp, ← hps, List.map_map]; rfl
  have hpi : ∀ (i : Nat) (l : List Nat), (patW w1 w2 w3)[i]? = some l → ∃ q : Str × Tok, (strValues ps)[i]? = some (.str q.1 q.2) ∧ q.1.cps.toList = l := by
    intro i l hl
    rw [← hpw, List.getElem?_map] at hl
    cases hq : ps[i]? with
    | none => rw [hq] at hl; cases hl
    | some q =>
      rw [hq] at hl
      exact ⟨q, by rw [strValues, List.getElem?_map, hq]; rfl, Option.some.inj hl⟩
  have hpe : ∀ (i : Nat), (patW w1 w2 w3)[i]? = some [] → ∃ t : Tok, (strValues ps)[i]? = some (.str ⟨#[]⟩ t) := by
    intro i hl
    obtain ⟨⟨⟨⟨q⟩⟩, t⟩, h1, h2⟩ := hpi i [] hl
    have h2 : q = [] := h2
    subst h2
    exact ⟨t, h1⟩
  obtain ⟨t0, h0⟩ := hpe 0 rfl
  obtain ⟨t6, h6⟩ := hpe 6 rfl
  k_steps
  refine P.len_str (by show ¬ (got.cps.size : Int) ≥ 2 ^ 63; omega) ?_
  k_steps
  refine Stop.go (item_list (News.isList (by assumption) (by k_mem)) (by omega) (by omega) (v := .str ⟨#[]⟩ t0) (by simpa using h0) ?_)
  k_steps
  refine Stop.go (item_list_neg (News.isList (by assumption) (by k_mem)) (by omega) (by rw [List.size_toArray]; omega) (by omega) (v := .str ⟨#[]⟩ t6) (by rw [List.size_toArray, hpl]; simpa using h6) ?_)
  k_steps
  rename Fr _ _ _ _ => F
  rename News _ _ _ _ => N
  refine Stop.go (For_invV s.heap rfl rfl ?_ (fun _ => rfl) passes_false)
  k_steps
  refine Stop.go (loop_own (items := (strValues ps).toArray) (nn := 0) (EllJ got tg (patW w1 w2 w3)) rfl F (news := []) (news_sub N (fun q hq => by rw [List.mem_singleton.mp hq]; exact .tail _ (.head _))) ?_ ?_ ?_)
  · exact ⟨rfl, 0, _, _, Nat.zero_le _, rfl, rfl, rfl, rfl⟩
  · rintro I i v m₁ news₁ h8 tk8 oI hi hv ⟨rfl, a, ta, te, ha, hell, hm1, hm2, hm3⟩ hIl hne F N
    rw [pin3 hm1 hm2 hm3] at F
    obtain ⟨l, hl⟩ : ∃ l, (patW w1 w2 w3)[i]? = some l := by
      rw [List.size_toArray, hpl] at hi
      exact ⟨(patW w1 w2 w3)[i]'hi, List.getElem?_eq_getElem hi⟩
    obtain ⟨⟨q, tq⟩, hq1, hq2⟩ := hpi i l hl
    have hvq : v = .str q tq := by
      rw [List.getElem?_toArray, hq1] at hv
      exact (Option.some.inj hv).symm
    subst hvq
    have hdrop : (patW w1 w2 w3).drop i = l :: (patW w1 w2 w3).drop (i + 1) := by
      obtain ⟨hi', e⟩ := List.getElem?_eq_some_iff.mp hl
      rw [List.drop_eq_getElem_cons hi', e]
    k_steps
    refine Stop.go (str_find4 rfl rfl ?_)
    rcases findN_spec (x := got) (y := q) ha with ⟨e1, e2⟩ | ⟨k, e1, e2, e3, e4⟩
    · rw [e1]
      rw [hq2] at e2
      have hfalse : ell (patW w1 w2 w3) got.cps.toList = false := by rw [hell, hdrop, ell, e2]
      k_steps
      rename Fr _ _ _ _ => F
      exact retB (s := s) h hfalse.symm F.keep
    · rw [e1]
      rw [hq2] at e4
      have hql : q.cps.size ≤ 100000 := by
        have e3' : k + q.cps.size ≤ got.cps.size := e3
        omega
      k_steps
      refine P.len_str (by show ¬ (q.cps.size : Int) ≥ 2 ^ 63; omega) ?_
      k_steps
      rename Fr _ _ _ _ => F
      rename News _ _ _ _ => N
      refine Stop.go (wpAny_execs_nil ⟨_, _, _, _, [_], rfl, F, N, .head _, fun q hq => .tail _ hq, fun q hq => by rw [List.mem_singleton.mp hq]; exact Ne.symm hIl, .head _, [], rfl, ?_⟩)
      refine ⟨rfl, k + q.length, _, _, e3, ?_, congrArg (fun z => some (Value.int z _)) (Int.natCast_add k q.length).symm, rfl, rfl⟩
      rw [hell, hdrop, ell, e4]
  · rintro m₁ news₁ h8 tk8 ⟨rfl, a, ta, te, ha, hell, hm1, hm2, hm3⟩ F N
    rw [pin3 hm1 hm2 hm3] at F
    k_steps
    refine retB (s := s) h ?_ F.keep
    rw [hell, List.drop_eq_nil_of_le (by rw [List.size_toArray, hpl]; exact Nat.le_refl 7)]
    rfl
end
end Mine
end
section
open PySem PySem.W PySem.Calls PyProof.Rows
namespace Mine
set_option maxRecDepth 100000
set_option maxHeartbeats 8000000
section
variable {w : World} {dp un : Nat} {fr : Option (List Env)} {gd : Option (List Code)} {s : Shared} {E Q : Value → Shared → Prop} {p : Program} {loose : List Str} {mean : ExcName → Option Value} {mg mb : Str → Option Value}
local macro_rules | `(tactic| walk_at "exec For Name Call cons nil") => `(tactic| refine stop_intro ?_)
local macro_rules | `(tactic| walk_at "exec For Name Name cons nil") => `(tactic| refine stop_intro ?_)
local macro_rules | `(tactic| walk_at "exec For Name List cons nil") => `(tactic| refine stop_intro ?_)
local macro_rules | `(tactic| walk_at "call ref") => `(tactic| refine stop_intro ?_)
local macro_rules | `(tactic| walk_at "exec While Compare cons nil") => `(tactic| refine stop_intro ?_)
local macro_rules | `(tactic| walk_at "pyIter ref") => `(tactic| refine stop_intro ?_)
local macro_rules | `(tactic| walk_at "subscriptTail Name UnaryOp ref int") => `(tactic| refine stop_intro ?_)
local macro_rules | `(tactic| walk_at "subscriptTail Name Name ref int") => `(tactic| refine stop_intro ?_)
local macro_rules | `(tactic| walk_at "binaryOp Mult str int") => `(tactic| refine stop_intro ?_)
local macro_rules | `(tactic| walk_at "binaryOp Add str str") => `(tactic| refine stop_intro ?_)
local macro_rules | `(tactic| walk_at "subscriptTail List BinOp ref int") => `(tactic| refine stop_intro ?_)
local macro_rules | `(tactic| walk_at "call builtin:str.split") => `(tactic| refine stop_intro ?_)
local macro_rules | `(tactic| walk_at "call builtin:str.replace") => `(tactic| refine stop_intro ?_)
local macro_rules | `(tactic| walk_at "call builtin:str.join") => `(tactic| refine stop_intro ?_)
local macro_rules | `(tactic| walk_at "call builtin:str.find") => `(tactic| refine stop_intro ?_)
local macro_rules | `(tactic| walk_at "call builtin:list.append") => `(tactic| refine stop_intro ?_)
local macro_rules | `(tactic| walk_at "subscriptTail Name Constant ref int") => `(tactic| refine stop_intro ?_)
local macro_rules | `(tactic| walk_at "eval Lambda") => `(tactic| refine stop_intro ?_)
local macro_rules | `(tactic| walk_at "subscriptTail Name Slice ref ref") => `(tactic| refine stop_intro ?_)
local macro_rules | `(tactic| walk_at "execs nil") => `(tactic| ((with_reducible show wpAny _ _ (execs [] _) (WEnd _ _ _ _ _) _ _); refine stop_intro ?_))
local macro_rules | `(tactic| walk_at "execs nil") => `(tactic| ((with_reducible show wpAny _ _ (execs [] _) (TEnd _ _ _ _ _ _ _) _ _); refine stop_intro ?_))
local macro_rules | `(tactic| walk_at "call builtin:len") => `(tactic| (k_here; (with_reducible show wpAny _ _ (call (Value.builtin _) [Value.ref _]) _ _ _); k_dflt (refine' call_len_list ?a ?b ?_; (case a => is_list); (case b => (simp only [List.size_toArray]; omega)); k_whole)))
def fitsI (w1 w2 w3 : Int) (texts : List (List Nat)) : Int := if ell (patW w1 w2 w3) (glue [13, 10] texts) then 1 else 0
theorem c_fits (X : (hd.heap_39 w.params).In s.heap) (T : Top p loose mean mg mb s.heap) {lg lt : Addr} {w1 w2 w3 : Int} {t1 t2 t3 : Tok} {ps : List (Str × Tok)} (hr : dp + 2 < recursionLimit) (hg : s.heap.IsList lg #[.int w1 t1, .int w2 t2, .int w3 t3])
    (hb : ((0 ≤ w1 ∧ w1 ≤ 100) ∧ 0 ≤ w2 ∧ w2 ≤ 100) ∧ 0 ≤ w3 ∧ w3 ≤ 100) (ht : s.heap.IsList lt (strValues ps).toArray) (hn : ps.length ≤ 100) (htl : ∀ q ∈ ps, q.1.cps.size ≤ 100)
    (h : ∀ h' tk t', Kp s.heap h' → Q (.int (fitsI w1 w2 w3 (ps.map fun q => q.1.cps.toList)) t') { s with heap := h', toks := tk }) :
    wpAny (model PySem.Challenge.rw_pu0022_01.row.prog w) ({ handled := none, depth := dp, frames := fr, guards := gd, units := un } : Around) (call (.ref 85) [.ref lg, .ref lt]) Q E s := by
  w_top off; revert X; k_fill; intro X
  refine' enter (binds := [("goal", .ref lg), ("texts", .ref lt)]) X T (show dp < recursionLimit by omega) ?k6 ?k7 ?k9 ?kB ?_ ?c2 ?c3 ?c4 ?c5
  case k6 => k_is
  case k7 => k_is
  case k9 => exact BindsTo.of_eq rfl
  case kB => exact locs rfl
  case c2 => exact rfl
  case c3 => exact rfl
  case c4 => exact rfl
  case c5 => decide
  intro L h₁ F N
  k_fold
  k_steps
  refine Stop.go (str_mul (c := 33) rfl (by omega) (by omega) fun y1 u1 k1 hy1 => ?_)
  k_steps
  refine Stop.go (str_mul (c := 33) rfl (by omega) (by omega) fun y2 u2 k2 hy2 => ?_)
  k_steps
  refine Stop.go (str_mul (c := 33) rfl (by omega) (by omega) fun y3 u3 k3 hy3 => ?_)
  k_steps
  rename Fr _ _ _ _ => F
  rename News _ _ _ _ => N
  have l1 : y1.cps.size ≤ 1000 := by rw [← Array.length_toList, hy1, List.length_replicate]; omega
  have l2 : y2.cps.size ≤ 1000 := by rw [← Array.length_toList, hy2, List.length_replicate]; omega
  have l3 : y3.cps.size ≤ 1000 := by rw [← Array.length_toList, hy3, List.length_replicate]; omega
  refine Stop.go (str_join (l := [(y1, u1), (y2, u2), (y3, u3)]) (News.isList N (.head _)) mid_size (by simp) ?_ fun y4 u4 k4 hy4 => ?_)
  · intro q hq
    rcases List.mem_cons.mp hq with rfl | hq
    · exact l1
    · rcases List.mem_cons.mp hq with rfl | hq
      · exact l2
      · rw [List.mem_singleton.mp hq]; exact l3
  have hy4' : y4.cps.toList = glue [46, 46, 46, 13, 10, 46, 46, 46] [List.replicate w1.toNat 33, List.replicate w2.toNat 33, List.replicate w3.toNat 33] := by
    rw [hy4, mid_cps, ← hy1, ← hy2, ← hy3]
    rfl
  have l4 : y4.cps.toList.length ≤ 10000 := by
    rw [hy4']
    simp only [glue, List.length_append, List.length_replicate, List.length_cons, List.length_nil]
    omega
  k_steps
  refine Stop.go (str_add dots_size (by omega) fun y5 u5 k5 hy5 => ?_)
  k_steps
  refine Stop.go (str_add (by rw [hy5, List.length_append, dots_cps]; simp only [List.length_cons, List.length_nil]; omega) dots_size fun y6 u6 k6 hy6 => ?_)
  have hy6' : y6.cps.toList = patL w1 w2 w3 := by rw [hy6, hy5, dots_cps, hy4', pat_glue]
  k_steps
  refine Stop.go (str_join (Fr.lst (by assumption) ht) crlf_size (by omega) (fun q hq => Nat.le_trans (htl q hq) (by omega)) fun y7 u7 k7 hy7 => ?_)
  k_steps
  rename Fr _ _ _ _ => F
  rename News _ _ _ _ => N
  have hy7' : y7.cps.toList = glue [13, 10] (ps.map fun q => q.1.cps.toList) := by rw [hy7, crlf_cps]
  have l7 : y7.cps.size ≤ 100000 := by
    rw [← Array.length_toList, hy7']
    have := glue_len [13, 10] (ps.map fun q => q.1.cps.toList) 100 (by
      intro t ht
      obtain ⟨q, hq, rfl⟩ := List.mem_map.mp ht
      rw [Array.length_toList]
      exact htl q hq)
    rw [List.length_map] at this
    simp only [List.length_cons, List.length_nil] at this
    omega
  refine Stop.go (c_ell (X.keeps F.keep) (T.keeps F.keep) (show dp + 1 + 1 < recursionLimit by omega) hy6' ⟨⟨hb.1.1.2, hb.1.2.2⟩, hb.2.2⟩ l7 fun h9 tk9 kp9 => ?_)
  have F := kp9.fr F
  have N := kp9.news N
  rw [hy7']
  have hfi : fitsI w1 w2 w3 (ps.map fun q => q.1.cps.toList) = if ell (patW w1 w2 w3) (glue [13, 10] (ps.map fun q => q.1.cps.toList)) then 1 else 0 := rfl
  cases hell : ell (patW w1 w2 w3) (glue [13, 10] (ps.map fun q => q.1.cps.toList))
  all_goals (
    rw [hell] at hfi
    k_steps
    exact retI (s := s) h hfi.symm F.keep)
end
end Mine
end
section
open PySem PySem.W PySem.Calls PyProof.Rows
namespace Mine
set_option maxRecDepth 100000
set_option maxHeartbeats 8000000
section
variable {w : World} {dp un : Nat} {fr : Option (List Env)} {gd : Option (List Code)} {s : Shared} {E Q : Value → Shared → Prop} {p : Program} {loose : List Str} {mean : ExcName → Option Value} {mg mb : Str → Option Value}
local macro_rules | `(tactic| walk_at "exec For Name Call cons nil") => `(tactic| refine stop_intro ?_)
local macro_rules | `(tactic| walk_at "exec For Name Name cons nil") => `(tactic| refine stop_intro ?_)
local macro_rules | `(tactic| walk_at "exec For Name List cons nil") => `(tactic| refine stop_intro ?_)
local macro_rules | `(tactic| walk_at "call ref") => `(tactic| refine stop_intro ?_)
local macro_rules | `(tactic| walk_at "exec While Compare cons nil") => `(tactic| refine stop_intro ?_)
local macro_rules | `(tactic| walk_at "pyIter ref") => `(tactic| refine stop_intro ?_)
local macro_rules | `(tactic| walk_at "subscriptTail Name UnaryOp ref int") => `(tactic| refine stop_intro ?_)
local macro_rules | `(tactic| walk_at "subscriptTail Name Name ref int") => `(tactic| refine stop_intro ?_)
local macro_rules | `(tactic| walk_at "binaryOp Mult str int") => `(tactic| refine stop_intro ?_)
local macro_rules | `(tactic| walk_at "binaryOp Add str str") => `(tactic| refine stop_intro ?_)
local macro_rules | `(tactic| walk_at "subscriptTail List BinOp ref int") => `(tactic| refine stop_intro ?_)
local macro_rules | `(tactic| walk_at "call builtin:str.split") => `(tactic| refine stop_intro ?_)
local macro_rules | `(tactic| walk_at "call builtin:str.replace") => `(tactic| refine stop_intro ?_)
local macro_rules | `(tactic| walk_at "call builtin:str.join") => `(tactic| refine stop_intro ?_)
local macro_rules | `(tactic| walk_at "call builtin:str.find") => `(tactic| refine stop_intro ?_)
local macro_rules | `(tactic| walk_at "call builtin:list.append") => `(tactic| refine stop_intro ?_)
local macro_rules | `(tactic| walk_at "subscriptTail Name Constant ref int") => `(tactic| refine stop_intro ?_)
local macro_rules | `(tactic| walk_at "eval Lambda") => `(tactic| refine stop_intro ?_)
local macro_rules | `(tactic| walk_at "subscriptTail Name Slice ref ref") => `(tactic| refine stop_intro ?_)
local macro_rules | `(tactic| walk_at "execs nil") => `(tactic| ((with_reducible show wpAny _ _ (execs [] _) (WEnd _ _ _ _ _) _ _); refine stop_intro ?_))
local macro_rules | `(tactic| walk_at "execs nil") => `(tactic| ((with_reducible show wpAny _ _ (execs [] _) (TEnd _ _ _ _ _ _ _) _ _); refine stop_intro ?_))
local macro_rules | `(tactic| walk_at "call builtin:len") => `(tactic| (k_here; (with_reducible show wpAny _ _ (call (Value.builtin _) [Value.ref _]) _ _ _); k_dflt (refine' call_len_list ?a ?b ?_; (case a => is_list); (case b => (simp only [List.size_toArray]; omega)); k_whole)))
/-- the middle is asked: behind it, or up to it -/
def bis (p : Nat → Bool) : Nat → Nat → Nat → Nat
  | 0, lo, _ => lo
  | f + 1, lo, hi => if lo < hi then (if p ((lo + hi) / 2) then bis p f ((lo + hi) / 2 + 1) hi else bis p f lo ((lo + hi) / 2)) else lo
/-- a key function that tells g i of the item i, at every heap that keeps h₀, and keeps it -/
def KeyOk (w : World) (D : Nat) (h₀ : Heap) (kf : Addr) (items : Array Value) (g : Nat → Int) : Prop :=
  (∃ o fd, h₀.get? kf = some o ∧ o.data = .func fd) ∧
  ∀ (i : Nat) (v : Value), items[i]? = some v → ∀ (dp un : Nat) (fr : Option (List Env)) (gd : Option (List Code)) (s : Shared) (E Q : Value → Shared → Prop), dp ≤ D → Kp h₀ s.heap →
    (∀ h' tk t', Kp s.heap h' → Q (.int (g i) t') { s with heap := h', toks := tk }) → wpAny (model PySem.Challenge.rw_pu0022_01.row.prog w) ({ handled := none, depth := dp, frames := fr, guards := gd, units := un } : Around) (call (.ref kf) [v]) Q E s
def BisJ (la kf : Addr) (x : Int) (tx : Tok) (size : Nat) (p : Nat → Bool) (R : Nat) (n : Nat) (m : Str → Option Value) (news : List (Addr × Obj)) : Prop :=
  news = [] ∧ ∃ (lo hi : Nat) (tl th : Tok), hi ≤ size ∧ hi - lo ≤ n ∧ bis p n lo hi = R ∧ m "lo" = some (.int (lo : Int) tl) ∧ m "hi" = some (.int (hi : Int) th) ∧ m "a" = some (.ref la) ∧ m "x" = some (.int x tx) ∧ m "key" = some (.ref kf)
local macro_rules | `(tactic| walk_at "callWith ref") => `(tactic| refine stop_intro ?_)
theorem c_left (X : (hd.heap_39 w.params).In s.heap) (T : Top p loose mean mg mb s.heap) {la kf : Addr} {items : Array Value} {g : Nat → Int} {x : Int} {lo hi : Nat} {tx tl th : Tok} (hr : dp + 2 < recursionLimit) (ha : s.heap.IsList la items) (hhi : hi ≤ items.size) (hsz : items.size ≤ 1000)
    (hk : KeyOk w (dp + 1) s.heap kf items g)
    (h : ∀ h' tk t', Kp s.heap h' → Q (.int ((bis (fun i => decide (g i < x)) (hi - lo) lo hi : Nat) : Int) t') { s with heap := h', toks := tk }) :
    wpAny (model PySem.Challenge.rw_pu0022_01.row.prog w) ({ handled := none, depth := dp, frames := fr, guards := gd, units := un } : Around) (call (.ref 66) [.ref la, .int x tx, .int (lo : Int) tl, .int (hi : Int) th] [("key", .ref kf)]) Q E s := by
  w_top off; revert X; k_fill; intro X
  refine' enter (binds := [("a", .ref la), ("x", .int x tx), ("lo", .int (lo : Int) tl), ("hi", .int (hi : Int) th), ("key", .ref kf)]) X T (show dp < recursionLimit by omega) ?k6 ?k7 ?k9 ?kB ?_ ?c2 ?c3 ?c4 ?c5
  case k6 => k_is
  case k7 => k_is
  case k9 => exact binds_K X rfl (by k_is) rfl rfl rfl
  case kB => exact locs rfl
  case c2 => exact rfl
  case c3 => exact rfl
  case c4 => exact rfl
  case c5 => decide
  obtain ⟨⟨ok, fk, hk1, hk2⟩, hk3⟩ := hk
  intro L h₁ F N
  k_fold
  k_steps
  rename Fr _ _ _ _ => F
  rename News _ _ _ _ => N
  refine Stop.go (loop_while (BisJ la kf x tx items.size (fun i => decide (g i < x)) (bis (fun i => decide (g i < x)) (hi - lo) lo hi)) (hi - lo) F N ?_ ?_)
  · exact ⟨rfl, lo, hi, tl, th, hhi, Nat.le_refl _, rfl, rfl, rfl, rfl, rfl, rfl⟩
  · rintro n m₁ news₁ h8 tk8 ⟨rfl, a, b, ta, tb, hbs, hn, hR, hm1, hm2, hm3, hm4, hm5⟩ F N
    rw [pin5 hm1 hm2 hm3 hm4 hm5] at F
    k_steps
    · rename Fr _ _ _ _ => F
      rename News _ _ _ _ => N
      rename (_ : Int) < _ => hab
      have hmid : Int.fdiv ((a : Int) + b) 2 = (((a + b) / 2 : Nat) : Int) := by
        rw [Int.fdiv_eq_ediv_of_nonneg _ (by omega)]
        omega
      have hml : (a + b) / 2 < items.size := by omega
      rw [hmid] at F
      have hbis : bis (fun i => decide (g i < x)) n a b = if g ((a + b) / 2) < x then bis (fun i => decide (g i < x)) (n - 1) ((a + b) / 2 + 1) b else bis (fun i => decide (g i < x)) (n - 1) a ((a + b) / 2) := by
        obtain ⟨k, rfl⟩ : ∃ k, n = k + 1 := ⟨n - 1, by omega⟩
        rw [bis, if_pos (by omega)]
        simp
      generalize hM : (a + b) / 2 = mid at *
      refine Stop.go (callWith_fn (o := ok) (fd := fk) ?_)
      k_steps
      refine Stop.go (item_list (F.lst ha) (by omega) (by omega) (v := items[mid]) (by simp [hml]) ?_)
      k_steps
      refine Stop.go (hk3 mid items[mid] (by simp [hml]) (dp + 1) _ _ _ _ _ _ (Nat.le_refl _) F.keep fun h9 tk9 t9 kp9 => ?_)
      have F := kp9.fr F
      have N := kp9.news N
      rw [hbis] at hR
      k_steps
      · rename Fr _ _ _ _ => F
        rename News _ _ _ _ => N
        rename g mid < x => hgx
        rw [if_pos hgx] at hR
        exact Stop.go (wpAny_execs_nil ⟨_, _, _, [], rfl, F, N, n - 1, by omega, rfl, mid + 1, b, _, _, hbs, by omega, hR, congrArg (fun z => some (Value.int z _)) (show (mid : Int) + 1 = ((mid + 1 : Nat) : Int) by omega), rfl, rfl, rfl, rfl⟩)
      · rename Fr _ _ _ _ => F
        rename News _ _ _ _ => N
        rename ¬ (g mid < x) => hgx
        rw [if_neg hgx] at hR
        exact Stop.go (wpAny_execs_nil ⟨_, _, _, [], rfl, F, N, n - 1, by omega, rfl, a, mid, _, _, by omega, by omega, hR, rfl, rfl, rfl, rfl, rfl⟩)
    · rename Fr _ _ _ _ => F
      refine retI (s := s) h ?_ F.keep
      rw [← hR]
      cases n with
      | zero => rfl
      | succ n => rw [bis, if_neg (by omega)]
theorem c_right (X : (hd.heap_39 w.params).In s.heap) (T : Top p loose mean mg mb s.heap) {la kf : Addr} {items : Array Value} {g : Nat → Int} {x : Int} {tx : Tok} (hr : dp + 2 < recursionLimit) (ha : s.heap.IsList la items) (hsz : items.size ≤ 1000)
    (hk : KeyOk w (dp + 1) s.heap kf items g)
    (h : ∀ h' tk t', Kp s.heap h' → Q (.int ((bis (fun i => !decide (x < g i)) items.size 0 items.size : Nat) : Int) t') { s with heap := h', toks := tk }) :
    wpAny (model PySem.Challenge.rw_pu0022_01.row.prog w) ({ handled := none, depth := dp, frames := fr, guards := gd, units := un } : Around) (call (.ref 57) [.ref la, .int x tx] [("key", .ref kf)]) Q E s := by
  w_top off; revert X; k_fill; intro X
  refine' enter (binds := [("a", .ref la), ("x", .int x tx), ("lo", .int 0 353), ("hi", .none), ("key", .ref kf)]) X T (show dp < recursionLimit by omega) ?k6 ?k7 ?k9 ?kB ?_ ?c2 ?c3 ?c4 ?c5
  case k6 => k_is
  case k7 => k_is
  case k9 => exact binds_K X rfl (by k_is) rfl rfl rfl
  case kB => exact locs rfl
  case c2 => exact rfl
  case c3 => exact rfl
  case c4 => exact rfl
  case c5 => decide
  obtain ⟨⟨ok, fk, hk1, hk2⟩, hk3⟩ := hk
  intro L h₁ F N
  k_fold
  k_steps
  rename Fr _ _ _ _ => F
  rename News _ _ _ _ => N
  refine Stop.go (loop_while (BisJ la kf x tx items.size (fun i => !decide (x < g i)) (bis (fun i => !decide (x < g i)) items.size 0 items.size)) items.size F N ?_ ?_)
  · exact ⟨rfl, 0, items.size, _, _, Nat.le_refl _, by omega, rfl, rfl, rfl, rfl, rfl, rfl⟩
  · rintro n m₁ news₁ h8 tk8 ⟨rfl, a, b, ta, tb, hbs, hn, hR, hm1, hm2, hm3, hm4, hm5⟩ F N
    rw [pin5 hm1 hm2 hm3 hm4 hm5] at F
    k_steps
    · rename Fr _ _ _ _ => F
      rename News _ _ _ _ => N
      rename (_ : Int) < _ => hab
      have hmid : Int.fdiv ((a : Int) + b) 2 = (((a + b) / 2 : Nat) : Int) := by
        rw [Int.fdiv_eq_ediv_of_nonneg _ (by omega)]
        omega
      have hml : (a + b) / 2 < items.size := by omega
      rw [hmid] at F
      have hbis : bis (fun i => !decide (x < g i)) n a b = if x < g ((a + b) / 2) then bis (fun i => !decide (x < g i)) (n - 1) a ((a + b) / 2) else bis (fun i => !decide (x < g i)) (n - 1) ((a + b) / 2 + 1) b := by
        obtain ⟨k, rfl⟩ : ∃ k, n = k + 1 := ⟨n - 1, by omega⟩
        rw [bis, if_pos (by omega)]
        by_cases hxg : x < g ((a + b) / 2) <;> simp [hxg]
      generalize hM : (a + b) / 2 = mid at *
      refine Stop.go (callWith_fn (o := ok) (fd := fk) ?_)
      k_steps
      refine Stop.go (item_list (F.lst ha) (by omega) (by omega) (v := items[mid]) (by simp [hml]) ?_)
      k_steps
      refine Stop.go (hk3 mid items[mid] (by simp [hml]) (dp + 1) _ _ _ _ _ _ (Nat.le_refl _) F.keep fun h9 tk9 t9 kp9 => ?_)
      have F := kp9.fr F
      have N := kp9.news N
      rw [hbis] at hR
      k_steps
      · rename Fr _ _ _ _ => F
        rename News _ _ _ _ => N
        rename x < g mid => hgx
        rw [if_pos hgx] at hR
        exact Stop.go (wpAny_execs_nil ⟨_, _, _, [], rfl, F, N, n - 1, by omega, rfl, a, mid, _, _, by omega, by omega, hR, rfl, rfl, rfl, rfl, rfl⟩)
      · rename Fr _ _ _ _ => F
        rename News _ _ _ _ => N
        rename ¬ (x < g mid) => hgx
        rw [if_neg hgx] at hR
        exact Stop.go (wpAny_execs_nil ⟨_, _, _, [], rfl, F, N, n - 1, by omega, rfl, mid + 1, b, _, _, hbs, by omega, hR, congrArg (fun z => some (Value.int z _)) (show (mid : Int) + 1 = ((mid + 1 : Nat) : Int) by omega), rfl, rfl, rfl, rfl⟩)
    · rename Fr _ _ _ _ => F
      refine retI (s := s) h ?_ F.keep
      rw [← hR]
      cases n with
      | zero => rfl
      | succ n => rw [bis, if_neg (by omega)]
end
end Mine
end
section
open PySem PySem.W PySem.Calls PyProof.Rows
namespace Mine
set_option maxRecDepth 100000
set_option maxHeartbeats 8000000
theorem kp_hide {g h : Heap} {as : List Addr} (k : Kp g h) (hn : ∀ a ∈ as, g.get? a = none) : Kp g (hideAll h as) := fun b o e =>
  hideAll_get as (k b o e) fun hb => by rw [hn b hb] at e; cases e
theorem of_hide {h : Heap} {as : List Addr} : Kp (hideAll h as) h := fun _ _ e => of_hideAll as e
/-- what is hidden stands in the ledger as it stood: all stands -/
theorem kp_unhide {h h' : Heap} {L : Addr} {m : Str → Option Value} {news : List (Addr × Obj)} (F : Fr (hideAll h (news.map (·.1))) L h' m) (N : ∀ q ∈ news, h'.get? q.1 = some q.2) (hn : ∀ q ∈ news, h.get? q.1 = some q.2) : Kp h h' := by
  intro b o e
  by_cases hb : b ∈ news.map (·.1)
  · obtain ⟨q, hq, rfl⟩ := List.mem_map.mp hb
    rw [hn q hq] at e
    cases e
    exact N q hq
  · exact F.keep b o (hideAll_get _ e hb)
/-- a table of code places whose lambda at pos, once made, is known -/
def TabOk (qual : Str) (pos : Pos) (P : Addr) (h : Heap) : Prop :=
  ∃ ps : Array Value, h.get? P = some (tabObj ps) ∧ TriplesOk ps.toList ∧ (codeAmong pos ps.toList = none ∨ ∃ c', c' ≠ P ∧ codeAmong pos ps.toList = some (.ref c') ∧ h.CodeRec (.ref c') qual)
theorem codeRec_kp {h h' : Heap} {P c : Addr} {qual : Str} (x : h.CodeRec (.ref c) qual) (hc : c ≠ P) (k : Heap.ExtBut P h h') : h'.CodeRec (.ref c) qual := by
  obtain ⟨c₂, oc, vs, t, e2, hoc, hd, hv⟩ := x
  cases e2
  exact ⟨c, oc, vs, t, rfl, k _ _ hc hoc, hd, hv⟩
section
variable {w : World} {dp un : Nat} {fr : Option (List Env)} {gd : Option (List Code)} {s : Shared} {E Q : Value → Shared → Prop} {p : Program} {loose : List Str} {mean : ExcName → Option Value} {mg mb : Str → Option Value}
theorem enterC {name qual : Str} {params : Arguments} {body : List Stmt} {scope : Scope} {dV kV doc pm cdv ct oc : Value} {an od : Option Addr} {osl : Array (Option Value)} {f P : Addr} {oP : Obj} {args : List Value} {kw : List (Str × Value)} {binds : List (Str × Value)} {A : Around}
    (X : (hd.heap_39 w.params).In s.heap) (T : Top p loose mean mg mb s.heap) (hroom : A.depth < recursionLimit)
    (ho : (hd.heap_39 w.params).lookup f = some ⟨oc, od, .func (fnOf name qual params body scope dV kV doc pm an cdv ct), osl⟩) (hcd : codeIn (hd.heap_39 w.params) cdv qual = true)
    (hbind : BindsTo s (fnOf name qual params body scope dV kV doc pm an cdv ct) ⟨args, kw⟩ binds)
    (hkind : (binds.all fun y => scope.names.lookup y.1 == some .local || scope.names.lookup y.1 == some .cell) = true)
    (hnd : ((cellsFrom 0 scope.names []).map (·.1)).Nodup) (hP : s.heap.get? P = some oP)
    (h : ∀ L h₁ tk cells, Fr (hideAll s.heap [P]) L h₁ (bindL (envOfC qual scope L f cdv).kindOf binds fun _ => none) → News (hideAll s.heap [P]) L h₁ (cells ++ [(P, oP)]) →
      CellsAre (bindC (envOfC qual scope L f cdv).kindOf binds fun _ => none) (cellsFrom (L + 1) scope.names []) cells → P < L →
      wpAny (model PySem.Challenge.rw_pu0022_01.row.prog w) (A.deeper (envOfC qual scope L f cdv)) (execs body (envOfC qual scope L f cdv))
        (fun fl s' => Q (match fl with | .ret v => v | _ => .none) s') (fun _ _ => False) { s with heap := h₁, toks := tk })
    (hco : scope.isCoroutine = false) (hgen : scope.isGenerator = false) (hk : scope.kind = .function) : wpAny (model PySem.Challenge.rw_pu0022_01.row.prog w) A (call (.ref f) args kw) Q E s := by
  refine wpAny_call ?_
  refine codeAny_call_function hroom (X _ _ ho) rfl hco hgen rfl (codeRec_of X hcd) (hbind _ _ _ _ ?_)
  refine wpAny_newFunctionEnv_cells hk (kindsX hkind _) fun env' he s' x => ?_
  subst he
  refine ⟨T.nolimit.keeps x.toInCall.keep, codeAny_func ?_⟩
  obtain ⟨h₁, tk, rfl, _⟩ := x.done
  have hk₁ := x.toInCall.keep
  obtain ⟨cells, NC, Y⟩ := Cl.news (h₀ := s.heap) (Nat.le_refl _) fun n c hm => ⟨x.cell n c (lookup_of_mem_nodup (cellsFrom_names scope.names 0 (s.heap.objs.size + 1) [] [] rfl ▸ hnd) hm), x.above n c hm⟩
  refine wpAny_mono (h s.heap.objs.size h₁ tk cells ⟨x.toInCall.ns, fun b o e => hk₁ b o (of_hideAll _ e), Nat.le_of_eq (hideAll_size _ _)⟩ (fun q hq => ?_) Y (Heap.lt_size hP)) (fun fl s' hl => hl) fun _ _ y => y.elim
  rcases List.mem_append.mp hq with hq | hq
  · refine ⟨(NC q hq).1, (NC q hq).2.1, ?_⟩
    cases e : (hideAll s.heap [P]).get? q.1 with
    | none => rfl
    | some o => have := of_hideAll _ e; rw [(NC q hq).2.2] at this; cases this
  · rw [List.mem_singleton.mp hq]
    exact ⟨hk₁ _ _ hP, Nat.ne_of_lt (Heap.lt_size hP), hideAll_none _ (by simp)⟩
theorem enterL {name qual : Str} {params : Arguments} {body : PySem.Expr} {scope : Scope} {cl : List (Str × Addr)} {pm ctv : Value} {c' f : Addr} {args : List Value} {binds : List (Str × Value)} {news : List (Addr × Obj)} {A : Around}
    (hlim : s.heap.NoLimit) (hroom : A.depth < recursionLimit) (ho : s.heap.get? f = some (kla_obj name qual params body scope cl pm c' ctv)) (hcd : s.heap.CodeRec (.ref c') qual)
    (hbind : bindArgs (kla_fn name qual params body scope cl pm (.ref c') ctv) ⟨args, []⟩ = pure binds) (hloc : ∀ y ∈ binds, scope.names.lookup y.1 = some .local)
    (hN : ∀ q ∈ news, s.heap.get? q.1 = some q.2)
    (h : ∀ L h₁, Fr (hideAll s.heap (news.map (·.1))) L h₁ (fun y => binds.reverse.lookup y) → News (hideAll s.heap (news.map (·.1))) L h₁ news →
      wpAny (model PySem.Challenge.rw_pu0022_01.row.prog w) (A.deeper (envX qual scope L f (.ref c') cl)) (eval body (envX qual scope L f (.ref c') cl)) Q (fun _ _ => False) { s with heap := h₁, toks := s.toks + binds.length })
    (hco : scope.isCoroutine = false) (hgen : scope.isGenerator = false) (hk : scope.kind = .function)
    (hcell : ∀ x ∈ scope.names, x.2 ≠ .cell) : wpAny (model PySem.Challenge.rw_pu0022_01.row.prog w) A (call (.ref f) args) Q E s := by
  refine wpAny_call ?_
  refine kla_callFunE hroom ho rfl hco hgen rfl hcd ?_
  rw [hbind]
  refine wpAny_pure (wpAny_newFunctionEnv hcell hloc (fun h₁ hns hsb => ⟨hlim.fresh _ hsb, ?_⟩) hk)
  show codeAny _ _ (.expr body (envX qual scope s.heap.objs.size f (.ref c') cl)) _ _
  have hk₁ : ∀ b o, s.heap.get? b = some o → h₁.get? b = some o := fun b o e => hsb.extBut b o (Nat.ne_of_lt (Heap.lt_size e)) (Heap.get?_push_of_some _ e)
  refine kla_codeExpr (wpAny_mono (h s.heap.objs.size h₁ ⟨hns, fun b o e => hk₁ b o (of_hideAll _ e), Nat.le_of_eq (hideAll_size _ _)⟩
    (fun q hq => ⟨hk₁ _ _ (hN q hq), Nat.ne_of_lt (Heap.lt_size (hN q hq)), hideAll_none _ (List.mem_map_of_mem hq)⟩)) (fun v s' hl => hl) fun _ _ y => y.elim)
theorem lam_any {h₀ : Heap} {L a c P : Addr} {m : Str → Option Value} {cn : Str} {cs : Scope} {ccd : Value} {cl : List (Str × Addr)} {name qual : Str} {params : Arguments} {body : PySem.Expr} {scope : Scope} {pos : Pos} {firstLine : Nat} {clos : List (Str × Addr)} {M : Model} {A : Around}
    (F : Fr h₀ L s.heap m) (T : Top p loose mean mg mb h₀) (C : CodeHd h₀ c P) (hcd : ccd = .ref c) (hP0 : h₀.get? P = none) (tab : TabOk qual pos P s.heap)
    (hcl : closureFor scope (envX cn cs L a ccd cl) = pure clos)
    (h : ∀ f c' pm ctv h' tk, Heap.ExtBut P s.heap h' → f ≠ P → h'.get? f = some (kla_obj name qual params body scope clos pm c' ctv) → s.heap.objs.size ≤ f → h'.CodeRec (.ref c') qual → c' ≠ P → TabOk qual pos P h' → Q (.ref f) { s with heap := h', toks := tk }) :
    wpAny M A (makeFunction name qual params (.expr body) scope (envX cn cs L a ccd cl) [] [] [] pos firstLine) Q E s := by
  obtain ⟨ps, hP, ht, hca⟩ := tab
  have hPs := Heap.lt_size hP
  have hgs := T.g.keeps F.keep
  obtain ⟨bm, ob, b1, b2, b3, b4, b5, b6⟩ := T.bmain
  have hgP : mainGlobals ≠ P := fun q => by
    obtain ⟨o, es, ep, e, hd, _⟩ := hgs
    rw [q, hP] at e; cases e; cases hd
  have hbP : bm ≠ P := fun q => by rw [q, hP0] at b3; cases b3
  have hbG : bm ≠ mainGlobals := fun q => by
    obtain ⟨o, es, ep, e, hd, _⟩ := T.g
    rw [q, e] at b3; cases b3; rw [hd] at b6; cases b6
  rcases hca with hnf | ⟨c', hcP, hf, hrec⟩
  · refine kla_makeFunction (mg := mg) hcl rfl hgs hcd (C.keeps F.keep) hP ht hnf hgP ⟨bm, ob, b1, b2, hbG, hbP, F.keep _ _ b3, b4, b5, b6⟩ fun c' ctv h' tk hx hge hlt hrec htb => ?_
    have hsz : s.heap.objs.size ≤ h'.objs.size := Nat.le_of_lt (Nat.lt_of_le_of_lt hge hlt)
    refine h h'.objs.size c' _ ctv _ tk (fun b o hb e => Heap.get?_push_of_some _ (hx b o hb e)) (Nat.ne_of_gt (Nat.lt_of_lt_of_le hPs hsz)) (Heap.get?_push_size _ rfl) hsz ?_ (Nat.ne_of_gt (Nat.lt_of_lt_of_le hPs hge)) ?_
    · obtain ⟨c₂, oc, vs, t, e2, hoc, hd, hv⟩ := hrec
      exact ⟨c₂, oc, vs, t, e2, Heap.get?_push_of_some _ hoc, hd, hv⟩
    · refine ⟨_, Heap.get?_push_of_some _ htb, ?_, .inr ⟨c', Nat.ne_of_gt (Nat.lt_of_lt_of_le hPs hge), ?_, ?_⟩⟩
      · rw [Array.toList_append]; exact TriplesOk_snoc _ _ _ _ ht
      · rw [Array.toList_append]; exact codeAmong_snoc _ ht hnf
      · obtain ⟨c₂, oc, vs, t, e2, hoc, hd, hv⟩ := hrec
        exact ⟨c₂, oc, vs, t, e2, Heap.get?_push_of_some _ hoc, hd, hv⟩
  · refine kla_makeFunctionHit (mg := mg) hcl rfl hgs hcd (C.keeps F.keep) hP ht hf ⟨bm, ob, b1, b2, hbG, hbP, F.keep _ _ b3, b4, b5, b6⟩ fun ctv h' tk hk hsz => ?_
    have hrec' : (h'.push { cls := .type "function", data := .func (kla_fn name qual params body scope clos ((mg "__name__").getD .none) (.ref c') ctv) }).CodeRec (.ref c') qual := by
      obtain ⟨c₂, oc, vs, t, e2, hoc, hd, hv⟩ := hrec
      exact ⟨c₂, oc, vs, t, e2, Heap.get?_push_of_some _ (hk _ _ hoc), hd, hv⟩
    exact h h'.objs.size c' _ ctv _ tk (fun b o hb e => Heap.get?_push_of_some _ (hk b o e)) (Nat.ne_of_gt (Nat.lt_of_lt_of_le hPs hsz)) (Heap.get?_push_size _ rfl) hsz hrec' hcP ⟨ps, Heap.get?_push_of_some _ (hk _ _ hP), ht, .inr ⟨c', hcP, hf, hrec'⟩⟩
end
end Mine
end
section
open PySem PySem.W PySem.Calls PyProof.Rows
namespace Mine
set_option maxRecDepth 100000
set_option maxHeartbeats 8000000
section
variable {w : World} {dp un : Nat} {fr : Option (List Env)} {gd : Option (List Code)} {s : Shared} {E Q : Value → Shared → Prop} {p : Program} {loose : List Str} {mean : ExcName → Option Value} {mg mb : Str → Option Value}
local macro_rules | `(tactic| walk_at "exec For Name Call cons nil") => `(tactic| refine stop_intro ?_)
local macro_rules | `(tactic| walk_at "exec For Name Name cons nil") => `(tactic| refine stop_intro ?_)
local macro_rules | `(tactic| walk_at "exec For Name List cons nil") => `(tactic| refine stop_intro ?_)
local macro_rules | `(tactic| walk_at "call ref") => `(tactic| refine stop_intro ?_)
local macro_rules | `(tactic| walk_at "exec While Compare cons nil") => `(tactic| refine stop_intro ?_)
local macro_rules | `(tactic| walk_at "pyIter ref") => `(tactic| refine stop_intro ?_)
local macro_rules | `(tactic| walk_at "subscriptTail Name UnaryOp ref int") => `(tactic| refine stop_intro ?_)
local macro_rules | `(tactic| walk_at "subscriptTail Name Name ref int") => `(tactic| refine stop_intro ?_)
local macro_rules | `(tactic| walk_at "binaryOp Mult str int") => `(tactic| refine stop_intro ?_)
local macro_rules | `(tactic| walk_at "binaryOp Add str str") => `(tactic| refine stop_intro ?_)
local macro_rules | `(tactic| walk_at "subscriptTail List BinOp ref int") => `(tactic| refine stop_intro ?_)
local macro_rules | `(tactic| walk_at "call builtin:str.split") => `(tactic| refine stop_intro ?_)
local macro_rules | `(tactic| walk_at "call builtin:str.replace") => `(tactic| refine stop_intro ?_)
local macro_rules | `(tactic| walk_at "call builtin:str.join") => `(tactic| refine stop_intro ?_)
local macro_rules | `(tactic| walk_at "call builtin:str.find") => `(tactic| refine stop_intro ?_)
local macro_rules | `(tactic| walk_at "call builtin:list.append") => `(tactic| refine stop_intro ?_)
local macro_rules | `(tactic| walk_at "subscriptTail Name Constant ref int") => `(tactic| refine stop_intro ?_)
local macro_rules | `(tactic| walk_at "eval Lambda") => `(tactic| refine stop_intro ?_)
local macro_rules | `(tactic| walk_at "subscriptTail Name Slice ref ref") => `(tactic| refine stop_intro ?_)
local macro_rules | `(tactic| walk_at "execs nil") => `(tactic| ((with_reducible show wpAny _ _ (execs [] _) (WEnd _ _ _ _ _) _ _); refine stop_intro ?_))
local macro_rules | `(tactic| walk_at "execs nil") => `(tactic| ((with_reducible show wpAny _ _ (execs [] _) (TEnd _ _ _ _ _ _ _) _ _); refine stop_intro ?_))
local macro_rules | `(tactic| walk_at "call builtin:len") => `(tactic| (k_here; (with_reducible show wpAny _ _ (call (Value.builtin _) [Value.ref _]) _ _ _); k_dflt (refine' call_len_list ?a ?b ?_; (case a => is_list); (case b => (simp only [List.size_toArray]; omega)); k_whole)))
theorem TabOk.kp {qual : Str} {pos : Pos} {P : Addr} {h h' : Heap} (x : TabOk qual pos P h) (k : Kp h h') : TabOk qual pos P h' :=
  let ⟨ps, h1, h2, h3⟩ := x; ⟨ps, k _ _ h1, h2, h3.imp id fun ⟨c', a, b, c⟩ => ⟨c', a, b, c.keeps k⟩⟩
theorem take_texts (qs : List (Str × Tok)) (n : Nat) : slicePick (strValues qs).toArray none (some (n : Int)) none = (strValues (qs.take n)).toArray := by
  rw [slicePick_upto']
  simp [strValues]
theorem c_hour {g₀ : Heap} (X : (hd.heap_39 w.params).In g₀) (T : Top p loose mean mg mb g₀) (k₀ : Kp g₀ s.heap) (C : CodeHd g₀ 91 87) (h87 : g₀.get? 87 = none) (tab : TabOk "_law_hour.<locals>.<lambda>" ⟨94, 48, 94, 88⟩ 87 s.heap)
    {lg lh : Addr} {w1 w2 w3 : Int} {t1 t2 t3 tp tl : Tok} {hs : List Value} {H : Nat → List (List Nat)} {pp lat : Nat} (hr : dp + 5 < recursionLimit) (hg : s.heap.IsList lg #[.int w1 t1, .int w2 t2, .int w3 t3])
    (hb : ((0 ≤ w1 ∧ w1 ≤ 100) ∧ 0 ≤ w2 ∧ w2 ≤ 100) ∧ 0 ≤ w3 ∧ w3 ≤ 100) (hh : HoursAt s.heap lh hs H 6) (hlat : lat ≤ 6) (hH : ∀ k, k < 6 → (H k).length ≤ 100 ∧ ∀ t ∈ H k, t.length ≤ 100)
    (h : ∀ h' tk t', Heap.ExtBut 87 s.heap h' → TabOk "_law_hour.<locals>.<lambda>" ⟨94, 48, 94, 88⟩ 87 h' → Q (.int ((bis (fun k => decide (fitsI w1 w2 w3 ((H k).take pp) < 1)) lat 0 lat : Nat) : Int) t') { s with heap := h', toks := tk }) :
    wpAny (model PySem.Challenge.rw_pu0022_01.row.prog w) ({ handled := none, depth := dp, frames := fr, guards := gd, units := un } : Around) (call (.ref 92) [.ref lg, .ref lh, .int (pp : Int) tp, .int (lat : Int) tl]) Q E s := by
  w_top off; revert X; k_fill; intro X
  obtain ⟨ps, hP, ht, hca⟩ := id tab
  refine' enterC (P := 87) (binds := [("goal", .ref lg), ("hours", .ref lh), ("p", .int (pp : Int) tp), ("latest", .int (lat : Int) tl)]) (X.keeps k₀) (T.keeps k₀) (show dp < recursionLimit by omega) ?k6 ?k7 ?k9 ?kB ?kD hP ?_ ?c2 ?c3 ?c4
  case k6 => k_is
  case k7 => k_is
  case k9 => exact BindsTo.of_eq rfl
  case kB => exact rfl
  case kD => decide +kernel
  case c2 => exact rfl
  case c3 => exact rfl
  case c4 => exact rfl
  have kh : Kp g₀ (hideAll s.heap [87]) := kp_hide k₀ (fun a ha => by rw [List.mem_singleton.mp ha]; exact h87)
  have X' := X.keeps kh
  have T' := T.keeps kh
  have C' := C.keeps kh
  intro L h₁ tk cells F N Y hPL
  k_fold
  k_cells Y
  simp only [List.cons_append, List.nil_append] at N
  k_steps
  rename_i oP oG dP dG
  have hide87 : (hideAll s.heap [87]).get? 87 = none := hideAll_none [87] (by simp)
  have tab1 : TabOk "_law_hour.<locals>.<lambda>" ⟨94, 48, 94, 88⟩ 87 h₁ := by
    refine ⟨ps, N.get (.tail _ (.tail _ (.head _))), ht, hca.imp id fun ⟨c', hc, hf, hrec⟩ => ⟨c', hc, hf, codeRec_kp hrec hc fun b o hb e => F.keep b o (hideAll_get [87] e (by simpa using hb))⟩⟩
  refine Stop.go (kla_eval rfl (lam_any F T' C' rfl hide87 tab1 rfl fun f c' pm ctv h2 tk2 hx hfP hf hsz hrec hcP tab2 => ?_))
  have F2 : Fr (hideAll s.heap [87]) L h2 _ := ⟨F.ns.extBut hx (Nat.ne_of_gt hPL), fun b o e => hx b o (fun q => by rw [q, hide87] at e; cases e) (F.keep b o e), F.above⟩
  have NP := N _ (.head _)
  have NG := N _ (.tail _ (.head _))
  have hP2 : h2.get? (L + 1 + 1) = some oP := hx _ _ (Nat.ne_of_gt (Nat.lt_trans hPL (by omega))) NP.1
  have hG2 : h2.get? (L + 1) = some oG := hx _ _ (Nat.ne_of_gt (Nat.lt_trans hPL (by omega))) NG.1
  have N2 : News (hideAll s.heap [87]) L h2 [(L + 1 + 1, oP), (L + 1, oG)] := by
    intro q hq
    rcases List.mem_cons.mp hq with rfl | hq
    · exact ⟨hP2, NP.2⟩
    · rw [List.mem_singleton.mp hq]; exact ⟨hG2, NG.2⟩
  clear N F
  k_steps
  have hl87 : ∀ {l : Addr} {its : Array Value}, s.heap.IsList l its → l ≠ 87 := by
    rintro l its ⟨o, ho, hd⟩ rfl
    rw [hP] at ho; cases ho; obtain ⟨_, _, e⟩ := hd; exact nomatch e
  have hkp2 : ∀ b o, b ≠ 87 → s.heap.get? b = some o → h2.get? b = some o := fun b o hb e => F2.keep b o (hideAll_get [87] e (by simpa using hb))
  have lst2 : ∀ {l : Addr} {its : Array Value}, s.heap.IsList l its → h2.IsList l its := fun x => x.at fun o e => hkp2 _ o (hl87 x) e
  have k02 : Kp g₀ h2 := kh.trans F2.keep
  have hLs : s.heap.objs.size ≤ L := by have := F2.above; rwa [hideAll_size] at this
  have key : KeyOk w (dp + 1 + 1) h2 f hs.toArray (fun k => fitsI w1 w2 w3 ((H k).take pp)) := by
    refine ⟨⟨_, _, hf, rfl⟩, fun i v hv dp un fr gd s' E' Q' hdp k' hQ => ?_⟩
    obtain ⟨lt, qs, e1, e2, e3⟩ := hh.hour i (by
      rw [← hh.len]
      simpa using (Array.getElem?_eq_some_iff.mp hv).1)
    obtain rfl : v = .ref lt := by
      rw [List.getElem?_toArray, e1] at hv
      exact (Option.some.inj hv).symm
    have hN' : ∀ q ∈ [(L + 1 + 1, oP), (L + 1, oG)], s'.heap.get? q.1 = some q.2 := by
      intro q hq
      rcases List.mem_cons.mp hq with rfl | hq
      · exact k' _ _ hP2
      · rw [List.mem_singleton.mp hq]; exact k' _ _ hG2
    refine enterL (news := [(L + 1 + 1, oP), (L + 1, oG)]) (binds := [("texts", .ref lt)]) (T.keeps (k02.trans k')).nolimit (show dp < recursionLimit by omega) (k' _ _ hf) (hrec.keeps k') rfl (locs rfl) hN' ?_ rfl rfl rfl (by decide)
    have kq : Kp g₀ (hideAll s'.heap ([(L + 1 + 1, oP), (L + 1, oG)].map (·.1))) := kp_hide (k02.trans k') (fun a ha => by
      cases e : g₀.get? a with
      | none => rfl
      | some o =>
        have hlt := Nat.lt_of_lt_of_le (Heap.lt_size (k₀ _ _ e)) hLs
        rcases List.mem_cons.mp ha with q | ha
        · exact absurd hlt (by rw [q]; exact Nat.not_lt_of_le (Nat.le_add_right L 2))
        · exact absurd hlt (by rw [List.mem_singleton.mp ha]; exact Nat.not_lt_of_le (Nat.le_add_right L 1)))
    have Xq := X.keeps kq
    have Tq := T.keeps kq
    have hgs' := k'.list (lst2 hg)
    have hts' := k'.list (lst2 e2)
    have hHi := hH i (by
      rw [← hh.len]
      simpa using (Array.getElem?_eq_some_iff.mp hv).1)
    have hql : qs.length ≤ 100 := by
      have := hHi.1
      rwa [← e3, List.length_map] at this
    have hqt : ∀ q ∈ qs.take pp, q.1.cps.size ≤ 100 := fun q hq => by
      have := hHi.2 q.1.cps.toList (e3 ▸ List.mem_map.mpr ⟨q, List.mem_of_mem_take hq, rfl⟩)
      rwa [Array.length_toList] at this
    clear X T X' T' F2 N2 qk ek
    intro L' h₁' F N
    k_steps
    have kpU := kp_unhide F (fun q hq => (N q hq).1) hN'
    refine Stop.go (kmk_slice F N (kpU.list hts') .none (.int _ _) (fun D h8 F N hlD => ?_) rfl (fun _ => rfl) (by rw [List.size_toArray, strValues, List.length_map, sizeLine_eq]; omega))
    rw [take_texts] at N
    k_steps
    have kpU := kp_unhide F (fun q hq => (N q (.tail _ hq)).1) hN'
    refine Stop.go (c_fits (Xq.keeps F.keep) (Tq.keeps F.keep) (show dp + 1 + 2 < recursionLimit by omega) (kpU.list hgs') hb (News.isList N (.head _)) (by rw [List.length_take]; omega) hqt fun h9 tk9 t9 kp9 => ?_)
    refine retI (s := s') hQ ?_ (kpU.trans kp9)
    rw [List.map_take, e3]
  refine Stop.go (c_left (kf := f) (items := hs.toArray) (lo := 0) (hi := lat) (X'.keeps F2.keep) (T'.keeps F2.keep) (show dp + 1 + 2 < recursionLimit by omega) (lst2 hh.list) (by rw [List.size_toArray, hh.len]; exact hlat) (by rw [List.size_toArray, hh.len]; omega) key fun h9 tk9 t9 kp9 => ?_)
  exact h _ _ _ (fun b o hb e => kp9 _ _ (hkp2 b o hb e)) (tab2.kp kp9)
end
end Mine
end
section
open PySem PySem.W PySem.Calls PyProof.Rows
namespace Mine
set_option maxRecDepth 100000
set_option maxHeartbeats 8000000
section
variable {w : World} {dp un : Nat} {fr : Option (List Env)} {gd : Option (List Code)} {s : Shared} {E Q : Value → Shared → Prop} {p : Program} {loose : List Str} {mean : ExcName → Option Value} {mg mb : Str → Option Value}
local macro_rules | `(tactic| walk_at "exec For Name Call cons nil") => `(tactic| refine stop_intro ?_)
local macro_rules | `(tactic| walk_at "exec For Name Name cons nil") => `(tactic| refine stop_intro ?_)
local macro_rules | `(tactic| walk_at "exec For Name List cons nil") => `(tactic| refine stop_intro ?_)
local macro_rules | `(tactic| walk_at "call ref") => `(tactic| refine stop_intro ?_)
local macro_rules | `(tactic| walk_at "exec While Compare cons nil") => `(tactic| refine stop_intro ?_)
local macro_rules | `(tactic| walk_at "pyIter ref") => `(tactic| refine stop_intro ?_)
local macro_rules | `(tactic| walk_at "subscriptTail Name UnaryOp ref int") => `(tactic| refine stop_intro ?_)
local macro_rules | `(tactic| walk_at "subscriptTail Name Name ref int") => `(tactic| refine stop_intro ?_)
local macro_rules | `(tactic| walk_at "binaryOp Mult str int") => `(tactic| refine stop_intro ?_)
local macro_rules | `(tactic| walk_at "binaryOp Add str str") => `(tactic| refine stop_intro ?_)
local macro_rules | `(tactic| walk_at "subscriptTail List BinOp ref int") => `(tactic| refine stop_intro ?_)
local macro_rules | `(tactic| walk_at "call builtin:str.split") => `(tactic| refine stop_intro ?_)
local macro_rules | `(tactic| walk_at "call builtin:str.replace") => `(tactic| refine stop_intro ?_)
local macro_rules | `(tactic| walk_at "call builtin:str.join") => `(tactic| refine stop_intro ?_)
local macro_rules | `(tactic| walk_at "call builtin:str.find") => `(tactic| refine stop_intro ?_)
local macro_rules | `(tactic| walk_at "call builtin:list.append") => `(tactic| refine stop_intro ?_)
local macro_rules | `(tactic| walk_at "subscriptTail Name Constant ref int") => `(tactic| refine stop_intro ?_)
local macro_rules | `(tactic| walk_at "eval Lambda") => `(tactic| refine stop_intro ?_)
local macro_rules | `(tactic| walk_at "subscriptTail Name Slice ref ref") => `(tactic| refine stop_intro ?_)
local macro_rules | `(tactic| walk_at "execs nil") => `(tactic| ((with_reducible show wpAny _ _ (execs [] _) (WEnd _ _ _ _ _) _ _); refine stop_intro ?_))
local macro_rules | `(tactic| walk_at "execs nil") => `(tactic| ((with_reducible show wpAny _ _ (execs [] _) (TEnd _ _ _ _ _ _ _) _ _); refine stop_intro ?_))
local macro_rules | `(tactic| walk_at "call builtin:len") => `(tactic| (k_here; (with_reducible show wpAny _ _ (call (Value.builtin _) [Value.ref _]) _ _ _); k_dflt (refine' call_len_list ?a ?b ?_; (case a => is_list); (case b => (simp only [List.size_toArray]; omega)); k_whole)))
theorem c_front {g₀ : Heap} (X : (hd.heap_39 w.params).In g₀) (T : Top p loose mean mg mb g₀) (k₀ : Kp g₀ s.heap) (C : CodeHd g₀ 98 94) (h87 : g₀.get? 94 = none) (tab : TabOk "_law_front.<locals>.<lambda>" ⟨96, 50, 96, 86⟩ 94 s.heap)
    {lg lt : Addr} {w1 w2 w3 : Int} {t1 t2 t3 tp : Tok} {qs : List (Str × Tok)} {Hk : List (List Nat)} {most : Nat} (hr : dp + 5 < recursionLimit) (hg : s.heap.IsList lg #[.int w1 t1, .int w2 t2, .int w3 t3])
    (hb : ((0 ≤ w1 ∧ w1 ≤ 100) ∧ 0 ≤ w2 ∧ w2 ≤ 100) ∧ 0 ≤ w3 ∧ w3 ≤ 100) (e2 : s.heap.IsList lt (strValues qs).toArray) (e3 : qs.map (fun q => q.1.cps.toList) = Hk) (hmost : most ≤ 100) (hH : Hk.length ≤ 100 ∧ ∀ t ∈ Hk, t.length ≤ 100)
    (h : ∀ h' tk t', Heap.ExtBut 94 s.heap h' → TabOk "_law_front.<locals>.<lambda>" ⟨96, 50, 96, 86⟩ 94 h' → Q (.int ((bis (fun k => !decide (0 < fitsI w1 w2 w3 (Hk.take k))) most 0 most : Nat) : Int) t') { s with heap := h', toks := tk }) :
    wpAny (model PySem.Challenge.rw_pu0022_01.row.prog w) ({ handled := none, depth := dp, frames := fr, guards := gd, units := un } : Around) (call (.ref 99) [.ref lg, .ref lt, .int (most : Int) tp]) Q E s := by
  w_top off; revert X; k_fill; intro X
  obtain ⟨ps, hP, ht, hca⟩ := id tab
  refine' enterC (P := 94) (binds := [("goal", .ref lg), ("texts", .ref lt), ("most", .int (most : Int) tp)]) (X.keeps k₀) (T.keeps k₀) (show dp < recursionLimit by omega) ?k6 ?k7 ?k9 ?kB ?kD hP ?_ ?c2 ?c3 ?c4
  case k6 => k_is
  case k7 => k_is
  case k9 => exact BindsTo.of_eq rfl
  case kB => exact rfl
  case kD => decide +kernel
  case c2 => exact rfl
  case c3 => exact rfl
  case c4 => exact rfl
  have kh : Kp g₀ (hideAll s.heap [94]) := kp_hide k₀ (fun a ha => by rw [List.mem_singleton.mp ha]; exact h87)
  have X' := X.keeps kh
  have T' := T.keeps kh
  have C' := C.keeps kh
  intro L h₁ tk cells F N Y hPL
  k_fold
  k_cells Y
  simp only [List.cons_append, List.nil_append] at N
  k_steps
  rename_i oP oG dP dG _ _ _ _ _ _ _ D vr cr h₁ _ F N hI hlD
  have hide87 : (hideAll s.heap [94]).get? 94 = none := hideAll_none [94] (by simp)
  have tab1 : TabOk "_law_front.<locals>.<lambda>" ⟨96, 50, 96, 86⟩ 94 h₁ := by
    refine ⟨ps, N.get (.tail _ (.tail _ (.tail _ (.head _)))), ht, hca.imp id fun ⟨c', hc, hf, hrec⟩ => ⟨c', hc, hf, codeRec_kp hrec hc fun b o hb e => F.keep b o (hideAll_get [94] e (by simpa using hb))⟩⟩
  refine Stop.go (kla_eval rfl (lam_any F T' C' rfl hide87 tab1 rfl fun f c' pm ctv h2 tk2 hx hfP hf hsz hrec hcP tab2 => ?_))
  have F2 : Fr (hideAll s.heap [94]) L h2 _ := ⟨F.ns.extBut hx (Nat.ne_of_gt hPL), fun b o e => hx b o (fun q => by rw [q, hide87] at e; cases e) (F.keep b o e), F.above⟩
  have NP := N _ (.tail _ (.head _))
  have NG := N _ (.tail _ (.tail _ (.head _)))
  have ND := N _ (.head _)
  have hP2 : h2.get? (L + 1 + 1) = some oP := hx _ _ (Nat.ne_of_gt (Nat.lt_trans hPL (by omega))) NP.1
  have hG2 : h2.get? (L + 1) = some oG := hx _ _ (Nat.ne_of_gt (Nat.lt_trans hPL (by omega))) NG.1
  have hD2 : h2.get? D = some _ := hx _ _ (Nat.ne_of_gt hlD.2.2) ND.1
  have N2 : News (hideAll s.heap [94]) L h2 [(D, listOf vr.toArray cr), (L + 1 + 1, oP), (L + 1, oG)] := by
    intro q hq
    rcases List.mem_cons.mp hq with rfl | hq
    · exact ⟨hD2, ND.2⟩
    · rcases List.mem_cons.mp hq with rfl | hq
      · exact ⟨hP2, NP.2⟩
      · rw [List.mem_singleton.mp hq]; exact ⟨hG2, NG.2⟩
  clear N F
  k_steps
  have hI : IntsAre vr (rangeKs 0 most) := by
    rw [show (Int.toNat ((most : Int) - 0)) = most by omega] at hI
    exact hI
  have hvl : vr.length = most := by rw [hI.length, rangeKs_length]
  have hl87 : ∀ {l : Addr} {its : Array Value}, s.heap.IsList l its → l ≠ 94 := by
    rintro l its ⟨o, ho, hd⟩ rfl
    rw [hP] at ho; cases ho; obtain ⟨_, _, e⟩ := hd; exact nomatch e
  have hkp2 : ∀ b o, b ≠ 94 → s.heap.get? b = some o → h2.get? b = some o := fun b o hb e => F2.keep b o (hideAll_get [94] e (by simpa using hb))
  have lst2 : ∀ {l : Addr} {its : Array Value}, s.heap.IsList l its → h2.IsList l its := fun x => x.at fun o e => hkp2 _ o (hl87 x) e
  have k02 : Kp g₀ h2 := kh.trans F2.keep
  have hLs : s.heap.objs.size ≤ L := by have := F2.above; rwa [hideAll_size] at this
  have key : KeyOk w (dp + 1 + 1) h2 f vr.toArray (fun k => fitsI w1 w2 w3 (Hk.take k)) := by
    refine ⟨⟨_, _, hf, rfl⟩, fun i v hv dp un fr gd s' E' Q' hdp k' hQ => ?_⟩
    obtain ⟨n, tn, rfl, hn⟩ := hI.at i v (by rwa [List.getElem?_toArray] at hv)
    obtain rfl : n = (i : Int) := by
      rw [rangeKs, List.getElem?_map] at hn
      cases e : (List.range most)[i]? with
      | none => rw [e] at hn; cases hn
      | some j =>
        rw [e] at hn
        obtain ⟨h1, h2⟩ := List.getElem?_eq_some_iff.mp e
        rw [List.getElem_range] at h2
        subst h2
        have : (0 : Int) + (i : Int) = n := Option.some.inj hn
        omega
    have hN' : ∀ q ∈ [(L + 1 + 1, oP), (L + 1, oG)], s'.heap.get? q.1 = some q.2 := by
      intro q hq
      rcases List.mem_cons.mp hq with rfl | hq
      · exact k' _ _ hP2
      · rw [List.mem_singleton.mp hq]; exact k' _ _ hG2
    refine enterL (news := [(L + 1 + 1, oP), (L + 1, oG)]) (binds := [("p", .int (i : Int) tn)]) (T.keeps (k02.trans k')).nolimit (show dp < recursionLimit by omega) (k' _ _ hf) (hrec.keeps k') rfl (locs rfl) hN' ?_ rfl rfl rfl (by decide)
    have kq : Kp g₀ (hideAll s'.heap ([(L + 1 + 1, oP), (L + 1, oG)].map (·.1))) := kp_hide (k02.trans k') (fun a ha => by
      cases e : g₀.get? a with
      | none => rfl
      | some o =>
        have hlt := Nat.lt_of_lt_of_le (Heap.lt_size (k₀ _ _ e)) hLs
        rcases List.mem_cons.mp ha with q | ha
        · exact absurd hlt (by rw [q]; exact Nat.not_lt_of_le (Nat.le_add_right L 2))
        · exact absurd hlt (by rw [List.mem_singleton.mp ha]; exact Nat.not_lt_of_le (Nat.le_add_right L 1)))
    have Xq := X.keeps kq
    have Tq := T.keeps kq
    have hgs' := k'.list (lst2 hg)
    have hts' := k'.list (lst2 e2)
    have hql : qs.length ≤ 100 := by
      have := hH.1
      rwa [← e3, List.length_map] at this
    have hqt : ∀ q ∈ qs.take i, q.1.cps.size ≤ 100 := fun q hq => by
      have := hH.2 q.1.cps.toList (e3 ▸ List.mem_map.mpr ⟨q, List.mem_of_mem_take hq, rfl⟩)
      rwa [Array.length_toList] at this
    clear X T X' T' F2 N2 qk ek
    intro L' h₁' F N
    k_steps
    have kpU := kp_unhide F (fun q hq => (N q hq).1) hN'
    refine Stop.go (kmk_slice F N (kpU.list hts') .none (.int _ _) (fun D h8 F N hlD => ?_) rfl (fun _ => rfl) (by rw [List.size_toArray, strValues, List.length_map, sizeLine_eq]; omega))
    rw [take_texts] at N
    k_steps
    have kpU := kp_unhide F (fun q hq => (N q (.tail _ hq)).1) hN'
    refine Stop.go (c_fits (Xq.keeps F.keep) (Tq.keeps F.keep) (show dp + 1 + 2 < recursionLimit by omega) (kpU.list hgs') hb (News.isList N (.head _)) (by rw [List.length_take]; omega) hqt fun h9 tk9 t9 kp9 => ?_)
    refine retI (s := s') hQ ?_ (kpU.trans kp9)
    rw [List.map_take, e3]
  refine Stop.go (c_right (kf := f) (items := vr.toArray) (X'.keeps F2.keep) (T'.keeps F2.keep) (show dp + 1 + 2 < recursionLimit by omega) (News.isList N2 (.head _)) (by rw [List.size_toArray, hvl]; omega) key fun h9 tk9 t9 kp9 => ?_)
  rw [List.size_toArray, hvl]
  exact h _ _ _ (fun b o hb e => kp9 _ _ (hkp2 b o hb e)) (tab2.kp kp9)
end
end Mine
end
section
open PySem PySem.W PySem.Calls PyProof.Rows
namespace Mine
set_option maxRecDepth 100000
set_option maxHeartbeats 8000000
theorem tri_one {l : List Value} (h : TriplesOk l) {q : Str} {t : Tok} : l[1]? ≠ some (.str q t) := by
  intro e
  match l, h with
  | [], _ => cases e
  | .int _ _ :: .int _ _ :: _ :: _, _ => cases e
theorem tab_ne {h : Heap} {c P : Addr} {q : Str} {ps : Array Value} (x : h.CodeRec (.ref c) q) (hP : h.get? P = some (tabObj ps)) (ht : TriplesOk ps.toList) : c ≠ P := by
  rintro rfl
  obtain ⟨c₂, oc, vs, t, e2, hoc, hd, hv⟩ := x
  cases e2
  rw [hP] at hoc
  cases hoc
  have : ps = vs := by injection hd
  subst this
  exact tri_one ht (by rw [← hv]; simp)
def Tbl (o : Obj) : Prop := ∃ fs, o.data = .fields fs ∧ (o.cls = .none ∨ ∃ q t, fs[1]? = some (.str q t))
/-- the table stands in the ledger; what it names stands in the ledger or below -/
def TabN (qual : Str) (pos : Pos) (P : Addr) (h₀ : Heap) (news : List (Addr × Obj)) : Prop :=
  ∃ ps : Array Value, (P, tabObj ps) ∈ news ∧ TriplesOk ps.toList ∧ (codeAmong pos ps.toList = none ∨ ∃ c', codeAmong pos ps.toList = some (.ref c') ∧ (h₀.CodeRec (.ref c') qual ∨ ∃ oc vs t, (c', oc) ∈ news ∧ oc.data = .fields vs ∧ vs[1]? = some (.str qual t)))
theorem TabN.rec {qual : Str} {h₀ h : Heap} {L c : Addr} {m : Str → Option Value} {news : List (Addr × Obj)} (F : Fr h₀ L h m) (N : News h₀ L h news) (r : h₀.CodeRec (.ref c) qual ∨ ∃ oc vs t, (c, oc) ∈ news ∧ oc.data = .fields vs ∧ vs[1]? = some (.str qual t)) : h.CodeRec (.ref c) qual := by
  rcases r with r | ⟨oc, vs, t, hm, hd, hv⟩
  · exact r.keeps F.keep
  · exact ⟨c, oc, vs, t, rfl, (N _ hm).1, hd, hv⟩
theorem TabN.ok {qual : Str} {pos : Pos} {P : Addr} {h₀ h : Heap} {L : Addr} {m : Str → Option Value} {news : List (Addr × Obj)} (x : TabN qual pos P h₀ news) (F : Fr h₀ L h m) (N : News h₀ L h news) : TabOk qual pos P h := by
  obtain ⟨ps, hP, ht, hc⟩ := x
  refine ⟨ps, (N _ hP).1, ht, hc.imp id ?_⟩
  rintro ⟨c', e, r⟩
  have hr := TabN.rec F N r
  exact ⟨c', tab_ne hr (N _ hP).1 ht, e, hr⟩
theorem tab_in {qual : Str} {pos : Pos} {P : Addr} {h₀ h' : Heap} {L : Addr} {m : Str → Option Value} (F : Fr h₀ L h' m) (hP0 : h₀.get? P = none) (hPL : P ≠ L) (tab : TabOk qual pos P h') :
    ∃ tb, News h₀ L h' tb ∧ TabN qual pos P h₀ tb ∧ ∀ x ∈ tb, Tbl x.2 := by
  obtain ⟨ps, hP, ht, hc⟩ := tab
  have hTP : Tbl (tabObj ps) := ⟨ps, rfl, .inl rfl⟩
  rcases hc with hc | ⟨c', hcP, hc, hrec⟩
  · exact ⟨[(P, tabObj ps)], fun q hq => by rw [List.mem_singleton.mp hq]; exact ⟨hP, hPL, hP0⟩, ⟨ps, .head _, ht, .inl hc⟩, fun q hq => by rw [List.mem_singleton.mp hq]; exact hTP⟩
  · obtain ⟨c₂, oc, vs, t, e2, hoc, hd, hv⟩ := hrec
    cases e2
    cases e : h₀.get? c' with
    | some o =>
      have := F.keep _ _ e
      rw [hoc] at this
      cases this
      exact ⟨[(P, tabObj ps)], fun q hq => by rw [List.mem_singleton.mp hq]; exact ⟨hP, hPL, hP0⟩, ⟨ps, .head _, ht, .inr ⟨c', hc, .inl ⟨c', oc, vs, t, rfl, e, hd, hv⟩⟩⟩, fun q hq => by rw [List.mem_singleton.mp hq]; exact hTP⟩
    | none =>
      have hcL : c' ≠ L := by
        rintro rfl
        obtain ⟨oL, a1, a2, hoL, a3⟩ := F.ns
        rw [hoc] at hoL
        cases hoL
        rw [hd] at a3
        exact nomatch a3.1
      refine ⟨[(P, tabObj ps), (c', oc)], fun q hq => ?_, ⟨ps, .head _, ht, .inr ⟨c', hc, .inr ⟨oc, vs, t, .tail _ (.head _), hd, hv⟩⟩⟩, fun q hq => ?_⟩
      · rcases List.mem_cons.mp hq with rfl | hq
        · exact ⟨hP, hPL, hP0⟩
        · rw [List.mem_singleton.mp hq]; exact ⟨hoc, hcL, e⟩
      · rcases List.mem_cons.mp hq with rfl | hq
        · exact hTP
        · rw [List.mem_singleton.mp hq]; exact ⟨vs, hd, .inr ⟨_, _, hv⟩⟩
theorem TabN.mono {qual : Str} {pos : Pos} {P : Addr} {h₀ : Heap} {a b : List (Addr × Obj)} (x : TabN qual pos P h₀ a) (h : ∀ q ∈ a, q ∈ b) : TabN qual pos P h₀ b := by
  obtain ⟨ps, hP, ht, hc⟩ := x
  refine ⟨ps, h _ hP, ht, hc.imp id ?_⟩
  rintro ⟨c', e, r⟩
  exact ⟨c', e, r.imp id fun ⟨oc, vs, t, hm, r⟩ => ⟨oc, vs, t, h _ hm, r⟩⟩
theorem tab_step {q1 q2 : Str} {pos1 pos2 : Pos} {P P2 : Addr} {h₀ h h' : Heap} {L : Addr} {m : Str → Option Value} {news : List (Addr × Obj)} (F : Fr h₀ L h m) (N : News h₀ L h news) (hP0 : h₀.get? P = none) (hPL : P ≠ L) (hx : Heap.ExtBut P h h') (tab : TabOk q1 pos1 P h')
    (hPP : P2 ≠ P) (t1 : TabN q1 pos1 P h₀ news) (t2 : TabN q2 pos2 P2 h₀ news) (hf : ∀ x ∈ news, Tbl x.2) :
    Fr h₀ L h' m ∧ ∃ news', News h₀ L h' news' ∧ TabN q1 pos1 P h₀ news' ∧ TabN q2 pos2 P2 h₀ news' ∧ ∀ x ∈ news', Tbl x.2 := by
  have F' : Fr h₀ L h' m := ⟨F.ns.extBut hx (Ne.symm hPL), fun b o e => hx b o (fun q => by rw [q, hP0] at e; cases e) (F.keep b o e), F.above⟩
  obtain ⟨tb, Nt, ht, hft⟩ := tab_in F' hP0 hPL tab
  refine ⟨F', tb ++ news.filter (fun x => x.1 ≠ P), fun q hq => ?_, ht.mono fun q hq => List.mem_append_left _ hq, ?_, fun q hq => ?_⟩
  · rcases List.mem_append.mp hq with hq | hq
    · exact Nt q hq
    · obtain ⟨h1, h2⟩ := List.mem_filter.mp hq
      have := N q h1
      exact ⟨hx _ _ (by simpa using h2) this.1, this.2⟩
  · obtain ⟨ps1, hP1, ht1, _⟩ := t1
    obtain ⟨ps, hP, ht, hc⟩ := t2
    refine ⟨ps, List.mem_append_right _ (List.mem_filter.mpr ⟨hP, by simpa using hPP⟩), ht, hc.imp id ?_⟩
    rintro ⟨c', e, r⟩
    refine ⟨c', e, r.imp id ?_⟩
    rintro ⟨oc, vs, t, hm, hd, hv⟩
    refine ⟨oc, vs, t, List.mem_append_right _ (List.mem_filter.mpr ⟨hm, ?_⟩), hd, hv⟩
    have := tab_ne (TabN.rec F N (.inr ⟨oc, vs, t, hm, hd, hv⟩)) (N _ hP1).1 ht1
    simpa using this
  · rcases List.mem_append.mp hq with hq | hq
    · exact hft q hq
    · exact hf q (List.mem_filter.mp hq).1
section
variable {prog : Program} {w : World} {A : Around} {E : Value → Shared → Prop} {s : Shared} {env : Env} {h₀ : Heap} {x : Str} {body : List Stmt} {Q : Flow → Shared → Prop}
theorem loop_mkT {I : Addr} {fp : List Addr} {n : Nat} {P : Nat → Value → Prop} {St : Nat → Heap → Prop} {m₀ : Str → Option Value} {news : List (Addr × Obj)} (J : Nat → (Str → Option Value) → List (Addr × Obj) → Prop)
    (W : Walks prog w A I fp [I] n P St) (hLf : env.locals ∉ fp) (hI : I ∈ fp) (hfp : ∀ b ∈ fp, b = I ∨ ∃ q, h₀.get? b = some q) (hI0 : h₀.get? I = none) (hst : St 0 s.heap) (hIs : ∀ i h, St i h → ∃ o, h.get? I = some o ∧ ¬ Tbl o)
    (F : Fr h₀ env.locals s.heap m₀) (N : News h₀ env.locals s.heap news) (hIn : ∀ p ∈ news, p.1 ≠ I) (hj : J 0 m₀ news)
    (turn : ∀ i v m₁ news₁ h tk oI, i < n → P i v → J i m₁ news₁ → (∀ p ∈ news₁, p.1 ≠ I) → ¬ Tbl oI → Fr h₀ env.locals h (fun y => if y = x then some v else m₁ y) → News h₀ env.locals h ((I, oI) :: news₁) →
      wpAny (model prog w) A (execs body env) (TEnd h₀ env.locals (J (i + 1)) I oI { s with heap := h, toks := tk } Q) E { s with heap := h, toks := tk })
    (done : ∀ m₁ news₁ h tk, J n m₁ news₁ → Fr h₀ env.locals h m₁ → News h₀ env.locals h news₁ → Q .next { s with heap := h, toks := tk }) : LoopAtV prog w A h₀ env x body Q E (.ref I) s := by
  refine ⟨I, fp, [I], n, P, St, m₀, news, J, rfl, W, hLf, ?_, ?_, hst, F, N, hj, ?_, ?_⟩
  · intro b hb; rw [List.mem_singleton.mp hb]; exact hI0
  · intro q hq hb; exact hIn q hq (List.mem_singleton.mp hb)
  · rintro i v m₁ news₁ s₁ own ⟨hh', tk', rfl⟩ hin hP hJ hoff hown hget hfp' hst' F₁ N₁
    obtain ⟨oI, hoI, hnT⟩ := hIs _ _ hst'
    have hIown : (I, oI) ∈ own := hfp' _ hI hI0 _ hoI
    have hall := own_one hown hfp hoI N₁
    refine wpAny_mono (turn i v m₁ news₁ hh' tk' oI hin hP hJ (fun q hq e => hoff q hq (List.mem_singleton.mpr e)) hnT F₁ (news_one hIown N₁)) (fun f s₂ q => ?_) fun _ _ e => e
    have fin : (∃ h' tk m' news' nx, s₂ = { s with heap := h', toks := tk } ∧ Fr h₀ env.locals h' m' ∧ News h₀ env.locals h' news' ∧ (I, oI) ∈ news' ∧ (∀ p ∈ nx, p ∈ news') ∧ (∀ p ∈ nx, p.1 ≠ I) ∧ J (i + 1) m' nx) → LoopStepU h₀ env.locals [I] own (J (i + 1)) { s with heap := hh', toks := tk' } .next s₂ := by
      rintro ⟨h', tk, m', news', nx, e, F', N', hio, hn, hne, hm⟩
      refine ⟨rfl, h', tk, m', nx, e, F', fun q hq => ?_, fun q hq hb => hne q hq (List.mem_singleton.mp hb), hm⟩
      rcases List.mem_append.mp hq with hq | hq
      · rw [hall q hq]; exact N' _ hio
      · exact N' _ (hn q hq)
    cases f with
    | ret v => exact .ret q
    | brk => exact .brk q
    | next => exact .next (fin q)
    | cont => exact .cont (fin q)
  · rintro h' tk m' news' F' N' _ hJ
    exact done m' news' h' tk hJ F' N'
/-- for x in a list that stood ahead of the call -/
theorem loop_listT {l : Addr} {items : Array Value} {m₀ : Str → Option Value} {news : List (Addr × Obj)} (J : Nat → (Str → Option Value) → List (Addr × Obj) → Prop)
    (hh : A.handled = none) (hl : h₀.IsList l items) (F : Fr h₀ env.locals s.heap m₀) (N : News h₀ env.locals s.heap news) (hj : J 0 m₀ news)
    (turn : ∀ I i v m₁ news₁ h tk oI, i < items.size → items[i]? = some v → J i m₁ news₁ → (∀ p ∈ news₁, p.1 ≠ I) → ¬ Tbl oI → Fr h₀ env.locals h (fun y => if y = x then some v else m₁ y) → News h₀ env.locals h ((I, oI) :: news₁) →
      wpAny (model prog w) A (execs body env) (TEnd h₀ env.locals (J (i + 1)) I oI { s with heap := h, toks := tk } Q) E { s with heap := h, toks := tk })
    (done : ∀ m₁ news₁ h tk, J items.size m₁ news₁ → Fr h₀ env.locals h m₁ → News h₀ env.locals h news₁ → Q .next { s with heap := h, toks := tk }) :
    wpAny (model prog w) A (pyIter (.ref l)) (fun it s₂ => LoopAtV prog w A h₀ env x body Q E it s₂) E s := by
  have hls : s.heap.IsList l items := hl.at fun o e => F.keep l o e
  obtain ⟨ol, hol, _⟩ := id hl
  have hlt : l < h₀.objs.size := Heap.lt_size hol
  have hne : l ≠ s.heap.objs.size := Nat.ne_of_lt (Nat.lt_trans (Nat.lt_of_lt_of_le hlt F.above) F.ns.lt)
  refine wpAny_pyIter_list hls ?_
  refine loop_mkT J (Walks.list (prog := prog) (w := w) hh s.heap.objs.size l hne items) ?_ (by simp) ?_ (next_is_new F) ⟨⟨_, Heap.get?_push_size _ rfl, rfl, rfl⟩, hls.at fun o e => Heap.get?_push_of_some _ e⟩ ?_ (F.push _)
    (fun p hp => ⟨Heap.get?_push_of_some _ (N p hp).1, (N p hp).2⟩) (fun p hp e => absurd (Heap.lt_size (N p hp).1) (e ▸ Nat.lt_irrefl _)) hj (turn _) done
  · intro hm
    rcases List.mem_cons.mp hm with e | hm
    · exact absurd F.ns.lt (e ▸ Nat.lt_irrefl _)
    · exact absurd (Nat.lt_of_lt_of_le hlt F.above) ((List.mem_singleton.mp hm) ▸ Nat.lt_irrefl _)
  · intro b hb
    rcases List.mem_cons.mp hb with e | hb
    · exact .inl e
    · exact .inr ⟨ol, (List.mem_singleton.mp hb) ▸ hol⟩
  · rintro i h ⟨⟨o, ho, hc, hd⟩, _⟩
    exact ⟨o, ho, fun ⟨fs, e, r⟩ => by
      rw [hd] at e; cases e
      rcases r with r | ⟨q, t, r⟩
      · rw [hc] at r; cases r
      · cases r⟩
/-- for x in range(n) -/
theorem loop_rangeT {r : Addr} {b₀ : Int} {t₀ u₀ v₀ : Tok} {n : Nat} {m₀ : Str → Option Value} {news : List (Addr × Obj)} (J : Nat → (Str → Option Value) → List (Addr × Obj) → Prop)
    (hh : A.handled = none) (hr : IsRange s.heap r 0 b₀ 1 t₀ u₀ v₀) (hb : b₀ = (n : Int)) (hn : n < 2 ^ 61) (F : Fr h₀ env.locals s.heap m₀) (N : News h₀ env.locals s.heap news) (hj : J 0 m₀ news)
    (turn : ∀ I i t m₁ news₁ h tk oI, i < n → J i m₁ news₁ → (∀ p ∈ news₁, p.1 ≠ I) → ¬ Tbl oI → Fr h₀ env.locals h (fun y => if y = x then some (.int (i : Int) t) else m₁ y) → News h₀ env.locals h ((I, oI) :: news₁) →
      wpAny (model prog w) A (execs body env) (TEnd h₀ env.locals (J (i + 1)) I oI { s with heap := h, toks := tk } Q) E { s with heap := h, toks := tk })
    (done : ∀ m₁ news₁ h tk, J n m₁ news₁ → Fr h₀ env.locals h m₁ → News h₀ env.locals h news₁ → Q .next { s with heap := h, toks := tk }) :
    wpAny (model prog w) A (pyIter (.ref r)) (fun it s₂ => LoopAtV prog w A h₀ env x body Q E it s₂) E s := by
  subst hb
  have hsz : Builtin.Range.rangeSize 0 (n : Int) 1 = (n : Int) := by rw [rangeSize_one]; split <;> omega
  refine wpAny_pyIter_range hr (small_one (by omega) (by omega) (by omega) (by omega)) ?_
  refine loop_mkT J (Walks.range (prog := prog) (w := w) hh s.heap.objs.size 0 1 n) ?_ (by simp) ?_ (next_is_new F) (by show IsRangeIter _ _ _ _ _; rw [hsz]; simpa using Heap.get?_push_size _ rfl) ?_ (F.push _)
    (fun p hp => ⟨Heap.get?_push_of_some _ (N p hp).1, (N p hp).2⟩) (fun p hp e => absurd (Heap.lt_size (N p hp).1) (e ▸ Nat.lt_irrefl _)) hj ?_ done
  · intro hm
    exact absurd F.ns.lt ((List.mem_singleton.mp hm) ▸ Nat.lt_irrefl _)
  · intro b hb
    exact .inl (List.mem_singleton.mp hb)
  · intro i h ho
    exact ⟨_, ho, fun ⟨fs, e, r⟩ => by
      cases e
      rcases r with r | ⟨q, t, r⟩
      · cases r
      · cases r⟩
  · rintro i v m₁ news₁ h tk oI hi ⟨t, rfl⟩ hJ hne hnT F₁ N₁
    have e : (0 : Int) + (i : Int) * 1 = (i : Int) := by omega
    rw [e] at F₁
    exact turn _ i t m₁ news₁ h tk oI hi hJ hne hnT F₁ N₁
end
theorem bis_le (p : Nat → Bool) : ∀ (f lo hi : Nat), lo ≤ hi → bis p f lo hi ≤ hi
  | 0, lo, hi, h => h
  | f + 1, lo, hi, h => by
    rw [bis]
    split
    · split
      · exact bis_le p f _ _ (by omega)
      · exact Nat.le_trans (bis_le p f _ _ (by omega)) (by omega)
    · exact h
def fstN (w1 w2 w3 : Int) (H : Nat → List (List Nat)) : Nat → Nat
  | 0 => 6
  | p + 1 => bis (fun k => decide (fitsI w1 w2 w3 ((H k).take p) < 1)) (fstN w1 w2 w3 H p) 0 (fstN w1 w2 w3 H p)
def frtN (w1 w2 w3 : Int) (H : Nat → List (List Nat)) (size : Nat) : Nat → Nat
  | 0 => size + 1
  | k + 1 => bis (fun j => !decide (0 < fitsI w1 w2 w3 ((H k).take j))) (frtN w1 w2 w3 H size k) 0 (frtN w1 w2 w3 H size k)
theorem fstN_le (w1 w2 w3 : Int) (H : Nat → List (List Nat)) : ∀ p, fstN w1 w2 w3 H p ≤ 6
  | 0 => Nat.le_refl _
  | p + 1 => Nat.le_trans (bis_le _ _ _ _ (Nat.zero_le _)) (fstN_le w1 w2 w3 H p)
theorem frtN_le (w1 w2 w3 : Int) (H : Nat → List (List Nat)) (size : Nat) : ∀ p, frtN w1 w2 w3 H size p ≤ size + 1
  | 0 => Nat.le_refl _
  | p + 1 => Nat.le_trans (bis_le _ _ _ _ (Nat.zero_le _)) (frtN_le w1 w2 w3 H size p)
section
variable {w : World} {dp un : Nat} {fr : Option (List Env)} {gd : Option (List Code)} {s : Shared} {E Q : Value → Shared → Prop} {p : Program} {loose : List Str} {mean : ExcName → Option Value} {mg mb : Str → Option Value}
theorem enterH {name qual : Str} {params : Arguments} {body : List Stmt} {scope : Scope} {dV kV doc pm cdv ct oc : Value} {an od : Option Addr} {osl : Array (Option Value)} {f : Addr} {args : List Value} {kw : List (Str × Value)} {binds : List (Str × Value)} {A : Around} {news : List (Addr × Obj)}
    (X : (hd.heap_39 w.params).In s.heap) (T : Top p loose mean mg mb s.heap) (hroom : A.depth < recursionLimit)
    (ho : (hd.heap_39 w.params).lookup f = some ⟨oc, od, .func (fnOf name qual params body scope dV kV doc pm an cdv ct), osl⟩) (hcd : codeIn (hd.heap_39 w.params) cdv qual = true)
    (hbind : BindsTo s (fnOf name qual params body scope dV kV doc pm an cdv ct) ⟨args, kw⟩ binds) (hloc : ∀ y ∈ binds, scope.names.lookup y.1 = some .local)
    (hN : ∀ q ∈ news, s.heap.get? q.1 = some q.2)
    (h : ∀ L h₁, Fr (hideAll s.heap (news.map (·.1))) L h₁ (fun y => binds.reverse.lookup y) → News (hideAll s.heap (news.map (·.1))) L h₁ news →
      wpAny (model PySem.Challenge.rw_pu0022_01.row.prog w) (A.deeper (envOf qual scope L f cdv)) (execs body (envOf qual scope L f cdv))
        (fun fl s' => Q (match fl with | .ret v => v | _ => .none) s') (fun _ _ => False)
        { s with heap := h₁, toks := s.toks + binds.length })
    (hco : scope.isCoroutine = false) (hgen : scope.isGenerator = false) (hk : scope.kind = .function)
    (hcell : ∀ x ∈ scope.names, x.2 ≠ .cell) : wpAny (model PySem.Challenge.rw_pu0022_01.row.prog w) A (call (.ref f) args kw) Q E s := by
  refine wpAny_call (codeAny_call_def (fd := fnOf name qual params body scope dV kV doc pm an cdv ct) (body := body) (binds := binds) hroom (X _ _ ho) rfl T.nolimit (codeRec_of X hcd) rfl hbind hcell hloc (fun h₁ hns hk₁ => ?_) hco hgen hk)
  exact wpAny_mono (h s.heap.objs.size h₁ ⟨hns, fun b o e => hk₁ b o (of_hideAll _ e), Nat.le_of_eq (hideAll_size _ _)⟩ (fun q hq => ⟨hk₁ _ _ (hN q hq), Nat.ne_of_lt (Heap.lt_size (hN q hq)), hideAll_none _ (List.mem_map_of_mem hq)⟩)) (fun fl s' hl => hl) fun _ _ y => y.elim
end
end Mine
end
section
open PySem PySem.W PySem.Calls PyProof.Rows
namespace Mine
set_option maxRecDepth 100000
set_option maxHeartbeats 8000000
section
variable {w : World} {dp un : Nat} {fr : Option (List Env)} {gd : Option (List Code)} {s : Shared} {E Q : Value → Shared → Prop} {p : Program} {loose : List Str} {mean : ExcName → Option Value} {mg mb : Str → Option Value}
/-- both tables in the ledger -/
structure Tabs2 (h₀ : Heap) (rest : List (Addr × Obj)) : Prop where
  t1 : TabN "_law_hour.<locals>.<lambda>" ⟨94, 48, 94, 88⟩ 87 h₀ rest
  t2 : TabN "_law_front.<locals>.<lambda>" ⟨96, 50, 96, 86⟩ 94 h₀ rest
  f : ∀ x ∈ rest, Tbl x.2
theorem Tabs2.ne {h₀ h : Heap} {L D : Addr} {rest : List (Addr × Obj)} {xs : Array Value} {n : Nat} (x : Tabs2 h₀ rest) (N : News h₀ L h rest) (hD : h.get? D = some (listOf xs n)) : ∀ q ∈ rest, q.1 ≠ D := by
  rintro q hq rfl
  obtain ⟨fs, hfs, _⟩ := x.f q hq
  rw [(N q hq).1] at hD
  have := Option.some.inj hD
  rw [this] at hfs
  exact nomatch hfs
theorem Tabs2.neT {h₀ h : Heap} {L D : Addr} {rest : List (Addr × Obj)} {o : Obj} (x : Tabs2 h₀ rest) (N : News h₀ L h rest) (hD : h.get? D = some o) (ho : ¬ Tbl o) : ∀ q ∈ rest, q.1 ≠ D := by
  rintro q hq rfl
  rw [(N q hq).1] at hD
  exact ho (Option.some.inj hD ▸ x.f q hq)
theorem Tabs2.at1 {h₀ : Heap} {rest : List (Addr × Obj)} {P : Nat → Prop} (x : Tabs2 h₀ rest) (h : ∀ q ∈ rest, P q.1) : P 87 ∧ P 94 := by
  obtain ⟨ps, a, _⟩ := x.t1
  obtain ⟨qs, b, _⟩ := x.t2
  exact ⟨h _ a, h _ b⟩
theorem upto_drop (n : Nat) (D : Nat → Int) : (upto (n + 1) D).drop 1 = upto n fun p => D (p + 1) := by
  simp [upto, List.range_succ_eq_map]
theorem from_one {vs : List Value} {n : Nat} {D : Nat → Int} (h : IntsAre vs (upto (n + 1) D)) : slicePick vs.toArray (some 1) none none = (vs.drop 1).toArray ∧ IntsAre (vs.drop 1) (upto n fun p => D (p + 1)) := by
  refine ⟨slicePick_from vs.toArray 1 ?_, ?_⟩
  · rw [List.size_toArray, h.length, upto_length]; omega
  · rw [← upto_drop]; exact h.drop 1
def FstJ (lf lg lh : Addr) (w1 w2 w3 : Int) (H : Nat → List (List Nat)) (size : Int) (ts : Tok) (h₀ : Heap) (i : Nat) (m : Str → Option Value) (news : List (Addr × Obj)) : Prop :=
  ∃ fs n rest, news = (lf, listOf (List.toArray fs) n) :: rest ∧ Tabs2 h₀ rest ∧ IntsAre fs (upto (i + 1) fun p => (fstN w1 w2 w3 H p : Int)) ∧
    m "firsts" = some (.ref lf) ∧ m "goal" = some (.ref lg) ∧ m "hours" = some (.ref lh) ∧ m "size" = some (.int size ts)
def FrtJ (lf lf2 lg lh : Addr) (fs : List Value) (n : Nat) (w1 w2 w3 : Int) (H : Nat → List (List Nat)) (size : Nat) (h₀ : Heap) (i : Nat) (m : Str → Option Value) (news : List (Addr × Obj)) : Prop :=
  ∃ gs k rest, news = (lf2, listOf (List.toArray gs) k) :: (lf, listOf (List.toArray fs) n) :: rest ∧ Tabs2 h₀ rest ∧ IntsAre gs (upto (i + 1) fun p => (frtN w1 w2 w3 H size p : Int)) ∧
    m "fronts" = some (.ref lf2) ∧ m "firsts" = some (.ref lf) ∧ m "goal" = some (.ref lg) ∧ m "hours" = some (.ref lh)
local macro_rules | `(tactic| walk_at "exec For Name Call cons nil") => `(tactic| refine stop_intro ?_)
local macro_rules | `(tactic| walk_at "exec For Name Name cons nil") => `(tactic| refine stop_intro ?_)
local macro_rules | `(tactic| walk_at "exec For Name List cons nil") => `(tactic| refine stop_intro ?_)
local macro_rules | `(tactic| walk_at "call ref") => `(tactic| refine stop_intro ?_)
local macro_rules | `(tactic| walk_at "exec While Compare cons nil") => `(tactic| refine stop_intro ?_)
local macro_rules | `(tactic| walk_at "pyIter ref") => `(tactic| refine stop_intro ?_)
local macro_rules | `(tactic| walk_at "subscriptTail Name UnaryOp ref int") => `(tactic| refine stop_intro ?_)
local macro_rules | `(tactic| walk_at "subscriptTail Name Name ref int") => `(tactic| refine stop_intro ?_)
local macro_rules | `(tactic| walk_at "binaryOp Mult str int") => `(tactic| refine stop_intro ?_)
local macro_rules | `(tactic| walk_at "binaryOp Add str str") => `(tactic| refine stop_intro ?_)
local macro_rules | `(tactic| walk_at "subscriptTail List BinOp ref int") => `(tactic| refine stop_intro ?_)
local macro_rules | `(tactic| walk_at "call builtin:str.split") => `(tactic| refine stop_intro ?_)
local macro_rules | `(tactic| walk_at "call builtin:str.replace") => `(tactic| refine stop_intro ?_)
local macro_rules | `(tactic| walk_at "call builtin:str.join") => `(tactic| refine stop_intro ?_)
local macro_rules | `(tactic| walk_at "call builtin:str.find") => `(tactic| refine stop_intro ?_)
local macro_rules | `(tactic| walk_at "call builtin:list.append") => `(tactic| refine stop_intro ?_)
local macro_rules | `(tactic| walk_at "subscriptTail Name Constant ref int") => `(tactic| refine stop_intro ?_)
local macro_rules | `(tactic| walk_at "eval Lambda") => `(tactic| refine stop_intro ?_)
local macro_rules | `(tactic| walk_at "subscriptTail Name Slice ref ref") => `(tactic| refine stop_intro ?_)
local macro_rules | `(tactic| walk_at "execs nil") => `(tactic| ((with_reducible show wpAny _ _ (execs [] _) (WEnd _ _ _ _ _) _ _); refine stop_intro ?_))
local macro_rules | `(tactic| walk_at "execs nil") => `(tactic| ((with_reducible show wpAny _ _ (execs [] _) (TEnd _ _ _ _ _ _ _) _ _); refine stop_intro ?_))
local macro_rules | `(tactic| walk_at "call builtin:len") => `(tactic| (k_here; (with_reducible show wpAny _ _ (call (Value.builtin _) [Value.ref _]) _ _ _); k_dflt (refine' call_len_list ?a ?b ?_; (case a => is_list); (case b => (simp only [List.size_toArray]; omega)); k_whole)))
theorem c_told {g₀ : Heap} (X : (hd.heap_39 w.params).In g₀) (T : Top p loose mean mg mb g₀) (k₀ : Kp g₀ s.heap) (C1 : CodeHd g₀ 91 87) (C2 : CodeHd g₀ 98 94) (h87 : g₀.get? 87 = none) (h94 : g₀.get? 94 = none)
    (tab1 : TabOk "_law_hour.<locals>.<lambda>" ⟨94, 48, 94, 88⟩ 87 s.heap) (tab2 : TabOk "_law_front.<locals>.<lambda>" ⟨96, 50, 96, 86⟩ 94 s.heap)
    {lg lh : Addr} {w1 w2 w3 : Int} {t1 t2 t3 ts : Tok} {hs : List Value} {H : Nat → List (List Nat)} {size : Nat} (hr : dp + 6 < recursionLimit) (hg : s.heap.IsList lg #[.int w1 t1, .int w2 t2, .int w3 t3])
    (hb : ((0 ≤ w1 ∧ w1 ≤ 100) ∧ 0 ≤ w2 ∧ w2 ≤ 100) ∧ 0 ≤ w3 ∧ w3 ≤ 100) (hh : HoursAt s.heap lh hs H 6) (hH : ∀ k, k < 6 → (H k).length ≤ 100 ∧ ∀ t ∈ H k, t.length ≤ 100) (hsize : size ≤ 50)
    (h : ∀ h' tk a l1 l2 v1 v2, (∀ b o, b ≠ 87 → b ≠ 94 → s.heap.get? b = some o → h'.get? b = some o) →
      TabOk "_law_hour.<locals>.<lambda>" ⟨94, 48, 94, 88⟩ 87 h' → TabOk "_law_front.<locals>.<lambda>" ⟨96, 50, 96, 86⟩ 94 h' →
      IsTup h' a #[.ref l1, .ref l2] → h'.IsList l1 (List.toArray v1) → h'.IsList l2 (List.toArray v2) → IntsAre v1 (upto (size + 1) fun p => (fstN w1 w2 w3 H (p + 1) : Int)) → IntsAre v2 (upto 6 fun k => (frtN w1 w2 w3 H size (k + 1) : Int)) →
      Q (.ref a) { s with heap := h', toks := tk }) :
    wpAny (model PySem.Challenge.rw_pu0022_01.row.prog w) ({ handled := none, depth := dp, frames := fr, guards := gd, units := un } : Around) (call (.ref 106) [.ref lg, .ref lh, .int (size : Int) ts]) Q E s := by
  w_top off; revert X; k_fill; intro X
  obtain ⟨ps1, hP1, ht1, hca1⟩ := id tab1
  obtain ⟨ps2, hP2, ht2, hca2⟩ := id tab2
  refine' enterH (news := [(94, tabObj ps2), (87, tabObj ps1)]) (binds := [("goal", .ref lg), ("hours", .ref lh), ("size", .int (size : Int) ts)]) (X.keeps k₀) (T.keeps k₀) (show dp < recursionLimit by omega) ?k6 ?k7 ?k9 ?kB ?kN ?_ ?c2 ?c3 ?c4 ?c5
  case k6 => k_is
  case k7 => k_is
  case k9 => exact BindsTo.of_eq rfl
  case kB => exact locs rfl
  case kN =>
    intro q hq
    rcases List.mem_cons.mp hq with rfl | hq
    · exact hP2
    · rw [List.mem_singleton.mp hq]; exact hP1
  case c2 => exact rfl
  case c3 => exact rfl
  case c4 => exact rfl
  case c5 => decide
  have kh : Kp g₀ (hideAll s.heap ([(94, tabObj ps2), (87, tabObj ps1)].map (·.1))) := kp_hide k₀ (fun a ha => by
    rcases List.mem_cons.mp ha with rfl | ha
    · exact h94
    · rw [List.mem_singleton.mp ha]; exact h87)
  have n87 : (hideAll s.heap ([(94, tabObj ps2), (87, tabObj ps1)].map (·.1))).get? 87 = none := hideAll_none _ (by simp)
  have n94 : (hideAll s.heap ([(94, tabObj ps2), (87, tabObj ps1)].map (·.1))).get? 94 = none := hideAll_none _ (by simp)
  have hkeep : ∀ b o, b ≠ 87 → b ≠ 94 → s.heap.get? b = some o → (hideAll s.heap ([(94, tabObj ps2), (87, tabObj ps1)].map (·.1))).get? b = some o := fun b o h1 h2 e => hideAll_get _ e (by simp [h1, h2])
  have hX' := X.keeps kh
  have hT' := T.keeps kh
  have lst : ∀ {l : Addr} {its : Array Value}, s.heap.IsList l its → (hideAll s.heap ([(94, tabObj ps2), (87, tabObj ps1)].map (·.1))).IsList l its := by
    intro l its x
    refine x.at fun o e => hkeep _ o ?_ ?_ e
    · rintro rfl
      obtain ⟨o, ho, _, _, e⟩ := x
      rw [hP1] at ho; cases ho; exact nomatch e
    · rintro rfl
      obtain ⟨o, ho, _, _, e⟩ := x
      rw [hP2] at ho; cases ho; exact nomatch e
  have hg' := lst hg
  have hh' : HoursAt (hideAll s.heap ([(94, tabObj ps2), (87, tabObj ps1)].map (·.1))) lh hs H 6 := ⟨lst hh.list, hh.len, fun i hi => let ⟨l, ps, h1, h2, h3⟩ := hh.hour i hi; ⟨l, ps, h1, lst h2, h3⟩⟩
  have tabs0 : Tabs2 (hideAll s.heap ([(94, tabObj ps2), (87, tabObj ps1)].map (·.1))) [(94, tabObj ps2), (87, tabObj ps1)] := by
    refine ⟨⟨ps1, .tail _ (.head _), ht1, hca1.imp id fun ⟨c', hc, e, r⟩ => ⟨c', e, .inl (r.at fun o e => hkeep _ o hc (tab_ne r hP2 ht2) e)⟩⟩, ⟨ps2, .head _, ht2, hca2.imp id fun ⟨c', hc, e, r⟩ => ⟨c', e, .inl (r.at fun o e => hkeep _ o (tab_ne r hP1 ht1) hc e)⟩⟩, fun q hq => ?_⟩
    rcases List.mem_cons.mp hq with rfl | hq
    · exact ⟨ps2, rfl, .inl rfl⟩
    · rw [List.mem_singleton.mp hq]; exact ⟨ps1, rfl, .inl rfl⟩
  have hszh : (hideAll s.heap ([(94, tabObj ps2), (87, tabObj ps1)].map (·.1))).objs.size = s.heap.objs.size := hideAll_size _ _
  generalize hideAll s.heap ([(94, tabObj ps2), (87, tabObj ps1)].map (·.1)) = h₀ at *
  intro L h₁ F N
  k_fold
  k_steps
  rename Fr _ _ _ _ => F
  rename News _ _ _ _ => N
  rename_i lf _ hlf _
  refine Stop.go (For_invV h₀ rfl rfl ?_ (fun _ => rfl) passes_false)
  k_steps
  rename Fr _ _ _ _ => F
  rename News _ _ _ _ => N
  rename IsRange _ _ _ _ _ _ _ _ => hR
  refine Stop.go (loop_rangeT (n := size + 1) (FstJ lf lg lh w1 w2 w3 H size ts h₀) rfl hR (by omega) (by omega) F N ?_ ?_ ?_)
  · exact ⟨[.int 6 _], 0, _, rfl, tabs0, .cons _ _ .nil, rfl, rfl, rfl, rfl⟩
  · rintro I i t m₁ news₁ h tk oI hi ⟨fs, n, rest, rfl, hT, hfs, hm1, hm2, hm3, hm4⟩ hne hnT F N
    rw [pin4 hm1 hm2 hm3 hm4] at F
    have h1 : lf ≠ I := hne _ (.head _)
    have hfl : fs.length = i + 1 := by rw [hfs.length, upto_length]
    obtain ⟨tl, hl1⟩ := hfs.get i _ (upto_get _ (by omega))
    k_steps
    refine Stop.go (item_list_neg (News.isList N (.tail _ (.head _))) (by omega) (by simp; omega) (by omega) (v := .int (fstN w1 w2 w3 H i : Int) tl) ?_ ?_)
    · rw [List.size_toArray, hfl, show ((-1 : Int) + ((i + 1 : Nat) : Int)).toNat = i by omega]
      simpa using hl1
    k_steps
    have Nr : News h₀ L _ rest := news_sub N (fun q hq => .tail _ (.tail _ hq))
    have h87L : 87 ≠ L := (hT.at1 (P := fun a => a ≠ L) (fun q hq => (Nr q hq).2.1)).1
    have h87I : I ≠ 87 := Ne.symm (hT.at1 (P := fun a => a ≠ I) (fun q hq => hne q (.tail _ hq))).1
    have h87f : lf ≠ 87 := Ne.symm (hT.at1 (P := fun a => a ≠ lf) (hT.ne Nr (News.get N (.tail _ (.head _))))).1
    refine Stop.go (c_hour X T (by exact kh.trans F.keep) C1 h87 (by exact hT.t1.ok F Nr) (show dp + 1 + 5 < recursionLimit by omega) (by exact Fr.lst F hg') hb (by exact hh'.kp F.keep) (fstN_le w1 w2 w3 H i) hH fun h9 tk9 t9 hx9 tab9 => ?_)
    obtain ⟨F, rest', N', ta, tb, hf⟩ := tab_step F Nr n87 h87L hx9 tab9 (by decide) hT.t1 hT.t2 hT.f
    have hT' : Tabs2 h₀ rest' := ⟨ta, tb, hf⟩
    have NI := N _ (.head _)
    have Nl := N _ (.tail _ (.head _))
    have N : News h₀ L h9 ((I, oI) :: (lf, listOf fs.toArray n) :: rest') := by
      intro q hq
      rcases List.mem_cons.mp hq with rfl | hq
      · exact ⟨hx9 _ _ h87I NI.1, NI.2⟩
      · rcases List.mem_cons.mp hq with rfl | hq
        · exact ⟨hx9 _ _ h87f Nl.1, Nl.2⟩
        · exact N' q hq
    have hne' : ∀ q ∈ rest', q.1 ≠ I := hT'.neT N' (N _ (.head _)).1 hnT
    k_steps
    refine Stop.go (append_K F N (.tail (Ne.symm h1) (.head (hT'.ne N' (N _ (.tail _ (.head _))).1))) (fun h8 F N => ?_) (by rw [List.size_toArray, sizeLine_eq]; omega))
    refine wpAny_execs_nil ?_
    refine ⟨_, _, _, _, (lf, _) :: rest', rfl, F, N, .head _, fun q hq => .tail _ hq, ?_, ?_⟩
    · intro q hq
      rcases List.mem_cons.mp hq with rfl | hq
      · exact h1
      · exact hne' q hq
    · refine ⟨_, _, rest', rfl, hT', ?_, rfl, rfl, rfl, rfl⟩
      rw [upto_succ, List.concat_eq_append]
      exact ints_snoc hfs _ _
  · rintro m₁ news₁ h7 tk ⟨fs, n, rest, rfl, hT, hfs, hm1, hm2, hm3, hm4⟩ F N
    rw [pin4 hm1 hm2 hm3 hm4] at F
    k_steps
    rename Fr _ _ _ _ => F
    rename News _ _ _ _ => N
    rename_i lf2 _ _ _ hlf2 _
    have hvl : hs.length = 6 := hh.len
    refine Stop.go (For_invV h₀ rfl rfl ?_ (fun _ => rfl) passes_false)
    k_steps
    refine Stop.go (loop_listT (FrtJ lf lf2 lg lh fs n w1 w2 w3 H size h₀) rfl hh'.list F N ?_ ?_ ?_)
    · exact ⟨[.int _ _], 0, _, rfl, hT, .cons _ _ .nil, rfl, rfl, rfl, rfl⟩
    · rintro I i v m₂ news₂ h tk oI hi hv ⟨gs, k, rest, rfl, hT, hgs, hm1, hm2, hm3, hm4⟩ hne hnT F N
      rw [pin4 hm1 hm2 hm3 hm4] at F
      have hi6 : i < 6 := by rw [← hvl]; simpa using hi
      obtain ⟨lt, qs, e1, e2, e3⟩ := hh'.hour i hi6
      obtain rfl : v = .ref lt := by
        rw [List.getElem?_toArray, e1] at hv
        exact (Option.some.inj hv).symm
      have h1 : lf2 ≠ I := hne _ (.head _)
      have hfl : gs.length = i + 1 := by rw [hgs.length, upto_length]
      obtain ⟨tl, hl1⟩ := hgs.get i _ (upto_get _ (by omega))
      k_steps
      refine Stop.go (item_list_neg (News.isList N (.tail _ (.head _))) (by omega) (by simp; omega) (by omega) (v := .int (frtN w1 w2 w3 H size i : Int) tl) ?_ ?_)
      · rw [List.size_toArray, hfl, show ((-1 : Int) + ((i + 1 : Nat) : Int)).toNat = i by omega]
        simpa using hl1
      k_steps
      have Nr : News h₀ L _ rest := news_sub N (fun q hq => .tail _ (.tail _ (.tail _ hq)))
      have h87L : 94 ≠ L := (hT.at1 (P := fun a => a ≠ L) (fun q hq => (Nr q hq).2.1)).2
      have h87I : I ≠ 94 := Ne.symm (hT.at1 (P := fun a => a ≠ I) (fun q hq => hne q (.tail _ (.tail _ hq)))).2
      have h87f : lf ≠ 94 := Ne.symm (hT.at1 (P := fun a => a ≠ lf) (hT.ne Nr (News.get N (.tail _ (.tail _ (.head _)))))).2
      have h87g : lf2 ≠ 94 := Ne.symm (hT.at1 (P := fun a => a ≠ lf2) (hT.ne Nr (News.get N (.tail _ (.head _))))).2
      refine Stop.go (c_front X T (by exact kh.trans F.keep) C2 h94 (by exact hT.t2.ok F Nr) (show dp + 1 + 5 < recursionLimit by omega) (by exact Fr.lst F hg') hb (by exact Fr.lst F e2) e3 (Nat.le_trans (frtN_le w1 w2 w3 H size i) (by omega)) (hH i hi6) fun h9 tk9 t9 hx9 tab9 => ?_)
      obtain ⟨F, rest', N', ta, tb, hf⟩ := tab_step F Nr n94 h87L hx9 tab9 (by decide) hT.t2 hT.t1 hT.f
      have hT' : Tabs2 h₀ rest' := ⟨tb, ta, hf⟩
      have NI := N _ (.head _)
      have Nl := N _ (.tail _ (.head _))
      have Nm := N _ (.tail _ (.tail _ (.head _)))
      have N : News h₀ L h9 ((I, oI) :: (lf2, listOf gs.toArray k) :: (lf, listOf fs.toArray n) :: rest') := by
        intro q hq
        rcases List.mem_cons.mp hq with rfl | hq
        · exact ⟨hx9 _ _ h87I NI.1, NI.2⟩
        · rcases List.mem_cons.mp hq with rfl | hq
          · exact ⟨hx9 _ _ h87g Nl.1, Nl.2⟩
          · rcases List.mem_cons.mp hq with rfl | hq
            · exact ⟨hx9 _ _ h87f Nm.1, Nm.2⟩
            · exact N' q hq
      have hne' : ∀ q ∈ rest', q.1 ≠ I := hT'.neT N' (N _ (.head _)).1 hnT
      have hff : ∀ q ∈ (lf, listOf fs.toArray n) :: rest', q.1 ≠ lf2 := by
        intro q hq
        rcases List.mem_cons.mp hq with rfl | hq
        · exact Nat.ne_of_lt hlf2.1
        · exact hT'.ne N' (N _ (.tail _ (.head _))).1 q hq
      have hlfI : lf ≠ I := hne _ (.tail _ (.head _))
      k_steps
      refine Stop.go (append_K F N (.tail (Ne.symm h1) (.head hff)) (fun h8 F N => ?_) (by rw [List.size_toArray, sizeLine_eq]; omega))
      refine wpAny_execs_nil ?_
      refine ⟨_, _, _, _, (lf2, _) :: (lf, _) :: rest', rfl, F, N, .head _, fun q hq => .tail _ hq, ?_, ?_⟩
      · intro q hq
        rcases List.mem_cons.mp hq with rfl | hq
        · exact h1
        · rcases List.mem_cons.mp hq with rfl | hq
          · exact hlfI
          · exact hne' q hq
      · refine ⟨_, _, rest', rfl, hT', ?_, rfl, rfl, rfl, rfl⟩
        rw [upto_succ, List.concat_eq_append]
        exact ints_snoc hgs _ _
    · rintro m₂ news₂ h6 tk ⟨gs, k, rest, rfl, hT, hgs, hm1, hm2, hm3, hm4⟩ F N
      rw [pin4 hm1 hm2 hm3 hm4] at F
      k_steps
      have hfl : fs.length = size + 2 := by rw [hfs.length, upto_length]
      have hgl : gs.length = 7 := by rw [hgs.length, upto_length, List.size_toArray, hvl]
      rw [List.size_toArray, hvl] at hgs
      refine Stop.go (kmk_slice F N (News.isList N (.tail _ (.head _))) (.int _ _) .none (fun D h8 F N hlD => ?_) rfl (fun _ => rfl) (by rw [List.size_toArray, hfl, sizeLine_eq]; omega))
      rw [(from_one hfs).1] at N
      k_steps
      refine Stop.go (kmk_slice F N (News.isList N (.tail _ (.head _))) (.int _ _) .none (fun D2 h8 F N hlD => ?_) rfl (fun _ => rfl) (by rw [List.size_toArray, hgl, sizeLine_eq]; omega))
      rw [(from_one hgs).1] at N
      k_steps
      rename Fr _ _ _ _ => F
      rename News _ _ _ _ => N
      have Nr : News h₀ L _ rest := news_sub N (fun q hq => .tail _ (.tail _ (.tail _ (.tail _ (.tail _ hq)))))
      exact h _ _ _ D D2 _ _ (fun b o h1 h2 e => F.keep _ _ (hkeep b o h1 h2 e)) (hT.t1.ok F Nr) (hT.t2.ok F Nr) ⟨_, (N _ (.head _)).1, rfl, _, rfl⟩ (News.isList N (.tail _ (.tail _ (.head _)))) (News.isList N (.tail _ (.head _))) (from_one hfs).2 (from_one hgs).2
end
end Mine
end
section
open PySem PySem.W PySem.Calls PyProof.Rows
namespace Mine
set_option maxRecDepth 100000
set_option maxHeartbeats 8000000
abbrev tupObj (a b : Int) (t u : Tok) : Obj := { cls := .type "tuple", data := .seq #[.int a t, .int b u] }
def Seqy (o : Obj) : Prop := ∃ its n, o.data = .seq its n
/-- the made values are pairs that stand in the ledger -/
def PairsIn (ys : List Value) (tn : List (Addr × Obj)) (rows : List (Int × Int)) : Prop :=
  ys.length = rows.length ∧ (∀ q ∈ tn, Seqy q.2) ∧ ∀ (i : Nat) (r : Int × Int), rows[i]? = some r → ∃ T t u, ys[i]? = some (.ref T) ∧ (T, tupObj r.1 r.2 t u) ∈ tn
section
variable {prog : Program} {w : World} {A : Around} {h₀ : Heap} {L : Addr} {m : Str → Option Value} {env : Env} {elt : PySem.Expr} {x : Str} {scope : Scope} {cl : List (Str × Addr)} {s : Shared} {S : List (Addr × Obj) → Prop} {P : Nat → Value → Prop} {Fin : List Value → List (Addr × Obj) → Prop} {news : List (Addr × Obj)}
theorem comp_pairs {n : Nat} {ks : List Int} (f g : Int → Int) (hks : ks.length = n) (hP : ∀ i v, i < n → P i v → ∃ k t, ks[i]? = some k ∧ v = .int k t)
    (turn : ∀ k t I oI C oC D m₂ ys tn h tk (E' : Value → Shared → Prop), k ∈ ks → LCg.NsObj oC m₂ → m₂ x = some (.int k t) → Fr h₀ L h m → News h₀ L h ((I, oI) :: (C, oC) :: (D, LCg.lst ys) :: (tn ++ news)) → LCg.Off3 I C D (tn ++ news) → ((@Ne Nat I C) ∧ (@Ne Nat I D) ∧ (@Ne Nat C D)) → S (tn ++ news) →
      wpAny (model prog w) A (eval elt (compEnvC scope cl C env)) (LCg.CompEnd h₀ L m { s with heap := h, toks := tk } I oI C oC D (LCg.lst ys) S (fun y news' => ∃ T t u, y = .ref T ∧ news' = (T, tupObj (f k) (g k) t u) :: (tn ++ news))) E' { s with heap := h, toks := tk })
    (hS : S news)
    (fin : ∀ ys tn, PairsIn ys tn (ks.map fun k => (f k, g k)) → S (tn ++ news) → Fin ys (tn ++ news)) : LCg.CompRest prog w A h₀ L m env elt x scope cl s S P Fin n 0 [] news := by
  have key : ∀ (j i : Nat) (ys : List Value) (tn : List (Addr × Obj)), i + j = n → S (tn ++ news) → PairsIn ys tn ((ks.take i).map fun k => (f k, g k)) → LCg.CompRest prog w A h₀ L m env elt x scope cl s S P Fin j i ys (tn ++ news) := by
    intro j
    induction j with
    | zero =>
      intro i ys tn hi hS hy
      have e : i = ks.length := by omega
      subst e
      rw [List.take_length] at hy
      exact LCg.CompRest.zero (fin ys tn hy hS)
    | succ j ih =>
      intro i ys tn hi hS hy
      refine LCg.CompRest.succ ?_
      intro v I oI C oC D m₂ h tk E' hv hC hx F N off ne
      obtain ⟨k, t, hk, hv'⟩ := hP i v (by omega) hv
      rw [hv'] at hx
      refine wpAny_mono (turn k t I oI C oC D m₂ ys tn h tk E' (List.mem_of_getElem? hk) hC hx F N off ne hS) (fun y s₂ hq => ?_) fun _ _ e => e
      obtain ⟨h', tk', nw, e, F', N', off', hS', T, t', u', hy', hn⟩ := hq
      rw [hn] at N' off' hS'
      refine ⟨h', tk', (T, tupObj (f k) (g k) t' u') :: (tn ++ news), e, F', N', off', hS', ?_⟩
      rw [hy']
      refine ih (i + 1) _ ((T, tupObj (f k) (g k) t' u') :: tn) (by omega) hS' ?_
      have hlen : ((ks.take i).map fun k => (f k, g k)).length = i := by
        rw [List.length_map, List.length_take, Nat.min_eq_left (by omega)]
      rw [List.take_add_one, hk, Option.toList_some, List.map_append]
      refine ⟨by rw [List.length_append, List.length_append, hy.1]; rfl, fun q hq => ?_, fun a r hr => ?_⟩
      · rcases List.mem_cons.mp hq with rfl | hq
        · exact ⟨_, _, rfl⟩
        · exact hy.2.1 q hq
      rcases Nat.lt_or_ge a i with hai | hai
      · rw [List.getElem?_append_left (by omega)] at hr
        obtain ⟨T', t2, u2, h1, h2⟩ := hy.2.2 a r hr
        exact ⟨T', t2, u2, by rw [List.getElem?_append_left (by rw [hy.1]; omega)]; exact h1, .tail _ h2⟩
      · rw [List.getElem?_append_right (by omega), hlen] at hr
        have ha : a - i = 0 := by
          rcases Nat.eq_zero_or_pos (a - i) with q | q
          · exact q
          · rw [List.getElem?_eq_none (by simp; omega)] at hr; cases hr
        rw [ha] at hr
        cases hr
        exact ⟨T, t', u', by rw [List.getElem?_append_right (by rw [hy.1]; omega), hy.1, hlen, ha]; rfl, .head _⟩
  exact key n 0 [] [] (by omega) hS ⟨rfl, (fun _ hq => nomatch hq), fun i r hr => by simp at hr⟩
end
end Mine
end
section
open PySem PySem.W PySem.Calls PyProof.Rows
namespace Mine
set_option maxRecDepth 100000
set_option maxHeartbeats 8000000
section
variable {prog : Program} {w : World} {A : Around} {E : Value → Shared → Prop} {s : Shared} {h₀ : Heap} {L : Addr} {m : Str → Option Value} {env : Env}
/-- what a comprehension over range(n) with its variable in a cell asks of one turn and of the end -/
def CellSrc (prog : Program) (w : World) (A : Around) (h₀ : Heap) (L : Addr) (m : Str → Option Value) (env : Env) (elt : PySem.Expr) (x : Str) (scope : Scope) (cl : List (Str × Addr)) (g : Int → Int) (n : Nat) (Q : Value → Shared → Prop) (xv : Value) (s₁ : Shared) : Prop :=
  ∃ r b t u v news, xv = .ref r ∧ A.handled = none ∧ b = (n : Int) ∧ n < 1000 ∧ IsRange s₁.heap r 0 b 1 t u v ∧ Fr h₀ L s₁.heap m ∧ News h₀ L s₁.heap news ∧
  (∀ k t I oI C oC c oc D ys h tk (E' : Value → Shared → Prop), 0 ≤ k → k < (n : Int) → oc.data = .cell (some (.int k t)) → Fr h₀ L h m → News h₀ L h ((I, oI) :: (C, oC) :: (c, oc) :: (D, LCg.lst ys) :: news) →
    wpAny (model prog w) A (eval elt (compEnvC scope ((x, c) :: cl) C env)) (fun y s₂ => ∃ h' tk' t', s₂ = { s₁ with heap := h', toks := tk' } ∧ y = .int (g k) t' ∧ Fr h₀ L h' m ∧ News h₀ L h' ((I, oI) :: (C, oC) :: (c, oc) :: (D, LCg.lst ys) :: news)) E' { s₁ with heap := h, toks := tk }) ∧
  (∀ D ys h tk, IntsAre ys ((rangeKs 0 n).map g) → Fr h₀ L h m → News h₀ L h ((D, LCg.lst ys) :: news) → (∀ q ∈ news, q.1 < D) → Q (.ref D) { s₁ with heap := h, toks := tk })
theorem cell_loop {elt iter : PySem.Expr} {x : Str} {px : Pos} {scope : Scope} {cl : List (Str × Addr)} {pos : Pos} {Q : Value → Shared → Prop} {g : Int → Int} {n : Nat} {s₁ : Shared} {news : List (Addr × Obj)} {I D C c : Addr} {h₁ : Heap} {oC oc : Obj} {m' : Str → Option Value}
    (hkind : scope.kind = .function) (hx : ∀ C c, (compEnvC scope ((x, c) :: cl) C env).kindOf x = some .cell) (hh : A.handled = none) (hn : n < 1000)
    (turn : ∀ k t I oI C oC c oc D ys h tk (E' : Value → Shared → Prop), 0 ≤ k → k < (n : Int) → oc.data = .cell (some (.int k t)) → Fr h₀ L h m → News h₀ L h ((I, oI) :: (C, oC) :: (c, oc) :: (D, LCg.lst ys) :: news) →
      wpAny (model prog w) A (eval elt (compEnvC scope ((x, c) :: cl) C env)) (fun y s₂ => ∃ h' tk' t', s₂ = { s₁ with heap := h', toks := tk' } ∧ y = .int (g k) t' ∧ Fr h₀ L h' m ∧ News h₀ L h' ((I, oI) :: (C, oC) :: (c, oc) :: (D, LCg.lst ys) :: news)) E' { s₁ with heap := h, toks := tk })
    (fin : ∀ ys h tk, IntsAre ys ((rangeKs 0 n).map g) → Fr h₀ L h m → News h₀ L h ((D, LCg.lst ys) :: news) → Q (.ref D) { s₁ with heap := h, toks := tk })
    (F : Fr h₀ L h₁ m) (N : News h₀ L h₁ ((C, oC) :: (c, oc) :: (D, LCg.lst []) :: news)) (hI : IsRangeIter h₁ I (0 + ((0 : Nat) : Int) * 1) ((n : Int) - ((0 : Nat) : Int)) 1) (hoc : ∃ v, oc.data = .cell v) (hoC : LCg.NsObj oC m')
    (nI : h₀.get? I = none) (lI : I ≠ L) (dIC : I ≠ C) (dIc : I ≠ c) (dID : I ≠ D) (dCc : C ≠ c) (dCD : C ≠ D) (dcD : c ≠ D) (off : ∀ q ∈ news, q.1 ≠ I ∧ q.1 ≠ C ∧ q.1 ≠ c ∧ q.1 ≠ D) :
    codeAny (model prog w) A (.compStart (.ListComp elt [⟨.Name x px, iter, [], 0⟩] scope pos) 0 (.ref I) (.ref D) (compEnvC scope ((x, c) :: cl) C env)) (compPost (model prog w) A E none Q (.ref D) C) { s₁ with heap := h₁ } := by
  have W := LCg.range_walks (prog := prog) (w := w) (A := A) (I := I) hh 0 n
  have hN := fun q hq => N q hq
  have hCL := (N (C, oC) (.head _)).2
  have hcL := (N (c, oc) (.tail _ (.head _))).2
  have hDL := (N (D, LCg.lst []) (.tail _ (.tail _ (.head _)))).2
  have loop : ∀ s₃ : Shared, s₃ = { s₁ with heap := h₁ } → codeAny (model prog w) A (.compLoop (.ListComp elt [⟨.Name x px, iter, [], 0⟩] scope pos) 0 (.ref I) (.ref D) (compEnvC scope ((x, c) :: cl) C env)) (compPost (model prog w) A E none Q (.ref D) C) s₃ := by
    rintro s₃ rfl
    refine codeAny_compLoop_tests (fun k s' => ∃ h' tk i ys oc', s' = { s₁ with heap := h', toks := tk } ∧ i ≤ n ∧ k = n + 1 - i ∧ ys.length = i ∧ IntsAre ys (((rangeKs 0 n).take i).map g) ∧
      IsRangeIter h' I (0 + (i : Int) * 1) ((n : Int) - (i : Int)) 1 ∧ Fr h₀ L h' m ∧ (∃ v, oc'.data = .cell v) ∧ News h₀ L h' ((C, oC) :: (c, oc') :: (D, LCg.lst ys) :: news)) ?_ (n + 1)
      ⟨h₁, _, 0, [], oc, rfl, Nat.zero_le _, rfl, rfl, by simp only [List.take_zero, List.map_nil]; exact .nil, hI, F, hoc, N⟩
    rintro k s' ⟨h', tk, i, ys, oc', rfl, hi, rfl, hyl, hyi, hst, F', ⟨vc, hvc⟩, N'⟩
    have zC := N' _ (.head _)
    have zc := N' _ (.tail _ (.head _))
    have zD := N' _ (.tail _ (.tail _ (.head _)))
    by_cases hlt : i < n
    · refine W.item i _ _ _ hlt hst fun v h₂ tk₂ hPv hst₂ hk₂ => ?_
      obtain ⟨t, rfl⟩ := hPv
      have e0 : (0 : Int) + (i : Int) = (i : Int) := by omega
      rw [e0]
      have k2 : ∀ b o, b ≠ I → h'.get? b = some o → h₂.get? b = some o := fun b o hb e => hk₂ b o (by simpa using hb) e
      refine wpAny_assign_Name (wpAny_storeName_cell (c := c) (v₀ := vc) ?_ (hx C c) ?_ ⟨oc', k2 _ _ (Ne.symm dIc) zc.1, hvc⟩ fun h₃ hc₃ hs₃ => ?_)
      · exact hkind
      · show List.lookup x ((x, c) :: cl) = some c
        simp
      refine wpAny_tests_nil ?_
      simp only [if_true]
      obtain ⟨oc₃, hoc₃, hdc₃⟩ := hc₃
      have k3 : ∀ b o, b ≠ I → b ≠ c → h'.get? b = some o → h₃.get? b = some o := fun b o hb hb' e => (hs₃.2 b hb').trans (k2 b o hb e)
      have hst₃ : IsRangeIter h₃ I (0 + ((i + 1 : Nat) : Int) * 1) ((n : Int) - ((i + 1 : Nat) : Int)) 1 := (hs₃.2 I dIc).trans hst₂
      obtain ⟨oI, hoI, hIo⟩ : ∃ oI, h₃.get? I = some oI ∧ ∀ h : Heap, h.get? I = some oI → IsRangeIter h I (0 + ((i + 1 : Nat) : Int) * 1) ((n : Int) - ((i + 1 : Nat) : Int)) 1 := ⟨_, hst₃, fun _ e => e⟩
      have F₃ : Fr h₀ L h₃ m := by
        refine ⟨F'.ns.at' fun o e => k3 L o (Ne.symm lI) (Ne.symm hcL.1) e, fun b o e => k3 b o ?_ ?_ (F'.keep b o e), F'.above⟩
        · rintro rfl; rw [nI] at e; cases e
        · rintro rfl; rw [hcL.2] at e; cases e
      have N₃ : News h₀ L h₃ ((I, oI) :: (C, oC) :: (c, oc₃) :: (D, LCg.lst ys) :: news) := by
        intro q hq
        rcases List.mem_cons.mp hq with rfl | hq
        · exact ⟨hoI, lI, nI⟩
        · rcases List.mem_cons.mp hq with rfl | hq
          · exact ⟨k3 _ _ (Ne.symm dIC) dCc zC.1, zC.2⟩
          · rcases List.mem_cons.mp hq with rfl | hq
            · exact ⟨hoc₃, hcL⟩
            · rcases List.mem_cons.mp hq with rfl | hq
              · exact ⟨k3 _ _ (Ne.symm dID) (Ne.symm dcD) zD.1, zD.2⟩
              · have z := N' q (.tail _ (.tail _ (.tail _ hq)))
                exact ⟨k3 _ _ (off q hq).1 (off q hq).2.2.1 z.1, z.2⟩
      refine wpAny_mono (turn i t I oI C oC c oc₃ D ys h₃ _ _ (by omega) (by omega) hdc₃ F₃ N₃) (fun y s₄ h₄ => ?_) fun _ _ e => e
      obtain ⟨h₄, tk₄, t₄, rfl, rfl, F₄, N₄⟩ := h₄
      have yI := N₄ _ (.head _)
      have yD := N₄ _ (.tail _ (.tail _ (.tail _ (.head _))))
      refine append_at (hsz := by show ys.toArray.size ≤ sizeLine; rw [List.size_toArray, hyl, sizeLine_eq]; omega) yD.1 fun h₅ hs₅ hD₅ => ?_
      refine ⟨n + 1 - (i + 1), by omega, h₅, tk₄, i + 1, ys ++ [.int (g i) t₄], oc₃, rfl, hlt, rfl, by rw [List.length_append, List.length_singleton, hyl], ?_, hIo _ ((hs₅.2 I dID).trans yI.1), F₄.change hs₅ hDL.1 hDL.2, ⟨_, hdc₃⟩, ?_⟩
      · rw [List.take_add_one, show (rangeKs 0 n)[i]? = some (0 + (i : Int)) by simp [rangeKs, hlt], e0]
        simpa using IntsAre.append hyi (.cons (g i) t₄ .nil)
      · intro q hq
        rcases List.mem_cons.mp hq with rfl | hq
        · have z := N₄ _ (.tail _ (.head _))
          exact ⟨(hs₅.2 C dCD).trans z.1, z.2⟩
        · rcases List.mem_cons.mp hq with rfl | hq
          · have z := N₄ _ (.tail _ (.tail _ (.head _)))
            exact ⟨(hs₅.2 c dcD).trans z.1, z.2⟩
          · rcases List.mem_cons.mp hq with rfl | hq
            · exact ⟨hD₅.trans (congrArg some (LCg.lst_snoc ys _)), hDL⟩
            · have z := N₄ q (.tail _ (.tail _ (.tail _ (.tail _ hq))))
              exact ⟨(hs₅.2 _ (off q hq).2.2.2).trans z.1, z.2⟩
    · obtain rfl : i = n := Nat.le_antisymm hi (Nat.not_lt.mp hlt)
      refine W.done _ _ _ hst fun h₂ tk₂ hk₂ => ?_
      have k2 : ∀ b o, b ≠ I → h'.get? b = some o → h₂.get? b = some o := fun b o hb e => hk₂ b o (by simpa using hb) e
      refine ⟨m', hoC.ns (k2 _ _ (Ne.symm dIC) zC.1), fun h'' hs'' => fin ys h'' tk₂ ?_ ?_ ?_⟩
      · rwa [show (rangeKs 0 i).take i = rangeKs 0 i from by rw [List.take_of_length_le]; rw [rangeKs_length]; exact Nat.le_refl _] at hyi
      · refine ⟨F'.ns.at' fun o e => (hs''.2 L (Ne.symm hCL.1)).trans (k2 L o (Ne.symm lI) e), fun b o e => (hs''.2 b ?_).trans (k2 b o ?_ (F'.keep b o e)), F'.above⟩
        · rintro rfl; rw [hCL.2] at e; cases e
        · rintro rfl; rw [nI] at e; cases e
      · intro q hq
        rcases List.mem_cons.mp hq with rfl | hq
        · exact ⟨(hs''.2 D (Ne.symm dCD)).trans (k2 _ _ (Ne.symm dID) zD.1), zD.2⟩
        · have z := N' q (.tail _ (.tail _ (.tail _ hq)))
          exact ⟨(hs''.2 _ (off q hq).2.1).trans (k2 _ _ (off q hq).1 z.1), z.2⟩
  exact codeAny_compStart_list (loop _ rfl) (W.self 0 _ _ _ hI (loop _ rfl))
theorem ListComp_C {elt iter : PySem.Expr} {x : Str} {px : Pos} {scope : Scope} {cl : List (Str × Addr)} {pos : Pos} {Q : Value → Shared → Prop} (g : Int → Int) (n : Nat)
    (hclos : closureFor scope env = pure cl) (hkind : scope.kind = .function)
    (hnames : ∀ y ∈ scope.names, y.2 = .local → scope.names.lookup y.1 = some .local)
    (hcs : ∀ k, cellsFrom k scope.names cl = (x, k) :: cl) (hpc : ∀ h : Heap, pushCells h scope.names = h.push { cls := .type "cell", data := .cell none })
    (hx : ∀ C c, (compEnvC scope ((x, c) :: cl) C env).kindOf x = some .cell)
    (h : wpAny (model prog w) A (eval iter env) (CellSrc prog w A h₀ L m env elt x scope cl g n Q) E s)
    (hs : ∀ x, foldedSetIterable iter env x = pure x := by intro _; rfl) :
    wpAny (model prog w) A (eval (.ListComp elt [⟨.Name x px, iter, [], 0⟩] scope pos) env) Q E s := by
  rw [eval_ListComp]
  refine wpAny_comprehension_free (use := none) rfl hs hclos hkind hnames (wpAny_mono h (fun xv s₁ h₁ => ?_) fun _ _ e => e)
  obtain ⟨r, b, t, u, v, news, rfl, hh, rfl, hn, hr, F, N, turn, fin⟩ := h₁
  have hrs : Builtin.Range.rangeSize 0 (n : Int) 1 = (n : Int) := by rw [rangeSize_one]; split <;> omega
  refine wpAny_pyIter_range hr (small_one (by omega) (by omega) (by omega) (by omega)) ?_
  rw [hrs]
  refine wpAny_newObj_type ?_
  simp only [newFunctionEnv, Option.isSome_some, if_true]
  refine wpAny_bind (wpAny_alloc ?_)
  refine wpAny_bind (wpAny_layCells _ (fun name kind cells => by cases hkc : kind == NameKind.cell <;> simp [hkc]) _ _ _ _ ?_)
  rw [hcs, hpc]
  simp only [List.forIn_nil]
  refine wpAny_bind (wpAny_pure (wpAny_pure ?_))
  dsimp only [Heap.size_push]
  have fresh : ∀ a, s₁.heap.objs.size ≤ a → h₀.get? a = none := fun a ha => by
    cases e : h₀.get? a with
    | none => rfl
    | some o' => exact absurd (Heap.lt_size (F.keep a o' e)) (Nat.not_lt.mpr ha)
  generalize hH1 : s₁.heap.push { cls := .type "range_iterator", data := .fields #[rawInt 0, rawInt (n : Int), rawInt 1] } = H1
  have s1 : H1.objs.size = s₁.heap.objs.size + 1 := by rw [← hH1, Heap.size_push]
  generalize hH2 : H1.push { cls := .type "list", data := .seq ([] : List Value).toArray } = H2
  have s2 : H2.objs.size = s₁.heap.objs.size + 2 := by rw [← hH2, Heap.size_push, s1]
  generalize hH3 : H2.push { cls := .type "dict", data := .dict #[] } = H3
  have s3 : H3.objs.size = s₁.heap.objs.size + 3 := by rw [← hH3, Heap.size_push, s2]
  have up : ∀ b o, s₁.heap.get? b = some o → (H3.push { cls := .type "cell", data := .cell none }).get? b = some o := fun b o e =>
    Heap.get?_push_of_some _ (hH3 ▸ Heap.get?_push_of_some _ (hH2 ▸ Heap.get?_push_of_some _ (hH1 ▸ Heap.get?_push_of_some _ e)))
  have gI : H1.get? s₁.heap.objs.size = some { cls := .type "range_iterator", data := .fields #[rawInt 0, rawInt (n : Int), rawInt 1] } := hH1 ▸ Heap.get?_push_size _ rfl
  have gD : H2.get? H1.objs.size = some { cls := .type "list", data := .seq ([] : List Value).toArray } := hH2 ▸ Heap.get?_push_size _ rfl
  have gC : H3.get? H2.objs.size = some { cls := .type "dict", data := .dict #[] } := hH3 ▸ Heap.get?_push_size _ rfl
  have up3 : ∀ b o, H3.get? b = some o → (H3.push { cls := .type "cell", data := .cell none }).get? b = some o := fun b o e => Heap.get?_push_of_some _ e
  have up2 : ∀ b o, H2.get? b = some o → (H3.push { cls := .type "cell", data := .cell none }).get? b = some o := fun b o e => up3 _ _ (hH3 ▸ Heap.get?_push_of_some _ e)
  have up1 : ∀ b o, H1.get? b = some o → (H3.push { cls := .type "cell", data := .cell none }).get? b = some o := fun b o e => up2 _ _ (hH2 ▸ Heap.get?_push_of_some _ e)
  have hL : L < s₁.heap.objs.size := F.ns.lt
  have hlt : ∀ q ∈ news, q.1 < s₁.heap.objs.size := fun q hq => Heap.lt_size (N q hq).1
  refine cell_loop (m' := fun _ => none) hkind hx hh hn turn (fun ys h tk hy F' N' => fin _ ys h tk hy F' N' fun q hq => by rw [s1]; exact Nat.lt_succ_of_lt (hlt q hq)) (F.keeps up) ?_ ?_ ⟨none, rfl⟩ ?_ (fresh _ (Nat.le_refl _)) ?_ ?_ ?_ ?_ ?_ ?_ ?_ ?_ (oC := { cls := .type "dict", data := .dict #[] }) (oc := { cls := .type "cell", data := .cell none })
  · intro q hq
    rcases List.mem_cons.mp hq with rfl | hq
    · exact ⟨up3 _ _ gC, by show H2.objs.size ≠ L; rw [s2]; exact Nat.ne_of_gt (Nat.lt_trans hL (by omega)), fresh _ (by show _ ≤ H2.objs.size; rw [s2]; exact Nat.le_add_right _ _)⟩
    · rcases List.mem_cons.mp hq with rfl | hq
      · exact ⟨Heap.get?_push_size _ rfl, by show H3.objs.size ≠ L; rw [s3]; exact Nat.ne_of_gt (Nat.lt_trans hL (by omega)), fresh _ (by show _ ≤ H3.objs.size; rw [s3]; exact Nat.le_add_right _ _)⟩
      · rcases List.mem_cons.mp hq with rfl | hq
        · exact ⟨up2 _ _ gD, by show H1.objs.size ≠ L; rw [s1]; exact Nat.ne_of_gt (Nat.lt_trans hL (by omega)), fresh _ (by show _ ≤ H1.objs.size; rw [s1]; exact Nat.le_add_right _ _)⟩
        · exact ⟨up _ _ (N q hq).1, (N q hq).2⟩
  · show (H3.push { cls := .type "cell", data := .cell none }).get? _ = _
    simpa using up1 _ _ gI
  · exact ⟨#[], 0, rfl, fun _ he => by simp at he, fun _ => rfl⟩
  · exact Nat.ne_of_gt hL
  · rw [s2]; exact Nat.ne_of_lt (by omega)
  · rw [s3]; exact Nat.ne_of_lt (by omega)
  · rw [s1]; exact Nat.ne_of_lt (by omega)
  · rw [s2, s3]; exact Nat.ne_of_lt (by omega)
  · rw [s2, s1]; exact Nat.ne_of_gt (by omega)
  · rw [s3, s1]; exact Nat.ne_of_gt (by omega)
  · intro q hq
    have := hlt q hq
    refine ⟨Nat.ne_of_lt this, ?_, ?_, ?_⟩
    · rw [s2]; exact Nat.ne_of_lt (Nat.lt_trans this (by omega))
    · rw [s3]; exact Nat.ne_of_lt (Nat.lt_trans this (by omega))
    · rw [s1]; exact Nat.ne_of_lt (Nat.lt_trans this (by omega))
end
end Mine
end
section
open PySem PySem.W PySem.Calls PyProof.Rows
namespace Mine
set_option maxRecDepth 100000
set_option maxHeartbeats 8000000
/-- the object stands in the base or in the ledger -/
def Held (h₀ : Heap) (news : List (Addr × Obj)) (a : Addr) (o : Obj) : Prop := h₀.get? a = some o ∨ (a, o) ∈ news
section
variable {h₀ h : Heap} {L : Addr} {m : Str → Option Value} {news ex : List (Addr × Obj)} {a : Addr} {o : Obj}
theorem Held.get (x : Held h₀ news a o) (F : Fr h₀ L h m) (N : News h₀ L h news) : h.get? a = some o := x.elim (F.keep a o) fun hm => (N _ hm).1
theorem Held.mono (x : Held h₀ news a o) (hs : ∀ q ∈ news, q ∈ ex) : Held h₀ ex a o := x.imp id fun hm => hs _ hm
theorem held_in (F : Fr h₀ L h m) : ∀ as : List (Addr × Obj), (∀ q ∈ as, h.get? q.1 = some q.2 ∧ Seqy q.2) → ∃ ex, News h₀ L h ex ∧ (∀ q ∈ ex, Seqy q.2) ∧ ∀ q ∈ as, Held h₀ ex q.1 q.2
  | [], _ => ⟨[], News.nil, (fun _ hq => nomatch hq), fun _ hq => nomatch hq⟩
  | q :: as, hq => by
    obtain ⟨ex, N, hx, he⟩ := held_in F as fun p hp => hq p (.tail _ hp)
    have h1 := hq q (.head _)
    cases e : h₀.get? q.1 with
    | some o' =>
      have := F.keep _ _ e
      rw [h1.1] at this
      cases this
      refine ⟨ex, N, hx, fun p hp => ?_⟩
      rcases List.mem_cons.mp hp with rfl | hp
      · exact .inl e
      · exact he p hp
    | none =>
      have hL : q.1 ≠ L := by
        intro hqL
        obtain ⟨oL, a1, a2, hoL, a3⟩ := F.ns
        rw [← hqL, h1.1] at hoL
        cases hoL
        obtain ⟨its, n, hd⟩ := h1.2
        rw [hd] at a3
        exact nomatch a3.1
      refine ⟨q :: ex, fun p hp => ?_, fun p hp => ?_, fun p hp => ?_⟩
      · rcases List.mem_cons.mp hp with rfl | hp
        · exact ⟨h1.1, hL, e⟩
        · exact N p hp
      · rcases List.mem_cons.mp hp with rfl | hp
        · exact h1.2
        · exact hx p hp
      · rcases List.mem_cons.mp hp with rfl | hp
        · exact .inr (.head _)
        · exact (he p hp).mono fun r hr => .tail _ hr
/-- a list that stands in the base or in the ledger -/
def ListHeld (h₀ : Heap) (news : List (Addr × Obj)) (a : Addr) (its : Array Value) : Prop := ∃ o, Held h₀ news a o ∧ o.cls = .type "list" ∧ ∃ n, o.data = .seq its n
def TupHeld (h₀ : Heap) (news : List (Addr × Obj)) (a : Addr) (its : Array Value) : Prop := ∃ o, Held h₀ news a o ∧ o.cls = .type "tuple" ∧ ∃ n, o.data = .seq its n
theorem ListHeld.at {its : Array Value} (x : ListHeld h₀ news a its) (F : Fr h₀ L h m) (N : News h₀ L h news) : h.IsList a its := let ⟨o, ho, r⟩ := x; ⟨o, ho.get F N, r⟩
theorem TupHeld.at {its : Array Value} (x : TupHeld h₀ news a its) (F : Fr h₀ L h m) (N : News h₀ L h news) : IsTup h a its := let ⟨o, ho, r⟩ := x; ⟨o, ho.get F N, r⟩
theorem ListHeld.mono {its : Array Value} (x : ListHeld h₀ news a its) (hs : ∀ q ∈ news, q ∈ ex) : ListHeld h₀ ex a its := let ⟨o, ho, r⟩ := x; ⟨o, ho.mono hs, r⟩
theorem TupHeld.mono {its : Array Value} (x : TupHeld h₀ news a its) (hs : ∀ q ∈ news, q ∈ ex) : TupHeld h₀ ex a its := let ⟨o, ho, r⟩ := x; ⟨o, ho.mono hs, r⟩
theorem list_in {its : Array Value} (F : Fr h₀ L h m) (x : h.IsList a its) : ∃ ex, News h₀ L h ex ∧ (∀ q ∈ ex, Seqy q.2) ∧ ListHeld h₀ ex a its := by
  obtain ⟨o, ho, hc, n, hd⟩ := x
  obtain ⟨ex, N, hx, he⟩ := held_in F [(a, o)] fun q hq => by rw [List.mem_singleton.mp hq]; exact ⟨ho, its, n, hd⟩
  exact ⟨ex, N, hx, o, he _ (.head _), hc, n, hd⟩
theorem tup_in {its : Array Value} (F : Fr h₀ L h m) (x : IsTup h a its) : ∃ ex, News h₀ L h ex ∧ (∀ q ∈ ex, Seqy q.2) ∧ TupHeld h₀ ex a its := by
  obtain ⟨o, ho, hc, n, hd⟩ := x
  obtain ⟨ex, N, hx, he⟩ := held_in F [(a, o)] fun q hq => by rw [List.mem_singleton.mp hq]; exact ⟨ho, its, n, hd⟩
  exact ⟨ex, N, hx, o, he _ (.head _), hc, n, hd⟩
theorem news_app {xs ys : List (Addr × Obj)} (a : News h₀ L h xs) (b : News h₀ L h ys) : News h₀ L h (xs ++ ys) := fun q hq => (List.mem_append.mp hq).elim (a q) (b q)
structure HoursHeld (h₀ : Heap) (news : List (Addr × Obj)) (a : Addr) (vs : List Value) (T : Nat → List (List Nat)) (n : Nat) : Prop where
  list : ListHeld h₀ news a vs.toArray
  len : vs.length = n
  hour : ∀ k, k < n → ∃ l ps, vs[k]? = some (.ref l) ∧ ListHeld h₀ news l (strValues ps).toArray ∧ ps.map (fun p => p.1.cps.toList) = T k
theorem HoursHeld.at {vs : List Value} {T : Nat → List (List Nat)} {n : Nat} (x : HoursHeld h₀ news a vs T n) (F : Fr h₀ L h m) (N : News h₀ L h news) : HoursAt h a vs T n :=
  ⟨x.list.at F N, x.len, fun k hk => let ⟨l, ps, h1, h2, h3⟩ := x.hour k hk; ⟨l, ps, h1, h2.at F N, h3⟩⟩
theorem HoursHeld.mono {vs : List Value} {T : Nat → List (List Nat)} {n : Nat} (x : HoursHeld h₀ news a vs T n) (hs : ∀ q ∈ news, q ∈ ex) : HoursHeld h₀ ex a vs T n :=
  ⟨x.list.mono hs, x.len, fun k hk => let ⟨l, ps, h1, h2, h3⟩ := x.hour k hk; ⟨l, ps, h1, h2.mono hs, h3⟩⟩
theorem hours_in {vs : List Value} {T : Nat → List (List Nat)} {n : Nat} (F : Fr h₀ L h m) (x : HoursAt h a vs T n) : ∃ ex, News h₀ L h ex ∧ (∀ q ∈ ex, Seqy q.2) ∧ HoursHeld h₀ ex a vs T n := by
  have key : ∀ j, j ≤ n → ∃ ex, News h₀ L h ex ∧ (∀ q ∈ ex, Seqy q.2) ∧ ∀ k, k < j → ∃ l ps, vs[k]? = some (.ref l) ∧ ListHeld h₀ ex l (strValues ps).toArray ∧ ps.map (fun p => p.1.cps.toList) = T k := by
    intro j
    induction j with
    | zero => intro _; exact ⟨[], News.nil, (fun _ hq => nomatch hq), fun k hk => absurd hk (Nat.not_lt_zero _)⟩
    | succ j ih =>
      intro hj
      obtain ⟨ex, N, hx, he⟩ := ih (by omega)
      obtain ⟨l, ps, h1, h2, h3⟩ := x.hour j (by omega)
      obtain ⟨ex2, N2, hx2, he2⟩ := list_in F h2
      refine ⟨ex ++ ex2, news_app N N2, fun q hq => (List.mem_append.mp hq).elim (hx q) (hx2 q), fun k hk => ?_⟩
      rcases Nat.lt_or_ge k j with q | q
      · obtain ⟨l, ps, a1, a2, a3⟩ := he k q
        exact ⟨l, ps, a1, a2.mono fun r hr => List.mem_append_left _ hr, a3⟩
      · obtain rfl : k = j := by omega
        exact ⟨l, ps, h1, he2.mono fun r hr => List.mem_append_right _ hr, h3⟩
  obtain ⟨ex, N, hx, he⟩ := key n (Nat.le_refl _)
  obtain ⟨ex2, N2, hx2, he2⟩ := list_in F x.list
  exact ⟨ex ++ ex2, news_app N N2, fun q hq => (List.mem_append.mp hq).elim (hx q) (hx2 q), he2.mono fun r hr => List.mem_append_right _ hr, x.len, fun k hk => let ⟨l, ps, a1, a2, a3⟩ := he k hk; ⟨l, ps, a1, a2.mono fun r hr => List.mem_append_left _ hr, a3⟩⟩
structure RowsHeld (h₀ : Heap) (news : List (Addr × Obj)) (a : Addr) (vs : List Value) (rows : List (Int × Int)) : Prop where
  list : ListHeld h₀ news a vs.toArray
  len : vs.length = rows.length
  row : ∀ (i : Nat) (r : Int × Int), rows[i]? = some r → ∃ t tf tb, vs[i]? = some (.ref t) ∧ TupHeld h₀ news t #[.int r.1 tf, .int r.2 tb]
theorem RowsHeld.at {vs : List Value} {rows : List (Int × Int)} (x : RowsHeld h₀ news a vs rows) (F : Fr h₀ L h m) (N : News h₀ L h news) : RowsAt h a vs rows :=
  ⟨x.list.at F N, x.len, fun i r e => let ⟨t, tf, tb, h1, h2⟩ := x.row i r e; ⟨t, tf, tb, h1, h2.at F N⟩⟩
theorem RowsHeld.mono {vs : List Value} {rows : List (Int × Int)} (x : RowsHeld h₀ news a vs rows) (hs : ∀ q ∈ news, q ∈ ex) : RowsHeld h₀ ex a vs rows :=
  ⟨x.list.mono hs, x.len, fun i r e => let ⟨t, tf, tb, h1, h2⟩ := x.row i r e; ⟨t, tf, tb, h1, h2.mono hs⟩⟩
theorem pairs_held {ys : List Value} {tn : List (Addr × Obj)} {rows : List (Int × Int)} {n : Nat} (x : PairsIn ys tn rows) : RowsHeld h₀ ((a, listOf ys.toArray n) :: tn) a ys rows :=
  ⟨⟨_, .inr (.head _), rfl, _, rfl⟩, x.1, fun i r hr => let ⟨T, t, u, h1, h2⟩ := x.2.2 i r hr; ⟨T, t, u, h1, _, .inr (.tail _ h2), rfl, _, rfl⟩⟩
end
section
variable {prog : Program} {w : World} {A : Around} {E : Value → Shared → Prop} {s : Shared} {env : Env} {h₀ : Heap} {x : Str} {body : List Stmt} {Q : Flow → Shared → Prop}
/-- for x in a list that the call has made -/
theorem loop_ownT {l : Addr} {items : Array Value} {nn : Nat} {m₀ : Str → Option Value} {news : List (Addr × Obj)} (J : Nat → (Str → Option Value) → List (Addr × Obj) → Prop)
    (hh : A.handled = none) (F : Fr h₀ env.locals s.heap m₀) (N : News h₀ env.locals s.heap ((l, listOf items nn) :: news)) (hj : J 0 m₀ news)
    (turn : ∀ I i v m₁ news₁ h tk oI, i < items.size → items[i]? = some v → J i m₁ news₁ → I ≠ l → (∀ p ∈ news₁, p.1 ≠ I) → ¬ Tbl oI → Fr h₀ env.locals h (fun y => if y = x then some v else m₁ y) → News h₀ env.locals h ((I, oI) :: (l, listOf items nn) :: news₁) →
      wpAny (model prog w) A (execs body env) (TEnd h₀ env.locals (fun m' nx => (l, listOf items nn) ∈ nx ∧ ∃ ny, nx = (l, listOf items nn) :: ny ∧ J (i + 1) m' ny) I oI { s with heap := h, toks := tk } Q) E { s with heap := h, toks := tk })
    (done : ∀ m₁ news₁ h tk, J items.size m₁ news₁ → Fr h₀ env.locals h m₁ → News h₀ env.locals h ((l, listOf items nn) :: news₁) → Q .next { s with heap := h, toks := tk }) :
    wpAny (model prog w) A (pyIter (.ref l)) (fun it s₂ => LoopAtV prog w A h₀ env x body Q E it s₂) E s := by
  have hls : s.heap.IsList l items := News.isList N (.head _)
  have hl1 := N _ (.head _)
  have hlt : l < s.heap.objs.size := Heap.lt_size hl1.1
  have hne : l ≠ s.heap.objs.size := Nat.ne_of_lt hlt
  refine wpAny_pyIter_list hls ?_
  have W := walks_with (ol := listOf items nn) (Walks.list (prog := prog) (w := w) hh s.heap.objs.size l hne items) (by simp) hne
  refine ⟨s.heap.objs.size, [s.heap.objs.size, l], [s.heap.objs.size], items.size, _, _, m₀, (l, listOf items nn) :: news, fun i m nx => ∃ ny, nx = (l, listOf items nn) :: ny ∧ J i m ny, rfl, W, ?_, ?_, ?_,
    ⟨⟨⟨_, Heap.get?_push_size _ rfl, rfl, rfl⟩, hls.at fun o e => Heap.get?_push_of_some _ e⟩, Heap.get?_push_of_some _ hl1.1⟩, F.push _, (fun p hp => ⟨Heap.get?_push_of_some _ (N p hp).1, (N p hp).2⟩), ⟨news, rfl, hj⟩, ?_, ?_⟩
  · intro hm
    rcases List.mem_cons.mp hm with e | hm
    · exact absurd F.ns.lt (e ▸ Nat.lt_irrefl _)
    · exact hl1.2.1 (List.mem_singleton.mp hm).symm
  · intro b hb; rw [List.mem_singleton.mp hb]; exact next_is_new F
  · intro q hq hb
    exact absurd (Heap.lt_size (N q hq).1) ((List.mem_singleton.mp hb) ▸ Nat.lt_irrefl _)
  · rintro i v m₁ news₁ s₁ own ⟨hh', tk', rfl⟩ hin hP ⟨ny, rfl, hJ⟩ hoff hown hget hfp' hst' F₁ N₁
    obtain ⟨⟨⟨oI, hoI, hIc, hId⟩, _⟩, hol⟩ := id hst'
    have hnT : ¬ Tbl oI := fun ⟨fs, e, r⟩ => by
      rw [hId] at e; cases e
      rcases r with r | ⟨q, t, r⟩
      · rw [hIc] at r; cases r
      · cases r
    have hI0 : h₀.get? s.heap.objs.size = none := next_is_new F
    have hIown : (s.heap.objs.size, oI) ∈ own := hfp' _ (by simp) hI0 _ hoI
    refine wpAny_mono (turn s.heap.objs.size i v m₁ ny hh' tk' oI hin hP hJ (Ne.symm hne) (fun q hq e => hoff q (.tail _ hq) (List.mem_singleton.mpr e)) hnT F₁ (fun q hq => ?_)) (fun f s₂ q => ?_) fun _ _ e => e
    · rcases List.mem_cons.mp hq with rfl | hq
      · exact N₁ _ (List.mem_append_left _ hIown)
      · exact N₁ _ (List.mem_append_right _ hq)
    have fin : (∃ h' tk m' news' nx, s₂ = { s with heap := h', toks := tk } ∧ Fr h₀ env.locals h' m' ∧ News h₀ env.locals h' news' ∧ (s.heap.objs.size, oI) ∈ news' ∧ (∀ p ∈ nx, p ∈ news') ∧ (∀ p ∈ nx, p.1 ≠ s.heap.objs.size) ∧ ((l, listOf items nn) ∈ nx ∧ ∃ ny, nx = (l, listOf items nn) :: ny ∧ J (i + 1) m' ny)) →
        LoopStepU h₀ env.locals [s.heap.objs.size] own (fun m nx => ∃ ny, nx = (l, listOf items nn) :: ny ∧ J (i + 1) m ny) { s with heap := hh', toks := tk' } .next s₂ := by
      rintro ⟨h', tk, m', news', nx, e, F', N', hio, hn, hne', hm⟩
      refine ⟨rfl, h', tk, m', nx, e, F', fun q hq => ?_, fun q hq hb => hne' q hq (List.mem_singleton.mp hb), hm.2⟩
      rcases List.mem_append.mp hq with hq | hq
      · have hg := hget q hq
        rcases List.mem_cons.mp (hown q hq) with e1 | e1
        · have : q = (s.heap.objs.size, oI) := by
            refine Prod.ext e1 ?_
            rw [e1, hoI] at hg
            exact (Option.some.inj hg).symm
          rw [this]; exact N' _ hio
        · have e1 := List.mem_singleton.mp e1
          have : q = (l, listOf items nn) := by
            refine Prod.ext e1 ?_
            rw [e1, hol] at hg
            exact (Option.some.inj hg).symm
          rw [this]; exact N' _ (hn _ hm.1)
      · exact N' _ (hn q hq)
    cases f with
    | ret v => exact .ret q
    | brk => exact .brk q
    | next => exact .next (fin q)
    | cont => exact .cont (fin q)
  · rintro h' tk m' news' F' N' _ ⟨ny, rfl, hJ⟩
    exact done m' ny h' tk hJ F' N'
end
end Mine
end
section
open PySem
namespace Mine
set_option maxRecDepth 100000
set_option maxHeartbeats 4000000
/-! the plain law: what is found by asking is what is reckoned -/
theorem after_nil (g : List Nat) : after [] g = some g := by cases g <;> simp [after]
theorem not_prefix : ∀ (f n : Nat) (l : List Nat), f < n → (∀ r, l ≠ 33 :: r) → (List.replicate n 33).isPrefixOf (List.replicate f 33 ++ l) = false
  | f, 0, _, h, _ => by omega
  | 0, n + 1, l, _, hl => by
    rw [List.replicate_succ, List.replicate_zero, List.nil_append]
    cases l with
    | nil => rfl
    | cons c r =>
      have : c ≠ 33 := fun e => hl r (by rw [e])
      rw [List.isPrefixOf_cons_cons, beq_false_of_ne (Ne.symm this)]
      rfl
  | f + 1, n + 1, l, h, hl => by
    have := not_prefix f n l (by omega) hl
    rw [List.replicate_succ, List.replicate_succ, List.cons_append, List.isPrefixOf_cons_cons, this]
    simp
theorem after_skip {n : Nat} (hn : 1 ≤ n) (l : List Nat) (hl : ∀ r, l ≠ 33 :: r) : ∀ f, f < n → after (List.replicate n 33) (List.replicate f 33 ++ l) = after (List.replicate n 33) l
  | 0, _ => rfl
  | f + 1, h => by
    have h1 := not_prefix (f + 1) n l h hl
    rw [List.replicate_succ, List.cons_append] at h1 ⊢
    rw [after, h1]
    exact after_skip hn l hl f (by omega)
theorem after_hit {n f : Nat} (hn : 1 ≤ n) (h : n ≤ f) (l : List Nat) : after (List.replicate n 33) (List.replicate f 33 ++ l) = some (List.replicate (f - n) 33 ++ l) := by
  obtain ⟨d, rfl⟩ : ∃ d, f = n + d := ⟨f - n, by omega⟩
  have e : List.replicate (n + d) 33 ++ l = List.replicate n 33 ++ (List.replicate d 33 ++ l) := by rw [← List.append_assoc, List.replicate_append_replicate]
  rw [e, show n + d - n = d by omega]
  obtain ⟨k, rfl⟩ : ∃ k, n = k + 1 := ⟨n - 1, by omega⟩
  have hp : (List.replicate (k + 1) 33).isPrefixOf (List.replicate (k + 1) 33 ++ (List.replicate d 33 ++ l)) = true := by simp
  generalize hw : List.replicate (k + 1) 33 = w at hp ⊢
  cases hg : w ++ (List.replicate d 33 ++ l) with
  | nil => rw [← hw] at hg; simp [List.replicate_succ] at hg
  | cons c r =>
    rw [hg] at hp
    rw [after, if_pos hp, ← hg]
    simp
theorem after_cons {n c : Nat} (hn : 1 ≤ n) (hc : c ≠ 33) (l : List Nat) : after (List.replicate n 33) (c :: l) = after (List.replicate n 33) l := by
  obtain ⟨k, rfl⟩ : ∃ k, n = k + 1 := ⟨n - 1, by omega⟩
  rw [after, if_neg]
  rw [List.replicate_succ]
  simp [Ne.symm hc]
theorem after_none {n : Nat} (hn : 1 ≤ n) : after (List.replicate n 33) [] = none := by
  obtain ⟨k, rfl⟩ : ∃ k, n = k + 1 := ⟨n - 1, by omega⟩
  rw [after, if_neg]
  simp [List.replicate_succ]
theorem after_crlf : ∀ (t l : List Nat), 13 ∉ t → after [13, 10] (t ++ l) = after [13, 10] l
  | [], _, _ => rfl
  | c :: t, l, h => by
    have : c ≠ 13 := fun e => h (by rw [e]; exact .head _)
    rw [List.cons_append, after, if_neg, after_crlf t l (fun q => h (.tail _ q))]
    simp [Ne.symm this]
/-- a row's signs found -/
theorem after_row {n f b : Nat} (hn : 1 ≤ n) {R : List Nat} (hR : ∀ r, R ≠ 33 :: r) :
    (n ≤ f ∨ n ≤ b → ∃ t, 13 ∉ t ∧ after (List.replicate n 33) (List.replicate f 33 ++ 97 :: List.replicate b 33 ++ R) = some (t ++ R)) ∧
    (¬ (n ≤ f ∨ n ≤ b) → after (List.replicate n 33) (List.replicate f 33 ++ 97 :: List.replicate b 33 ++ R) = after (List.replicate n 33) R) := by
  rw [List.append_assoc, List.cons_append]
  constructor
  · intro h
    by_cases h1 : n ≤ f
    · refine ⟨List.replicate (f - n) 33 ++ 97 :: List.replicate b 33, ?_, ?_⟩
      · intro hm
        rcases List.mem_append.mp hm with hm | hm
        · cases List.eq_of_mem_replicate hm
        · rcases List.mem_cons.mp hm with hm | hm
          · cases hm
          · cases List.eq_of_mem_replicate hm
      · rw [after_hit hn h1]; simp
    · have h2 : n ≤ b := by omega
      refine ⟨List.replicate (b - n) 33, (fun hm => by cases List.eq_of_mem_replicate hm), ?_⟩
      rw [after_skip hn _ (by simp) f (by omega), after_cons hn (by decide), after_hit hn h2]
  · intro h
    rw [after_skip hn _ (by simp) f (by omega), after_cons hn (by decide), after_skip hn _ hR b (by omega)]
/-- the rows behind the first one that holds the wish -/
def fnd (hit : Int → Int × Int → Bool) (w : Int) : List (Int × Int) → Option (List (Int × Int))
  | [] => none
  | r :: rs => if hit w r then some rs else fnd hit w rs
def okR (hit : Int → Int × Int → Bool) : List Int → List (Int × Int) → Bool
  | [], _ => true
  | w :: ws, rs => match fnd hit w rs with
    | none => false
    | some rs' => okR hit ws rs'
theorem okR_snoc (hit : Int → Int × Int → Bool) (n : Int) : ∀ (rs : List (Int × Int)) (ns : List Int), okR hit (ns ++ [n]) rs = true ↔ ∃ i r, rs[i]? = some r ∧ hit n r = true ∧ okR hit ns (rs.take i) = true
  | [], ns => by
    have e : okR hit (ns ++ [n]) [] = false := by cases ns <;> simp [okR, fnd]
    rw [e]; simp
  | r :: rs, [] => by
    have ih := okR_snoc hit n rs []
    simp only [List.nil_append, okR, fnd] at ih ⊢
    by_cases h : hit n r = true
    · simp only [h, if_true, true_iff]
      exact ⟨0, r, rfl, h, trivial⟩
    · simp only [h, Bool.false_eq_true, if_false]
      refine ih.trans ⟨fun ⟨i, q, a, b, _⟩ => ⟨i + 1, q, by simpa using a, b, trivial⟩, ?_⟩
      rintro ⟨i, q, a, b, _⟩
      cases i with
      | zero => simp at a; rw [a] at h; exact absurd b h
      | succ i => exact ⟨i, q, by simpa using a, b, trivial⟩
  | r :: rs, m :: ms => by
    have key : okR hit (m :: ms ++ [n]) (r :: rs) = true ↔ ∃ i q, rs[i]? = some q ∧ hit n q = true ∧ okR hit (m :: ms) (r :: rs.take i) = true := by
      by_cases h : hit m r = true
      · have ih := okR_snoc hit n rs ms
        simp only [List.cons_append, okR, fnd, h, if_true]
        exact ih
      · have ih := okR_snoc hit n rs (m :: ms)
        simp only [List.cons_append, okR, fnd, h, if_false, Bool.false_eq_true] at ih ⊢
        exact ih
    refine key.trans ⟨fun ⟨i, q, a, b, c⟩ => ⟨i + 1, q, by simpa using a, b, by simpa using c⟩, ?_⟩
    rintro ⟨i, q, a, b, c⟩
    cases i with
    | zero => simp [okR, fnd] at c
    | succ i => exact ⟨i, q, by simpa using a, b, by simpa using c⟩
/-- hour k: the row holds the wish -/
def hitK (k : Int) (w : Int) (r : Int × Int) : Bool := decide (wait r.1 r.2 w ≤ k)
def rtx (k : Int) (r : Int × Int) : List Nat := rowT 33 (grow (k + 1) r)
def tailT (k : Int) : List (Int × Int) → List Nat
  | [] => []
  | r :: rs => [13, 10] ++ glue [13, 10] ((r :: rs).map (rtx k))
theorem glue_cons (k : Int) (r : Int × Int) (rs : List (Int × Int)) : glue [13, 10] ((r :: rs).map (rtx k)) = rtx k r ++ tailT k rs := by
  cases rs with
  | nil => simp [glue, tailT]
  | cons q rs => simp [glue, tailT]
theorem tailT_head (k : Int) (rs : List (Int × Int)) : ∀ r, tailT k rs ≠ 33 :: r := by
  intro r e
  cases rs <;> simp [tailT] at e
theorem hit_iff {k w : Int} {r : Int × Int} (hk : 0 ≤ k ∧ k ≤ 5) (hw : 1 ≤ w) (hr : 0 ≤ r.1 ∧ 0 ≤ r.2) :
    hitK k w r = true ↔ (w.toNat ≤ (grow (k + 1) r).1.toNat ∨ w.toNat ≤ (grow (k + 1) r).2.toNat) := by
  unfold hitK wait grow
  rw [decide_eq_true_iff]
  dsimp only
  (repeat' split) <;> omega
theorem after_fnd {k w : Int} (hk : 0 ≤ k ∧ k ≤ 5) (hw : 1 ≤ w) : ∀ rs : List (Int × Int), (∀ r ∈ rs, 0 ≤ r.1 ∧ 0 ≤ r.2) →
    (fnd (hitK k) w rs = none ∧ after (List.replicate w.toNat 33) (glue [13, 10] (rs.map (rtx k))) = none) ∨
    ∃ rs' t, fnd (hitK k) w rs = some rs' ∧ 13 ∉ t ∧ after (List.replicate w.toNat 33) (glue [13, 10] (rs.map (rtx k))) = some (t ++ tailT k rs') ∧ ∀ r ∈ rs', r ∈ rs
  | [], _ => .inl ⟨rfl, by rw [List.map_nil, glue]; exact after_none (by omega)⟩
  | r :: rs, h => by
    have ih := after_fnd hk hw rs fun q hq => h q (.tail _ hq)
    have hi := hit_iff hk hw (h r (.head _))
    obtain ⟨ha, hb⟩ := after_row (n := w.toNat) (f := (grow (k + 1) r).1.toNat) (b := (grow (k + 1) r).2.toNat) (by omega) (tailT_head k rs)
    rw [glue_cons]
    by_cases hh : hitK k w r = true
    · obtain ⟨t, h13, e⟩ := ha (hi.mp hh)
      refine .inr ⟨rs, t, by rw [fnd, if_pos hh], h13, e, fun q hq => .tail _ hq⟩
    · have e := hb fun q => hh (hi.mpr q)
      have e2 : after (List.replicate w.toNat 33) (rtx k r ++ tailT k rs) = after (List.replicate w.toNat 33) (tailT k rs) := e
      rw [e2, fnd, if_neg hh]
      cases rs with
      | nil => exact .inl ⟨rfl, after_none (by omega)⟩
      | cons q rs =>
        have e3 : after (List.replicate w.toNat 33) (tailT k (q :: rs)) = after (List.replicate w.toNat 33) (glue [13, 10] ((q :: rs).map (rtx k))) := by
          show after _ (13 :: 10 :: glue [13, 10] ((q :: rs).map (rtx k))) = _
          rw [after_cons (by omega) (by decide), after_cons (by omega) (by decide)]
        rw [e3]
        exact ih.imp id fun ⟨rs', t, a, b, c, d⟩ => ⟨rs', t, a, b, c, fun p hp => .tail _ (d p hp)⟩
theorem after_eol (k : Int) {t : List Nat} (h : 13 ∉ t) : ∀ rs : List (Int × Int), after [13, 10] (t ++ tailT k rs) = if rs = [] then none else some (glue [13, 10] (rs.map (rtx k)))
  | [] => by rw [after_crlf _ _ h]; rfl
  | r :: rs => by
    rw [after_crlf _ _ h]
    show after [13, 10] (13 :: 10 :: glue [13, 10] ((r :: rs).map (rtx k))) = _
    rw [after, if_pos (by simp)]
    simp
theorem ell_ok {k w1 w2 w3 : Int} (hk : 0 ≤ k ∧ k ≤ 5) (h1 : 1 ≤ w1) (h2 : 1 ≤ w2) (h3 : 1 ≤ w3) (rs : List (Int × Int)) (h : ∀ r ∈ rs, 0 ≤ r.1 ∧ 0 ≤ r.2) :
    ell (patW w1 w2 w3) (glue [13, 10] (rs.map (rtx k))) = okR (hitK k) [w1, w2, w3] rs := by
  unfold patW
  rw [ell, after_nil]
  dsimp only
  rw [ell, okR]
  rcases after_fnd hk h1 rs h with ⟨a, b⟩ | ⟨rs1, t, a, ht, b, hs⟩
  · rw [a, b]
  rw [a, b]
  dsimp only
  rw [ell, after_eol k ht]
  cases rs1 with
  | nil => simp [okR, fnd]
  | cons r1 rs1 =>
    rw [if_neg (by simp)]
    dsimp only
    have hn : ∀ r ∈ r1 :: rs1, 0 ≤ r.1 ∧ 0 ≤ r.2 := fun r hr => h r (hs r hr)
    rw [ell, okR]
    rcases after_fnd hk h2 (r1 :: rs1) hn with ⟨a, b⟩ | ⟨rs2, t, a, ht, b, hs2⟩
    · rw [a, b]
    rw [a, b]
    dsimp only
    rw [ell, after_eol k ht]
    cases rs2 with
    | nil => simp [okR, fnd]
    | cons r2 rs2 =>
      rw [if_neg (by simp)]
      dsimp only
      rw [ell, okR]
      rcases after_fnd hk h3 (r2 :: rs2) (fun r hr => hn r (hs2 r hr)) with ⟨a, b⟩ | ⟨rs3, t, a, ht, b, hs3⟩
      · rw [a, b]
      rw [a, b]
      dsimp only
      rw [ell, after_nil]
      dsimp only
      rw [ell, okR]
/-! what is reckoned -/
theorem step_le {rows : List (Int × Int)} {w k : Int} {D : Nat → Int} (hk : k ≤ 5) : ∀ p, stepF rows w D p ≤ k ↔ ∃ i, i < p ∧ D i ≤ k ∧ wait (rows.getD i (0, 0)).1 (rows.getD i (0, 0)).2 w ≤ k
  | 0 => by
    rw [stepF]
    constructor
    · intro h; omega
    · rintro ⟨i, hi, _⟩; omega
  | p + 1 => by
    have ih := step_le (rows := rows) (w := w) (D := D) hk p
    rw [stepF]
    constructor
    · intro h
      by_cases h1 : stepF rows w D p ≤ k
      · obtain ⟨i, a, b⟩ := ih.mp h1
        exact ⟨i, by omega, b⟩
      · exact ⟨p, by omega, by omega, by omega⟩
    · rintro ⟨i, a, b, c⟩
      by_cases hi : i = p
      · subst hi; omega
      · have := ih.mpr ⟨i, by omega, b, c⟩
        omega
theorem step_ok {rows : List (Int × Int)} {w k : Int} {D : Nat → Int} {ns : List Int} (hk : k ≤ 5) (h : ∀ p, p ≤ rows.length → (D p ≤ k ↔ okR (hitK k) ns (rows.take p) = true)) :
    ∀ p, p ≤ rows.length → (stepF rows w D p ≤ k ↔ okR (hitK k) (ns ++ [w]) (rows.take p) = true) := by
  intro p hp
  rw [step_le hk, okR_snoc]
  constructor
  · rintro ⟨i, hi, a, b⟩
    have hl : i < rows.length := by omega
    refine ⟨i, rows[i], by simp [hi, hl], ?_, ?_⟩
    · simpa [hitK, List.getD_eq_getElem?_getD, hl] using b
    · rw [List.take_take, Nat.min_eq_left (by omega)]
      exact (h i (by omega)).mp a
  · rintro ⟨i, r, a, b, c⟩
    have hi : i < p := by
      rcases Nat.lt_or_ge i p with q | q
      · exact q
      · rw [List.getElem?_eq_none (by rw [List.length_take]; omega)] at a; cases a
    refine ⟨i, hi, (h i (by omega)).mpr ?_, ?_⟩
    · rw [List.take_take, Nat.min_eq_left (by omega)] at c
      exact c
    · rw [List.getElem?_take_of_lt hi] at a
      rw [List.getD_eq_getElem?_getD, a]
      simpa [hitK] using b
theorem due_ok {rows : List (Int × Int)} {w1 w2 w3 k : Int} (hk : 0 ≤ k ∧ k ≤ 5) (p : Nat) (hp : p ≤ rows.length) : dueF rows [w1, w2, w3] p ≤ k ↔ okR (hitK k) [w1, w2, w3] (rows.take p) = true := by
  have h0 : ∀ p, p ≤ rows.length → ((fun _ => (0 : Int)) p ≤ k ↔ okR (hitK k) [] (rows.take p) = true) := fun p _ => by simp [okR, hk.1]
  have h1 := step_ok (w := w1) hk.2 h0
  have h2 := step_ok (w := w2) hk.2 h1
  have h3 := step_ok (w := w3) hk.2 h2
  exact h3 p hp
theorem step_six {rows : List (Int × Int)} {w : Int} {D : Nat → Int} : ∀ p, stepF rows w D p ≤ 6
  | 0 => Int.le_refl _
  | p + 1 => by have := step_six (rows := rows) (w := w) (D := D) p; rw [stepF]; omega
theorem wait_nonneg (f b w : Int) : 0 ≤ wait f b w := by unfold wait; (repeat' split) <;> omega
theorem step_nonneg {rows : List (Int × Int)} {w : Int} {D : Nat → Int} : ∀ p, 0 ≤ stepF rows w D p
  | 0 => by rw [stepF]; omega
  | p + 1 => by
    have := step_nonneg (rows := rows) (w := w) (D := D) p
    have := wait_nonneg (rows.getD p (0, 0)).1 (rows.getD p (0, 0)).2 w
    rw [stepF]; omega
theorem due_le (rows : List (Int × Int)) (w1 w2 w3 : Int) (p : Nat) : 0 ≤ dueF rows [w1, w2, w3] p ∧ dueF rows [w1, w2, w3] p ≤ 6 := ⟨step_nonneg p, step_six p⟩
theorem due_zero (rows : List (Int × Int)) (w1 w2 w3 : Int) : dueF rows [w1, w2, w3] 0 = 6 := rfl
theorem due_anti (rows : List (Int × Int)) (w1 w2 w3 : Int) (p : Nat) : dueF rows [w1, w2, w3] (p + 1) ≤ dueF rows [w1, w2, w3] p := by
  show stepF rows w3 _ (p + 1) ≤ stepF rows w3 _ p
  rw [stepF]; omega
theorem fits_due {rows : List (Int × Int)} {w1 w2 w3 : Int} (h1 : 1 ≤ w1) (h2 : 1 ≤ w2) (h3 : 1 ≤ w3) (h : ∀ r ∈ rows, 0 ≤ r.1 ∧ 0 ≤ r.2) {k p : Nat} (hk : k ≤ 5) (hp : p ≤ rows.length) :
    fitsI w1 w2 w3 ((hoursT rows k).take p) = if dueF rows [w1, w2, w3] p ≤ (k : Int) then 1 else 0 := by
  have e : (hoursT rows k).take p = (rows.take p).map (rtx (k : Int)) := by
    unfold hoursT hourT
    rw [List.take_append_of_le_length (by rw [List.length_map]; exact hp), ← List.map_take]
    rfl
  unfold fitsI
  rw [e, ell_ok ⟨by omega, by omega⟩ h1 h2 h3 _ fun r hr => h r (List.mem_of_mem_take hr)]
  have hd := due_ok (rows := rows) (w1 := w1) (w2 := w2) (w3 := w3) (k := (k : Int)) ⟨by omega, by omega⟩ p hp
  by_cases q : dueF rows [w1, w2, w3] p ≤ (k : Int)
  · rw [if_pos q, if_pos (hd.mp q)]
  · rw [if_neg q, if_neg fun z => q (hd.mpr z)]
/-! the search -/
theorem bis_eq {q : Nat → Bool} {t : Nat} : ∀ (f lo hi : Nat), hi - lo ≤ f → lo ≤ hi → lo ≤ t → (∀ i, i < hi → q i = decide (i < t)) → bis q f lo hi = min hi t
  | 0, lo, hi, h, h1, h2, _ => by rw [bis]; omega
  | f + 1, lo, hi, h, h1, h2, hq => by
    rw [bis]
    split
    · rename_i hlt
      rw [hq _ (by omega)]
      by_cases hm : (lo + hi) / 2 < t
      · rw [if_pos (by simpa using hm)]
        exact bis_eq f _ _ (by omega) (by omega) (by omega) hq
      · rw [if_neg (by simpa using hm), bis_eq f lo ((lo + hi) / 2) (by omega) (by omega) h2 fun i hi' => hq i (by omega)]
        omega
    · omega
theorem fst_due {rows : List (Int × Int)} {w1 w2 w3 : Int} (h1 : 1 ≤ w1) (h2 : 1 ≤ w2) (h3 : 1 ≤ w3) (h : ∀ r ∈ rows, 0 ≤ r.1 ∧ 0 ≤ r.2) : ∀ p, p ≤ rows.length → (fstN w1 w2 w3 (hoursT rows) (p + 1) : Int) = dueF rows [w1, w2, w3] p := by
  have step : ∀ p, p ≤ rows.length → fstN w1 w2 w3 (hoursT rows) (p + 1) = min (fstN w1 w2 w3 (hoursT rows) p) (dueF rows [w1, w2, w3] p).toNat := by
    intro p hp
    rw [fstN]
    refine bis_eq _ 0 _ (by omega) (by omega) (by omega) fun i hi => ?_
    have hi6 : i ≤ 5 := by have := fstN_le w1 w2 w3 (hoursT rows) p; omega
    have := due_le rows w1 w2 w3 p
    rw [fits_due h1 h2 h3 h hi6 hp]
    split
    · rw [decide_eq_false (by omega), decide_eq_false (by omega)]
    · rw [decide_eq_true (by omega), decide_eq_true (by omega)]
  intro p
  induction p with
  | zero =>
    intro hp
    rw [step 0 hp, due_zero]
    rfl
  | succ p ih =>
    intro hp
    have e := ih (by omega)
    have h5 := due_anti rows w1 w2 w3 p
    have h6 := due_le rows w1 w2 w3 (p + 1)
    rw [step (p + 1) hp]
    omega
/-- how many of the first n are above k -/
def cnt (D : Nat → Int) (k : Int) (n : Nat) : Nat := ((upto n D).filter fun d => decide (d > k)).length
theorem cnt_succ (D : Nat → Int) (k : Int) (n : Nat) : cnt D k (n + 1) = cnt D k n + if D n > k then 1 else 0 := by
  unfold cnt
  rw [upto_succ, List.filter_append, List.length_append]
  by_cases h : D n > k <;> simp [h]
theorem cnt_le (D : Nat → Int) (k : Int) : ∀ n, cnt D k n ≤ n
  | 0 => by simp [cnt, upto]
  | n + 1 => by have := cnt_le D k n; rw [cnt_succ]; split <;> omega
theorem cnt_iff {D : Nat → Int} (anti : ∀ p, D (p + 1) ≤ D p) (k : Int) : ∀ n j, j < n → (D j > k ↔ j < cnt D k n)
  | 0, j, h => by omega
  | n + 1, j, h => by
    have ih := cnt_iff anti k n
    have hl := cnt_le D k n
    have down : ∀ i d, D (i + d) ≤ D i := by
      intro i d
      induction d with
      | zero => exact Int.le_refl _
      | succ d ihd => exact Int.le_trans (anti (i + d)) ihd
    rw [cnt_succ]
    by_cases hn : D n > k
    · rw [if_pos hn]
      have hall : ∀ i, i ≤ n → D i > k := fun i hi => by have := down i (n - i); rw [show i + (n - i) = n by omega] at this; omega
      have : cnt D k n = n := by
        cases n with
        | zero => omega
        | succ n => have := (ih n (by omega)).mp (hall n (by omega)); omega
      exact ⟨fun _ => by omega, fun _ => hall j (by omega)⟩
    · rw [if_neg hn]
      by_cases hj : j = n
      · subst hj
        exact ⟨fun q => absurd q hn, fun q => by omega⟩
      · exact ih j (by omega)
theorem cnt_anti (D : Nat → Int) (k : Int) : ∀ n, cnt D (k + 1) n ≤ cnt D k n
  | 0 => by simp [cnt, upto]
  | n + 1 => by
    have := cnt_anti D k n
    rw [cnt_succ, cnt_succ]
    (repeat' split) <;> omega
theorem frt_due {rows : List (Int × Int)} {w1 w2 w3 : Int} (h1 : 1 ≤ w1) (h2 : 1 ≤ w2) (h3 : 1 ≤ w3) (h : ∀ r ∈ rows, 0 ≤ r.1 ∧ 0 ≤ r.2) : ∀ k, k ≤ 5 →
    frtN w1 w2 w3 (hoursT rows) rows.length (k + 1) = cnt (dueF rows [w1, w2, w3]) (k : Int) (rows.length + 1) := by
  have step : ∀ k, k ≤ 5 → frtN w1 w2 w3 (hoursT rows) rows.length (k + 1) = min (frtN w1 w2 w3 (hoursT rows) rows.length k) (cnt (dueF rows [w1, w2, w3]) (k : Int) (rows.length + 1)) := by
    intro k hk
    rw [frtN]
    refine bis_eq _ 0 _ (by omega) (by omega) (by omega) fun i hi => ?_
    have hi6 := frtN_le w1 w2 w3 (hoursT rows) rows.length k
    have hc := cnt_iff (due_anti rows w1 w2 w3) (k : Int) (rows.length + 1) i (by omega)
    rw [fits_due h1 h2 h3 h hk (by omega)]
    split
    · rw [decide_eq_true (by omega), decide_eq_false (fun q => by have := hc.mpr q; omega)]; rfl
    · rw [decide_eq_false (by omega), decide_eq_true (hc.mp (by omega))]; rfl
  intro k
  induction k with
  | zero =>
    intro hk
    rw [step 0 hk, frtN]
    have := cnt_le (dueF rows [w1, w2, w3]) ((0 : Nat) : Int) (rows.length + 1)
    omega
  | succ k ih =>
    intro hk
    have e := ih (by omega)
    rw [step (k + 1) hk, e]
    have := cnt_anti (dueF rows [w1, w2, w3]) (k : Int) (rows.length + 1)
    have e2 : ((k + 1 : Nat) : Int) = (k : Int) + 1 := by omega
    rw [e2]
    omega
theorem law_firsts {rows : List (Int × Int)} {w1 w2 w3 : Int} (h1 : 1 ≤ w1) (h2 : 1 ≤ w2) (h3 : 1 ≤ w3) (h : ∀ r ∈ rows, 0 ≤ r.1 ∧ 0 ≤ r.2) :
    upto (rows.length + 1) (fun p => (fstN w1 w2 w3 (hoursT rows) (p + 1) : Int)) = upto (rows.length + 1) (dueF rows [w1, w2, w3]) := by
  unfold upto
  refine List.map_congr_left fun p hp => ?_
  exact fst_due h1 h2 h3 h p (by have := List.mem_range.mp hp; omega)
theorem law_fronts {rows : List (Int × Int)} {w1 w2 w3 : Int} (h1 : 1 ≤ w1) (h2 : 1 ≤ w2) (h3 : 1 ≤ w3) (h : ∀ r ∈ rows, 0 ≤ r.1 ∧ 0 ≤ r.2) :
    upto 6 (fun k => (frtN w1 w2 w3 (hoursT rows) rows.length (k + 1) : Int)) = upto 6 (fun k => (cnt (dueF rows [w1, w2, w3]) (k : Int) (rows.length + 1) : Int)) := by
  unfold upto
  refine List.map_congr_left fun k hk => ?_
  rw [frt_due h1 h2 h3 h k (by have := List.mem_range.mp hk; omega)]
end Mine
end
section
open PySem PySem.W PySem.Calls PyProof.Rows
namespace Mine
set_option maxRecDepth 100000
set_option maxHeartbeats 8000000
section
variable {prog : Program} {w : World} {A : Around} {E : Value → Shared → Prop} {s : Shared}
theorem eqv_ints : ∀ ns : List Int, PyData.eqvAll (ns.map PyData.int) (ns.map PyData.int) = true := fun ns => by rw [ked_eqvAll]; simp
/-- two pairs of lists of the same ints -/
theorem ne_pairs {a b l1 l2 l3 l4 : Addr} {v1 v2 v3 v4 : List Value} {n1 n2 : List Int} {Q : Value → Shared → Prop}
    (ha : IsTup s.heap a #[.ref l1, .ref l2]) (hb : IsTup s.heap b #[.ref l3, .ref l4])
    (h1 : s.heap.IsList l1 v1.toArray) (h2 : s.heap.IsList l2 v2.toArray) (h3 : s.heap.IsList l3 v3.toArray) (h4 : s.heap.IsList l4 v4.toArray)
    (i1 : IntsAre v1 n1) (i2 : IntsAre v2 n2) (i3 : IntsAre v3 n1) (i4 : IntsAre v4 n2) (hu : A.units + 64 < cLine) (h : Q (.bool false) s) :
    wpAny (model prog w) A (compareOp .NotEq (.ref a) (.ref b)) Q E s := by
  obtain ⟨oa, hoa, hca, na, hda⟩ := ha
  obtain ⟨ob, hob, hcb, nb, hdb⟩ := hb
  refine ne_dataH (reads_tuple_at hoa hca hda (.cons (reads_newData h1 (ke_carried i1)) (.cons (reads_newData h2 (ke_carried i2)) .nil)))
    (reads_tuple_at hob hcb hdb (.cons (reads_newData h3 (ke_carried i3)) (.cons (reads_newData h4 (ke_carried i4)) .nil))) ?_ ?_ hu ?_
  · simp [SeqAt.shaped, PyData.canLay0, PyData.canLayAll0, PyData.depth, PyData.depthAll, ke_canLayAll0, ke_depthAll]
  · simp [SeqAt.shaped, PyData.canLay0, PyData.canLayAll0, PyData.depth, PyData.depthAll, ke_canLayAll0, ke_depthAll]
  · simp only [PyData.eqv, PyData.eqvAll, eqv_ints, Bool.and_true, Bool.not_true]
    exact h
end
section
variable {prog : Program} {w : World} {A : Around} {h₀ : Heap} {L : Addr} {m : Str → Option Value} {env : Env} {ct elt : PySem.Expr} {x : Str} {scope : Scope} {cl : List (Str × Addr)} {s : Shared} {S : List (Addr × Obj) → Prop} {Fin : List Value → List (Addr × Obj) → Prop} {news : List (Addr × Obj)}
/-- those of a list's ints that pass -/
theorem comp_filter {vs : List Value} {ns : List Int} (p : Int → Bool) (hi : IntsAre vs ns)
    (test : ∀ k t C oC m₂ h tk (E' : Value → Shared → Prop), k ∈ ns → LCg.NsObj oC m₂ → m₂ x = some (.int k t) → Fr h₀ L h m → News h₀ L h ((C, oC) :: news) →
      wpAny (model prog w) A (isTrue ct (compEnvC scope cl C env) (eval ct (compEnvC scope cl C env))) (fun ok s' => ok = p k ∧ ∃ tk', s' = { s with heap := h, toks := tk' }) E' { s with heap := h, toks := tk })
    (el : ∀ k t C oC m₂ h tk (E' : Value → Shared → Prop), k ∈ ns → LCg.NsObj oC m₂ → m₂ x = some (.int k t) → Fr h₀ L h m → News h₀ L h ((C, oC) :: news) →
      wpAny (model prog w) A (eval elt (compEnvC scope cl C env)) (fun y s' => (∃ t', y = .int k t') ∧ ∃ tk', s' = { s with heap := h, toks := tk' }) E' { s with heap := h, toks := tk })
    (hS : S news) (fin : ∀ ys, IntsAre ys (ns.filter p) → Fin ys news) :
    LCt.CompRestT prog w A h₀ L m env ct elt x scope cl s S (fun i v => vs.toArray[i]? = some v) Fin vs.toArray.size 0 [] news := by
  have hvl := hi.length
  have key : ∀ (j i : Nat) (ys : List Value), i + j = vs.length → IntsAre ys ((ns.take i).filter p) → LCt.CompRestT prog w A h₀ L m env ct elt x scope cl s S (fun i v => vs.toArray[i]? = some v) Fin j i ys news := by
    intro j
    induction j with
    | zero =>
      intro i ys e hy
      refine LCt.CompRestT.zero (fin ys ?_)
      rwa [List.take_of_length_le (by omega)] at hy
    | succ j ih =>
      intro i ys e hy
      refine LCt.CompRestT.succ ?_
      intro v I oI C oC D m₂ h tk E' hv hC hx F N off ne
      obtain ⟨k, t, rfl, hk⟩ := IntsAre.at hi i v (by simpa using hv)
      have hkn : k ∈ ns := List.mem_of_getElem? hk
      have NC : News h₀ L h ((C, oC) :: news) := fun q hq => by
        rcases List.mem_cons.mp hq with rfl | hq
        · exact N _ (.tail _ (.head _))
        · exact N _ (.tail _ (.tail _ (.tail _ hq)))
      have htake : (ns.take (i + 1)).filter p = (ns.take i).filter p ++ if p k then [k] else [] := by
        rw [List.take_add_one, hk, Option.toList_some, List.filter_append]
        cases hp : p k <;> simp [hp]
      refine wpAny_mono (test k t C oC m₂ h tk _ hkn hC hx F NC) (fun ok s' hs => ?_) fun _ _ e => e
      obtain ⟨hok, tk', rfl⟩ := hs
      cases ok with
      | true =>
        simp only [if_true]
        refine wpAny_mono (el k t C oC m₂ h tk' _ hkn hC hx F NC) (fun y s'' hs => ?_) fun _ _ e => e
        obtain ⟨⟨t', rfl⟩, tk'', rfl⟩ := hs
        refine ⟨h, tk'', news, rfl, F, N, off, hS, ih (i + 1) _ (by omega) ?_⟩
        rw [htake, ← hok]
        exact ints_snoc hy _ _
      | false =>
        simp only [Bool.false_eq_true, if_false]
        refine ⟨h, tk', news, rfl, F, N, off, hS, ih (i + 1) _ (by omega) ?_⟩
        rw [htake, ← hok]
        simpa using hy
  rw [List.size_toArray]
  exact key vs.length 0 [] (by omega) .nil
theorem ListHeld.src {its : Array Value} {a : Addr} (x : ListHeld h₀ news a its) : LCg.SrcAt h₀ a its news := by
  obtain ⟨o, ho, r⟩ := x
  rcases ho with ho | ho
  · exact .inl ⟨o, ho, r⟩
  · exact .inr ⟨o, ho, r⟩
end
theorem not_tbl_seq {o : Obj} (x : Seqy o) : ¬ Tbl o := by
  rintro ⟨fs, e, _⟩
  obtain ⟨its, n, hd⟩ := x
  rw [hd] at e
  exact nomatch e
theorem not_tbl_cell {o : Obj} {v : Option Value} (x : o.data = .cell v) : ¬ Tbl o := by
  rintro ⟨fs, e, _⟩
  rw [x] at e
  exact nomatch e
theorem tabs_step {h₀ h h' : Heap} {L : Addr} {m : Str → Option Value} {pre rest hold : List (Addr × Obj)} (F : Fr h₀ L h m) (N : News h₀ L h (pre ++ (rest ++ hold))) (hT : Tabs2 h₀ rest)
    (hp : ∀ q ∈ pre, ¬ Tbl q.2) (hh : ∀ q ∈ hold, ¬ Tbl q.2) (h87 : h₀.get? 87 = none) (h94 : h₀.get? 94 = none)
    (hx : ∀ b o, b ≠ 87 → b ≠ 94 → h.get? b = some o → h'.get? b = some o)
    (tab1 : TabOk "_law_hour.<locals>.<lambda>" ⟨94, 48, 94, 88⟩ 87 h') (tab2 : TabOk "_law_front.<locals>.<lambda>" ⟨96, 50, 96, 86⟩ 94 h') :
    Fr h₀ L h' m ∧ ∃ rest', News h₀ L h' (pre ++ (rest' ++ hold)) ∧ Tabs2 h₀ rest' := by
  have Nr : News h₀ L h rest := news_sub N fun q hq => List.mem_append_right _ (List.mem_append_left _ hq)
  have hL := hT.at1 (P := fun a => a ≠ L) fun q hq => (Nr q hq).2.1
  have F' : Fr h₀ L h' m := by
    refine ⟨F.ns.at' fun o e => hx L o (Ne.symm hL.1) (Ne.symm hL.2) e, fun b o e => hx b o ?_ ?_ (F.keep b o e), F.above⟩
    · rintro rfl; rw [h87] at e; cases e
    · rintro rfl; rw [h94] at e; cases e
  obtain ⟨b1, N1, t1, f1⟩ := tab_in F' h87 hL.1 tab1
  obtain ⟨b2, N2, t2, f2⟩ := tab_in F' h94 hL.2 tab2
  have off : ∀ q : Addr × Obj, h.get? q.1 = some q.2 → ¬ Tbl q.2 → q.1 ≠ 87 ∧ q.1 ≠ 94 := by
    intro q e hn
    have := hT.neT (D := q.1) (o := q.2) Nr e hn
    have := hT.at1 (P := fun a => a ≠ q.1) this
    exact ⟨Ne.symm this.1, Ne.symm this.2⟩
  refine ⟨F', b1 ++ b2, fun q hq => ?_, t1.mono fun q hq => List.mem_append_left _ hq, t2.mono fun q hq => List.mem_append_right _ hq, fun q hq => (List.mem_append.mp hq).elim (f1 q) (f2 q)⟩
  rcases List.mem_append.mp hq with hq | hq
  · have z := N q (List.mem_append_left _ hq)
    have o := off q z.1 (hp q hq)
    exact ⟨hx _ _ o.1 o.2 z.1, z.2⟩
  · rcases List.mem_append.mp hq with hq | hq
    · exact news_app N1 N2 q hq
    · have z := N q (List.mem_append_right _ (List.mem_append_right _ hq))
      have o := off q z.1 (hh q hq)
      exact ⟨hx _ _ o.1 o.2 z.1, z.2⟩
/-- an object of another kind stands elsewhere -/
theorem news_off {h₀ h : Heap} {L c : Addr} {o : Obj} {news : List (Addr × Obj)} {x : Addr × Obj} (N : News h₀ L h news) (hc : (c, o) ∈ news) (hx : x ∈ news) (hd : o.data ≠ x.2.data) : x.1 ≠ c := by
  rintro rfl
  have a := (N _ hc).1
  rw [(N _ hx).1] at a
  exact hd (congrArg Obj.data (Option.some.inj a).symm)
theorem hours_small {rows : List (Int × Int)} (hl : rows.length ≤ 7) (hb : ∀ r ∈ rows, (0 ≤ r.1 ∧ r.1 ≤ 3) ∧ 0 ≤ r.2 ∧ r.2 ≤ 2) {k : Nat} (hk : k < 6) :
    (hoursT rows k).length ≤ 100 ∧ ∀ t ∈ hoursT rows k, t.length ≤ 100 := by
  refine ⟨by simp [hoursT, hourT]; omega, fun t ht => ?_⟩
  rcases List.mem_append.mp ht with ht | ht
  · obtain ⟨r, hr, rfl⟩ := List.mem_map.mp ht
    have := hb r hr
    simp only [rowT, grow, List.length_append, List.length_cons, List.length_replicate]
    split <;> omega
  · rw [List.mem_singleton.mp ht]; simp
theorem counts_eq (D : Nat → Int) (n : Nat) : (rangeKs 0 6).map (fun k => (cnt D k n : Int)) = upto 6 fun k => (cnt D (k : Int) n : Int) := by
  simp [rangeKs, upto]
theorem stop_post {α : Type} {M : Model} {A : Around} {c : Sem α} {Q : α → Shared → Prop} {E : Value → Shared → Prop} {s : Shared} (h : wpAny M A c (fun y s' => Stop (Q y s')) E s) : wpAny M A c Q E s := h
section
variable {prog : Program} {w : World} {A : Around} {E : Value → Shared → Prop} {s : Shared} {h₀ : Heap} {L : Addr} {m : Str → Option Value} {env : Env}
theorem ListComp_CS {elt iter : PySem.Expr} {x : Str} {px : Pos} {scope : Scope} {cl : List (Str × Addr)} {pos : Pos} {Q : Value → Shared → Prop} (_F₀ : Fr h₀ L s.heap m) (g : Int → Int) (n : Nat)
    (hclos : closureFor scope env = pure cl) (hkind : scope.kind = .function)
    (hnames : ∀ y ∈ scope.names, y.2 = .local → scope.names.lookup y.1 = some .local)
    (hcs : ∀ k, cellsFrom k scope.names cl = (x, k) :: cl) (hpc : ∀ h : Heap, pushCells h scope.names = h.push { cls := .type "cell", data := .cell none })
    (hx : ∀ C c, (compEnvC scope ((x, c) :: cl) C env).kindOf x = some .cell)
    (h : wpAny (model prog w) A (eval iter env) (fun xv s₁ => Stop (CellSrc prog w A h₀ L m env elt x scope cl g n Q xv s₁)) E s)
    (hs : ∀ x, foldedSetIterable iter env x = pure x := by intro _; rfl) :
    wpAny (model prog w) A (eval (.ListComp elt [⟨.Name x px, iter, [], 0⟩] scope pos) env) Q E s := ListComp_C g n hclos hkind hnames hcs hpc hx h hs
theorem ListComp_TS {ct elt iter : PySem.Expr} {x : Str} {px : Pos} {scope : Scope} {cl : List (Str × Addr)} {pos : Pos} {Q : Value → Shared → Prop} (F₀ : Fr h₀ L s.heap m)
    (hclos : closureFor scope env = pure cl) (hcell : ∀ y ∈ scope.names, y.2 ≠ .cell) (hkind : scope.kind = .function)
    (hnames : ∀ y ∈ scope.names, y.2 = .local → scope.names.lookup y.1 = some .local) (hx : scope.names.lookup x = some .local)
    (h : wpAny (model prog w) A (eval iter env) (fun xv s₁ => Stop (LCt.CompSrcT prog w A h₀ L m env ct elt x scope cl (fun s₂ => LCg.FinE h₀ L m s₂ Q) xv s₁)) E s)
    (hs : ∀ x, foldedSetIterable iter env x = pure x := by intro _; rfl) :
    wpAny (model prog w) A (eval (.ListComp elt [⟨.Name x px, iter, [ct], 0⟩] scope pos) env) Q E s := LCt.ListComp_T F₀ hclos hcell hkind hnames hx h hs
theorem CompSrcT_held {ct elt : PySem.Expr} {x : Str} {scope : Scope} {cl : List (Str × Addr)} {Fin : Shared → List Value → List (Addr × Obj) → Prop} {ax : Addr} {its : Array Value} {news : List (Addr × Obj)} {s₁ : Shared}
    (hh : A.handled = none) (F : Fr h₀ L s₁.heap m) (N : News h₀ L s₁.heap news) (hl : LCg.SrcAt h₀ ax its news) (hsz : its.size ≤ sizeLine)
    (h : ∀ g, LCt.CompRestT prog w A h₀ L m env ct elt x scope cl { s₁ with heap := g } (LCg.SrcAt h₀ ax its) (fun i v => its[i]? = some v) (Fin { s₁ with heap := g }) its.size 0 [] news) :
    LCt.CompSrcT prog w A h₀ L m env ct elt x scope cl Fin (.ref ax) s₁ := .inl ⟨ax, its, news, rfl, hh, F, N, hl, hsz, fun _ ⟨g, e⟩ => e ▸ h g⟩
end
end Mine
end
section
open PySem PySem.W PySem.Calls PyProof.Rows
namespace Mine
set_option maxRecDepth 100000
set_option maxHeartbeats 8000000
section
local macro_rules | `(tactic| walk_at "subscriptTail Name Slice ref ref") => `(tactic| refine stop_intro ?_)
local macro_rules | `(tactic| walk_at "last subscriptTail") => `(tactic| refine stop_intro ?_)
local macro_rules | `(tactic| walk_at "binaryOp Add ref ref") => `(tactic| refine stop_intro ?_)
local macro_rules | `(tactic| walk_at "exec For Name List cons nil") => `(tactic| refine stop_intro ?_)
local macro_rules | `(tactic| walk_at "pyIter ref") => `(tactic| refine stop_intro ?_)
local macro_rules | `(tactic| walk_at "call ref") => `(tactic| refine stop_intro ?_)
local macro_rules | `(tactic| walk_at "exec Assign cons ListComp") => `(tactic| refine stop_intro ?_)
local macro_rules | `(tactic| walk_at "CompSrc") => `(tactic| refine stop_intro ?_)
local macro_rules | `(tactic| walk_at "storeName") => `(tactic| ((with_reducible show wpAny _ _ (storeName _ (PySem.Str.ofString "due") _) _ _ _); refine stop_intro ?_))
local macro_rules | `(tactic| walk_at "call builtin:len") => `(tactic| (k_here; (with_reducible show wpAny _ _ (call (Value.builtin _) [Value.ref _]) _ _ _); (refine' call_len_list ?a ?b ?_; (case a => with_reducible assumption); (case b => (simp only [List.size_toArray]; omega)))))
local macro_rules | `(tactic| walk_at "eval ListComp") => `(tactic| refine stop_intro ?_)
local macro_rules | `(tactic| walk_at "compareOp NotEq ref ref") => `(tactic| refine stop_intro ?_)
local macro_rules | `(tactic| walk_at "compareOp NotEq ref") => `(tactic| refine stop_intro ?_)
local macro_rules | `(tactic| walk_at "execs nil") => `(tactic| ((with_reducible show wpAny _ _ (execs [] _) (TEnd _ _ _ _ _ _ _) _ _); refine stop_intro ?_))
local macro_rules | `(tactic| walk_at "CompEnd") => `(tactic| refine stop_intro ?_)
local macro_rules | `(tactic| kc_close) => `(tactic| ((with_reducible show _ ∧ PySem.W.GrownAll _ _); refine stop_intro ?_))
local macro_rules | `(tactic| wrow_close) => `(tactic| ((with_reducible show _ ∧ PySem.W.GrownAll _ _); refine stop_intro ?_))
/-- between the turns of the law's loop -/
def LawJ (D6 D7 cD : Addr) (o6 o7 : Obj) (hold : List (Addr × Obj)) (h₀ : Heap) (D lh : Addr) (_ : Nat) (m : Str → Option Value) (news : List (Addr × Obj)) : Prop :=
  ∃ od rest, news = (D7, o7) :: (D6, o6) :: (cD, od) :: (rest ++ hold) ∧ (∃ v, od.data = .cell v) ∧ Tabs2 h₀ rest ∧ m "rows" = some (.ref D) ∧ m "hours" = some (.ref lh)
theorem ints3 {zs : List Value} {l : List Int} {P : Int → Prop} (h : IntsAre zs l) (hl : l.length = 3) (hP : ∀ y ∈ l, P y) : ∃ w1 w2 w3 t1 t2 t3, l = [w1, w2, w3] ∧ zs = [.int w1 t1, .int w2 t2, .int w3 t3] ∧ P w1 ∧ P w2 ∧ P w3 := by
  cases h with
  | nil => cases hl
  | cons w1 t1 h => cases h with
    | nil => cases hl
    | cons w2 t2 h => cases h with
      | nil => cases hl
      | cons w3 t3 h => cases h with
        | nil => exact ⟨w1, w2, w3, t1, t2, t3, rfl, rfl, hP _ (by simp), hP _ (by simp), hP _ (by simp)⟩
        | cons w4 t4 h => simp at hl
theorem main : PySem.Challenge.rw_pu0022_01.Holds := by
  refine hd ?_
  k_go0
  refine wpAny_mono (E := fun _ _ => False) ?_ (fun _ _ q => q) (fun _ _ e => e.elim)
  k_fold
  k_steps
  rename Fr _ _ _ _ => F
  rename News _ _ _ _ => N
  rename World => w
  rename Shared => s₁
  rename List Int => script
  rename List Value => vS
  rename IntsAre _ _ => hSi
  rename ¬ ((_ : Int) < _) => hSl
  rename Frag.In _ _ => X
  rename Top _ _ _ _ _ _ => T
  rename Heap.IsList (ghostOf _ _) _ _ => hSL
  rename CodeHd _ 98 94 => C2
  rename CodeHd _ 91 87 => C1
  rename Obj => oDue
  rename Shared.gens _ = _ => hgens
  rename Obj.data _ = Data.cell _ => dDue
  rename _ ∧ _ => l0
  have hlS : vS.length = script.length := hSi.length
  have hl63 : script.length ≤ 63 := by omega
  refine Stop.go (kmk_slice F N (F.lst hSL) .none (.int _ _) (fun D1 h8 F N hlD1 => ?_) rfl (fun _ => rfl) (by rw [List.size_toArray, sizeLine_eq]; omega))
  rw [show (7 : Int) = ((7 : Nat) : Int) from rfl, slicePick_upto'] at N
  k_steps
  rename Fr _ _ _ _ => F
  rename News _ _ _ _ => N
  rename_i D2 _ hlD2
  refine Stop.go (kba_turn (value' := PySem.Expr.Name (PySem.Str.ofString "_") ⟨0, 0, 0, 0⟩) (fun _ => rfl) ?_)
  refine (kmk_slice F N (News.isList N (.head _)) (.int _ _) .none (fun D3 h8 F N hlD3 => ?_) rfl (fun _ => rfl) (by rw [sizeLine_eq]; show 4 ≤ _; omega))
  rw [slicePick_from'] at N
  refine (kmk_add_ints F N (News.isList N (.tail _ (.tail _ (.head _)))) (News.isList N (.head _)) (hSi.take 7) (IntsAre.drop (.cons 25 _ (.cons 20 _ (.cons 39 _ (.cons 6 _ .nil)))) script.length) (fun D4 vN h8 F N hlD4 hNi => ?_) ?_)
  rotate_left
  · simp only [List.length_take, List.length_drop, List.length_cons, List.length_nil, sizeLine_eq]
    omega
  have hnl : (script.take 7 ++ [25, 20, 39, 6].drop script.length).length ≤ 7 ∧ 4 ≤ (script.take 7 ++ [25, 20, 39, 6].drop script.length).length := by
    simp only [List.length_append, List.length_take, List.length_drop, List.length_cons, List.length_nil]
    omega
  generalize hns : script.take 7 ++ [25, 20, 39, 6].drop script.length = ns at *
  have N := news_sub N (news' := [(D4, listOf vN.toArray 0), _, (94, tabObj #[]), (87, tabObj #[])]) (fun q hq => by
    rcases List.mem_cons.mp hq with rfl | hq
    · exact .head _
    · exact .tail _ (.tail _ (.tail _ (.tail _ hq))))
  have hlD := hlD4 _ (.tail _ (.tail _ (.tail _ (.head _))))
  clear hlD4 hlD3 hlD2 hlD1
  k_steps
  rename Fr _ _ _ _ => F
  rename News _ _ _ _ => N
  refine Stop.go (LCg.Assign_ListComp_U (F₀ := F) (by rfl) (by with_unfolding_all rfl) (by with_unfolding_all rfl) (by decide) (by rfl) (by decide) (by rfl) (by rfl) (by rfl) ?_)
  k_steps
  have hvN : vN.length = ns.length := hNi.length
  refine Stop.go (LCg.CompSrc.ledger rfl F N (.head _) (by rw [List.size_toArray, sizeLine_eq]; omega) fun g => comp_pairs (ks := ns) (fun k => Int.fmod k 4) (fun k => Int.fmod (Int.fdiv k 4) 3) ?_ ?_ ?_ ?_ ?_)
  · rw [List.size_toArray]; omega
  · intro i v hi hv
    obtain ⟨k, t, e, hk⟩ := IntsAre.at hNi i v (by simpa using hv)
    exact ⟨k, t, hk, e⟩
  · intro k t I oI C oC D m₂ ys tn h tk E' hk hC hx F N off ne hS
    k_steps
    rename Fr _ _ _ _ => F
    rename News _ _ _ _ => N
    rename_i T' _ hl
    refine Stop.go (LCg.CompEnd.intro F N ((T', tupObj (Int.fmod k 4) (Int.fmod (Int.fdiv k 4) 3) (tk + 1) (tk + 1 + 1 + 1 + 1 + 1)) :: (tn ++ _)) ?_ ⟨⟨Nat.ne_of_gt hl.1, Nat.ne_of_gt hl.2.1, Nat.ne_of_gt hl.2.2.1⟩, off⟩ (hS.imp id fun ⟨o, hm, r⟩ => ⟨o, .tail _ hm, r⟩) ⟨T', _, _, rfl, rfl⟩)
    intro q hq
    rcases List.mem_cons.mp hq with rfl | hq
    · exact .tail _ (.head _)
    · rcases List.mem_cons.mp hq with rfl | hq
      · exact .tail _ (.tail _ (.head _))
      · rcases List.mem_cons.mp hq with rfl | hq
        · exact .tail _ (.tail _ (.tail _ (.head _)))
        · rcases List.mem_cons.mp hq with rfl | hq
          · exact .head _
          · exact .tail _ (.tail _ (.tail _ (.tail _ hq)))
  · exact .inr ⟨_, .head _, rfl, _, rfl⟩
  · intro ys tn hp hS D h tk F N off
    have N := news_sub N (news' := (D, listOf ys.toArray ys.length) :: (D4, listOf vN.toArray 0) :: (_, oDue) :: (94, tabObj #[]) :: (87, tabObj #[]) :: tn) (fun q hq => by
      rcases List.mem_cons.mp hq with rfl | hq
      · exact .head _
      · rcases List.mem_cons.mp hq with rfl | hq
        · exact .tail _ (List.mem_append_right _ (.head _))
        · rcases List.mem_cons.mp hq with rfl | hq
          · exact .tail _ (List.mem_append_right _ (.tail _ (.head _)))
          · rcases List.mem_cons.mp hq with rfl | hq
            · exact .tail _ (List.mem_append_right _ (.tail _ (.tail _ (.head _))))
            · rcases List.mem_cons.mp hq with rfl | hq
              · exact .tail _ (List.mem_append_right _ (.tail _ (.tail _ (.tail _ (.head _)))))
              · exact .tail _ (List.mem_append_left _ hq))
    k_steps
    refine Stop.go (LCg.Assign_ListComp_U (F₀ := F) (by rfl) (by with_unfolding_all rfl) (by with_unfolding_all rfl) (by decide) (by rfl) (by decide) (by rfl) (by rfl) (by rfl) ?_)
    k_steps
    rename Fr _ _ _ _ => F
    rename News _ _ _ _ => N
    refine Stop.go (kmk_slice F N (News.isList N (.tail _ (.head _))) .none (.int _ _) (fun D5 h8 F N hlD5 => ?_) rfl (fun _ => rfl) (by rw [List.size_toArray, sizeLine_eq]; omega))
    rw [show (3 : Int) = ((3 : Nat) : Int) from rfl, slicePick_upto'] at N
    have hpi : IntsAre (vN.take 3) (ns.take 3) := hNi.take 3
    have hpl : (vN.take 3).length = 3 := by rw [List.length_take]; omega
    refine LCg.CompSrc.ledger rfl F N (.head _) (by rw [List.size_toArray, sizeLine_eq]; show (vN.take 3).length ≤ _; omega) fun g => kcf_list (fun k => Int.fmod (Int.fdiv k 12) 7 + 1) hpi ?_ ?_
    · intro k t I oI C oC D' m₂ ys h tk E' hk hC hx F N off ne _
      k_steps
      rename Fr _ _ _ _ => F
      rename News _ _ _ _ => N
      refine Stop.go (LCg.CompEnd.intro F N _ (fun q hq => hq) off ?_ ⟨rfl, _, rfl⟩)
      exact .inr ⟨_, .head _, rfl, _, rfl⟩
    · intro zs hzi D6 h tk F N off
      have hrh : RowsHeld (ghostOf s₁.heap [(98, 94), (91, 87)]) ((D, listOf ys.toArray ys.length) :: tn) D ys (ns.map fun k => (Int.fmod k 4, Int.fmod (Int.fdiv k 4) 3)) := pairs_held hp
      have hrl : (ns.map fun k => (Int.fmod k 4, Int.fmod (Int.fdiv k 4) 3)).length ≤ 7 := by rw [List.length_map]; omega
      have hrb : ∀ r ∈ (ns.map fun k => (Int.fmod k 4, Int.fmod (Int.fdiv k 4) 3)), (0 ≤ r.1 ∧ r.1 ≤ 3) ∧ 0 ≤ r.2 ∧ r.2 ≤ 2 := by
        intro r hr
        obtain ⟨k, _, rfl⟩ := List.mem_map.mp hr
        have a1 := fmod_lo k (n := 4) (by decide)
        have a2 := fmod_hi k (n := 4) (by decide)
        have a3 := fmod_lo (Int.fdiv k 4) (n := 3) (by decide)
        have a4 := fmod_hi (Int.fdiv k 4) (n := 3) (by decide)
        dsimp only
        omega
      generalize hrows : (ns.map fun k => (Int.fmod k 4, Int.fmod (Int.fdiv k 4) 3)) = rows at *
      have N := news_sub N (news' := (D6, LCg.lst zs) :: (_, oDue) :: (94, tabObj #[]) :: (87, tabObj #[]) :: (D, listOf ys.toArray ys.length) :: tn) (fun q hq => by
        rcases List.mem_cons.mp hq with rfl | hq
        · exact .head _
        · rcases List.mem_cons.mp hq with rfl | hq
          · exact .tail _ (.tail _ (.tail _ (.tail _ (.head _))))
          · rcases List.mem_cons.mp hq with rfl | hq
            · exact .tail _ (.tail _ (.tail _ (.tail _ (.tail _ (.head _)))))
            · rcases List.mem_cons.mp hq with rfl | hq
              · exact .tail _ (.tail _ (.tail _ (.tail _ (.tail _ (.tail _ (.head _))))))
              · rcases List.mem_cons.mp hq with rfl | hq
                · exact .tail _ (.tail _ (.head _))
                · exact .tail _ (.tail _ (.tail _ (.tail _ (.tail _ (.tail _ (.tail _ hq)))))))
      generalize hhold : (D, listOf ys.toArray ys.length) :: tn = hold at N hrh
      k_steps
      rename Fr _ _ _ _ => F
      rename News _ _ _ _ => N
      have Nh := news_sub N (news' := hold) (fun q hq => .tail _ (.tail _ (.tail _ (.tail _ hq))))
      refine Stop.go (c_hours (by exact X.keeps F.keep) (by exact T.keeps F.keep) (show callerA.depth + 1 + 3 < recursionLimit by decide) (by exact hrh.at F Nh) (by omega) (fun r hr => by have := hrb r hr; omega) fun h9 tk9 lh hs kp9 hh9 => ?_)
      have F := kp9.fr F
      have N := kp9.news N
      obtain ⟨exh, Nx, hsx, hhh⟩ := hours_in F hh9
      have N := news_sub (news_app N Nx) (news' := (D6, LCg.lst zs) :: (_, oDue) :: (94, tabObj #[]) :: (87, tabObj #[]) :: (hold ++ exh)) (fun q hq => hq)
      have hrh := hrh.mono (ex := hold ++ exh) fun q hq => List.mem_append_left _ hq
      have hhh := hhh.mono (ex := hold ++ exh) fun q hq => List.mem_append_right _ hq
      have hseq : ∀ q ∈ hold ++ exh, Seqy q.2 := by
        intro q hq
        rcases List.mem_append.mp hq with hq | hq
        · rw [← hhold] at hq
          rcases List.mem_cons.mp hq with rfl | hq
          · exact ⟨_, _, rfl⟩
          · exact hp.2.1 q hq
        · exact hsx q hq
      generalize hold ++ exh = hold at *
      obtain ⟨w1, w2, w3, t1, t2, t3, hwl, rfl, hw1, hw2, hw3⟩ := ints3 (P := fun y => 1 ≤ y ∧ y ≤ 7) hzi (by rw [List.length_map, List.length_take]; omega) (by
        intro y hy
        obtain ⟨k, _, rfl⟩ := List.mem_map.mp hy
        have a1 := fmod_lo (Int.fdiv k 12) (n := 7) (by decide)
        have a2 := fmod_hi (Int.fdiv k 12) (n := 7) (by decide)
        omega)
      k_steps
      rename Fr _ _ _ _ => F
      rename News _ _ _ _ => N
      refine Stop.go (For_invV (ghostOf s₁.heap [(98, 94), (91, 87)]) rfl rfl ?_ (fun _ => rfl) passes_false)
      k_steps
      rename Fr _ _ _ _ => F
      rename News _ _ _ _ => N
      refine Stop.go (kmk_slice3_lit F N (News.isList N (.head _)) .none .none (.int _ _) (by decide) (zs := [.int w3 t3, .int w2 t2, .int w1 t1]) (by rw [krv_pick]; rfl) (fun D7 h8 F N hlD7 => ?_) rfl (fun _ => rfl) (by rw [sizeLine_eq]; show 3 ≤ _; omega))
      k_steps
      rename Fr _ _ _ _ => F
      rename News _ _ _ _ => N
      rename_i lL _ hlL
      refine Stop.go (loop_ownT (LawJ D6 D7 (s₁.heap.objs.size + 1) (LCg.lst [.int w1 t1, .int w2 t2, .int w3 t3]) (listOf #[.int w3 t3, .int w2 t2, .int w1 t1] 0) hold (ghostOf s₁.heap [(98, 94), (91, 87)]) D lh) rfl F N ?_ ?_ ?_)
      · refine ⟨oDue, [(94, tabObj #[]), (87, tabObj #[])], rfl, ⟨_, dDue⟩, ⟨⟨#[], .tail _ (.head _), trivial, .inl rfl⟩, ⟨#[], .head _, trivial, .inl rfl⟩, ?_⟩, rfl, rfl⟩
        intro q hq
        rcases List.mem_cons.mp hq with rfl | hq
        · exact ⟨_, rfl, .inl rfl⟩
        · rw [List.mem_singleton.mp hq]; exact ⟨_, rfl, .inl rfl⟩
      · rintro I i v m₁ news₁ h tk oI hi hv ⟨od, rest, rfl, ⟨vd, hod⟩, hT, hm1, hm2⟩ hIl hne hnT F N
        rw [pin2 hm1 hm2] at F
        obtain ⟨Dg, og, x1, x2, x3, u1, u2, u3, ng, rfl, hgm, hgc, hgd, hx1, hx2, hx3⟩ : ∃ Dg og x1 x2 x3 u1 u2 u3 ng, v = .ref Dg ∧ (Dg, og) ∈ (D7, listOf #[.int w3 t3, .int w2 t2, .int w1 t1] 0) :: [(D6, LCg.lst [.int w1 t1, .int w2 t2, .int w3 t3])] ∧ og.cls = .type "list" ∧ og.data = .seq #[.int x1 u1, .int x2 u2, .int x3 u3] ng ∧ (1 ≤ x1 ∧ x1 ≤ 7) ∧ (1 ≤ x2 ∧ x2 ≤ 7) ∧ (1 ≤ x3 ∧ x3 ≤ 7) := by
          have hi2 : i < 2 := hi
          rcases (by omega : i = 0 ∨ i = 1) with rfl | rfl
          · refine ⟨D6, _, w1, w2, w3, t1, t2, t3, _, (Option.some.inj hv).symm, .tail _ (.head _), rfl, rfl, hw1, hw2, hw3⟩
          · refine ⟨D7, _, w3, w2, w1, t3, t2, t1, _, (Option.some.inj hv).symm, .head _, rfl, rfl, hw3, hw2, hw1⟩
        have hgl : ∀ {h : Heap} {nx : List (Addr × Obj)}, News (ghostOf s₁.heap [(98, 94), (91, 87)]) s₁.heap.objs.size h ((I, oI) :: (lL, listOf #[.ref D6, .ref D7] 0) :: (D7, listOf #[.int w3 t3, .int w2 t2, .int w1 t1] 0) :: (D6, LCg.lst [.int w1 t1, .int w2 t2, .int w3 t3]) :: nx) → h.IsList Dg #[.int x1 u1, .int x2 u2, .int x3 u3] := by
          intro h nx N
          refine ⟨og, ?_, hgc, _, hgd⟩
          rcases List.mem_cons.mp hgm with e | e
          · exact (N (Dg, og) (by rw [e]; exact .tail _ (.tail _ (.head _)))).1
          · exact (N (Dg, og) (by rw [List.mem_singleton.mp e]; exact .tail _ (.tail _ (.tail _ (.head _))))).1
        k_steps
        have Nh := news_sub N (news' := hold) (fun q hq => .tail _ (.tail _ (.tail _ (.tail _ (.tail _ (List.mem_append_right _ hq))))))
        refine Stop.go (c_due (goal := [x1, x2, x3]) (by exact X.keeps F.keep) (by exact T.keeps F.keep) (show callerA.depth + 1 + 2 < recursionLimit by decide) (by exact hgl N) (.cons _ _ (.cons _ _ (.cons _ _ .nil))) (by exact hrh.at F Nh) (by omega) fun h9 tk9 ld ds kp9 hld hds => ?_)
        have F := kp9.fr F
        have N := kp9.news N
        obtain ⟨exd, Nx, hsxd, hldh⟩ := list_in F hld
        have N := news_sub (news_app N Nx) (news' := (I, oI) :: (lL, listOf #[.ref D6, .ref D7] 0) :: (D7, listOf #[.int w3 t3, .int w2 t2, .int w1 t1] 0) :: (D6, LCg.lst [.int w1 t1, .int w2 t2, .int w3 t3]) :: (s₁.heap.objs.size + 1, od) :: (rest ++ (hold ++ exd))) (fun q hq => by
          rw [← List.append_assoc] at hq
          exact hq)
        have hrhd := hrh.mono (ex := hold ++ exd) fun q hq => List.mem_append_left _ hq
        have hhhd := hhh.mono (ex := hold ++ exd) fun q hq => List.mem_append_left _ hq
        have hldd := hldh.mono (ex := hold ++ exd) fun q hq => List.mem_append_right _ hq
        have hseqd : ∀ q ∈ hold ++ exd, Seqy q.2 := fun q hq => (List.mem_append.mp hq).elim (hseq q) (hsxd q)
        have hsub : ∀ q ∈ hold, q ∈ hold ++ exd := fun q hq => List.mem_append_left _ hq
        generalize hold ++ exd = holdd at N hrhd hhhd hldd hseqd hsub
        k_steps
        have hbase87 : (ghostOf s₁.heap [(98, 94), (91, 87)]).get? 87 = none := hideAll_none _ (by simp)
        have hbase94 : (ghostOf s₁.heap [(98, 94), (91, 87)]).get? 94 = none := hideAll_none _ (by simp)
        have hcm : ((s₁.heap.objs.size + 1, od) : Addr × Obj) ∈ (I, oI) :: (lL, listOf #[.ref D6, .ref D7] 0) :: (D7, listOf #[.int w3 t3, .int w2 t2, .int w1 t1] 0) :: (D6, LCg.lst [.int w1 t1, .int w2 t2, .int w3 t3]) :: (s₁.heap.objs.size + 1, od) :: (rest ++ holdd) := .tail _ (.tail _ (.tail _ (.tail _ (.head _))))
        refine Stop.go (storeX_C F N rfl (UpdF.tail (Ne.symm (hne _ (.tail _ (.tail _ (.head _))))) (.tail (news_off N hcm (.tail _ (.head _)) (by rw [hod]; exact fun e => nomatch e)) (.tail (news_off N hcm (.tail _ (.tail _ (.head _))) (by rw [hod]; exact fun e => nomatch e)) (.tail (news_off N hcm (.tail _ (.tail _ (.tail _ (.head _)))) (by rw [hod]; exact fun e => nomatch e)) (.head fun q hq => news_off N hcm (.tail _ (.tail _ (.tail _ (.tail _ (.tail _ hq))))) (by
          rw [hod]
          rcases List.mem_append.mp hq with hq | hq
          · obtain ⟨fs, e, _⟩ := hT.f q hq
            rw [e]; exact fun e => nomatch e
          · obtain ⟨fs, n, e⟩ := hseqd q hq
            rw [e]; exact fun e => nomatch e)))))) hod (fun h9 od2 F N hod2 => ?_) rfl rfl)
        have Nh := news_sub N (news' := holdd) (fun q hq => .tail _ (.tail _ (.tail _ (.tail _ (.tail _ (List.mem_append_right _ hq))))))
        have hDL := hrhd.list.at F Nh
        have hDn : ys.toArray.size = rows.length := by rw [List.size_toArray, hrh.len]
        k_steps
        rw [hDn]
        have Nr : News (ghostOf s₁.heap [(98, 94), (91, 87)]) s₁.heap.objs.size h9 rest := news_sub N (fun q hq => .tail _ (.tail _ (.tail _ (.tail _ (.tail _ (List.mem_append_left _ hq))))))
        refine Stop.go (c_told X T (by exact F.keep) C1 C2 hbase87 hbase94 (by exact hT.t1.ok F Nr) (by exact hT.t2.ok F Nr) (show callerA.depth + 1 + 6 < recursionLimit by decide) (by exact hgl N) ⟨⟨⟨by omega, by omega⟩, by omega, by omega⟩, by omega, by omega⟩ (by exact hhhd.at F Nh) (fun k hk => hours_small hrl hrb hk) (by omega) fun h10 tk10 la l1 l2 v1 v2 hx tab1 tab2 hta hl1 hl2 hv1 hv2 => ?_)
        obtain ⟨F, rest2, N, hT2⟩ := tabs_step (pre := (I, oI) :: (lL, listOf #[.ref D6, .ref D7] 0) :: (D7, listOf #[.int w3 t3, .int w2 t2, .int w1 t1] 0) :: (D6, LCg.lst [.int w1 t1, .int w2 t2, .int w3 t3]) :: [(s₁.heap.objs.size + 1, od2)]) F N hT (by
          intro q hq
          rcases List.mem_cons.mp hq with rfl | hq
          · exact hnT
          · rcases List.mem_cons.mp hq with rfl | hq
            · exact not_tbl_seq ⟨_, _, rfl⟩
            · rcases List.mem_cons.mp hq with rfl | hq
              · exact not_tbl_seq ⟨_, _, rfl⟩
              · rcases List.mem_cons.mp hq with rfl | hq
                · exact not_tbl_seq ⟨_, _, rfl⟩
                · rw [List.mem_singleton.mp hq]; exact not_tbl_cell hod2) (fun q hq => not_tbl_seq (hseqd q hq)) hbase87 hbase94 hx tab1 tab2
        obtain ⟨e1, N1, hs1, ht1⟩ := tup_in F hta
        obtain ⟨e2, N2, hs2, ht2⟩ := list_in F hl1
        obtain ⟨e3, N3, hs3, ht3⟩ := list_in F hl2
        have N := news_sub (news_app N (news_app N1 (news_app N2 N3))) (news' := (I, oI) :: (lL, listOf #[.ref D6, .ref D7] 0) :: (D7, listOf #[.int w3 t3, .int w2 t2, .int w1 t1] 0) :: (D6, LCg.lst [.int w1 t1, .int w2 t2, .int w3 t3]) :: (s₁.heap.objs.size + 1, od2) :: (rest2 ++ (holdd ++ (e1 ++ (e2 ++ e3))))) (fun q hq => by
          rw [← List.append_assoc rest2] at hq
          exact hq)
        have hldd := hldd.mono (ex := holdd ++ (e1 ++ (e2 ++ e3))) fun q hq => List.mem_append_left _ hq
        have hrhd := hrhd.mono (ex := holdd ++ (e1 ++ (e2 ++ e3))) fun q hq => List.mem_append_left _ hq
        have ht1 := ht1.mono (ex := holdd ++ (e1 ++ (e2 ++ e3))) fun q hq => List.mem_append_right _ (List.mem_append_left _ hq)
        have ht2 := ht2.mono (ex := holdd ++ (e1 ++ (e2 ++ e3))) fun q hq => List.mem_append_right _ (List.mem_append_right _ (List.mem_append_left _ hq))
        have ht3 := ht3.mono (ex := holdd ++ (e1 ++ (e2 ++ e3))) fun q hq => List.mem_append_right _ (List.mem_append_right _ (List.mem_append_right _ hq))
        have hseqd : ∀ q ∈ holdd ++ (e1 ++ (e2 ++ e3)), Seqy q.2 := fun q hq => (List.mem_append.mp hq).elim (hseqd q) fun hq => (List.mem_append.mp hq).elim (hs1 q) fun hq => (List.mem_append.mp hq).elim (hs2 q) (hs3 q)
        have hsub : ∀ q ∈ hold, q ∈ holdd ++ (e1 ++ (e2 ++ e3)) := fun q hq => List.mem_append_left _ (hsub q hq)
        generalize holdd ++ (e1 ++ (e2 ++ e3)) = hold3 at N hldd hrhd ht1 ht2 ht3 hseqd hsub
        k_steps
        refine Stop.go (ListComp_CS F (fun k => (cnt (dueF rows [x1, x2, x3]) k (rows.length + 1) : Int)) 6 (by with_unfolding_all rfl) (by rfl) (by decide) (fun _ => by rfl) (fun _ => by rfl) (fun _ _ => by rfl) ?_)
        k_steps
        rename Fr _ _ _ _ => F
        rename News _ _ _ _ => N
        rename IsRange _ _ _ _ _ _ _ _ => hR
        refine Stop.go ⟨_, _, _, _, _, _, rfl, rfl, rfl, by decide, hR, F, N, ?_, ?_⟩
        · intro k t Ik oIk C oC c oc Dk zs h tk E' hk0 hk6 hoc F N
          refine stop_post ?_
          k_steps
          refine Stop.go (ListComp_TS F (by with_unfolding_all rfl) (by decide) (by rfl) (by decide) (by rfl) ?_)
          k_steps
          have hlk : ListHeld (ghostOf s₁.heap [(98, 94), (91, 87)]) ((Ik, oIk) :: (C, oC) :: (c, oc) :: (Dk, LCg.lst zs) :: (I, oI) :: (lL, listOf #[.ref D6, .ref D7] 0) :: (D7, listOf #[.int w3 t3, .int w2 t2, .int w1 t1] 0) :: (D6, LCg.lst [.int w1 t1, .int w2 t2, .int w3 t3]) :: (s₁.heap.objs.size + 1, od2) :: (rest2 ++ hold3)) ld ds.toArray := hldd.mono fun q hq => .tail _ (.tail _ (.tail _ (.tail _ (.tail _ (.tail _ (.tail _ (.tail _ (.tail _ (List.mem_append_right _ hq)))))))))
          refine Stop.go (CompSrcT_held rfl F N hlk.src (by rw [List.size_toArray, hds.length, upto_length, sizeLine_eq]; omega) fun g => comp_filter (fun d => decide (d > k)) hds ?_ ?_ hlk.src ?_)
          · intro k2 tt2 Ci oCi mi h tk E' hk2 hCi hxi F N
            refine stop_post ?_
            k_steps
            exact Stop.go ⟨rfl, _, rfl⟩
          · intro k2 tt2 Ci oCi mi h tk E' hk2 hCi hxi F N
            refine stop_post ?_
            k_steps
            exact Stop.go ⟨⟨_, rfl⟩, _, rfl⟩
          · intro qs hqs Df h tk F N off
            have hql := News.isList N (.head _)
            have hqn : qs.length = cnt (dueF rows [x1, x2, x3]) k (rows.length + 1) := hqs.length
            have hqb : qs.length ≤ 8 := by
              have := cnt_le (dueF rows [x1, x2, x3]) k (rows.length + 1)
              omega
            k_steps
            refine Stop.go ⟨_, _, tk + 1, rfl, ?_, F, news_sub N fun q hq => .tail _ hq⟩
            rw [List.size_toArray, hqn]
        · intro Dc zs h tk hzs F N off
          k_steps
          rename Fr _ _ _ _ => F
          rename News _ _ _ _ => N
          have hr0 : ∀ r ∈ rows, 0 ≤ r.1 ∧ 0 ≤ r.2 := fun r hr => ⟨(hrb r hr).1.1, (hrb r hr).2.1⟩
          have i1 : IntsAre v1 (upto (rows.length + 1) (dueF rows [x1, x2, x3])) := by rw [← law_firsts hx1.1 hx2.1 hx3.1 hr0]; exact hv1
          have i2 : IntsAre v2 (upto 6 fun k => (cnt (dueF rows [x1, x2, x3]) (k : Int) (rows.length + 1) : Int)) := by rw [← law_fronts hx1.1 hx2.1 hx3.1 hr0]; exact hv2
          have i4 : IntsAre zs (upto 6 fun k => (cnt (dueF rows [x1, x2, x3]) (k : Int) (rows.length + 1) : Int)) := by rw [← counts_eq]; exact hzs
          have Nh3 := news_sub N (news' := hold3) fun q hq => .tail _ (.tail _ (.tail _ (.tail _ (.tail _ (.tail _ (.tail _ (List.mem_append_right _ hq)))))))
          refine Stop.go (ne_pairs (ht1.at F Nh3) ⟨_, (N _ (.head _)).1, rfl, _, rfl⟩ (ht2.at F Nh3) (ht3.at F Nh3) (hldd.at F Nh3) (News.isList N (.tail _ (.head _))) i1 i2 hds i4 (Nat.le_of_ble_eq_true rfl) ?_)
          k_steps
          have Nr2 : News (ghostOf s₁.heap [(98, 94), (91, 87)]) s₁.heap.objs.size _ rest2 := news_sub N fun q hq => .tail _ (.tail _ (.tail _ (.tail _ (.tail _ (.tail _ (.tail _ (List.mem_append_left _ hq)))))))
          have hI2 := hT2.neT Nr2 (N _ (.tail _ (.tail _ (.head _)))).1 hnT
          refine Stop.go (wpAny_execs_nil ⟨_, _, _, _, (lL, listOf #[.ref D6, .ref D7] 0) :: (D7, listOf #[.int w3 t3, .int w2 t2, .int w1 t1] 0) :: (D6, LCg.lst [.int w1 t1, .int w2 t2, .int w3 t3]) :: (s₁.heap.objs.size + 1, od2) :: (rest2 ++ hold), rfl, F, N, .tail _ (.tail _ (.head _)), fun q hq => ?_, fun q hq => ?_, .head _, _, rfl, od2, rest2, rfl, ⟨_, hod2⟩, hT2, rfl, rfl⟩)
          · refine .tail _ (.tail _ (.tail _ ?_))
            rcases List.mem_cons.mp hq with rfl | hq
            · exact .head _
            · rcases List.mem_cons.mp hq with rfl | hq
              · exact .tail _ (.head _)
              · rcases List.mem_cons.mp hq with rfl | hq
                · exact .tail _ (.tail _ (.head _))
                · rcases List.mem_cons.mp hq with rfl | hq
                  · exact .tail _ (.tail _ (.tail _ (.head _)))
                  · refine .tail _ (.tail _ (.tail _ (.tail _ ?_)))
                    rcases List.mem_append.mp hq with hq | hq
                    · exact List.mem_append_left _ hq
                    · exact List.mem_append_right _ (hsub q hq)
          · rcases List.mem_cons.mp hq with rfl | hq
            · exact Ne.symm hIl
            · rcases List.mem_cons.mp hq with rfl | hq
              · exact hne _ (.head _)
              · rcases List.mem_cons.mp hq with rfl | hq
                · exact hne _ (.tail _ (.head _))
                · rcases List.mem_cons.mp hq with rfl | hq
                  · exact hne (s₁.heap.objs.size + 1, od) (.tail _ (.tail _ (.head _)))
                  · rcases List.mem_append.mp hq with hq | hq
                    · exact hI2 q hq
                    · exact hne q (.tail _ (.tail _ (.tail _ (List.mem_append_right _ hq))))
      · rintro m₁ news₁ h tk ⟨od, rest, rfl, ⟨vd, hod⟩, hT, hm1, hm2⟩ F N
        rw [pin2 hm1 hm2] at F
        k_steps
        refine Stop.go ⟨?_, ?_⟩
        · refine goodW_bool (b := true) F hgens (raisesW_false ?_) ?_
          · wrow_none_raised
          · kc_post
        · obtain ⟨ps1, hp1, _⟩ := hT.t1
          obtain ⟨ps2, hp2, _⟩ := hT.t2
          exact ⟨⟨ps2, (N _ (.tail _ (.tail _ (.tail _ (.tail _ (List.mem_append_left _ hp2)))))).1⟩, ⟨ps1, (N _ (.tail _ (.tail _ (.tail _ (.tail _ (List.mem_append_left _ hp1)))))).1⟩, trivial⟩
end
end Mine
end
set_option maxRecDepth 100000 in
theorem PySem.Challenge.cw_pu0022_01_holds : PySem.Challenge.rw_pu0022_01.Holds :=
  Mine.main
