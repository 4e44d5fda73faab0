import PyProof.Rows.All
import Wide.All
import OpenK.AllK
import Wide.FinOn
import PySem.Challenge.RW_ez0273_02
open PySem PySem.W PyProof.Rows PySem.Calls
set_option Elab.async false
set_option maxRecDepth 100000
set_option maxHeartbeats 8000000
set_option linter.all false
set_option rowWalk.seconds 0
namespace Mine
open_top hd2 for PySem.Challenge.rw_ez0273_02
theorem tops_off : True := by
  w_top off
  trivial
end Mine
section
open PySem PySem.W PyProof.Rows PySem.Calls
set_option Elab.async false
set_option maxRecDepth 100000
set_option maxHeartbeats 8000000
namespace Mine
abbrev PG : Program := PySem.Challenge.rw_ez0273_02.row.prog
section
variable {w : World} {base : Heap} {outer : List Env} {s : Shared} {p : Program} {loose : List Str} {mean : ExcName → Option Value} {mg mb : Str → Option Value}
/-- entering a def that only reads what stood before: all that stands at the call is the base -/
theorem enter {K : Frag} {A : Around} {R : Result → Shared → Prop} {name qual : Str} {params : Arguments} {body : List Stmt} {scope : Scope} {dV kV doc pm cdv ct oc : Value} {an od : Option Addr} {osl : Array (Option Value)} {f : Addr} {args : Args} {binds : List (Str × Value)}
   (X : K.In s.heap) (T : Top p loose mean mg mb s.heap)
   (ho : K.lookup f = some ⟨oc, od, .func (fnOf name qual params body scope dV kV doc pm an cdv ct), osl⟩) (hcd : codeIn K cdv qual = true) (hroom : A.depth < recursionLimit)
    (hbind : BindsTo s (fnOf name qual params body scope dV kV doc pm an cdv ct) args binds) (hloc : ∀ y ∈ binds, scope.names.lookup y.1 = some .local)
    (h : ∀ L' h₁, Fr s.heap L' h₁ (fun y => binds.reverse.lookup y) → News s.heap L' h₁ [] → 
      wpAny (model PG w) (A.deeper (envOf qual scope L' f cdv)) (execs body (envOf qual scope L' f cdv))
        (fun fl s' => R (.ok (.ret (match fl with | .ret v => v | _ => .none))) s')
        (fun e s' => wpAny (model PG w) (A.deeper (envOf qual scope L' f cdv)) (leaving (envOf qual scope L' f cdv) e) (fun _ s'' => R (.error e) s'') (fun e' s'' => R (.error e') s'') s')
        { s with heap := h₁, toks := s.toks + binds.length })
    (hco : scope.isCoroutine = false) (hgen : scope.isGenerator = false) (hk : scope.kind = .function)
    (hcell : ∀ x ∈ scope.names, x.2 ≠ .cell) : codeAny (model PG w) A (.call (.ref f) args) R s := by
  refine codeAny_call_def (fd := fnOf name qual params body scope dV kV doc pm an cdv ct) (body := body) (binds := binds) hroom (X _ _ ho) rfl T.nolimit (codeRec_of X hcd) rfl hbind hcell hloc (fun h₁ hns hk₁ => ?_) hco hgen hk
  exact h s.heap.objs.size h₁ ⟨hns, hk₁, Nat.le_refl _⟩ (fun _ hp => nomatch hp)
theorem inst_base {h₀ h : Heap} {L x C dx : Addr} {m : Str → Option Value} {sl : Array (Option Value)} {od : Obj} (F : Fr h₀ L h m) (h1 : h₀.get? x = some ⟨.ref C, some dx, .plain, sl⟩) (h2 : h₀.get? dx = some od) :
    InstAt h x ⟨.ref C, some dx, .plain, sl⟩ C (some od) := ⟨F.keep _ _ h1, rfl, rfl, F.keep _ _ h2⟩
theorem depth_mk {a b c d e} : (Around.mk a b c d e).depth = b := rfl
theorem units_mk {a b c d e} : (Around.mk a b c d e).units = e := rfl
theorem rl_is : recursionLimit = 1000 := rfl
theorem cl_is : cLine = 9900 := rfl
theorem truthy_ch {prog : Program} {A : Around} {E : Value → Shared → Prop} {s : Shared} {c : Nat} {t : Tok} {Q : Bool → Shared → Prop} (h : ∀ k, Q true { s with toks := k }) : wpAny (model prog w) A (truthy (.str ⟨#[c]⟩ t)) Q E s :=
  P.truthy_str (by show ¬ ((1:Nat):Int) ≥ 2^63; decide) (h _)
theorem join_one {prog : Program} {A : Around} {E : Value → Shared → Prop} {s : Shared} {c : Nat} {D : Addr} {t tk : Tok} {Q : Value → Shared → Prop} (hl : s.heap.IsList D #[.str ⟨#[c]⟩ tk]) (h : ∀ t k, Q (.str ⟨#[c]⟩ t) { s with toks := k }) : wpAny (model prog w) A (call (.builtin "str.join") [.str (Str.ofString "") t, .ref D]) Q E s :=
  join_listW (ys := [⟨#[c]⟩]) hl (.cons _ _ .nil) (by decide +kernel) (by show 1 + 0 + 1 ≤ 1048576; decide) (fun t' k => h t' k)
abbrev Keeps (h h' : Heap) : Prop := ∀ b o, h.get? b = some o → h'.get? b = some o
theorem iter_J {prog : Program} {A : Around} {E : Value → Shared → Prop} {env : Env} {h₀ : Heap} {x : Str} {body : List Stmt} {Q : Flow → Shared → Prop} {l : Addr} {vs : List Value} {m₀ : Str → Option Value} {news : List (Addr × Obj)}
    (J : Nat → (Str → Option Value) → List (Addr × Obj) → Prop)
    (hh : A.handled = none) (hl : h₀.IsList l vs.toArray) (F : Fr h₀ env.locals s.heap m₀) (N : News h₀ env.locals s.heap news) (hj : J 0 m₀ news)
    (turn : ∀ i v m₁ news₁ h tk I it, vs[i]? = some v → J i m₁ news₁ → it.cls = .type "list_iterator" → (∀ p ∈ news₁, p.1 ≠ I) →
      Fr h₀ env.locals h (fun y => if y = x then some v else m₁ y) → News h₀ env.locals h ((I, it) :: news₁) →
      wpAny (model prog w) A (execs body env) (UnrPost h₀ env.locals { s with heap := h, toks := tk } I it (J (i + 1)) Q) E { s with heap := h, toks := tk })
    (done : ∀ m₁ news₁ h tk, J vs.length m₁ news₁ → Fr h₀ env.locals h m₁ → News h₀ env.locals h news₁ → Q .next { s with heap := h, toks := tk }) :
    wpAny (model prog w) A (pyIter (.ref l)) (fun it s₂ => LoopAtV prog w A h₀ env x body Q E it s₂) E s := by
  have hls : s.heap.IsList l vs.toArray := hl.at fun o e => F.keep l o e
  obtain ⟨ol, hol, _⟩ := id hl
  have hlt : l < s.heap.objs.size := Heap.lt_size (F.keep _ _ hol)
  have hne : l ≠ s.heap.objs.size := Nat.ne_of_lt hlt
  refine wpAny_pyIter_list hls ?_
  have W := Walks.list (prog := prog) (w := w) hh s.heap.objs.size l hne vs.toArray
  have hnew := next_is_new F
  have hlen : vs.toArray.size = vs.length := by simp
  rw [hlen] at W
  have hlL : l ≠ env.locals := Nat.ne_of_lt (Nat.lt_of_lt_of_le (Heap.lt_size hol) F.above)
  refine ⟨_, _, _, vs.length, _, _, m₀, news, J, rfl, W, ?_, ?_, ?_, ⟨⟨_, Heap.get?_push_size _ rfl, rfl, rfl⟩, hls.at fun o e => Heap.get?_push_of_some _ e⟩, F.push _, (fun p hp => ⟨Heap.get?_push_of_some _ (N p hp).1, (N p hp).2⟩), hj, ?_, ?_⟩
  · intro hmm
    rcases List.mem_cons.mp hmm with e | hmm
    · exact absurd F.ns.lt (e ▸ Nat.lt_irrefl _)
    · exact hlL (List.mem_singleton.mp hmm).symm
  · intro b hb
    rw [List.mem_singleton.mp hb]
    exact hnew
  · intro p hp hI
    exact absurd (Heap.lt_size (N p hp).1) ((List.mem_singleton.mp hI) ▸ Nat.lt_irrefl _)
  · rintro i v m₁ news₁ s₁ own ⟨hh', tk', rfl⟩ hin hP hJ hoff hown hget hall hst F₁ N₁
    obtain ⟨it, hit, hic, hid⟩ := hst.1
    have hmemI := hall s.heap.objs.size (List.mem_cons_self ..) hnew _ hit
    have hoffI : ∀ p ∈ news₁, p.1 ≠ s.heap.objs.size := fun p hp e => hoff p hp (e ▸ List.mem_singleton.mpr rfl)
    have N₂ : News h₀ env.locals hh' ((s.heap.objs.size, it) :: news₁) := fun p hp => by
      rcases List.mem_cons.mp hp with rfl | hp
      · exact N₁ _ (List.mem_append_left _ hmemI)
      · exact N₁ _ (List.mem_append_right _ hp)
    refine wpAny_mono (turn i v m₁ news₁ hh' tk' _ it (by simpa using hP) hJ hic hoffI F₁ N₂) (fun f s₂ p => ?_) fun _ _ e => e
    have fin : UnrEnd h₀ env.locals { s with heap := hh', toks := tk' } s.heap.objs.size it (J (i + 1)) s₂ →
        LoopStepU h₀ env.locals [s.heap.objs.size] own (J (i + 1)) { s with heap := hh', toks := tk' } .next s₂ := by
      rintro ⟨h', tk, m', news', e, F', N', ho, hmm⟩
      refine ⟨rfl, h', tk, m', news', e, F', fun p hp => ?_, fun p hp hI => ho p hp (List.mem_singleton.mp hI), hmm⟩
      rcases List.mem_append.mp hp with hp | hp
      · have h2 : hh'.get? p.1 = some p.2 := hget p hp
        rcases List.mem_cons.mp (hown p hp) with h1 | h1
        · have h3 : p = (s.heap.objs.size, it) := by
            rw [h1, hit] at h2
            exact Prod.ext h1 (Option.some.inj h2).symm
          rw [h3]; exact N' _ (List.mem_cons_self ..)
        · have h1' : p.1 = l := List.mem_singleton.mp h1
          have := (N₁ p (List.mem_append_left _ hp)).2.2
          rw [h1', hol] at this; cases this
      · exact N' _ (List.mem_cons_of_mem _ hp)
    cases f with
    | ret v => exact .ret p
    | brk => exact .brk p
    | next => exact .next (fin p)
    | cont => exact .cont (fin p)
  · rintro h' tk m' news' F' N' _ hJ
    exact done m' news' h' tk hJ F' N'
def BRest (prog : Program) (w : World) (A : Around) (E : Value → Shared → Prop) (h₀ : Heap) (env : Env) (x : Str) (body : List Stmt) (Q : Flow → Shared → Prop) (s : Shared) : List Value → (Str → Option Value) → List (Addr × Obj) → Prop
  | [], m, news => ∀ h tk, Fr h₀ env.locals h m → News h₀ env.locals h news → Q .next { s with heap := h, toks := tk }
  | v :: r, m, news => ∀ I it h tk, it.cls = .type "list_iterator" → (∀ p ∈ news, p.1 ≠ I) → Fr h₀ env.locals h (fun y => if y = x then some v else m y) → News h₀ env.locals h ((I, it) :: news) →
      wpAny (model prog w) A (execs body env) (UnrPost h₀ env.locals { s with heap := h, toks := tk } I it (BRest prog w A E h₀ env x body Q s r) Q) E { s with heap := h, toks := tk }
section
variable {prog : Program} {A : Around} {E : Value → Shared → Prop} {env : Env} {h₀ : Heap} {x : Str} {body : List Stmt} {Q : Flow → Shared → Prop}
theorem BRest.zero {m : Str → Option Value} {news : List (Addr × Obj)} (h : ∀ h tk, Fr h₀ env.locals h m → News h₀ env.locals h news → Q .next { s with heap := h, toks := tk }) :
    BRest prog w A E h₀ env x body Q s [] m news := h
theorem BRest.succ {v : Value} {r : List Value} {m : Str → Option Value} {news : List (Addr × Obj)}
    (h : ∀ I it h tk, it.cls = .type "list_iterator" → (∀ p ∈ news, p.1 ≠ I) → Fr h₀ env.locals h (fun y => if y = x then some v else m y) → News h₀ env.locals h ((I, it) :: news) →
      wpAny (model prog w) A (execs body env) (UnrPost h₀ env.locals { s with heap := h, toks := tk } I it (BRest prog w A E h₀ env x body Q s r) Q) E { s with heap := h, toks := tk }) :
    BRest prog w A E h₀ env x body Q s (v :: r) m news := h
theorem iter_unr {l : Addr} {vs : List Value} {m₀ : Str → Option Value} {news : List (Addr × Obj)}
    (hh : A.handled = none) (hl : h₀.IsList l vs.toArray) (F : Fr h₀ env.locals s.heap m₀) (N : News h₀ env.locals s.heap news)
    (h : BRest prog w A E h₀ env x body Q s vs m₀ news) :
    wpAny (model prog w) A (pyIter (.ref l)) (fun it s₂ => LoopAtV prog w A h₀ env x body Q E it s₂) E s := by
  refine iter_J (fun i m n => BRest prog w A E h₀ env x body Q s (vs.drop i) m n) hh hl F N (by rw [List.drop_zero]; exact h) (fun i v m₁ news₁ h tk I it hv hJ hc ho F₁ N₁ => ?_) (fun m₁ news₁ h tk hJ F₁ N₁ => ?_)
  · have hlt : i < vs.length := by
      rcases Nat.lt_or_ge i vs.length with q | q
      · exact q
      · rw [List.getElem?_eq_none q] at hv; cases hv
    have hdrop : vs.drop i = v :: vs.drop (i + 1) := by
      rw [List.drop_eq_getElem_cons hlt]
      congr 1
      exact Option.some.inj ((List.getElem?_eq_getElem hlt).symm.trans hv)
    rw [hdrop] at hJ
    exact hJ I it h tk hc ho F₁ N₁
  · rw [List.drop_length] at hJ
    exact hJ h tk F₁ N₁
end
theorem code_def0 {K : Frag} {h₀ : Heap} {L : Addr} {m : Str → Option Value} {news : List (Addr × Obj)} {prog : Program} {A : Around} {R : Result → Shared → Prop} {name qual : Str} {params : Arguments} {body : List Stmt} {scope : Scope} {dV kV doc pm cdv ct oc : Value} {an od : Option Addr} {osl : Array (Option Value)} {f : Addr} {args : Args} {binds : List (Str × Value)}
    (F : Fr h₀ L s.heap m) (X₀ : K.In h₀) (N : News h₀ L s.heap news) (T : Top p loose mean mg mb h₀)
    (ho : K.lookup f = some ⟨oc, od, .func (fnOf name qual params body scope dV kV doc pm an cdv ct), osl⟩) (hcd : codeIn K cdv qual = true) (hroom : A.depth < recursionLimit)
    (hbind : BindsTo s (fnOf name qual params body scope dV kV doc pm an cdv ct) args binds) (hloc : ∀ y ∈ binds, scope.names.lookup y.1 = some .local)
    (h : ∀ g L' h₁, Fr h₀ L g m → Fr g L' h₁ (fun y => binds.reverse.lookup y) → News g L' h₁ news → K.In g → Top p loose mean mg mb g →
      wpAny (model prog w) (A.deeper (envOf qual scope L' f cdv)) (execs body (envOf qual scope L' f cdv))
        (fun fl s' => LeaveK h₀ L m g R (match fl with | .ret v => v | _ => .none) s')
        (fun e s' => wpAny (model prog w) (A.deeper (envOf qual scope L' f cdv)) (leaving (envOf qual scope L' f cdv) e) (fun _ s'' => R (.error e) s'') (fun e' s'' => R (.error e') s'') s')
        { s with heap := h₁, toks := s.toks + binds.length })
    (hco : scope.isCoroutine = false) (hgen : scope.isGenerator = false) (hk : scope.kind = .function)
    (hcell : ∀ x ∈ scope.names, x.2 ≠ .cell) : codeAny (model prog w) A (.call (.ref f) args) R s := by
  have X := X₀.keeps F.keep
  refine codeAny_call_def (fd := fnOf name qual params body scope dV kV doc pm an cdv ct) (body := body) (binds := binds) hroom (X _ _ ho) rfl (T.nolimit.keeps F.keep) (codeRec_of X hcd) rfl hbind hcell hloc (fun h₁ hns hk₁ => ?_) hco hgen hk
  have nm : ∀ b o, h₀.get? b = some o → b ∉ news.map (·.1) := fun b o e q => by
    obtain ⟨p, hp, rfl⟩ := List.mem_map.mp q
    rw [(N p hp).2.2] at e; cases e
  have st : ∀ b o, h₀.get? b = some o → (hideAll s.heap (news.map (·.1))).get? b = some o := fun b o e => hideAll_get _ (F.keep b o e) (nm b o e)
  obtain ⟨oL, es, ep, hL, hLd, hLk, hLf⟩ := F.ns
  have nL : L ∉ news.map (·.1) := fun q => by
    obtain ⟨p, hp, e⟩ := List.mem_map.mp q
    exact (N p hp).2.1 e
  have hLg := hideAll_get (news.map (·.1)) hL nL
  refine wpAny_mono (h _ s.heap.objs.size h₁ ⟨⟨oL, es, ep, hLg, hLd, hLk, hLf⟩, st, F.above⟩ ⟨hns, fun b o e => hk₁ b o (of_hideAll _ e), Nat.le_of_eq (hideAll_size _ _)⟩
    (fun p hp => ⟨hk₁ _ _ (N p hp).1, Nat.ne_of_lt (Heap.lt_size (N p hp).1), hideAll_none _ (List.mem_map_of_mem hp)⟩) (X₀.keeps st) (T.keeps st)) (fun fl s' hl => ?_) fun _ _ y => y
  obtain ⟨L', m', news', F', N', k⟩ := hl
  refine k ⟨⟨oL, es, ep, F'.keep L oL hLg, hLd, hLk, hLf⟩, fun b o e => F'.keep b o (st b o e), F.above⟩ fun p hp => ⟨(N' p hp).1, fun q => ?_, ?_⟩
  · have := (N' p hp).2.2; rw [q, hLg] at this; cases this
  · cases q : h₀.get? p.1 with
    | none => rfl
    | some o => have := (N' p hp).2.2; rw [st _ _ q] at this; cases this
end
end Mine
end
section
open PySem PySem.W PyProof.Rows PySem.Calls PySem.Builtin.Str
namespace Mine
theorem idx_hi (len : Nat) {i j : Int} (h : (len : Int) ≤ j) : strSliceIndices (some i) (some j) 1 len = strSliceIndices (some i) (some (len : Int)) 1 len := by
  have a1 : ¬ j < 0 := by omega
  have a2 : ¬ ((len : Int) < 0) := by omega
  have e1 : max (0 : Int) (min j (len : Int)) = len := by omega
  have e2 : max (0 : Int) (min (len : Int) (len : Int)) = len := by omega
  simp [strSliceIndices, a1, a2, e1, e2]
theorem slice_is {x : Str} {i : Int} (h0 : 0 ≤ i) (h1 : i ≤ x.length) : Txt.slice x (some i) (some (i + ((1 : Nat) : Int))) = ⟨((x.cps.toList.drop i.toNat).take 1).toArray⟩ := by
  have hx : x.length = x.cps.toList.length := by simp [Str.length]
  show StrLaws.sliceText x (some i) (some (i + ((1 : Nat) : Int))) = _
  by_cases h : i < x.length
  · rw [StrLaws.sliceText_plain (by omega)]
    have : (i + ((1 : Nat) : Int) - i).toNat = 1 := by omega
    rw [this]
  · have e : StrLaws.sliceText x (some i) (some (i + ((1 : Nat) : Int))) = StrLaws.sliceText x (some i) (some (x.length : Int)) := by
      unfold StrLaws.sliceText
      rw [idx_hi x.length (by omega)]
    rw [e, StrLaws.sliceText_plain (by omega)]
    have e1 : i.toNat = x.cps.toList.length := by omega
    rw [e1, List.drop_length, List.take_nil, List.take_nil]
theorem slice_one {x : Str} {i : Int} {c : Nat} (h0 : 0 ≤ i) (h1 : i ≤ x.length) : (Txt.slice x (some i) (some (i + ((1 : Nat) : Int))) == ⟨#[c]⟩) = true ↔ x.cps[i.toNat]? = some c := by
  rw [slice_is h0 h1]
  rw [beq_iff_eq, Str.mk.injEq]
  rw [← Array.getElem?_toList]
  generalize x.cps.toList = l
  generalize i.toNat = n
  rw [show (#[c] : Array Nat) = [c].toArray from rfl]
  have inj : ∀ a b : List Nat, a.toArray = b.toArray ↔ a = b := fun a b => ⟨fun e => by simpa using congrArg Array.toList e, fun e => by rw [e]⟩
  rw [inj]
  rw [← List.head?_drop]
  cases l.drop n with
  | nil => simp
  | cons a r => simp
theorem slice_no {x : Str} {i : Int} {c : Nat} (h0 : 0 ≤ i) (h1 : i ≤ x.length) (h : (Txt.slice x (some i) (some (i + ((1 : Nat) : Int))) == ⟨#[c]⟩) = false) : x.cps[i.toNat]? ≠ some c := fun e => by
  rw [(slice_one h0 h1).mpr e] at h; cases h
theorem newsBoth {h₀ h : Heap} {L a : Addr} {o : Obj} {news : List (Addr × Obj)} (N : News h₀ L h news) (hm : (a, o) ∈ news) : h.get? a = some o ∧ h₀.get? a = none := ⟨N.get hm, N.fresh hm⟩
end Mine
end
section
open PySem PySem.W PyProof.Rows PySem.Calls
set_option maxRecDepth 100000
namespace Mine
def NoE : Value → Shared → Prop := fun _ _ => False
section
variable {prog : Program} {w : World} {A : Around} {R : GenEnd} {Y : Protocol} {n : Nat} {s₀ : Shared} {c : Code} {fs : List Frame} {s : Shared} {env : Env}
  {K : Flow → Sem Fin} {H : Value → Sem Fin} {gd : Bool → Bool} {lv : List Value → List Value}
abbrev SegM (prog : Program) (w : World) := Seg (model prog w)
theorem sg_wrap {α : Type} {m : Sem α} {K : α → Sem Fin} {H : Value → Sem Fin} {gd lv}
    (h : wpAny (model prog w) (A.over c fs) m (fun a s' => Seg (model prog w) A R Y n s₀ c (K a) fs s') NoE s) :
    Seg (model prog w) A R Y n s₀ c (m.wrap K H gd lv) fs s := seg_wrap (wpAny_mono h (fun _ _ x => x) fun _ _ x => x.elim)
theorem sg_bw {α β : Type} {m : Sem α} {K : α → Sem β} {K' : β → Sem Fin} {H' : Value → Sem Fin} {gd lv}
    (h : wpAny (model prog w) (A.over c fs) m (fun a s' => Seg (model prog w) A R Y n s₀ c ((K a).wrap K' H' gd lv) fs s') NoE s) : Seg (model prog w) A R Y n s₀ c ((m >>= K).wrap K' H' gd lv) fs s := by
  rw [Sem.bind_eq_wrap', Sem.wrap_wrap]; exact sg_wrap h
theorem sg_plain {st : Stmt} {rest : List Stmt}
    (h : wpAny (model prog w) (A.over c fs) (exec st env) (fun f s' => Seg (model prog w) A R Y n s₀ c (match f with | .next => (execs rest env).wrap K H gd lv | f => K f) fs s') NoE s) :
    Seg (model prog w) A R Y n s₀ c ((execs (st :: rest) env).wrap K H gd lv) fs s := seg_execs_cons (sg_wrap h)
theorem sg_If {test : Expr} {body orelse : List Stmt} {pos : Pos}
    (h : wpAny (model prog w) (A.over c fs) (isTrue test env (eval test env)) (fun b s' => Seg (model prog w) A R Y n s₀ c (bif b then (execs body env).wrap K H gd lv else (execs orelse env).wrap K H gd lv) fs s') NoE s) :
    Seg (model prog w) A R Y n s₀ c ((exec (.If test body orelse pos) env).wrap K H gd lv) fs s := by
  rw [arm_exec_If]
  refine seg_at ?_
  show Seg (model prog w) A R Y n s₀ c (((isTrue test env (eval test env)) >>= fun b => if b = true then execs body env else execs orelse env).wrap K H gd lv) fs s
  rw [Sem.bind_eq_wrap', Sem.wrap_wrap]
  refine sg_wrap (wpAny_mono h (fun b s' x => ?_) fun _ _ x => x)
  cases b <;> exact x
theorem sg_Break {pos : Pos} (h : Seg (model prog w) A R Y n s₀ c (K .brk) fs s) : Seg (model prog w) A R Y n s₀ c ((exec (.Break pos) env).wrap K H gd lv) fs s := seg_at h
theorem sg_Continue {pos : Pos} (h : Seg (model prog w) A R Y n s₀ c (K .cont) fs s) : Seg (model prog w) A R Y n s₀ c ((exec (.Continue pos) env).wrap K H gd lv) fs s := seg_at h
def kOwn (env : Env) (K : Flow → Sem Fin) (H : Value → Sem Fin) (gd : Bool → Bool) (lv : List Value → List Value) (r : Result) : Sem Fin :=
  ((match r with | .ok f => (.pure f : Sem Flow) | .error e => .raise e).onRaise fun (x : Value) => do
        if (← field x 1) == Value.none then unsupported "frame.own-activation:exception-without-traceback"
        setFlight x env.frame).wrap K H gd lv
theorem kOwn_ok (f : Flow) : kOwn env K H gd lv (.ok f) = K f := rfl
theorem sg_own {cd : Code} (h : ∀ p, Seg (model prog w) A R Y n s₀ cd ((model prog w).den cd) (.ret (kOwn env K H gd lv) none (gd false) (lv []) c p [] :: fs) s) :
    Seg (model prog w) A R Y n s₀ c ((runOwn cd env).wrap K H gd lv) fs s := seg_call h
theorem sg_For {target iter : Expr} {body orelse : List Stmt} {pos : Pos} (hs : ∀ x, foldedSetIterable iter env x = pure x)
    (h : wpAny (model prog w) (A.over c fs) (eval iter env) (fun x s₁ => wpAny (model prog w) (A.over c fs) (pyIter x) (fun it s₂ =>
      ∀ p, Seg (model prog w) A R Y n s₀ (.forLoop target it body orelse env) ((model prog w).den (.forLoop target it body orelse env)) (.ret (kOwn env K H gd lv) none (gd false) (lv []) c p [] :: fs) s₂) NoE s₁) NoE s) :
    Seg (model prog w) A R Y n s₀ c ((exec (.For target iter body orelse pos) env).wrap K H gd lv) fs s := by
  rw [arm_exec_For]
  refine seg_at ?_
  show Seg (model prog w) A R Y n s₀ c ((eval iter env >>= fun x => foldedSetIterable iter env x >>= fun x => standAt iter.pos >>= fun _ => holding [x] (pyIter x) >>= fun it => runOwn (.forLoop target it body orelse env) env).wrap K H gd lv) fs s
  rw [Sem.bind_eq_wrap', Sem.wrap_wrap]
  refine sg_wrap (wpAny_mono h (fun x s₁ hx => ?_) fun _ _ x => x)
  rw [hs x]
  show Seg (model prog w) A R Y n s₀ c (.at iter.pos fun _ => (holding [x] (pyIter x) >>= fun it => runOwn (.forLoop target it body orelse env) env).wrap K H gd lv) fs s₁
  refine seg_at ?_
  rw [Sem.bind_eq_wrap', Sem.wrap_wrap]
  refine sg_wrap (wpAny_holding (wpAny_mono hx (fun it s₂ hy => ?_) fun _ _ x => x))
  exact sg_own hy
def kTurn (cd : Code) (f : Flow) : Sem Fin := match f with
  | .next | .cont => .pure (.again cd)
  | .brk => .pure (.done .next)
  | .ret v => .pure (.done (.ret v))
theorem sg_forTurn {target : Expr} {it : Value} {body orelse : List Stmt} (H' : Value → Sem Fin) (hH : H' = fun x => (do noteFrame x env; theTreesLotGoes x : Sem Unit).bind fun _ => .raise x)
    (h : wpAny (model prog w) (A.over (.forLoop target it body orelse env) fs) (pyNext it) (fun o s₁ => match o with
      | none => Seg (model prog w) A R Y n s₀ (.block orelse env) ((model prog w).den (.block orelse env)) fs s₁
      | some v => wpAny (model prog w) (A.over (.forLoop target it body orelse env) fs) (letOwnedTupleGo target it v) (fun _ s₂ => wpAny (model prog w) (A.over (.forLoop target it body orelse env) fs) (assign target env v) (fun _ s₃ =>
          Seg (model prog w) A R Y n s₀ (.forLoop target it body orelse env) ((execs body env).wrap (kTurn (.forLoop target it body orelse env)) H' id id) fs s₃) NoE s₂) NoE s₁) NoE s) :
    Seg (model prog w) A R Y n s₀ (.forLoop target it body orelse env) ((model prog w).den (.forLoop target it body orelse env)) fs s := by
  show Seg _ A R Y n s₀ _ ((forTurn target it body orelse env).onRaise (fun x => do noteFrame x env; theTreesLotGoes x)) fs s
  unfold forTurn
  rw [Sem.onRaise_eq_wrap]
  refine sg_bw (wpAny_standAt ?_)
  refine sg_bw (wpAny_onRaise (wpAny_mono h (fun o s₁ ho => ?_) fun _ _ x => x.elim))
  cases o with
  | none => exact seg_again rfl ho
  | some v =>
    refine sg_bw (wpAny_mono ho (fun _ s₂ h₂ => ?_) fun _ _ x => x)
    refine sg_bw (wpAny_mono h₂ (fun _ s₃ h₃ => ?_) fun _ _ x => x)
    rw [Sem.bind_eq_wrap', Sem.wrap_wrap]
    rw [Sem.wrap_congr (execs body env) _ _ (K' := kTurn (.forLoop target it body orelse env)) (H' := H') (fun f => by cases f <;> rfl) (fun e => by rw [hH]; rfl)]
    exact h₃
theorem sg_block {stmts : List Stmt} (H' : Value → Sem Fin) (hH : H' = fun x => (do noteFrame x env; theTreesLotGoes x : Sem Unit).bind fun _ => .raise x)
    (h : Seg (model prog w) A R Y n s₀ (.block stmts env) ((execs stmts env).wrap (fun f => .pure (.done f)) H' id id) fs s) :
    Seg (model prog w) A R Y n s₀ (.block stmts env) ((model prog w).den (.block stmts env)) fs s := by
  show Seg _ A R Y n s₀ _ (((execs stmts env).onRaise (fun x => do noteFrame x env; theTreesLotGoes x)) >>= _) fs s
  rw [Sem.onRaise_eq_wrap, Sem.bind_eq_wrap', Sem.wrap_wrap]
  rw [Sem.wrap_congr (execs stmts env) _ _ (K' := fun f => .pure (.done f)) (H' := H') (fun f => by cases f <;> rfl) (fun e => by
      rw [hH, Sem.bind_eq_wrap, Sem.wrap_wrap]
      show _ = Sem.bind (do noteFrame e env; theTreesLotGoes e : Sem Unit) (fun _ => Sem.raise e)
      rw [Sem.bind_eq_wrap]; rfl)]
  exact h
theorem sgo_plain {A' : Around} (hov : A.over c fs = A') {st : Stmt} {rest : List Stmt}
    (h : wpAny (model prog w) A' (exec st env) (fun f s' => Seg (model prog w) A R Y n s₀ c (match f with | .next => (execs rest env).wrap K H gd lv | f => K f) fs s') NoE s) :
    Seg (model prog w) A R Y n s₀ c ((execs (st :: rest) env).wrap K H gd lv) fs s := sg_plain (hov ▸ h)
theorem sgo_If {A' : Around} (hov : A.over c fs = A') {test : Expr} {body orelse : List Stmt} {pos : Pos}
    (h : wpAny (model prog w) A' (isTrue test env (eval test env)) (fun b s' => Seg (model prog w) A R Y n s₀ c (bif b then (execs body env).wrap K H gd lv else (execs orelse env).wrap K H gd lv) fs s') NoE s) :
    Seg (model prog w) A R Y n s₀ c ((exec (.If test body orelse pos) env).wrap K H gd lv) fs s := sg_If (hov ▸ h)
theorem sgo_whileLoop {A' : Around} {test : Expr} {body : List Stmt} (hov : A.over (.whileLoop test body [] env) fs = A') (H' : Value → Sem Fin) (hH : H' = fun e => (do noteFrame e env; theTreesLotGoes e : Sem Unit).wrap (fun _ => .raise e) .raise id id)
    (h : wpAny (model prog w) A' (isTrue test env (eval test env)) (fun b s' => b = true ∧
          Seg (model prog w) A R Y n s₀ (.whileLoop test body [] env) ((execs body env).wrap (kTurn (.whileLoop test body [] env)) H' id id) fs s') NoE s) :
    Seg (model prog w) A R Y n s₀ (.whileLoop test body [] env) ((model prog w).den (.whileLoop test body [] env)) fs s := by
  refine seg_whileLoop (wpAny_mono (hov ▸ h) (fun b s' hb => ?_) fun _ _ x => x.elim)
  rw [if_pos hb.1]
  subst hH
  exact hb.2
theorem sgo_For {A' : Around} (hov : A.over c fs = A') {target iter : Expr} {body orelse : List Stmt} {pos : Pos} 
    (h : wpAny (model prog w) A' (eval iter env) (fun x s₁ => wpAny (model prog w) A' (pyIter x) (fun it s₂ =>
      ∀ p, Seg (model prog w) A R Y n s₀ (.forLoop target it body orelse env) ((model prog w).den (.forLoop target it body orelse env)) (.ret (kOwn env K H gd lv) none (gd false) (lv []) c p [] :: fs) s₂) NoE s₁) NoE s) (hs : ∀ x, foldedSetIterable iter env x = pure x := by intro _; rfl) :
    Seg (model prog w) A R Y n s₀ c ((exec (.For target iter body orelse pos) env).wrap K H gd lv) fs s := sg_For hs (by rw [hov]; exact h)
end
end Mine
end
section
open PySem PySem.W PyProof.Rows PySem.Calls
namespace Mine
/-- a token told: its place, its kind's names, its letter -/
structure LTok where
  pos : Nat
  names : List Str
  val : Nat
inductive Act where
  | none
  | pop (k : Nat)
  | push
  | go (ts : List Str)
structure Row where
  pat : Option Nat
  kind : List Str
  act : Act
def goOne (st : List Str) (t : Str) : List Str :=
  if t = Str.ofString "#pop" then (if st.length > 1 then st.dropLast else st)
  else if t = Str.ofString "#push" then st ++ [st.getLastD (Str.ofString "")] else st ++ [t]
def doAct (st : List Str) : Act → List Str
  | .none => st
  | .pop k => if k ≥ st.length then st.take 1 else st.take (st.length - k)
  | .push => st ++ [st.getLastD (Str.ofString "")]
  | .go ts => ts.foldl goOne st
def Row.meets (r : Row) (rest : List Nat) : Bool := match r.pat with
  | none => true
  | some c => rest.head? == some c
abbrev Tab := Str → Option (List Row)
def wsNames : List Str := [Str.ofString "Text", Str.ofString "Whitespace"]
def errNames : List Str := [Str.ofString "Error"]
def lex (T : Tab) : Nat → List Str → List Nat → Nat → Option (List LTok)
  | 0, _, _, _ => none
  | n + 1, st, rest, pos => match T (st.getLastD (Str.ofString "")) with
    | none => none
    | some rows => match rows.find? (·.meets rest) with
      | some r => match r.pat, rest with
        | none, _ => lex T n (doAct st r.act) rest pos
        | some c, _ :: rest' => (lex T n (doAct st r.act) rest' (pos + 1)).map (⟨pos, r.kind, c⟩ :: ·)
        | some _, [] => none
      | none => match rest with
        | [] => some []
        | c :: rest' => if c = 10 then (lex T n [Str.ofString "root"] rest' (pos + 1)).map (⟨pos, wsNames, 10⟩ :: ·)
          else (lex T n st rest' (pos + 1)).map (⟨pos, errNames, c⟩ :: ·)
abbrev lstN (items : List Value) (n : Nat) : Obj := { cls := .type "list", data := .seq items.toArray n }
def KindAt (CT : Addr) (h : Heap) (k : Addr) (ns : List Str) : Prop :=
  ∃ dk hsh tk nt vs, h.get? k = some (instObj CT dk) ∧ h.get? dk = some (dictOf [⟨hsh, .str (Str.ofString "names") tk, .ref nt⟩] 1) ∧ IsTup h nt vs.toArray ∧ StrsAre vs ns
def PatAt (CP fM : Addr) (h : Heap) (q : Addr) (c : Nat) : Prop :=
  ∃ x dx hsh tk r r1 tk2, h.get? q = some (methodObj (.ref fM) (.ref x)) ∧ h.get? x = some (instObj CP dx) ∧ h.get? dx = some (dictOf [⟨hsh, .str (Str.ofString "rows") tk, .ref r⟩] 1) ∧
    h.IsList r #[.ref r1] ∧ h.IsList r1 #[.str ⟨#[c]⟩ tk2]
def ActAt (h : Heap) (v : Value) : Act → Prop
  | .none => v = .none
  | .pop k => 1 ≤ k ∧ k ≤ 100 ∧ ∃ t, v = .int (-(k : Int)) t
  | .push => ∃ t, v = .str (Str.ofString "#push") t
  | .go ts => ∃ a vs, v = .ref a ∧ IsTup h a vs.toArray ∧ StrsAre vs ts ∧ ts.length ≤ 100
def RowAt (CT CP fM fN : Addr) (h : Heap) (v : Value) (r : Row) : Prop :=
  ∃ t x y z, v = .ref t ∧ IsTup h t #[x, y, z] ∧ ActAt h z r.act ∧
    match r.pat with
    | some c => ∃ q k, x = .ref q ∧ y = .ref k ∧ PatAt CP fM h q c ∧ KindAt CT h k r.kind
    | none => x = .ref fN ∧ y = .none
inductive RowsAt (CT CP fM fN : Addr) (h : Heap) : List Value → List Row → Prop
  | nil : RowsAt CT CP fM fN h [] []
  | cons {v r vs rs} : RowAt CT CP fM fN h v r → RowsAt CT CP fM fN h vs rs → RowsAt CT CP fM fN h (v :: vs) (r :: rs)
def TableAt (prog : Program) (w : World) (CT CP fM fN : Addr) (h : Heap) (a : Addr) (T : Tab) : Prop :=
  ∃ f, h.MapOf (strKind prog w) a f ∧ ∀ name rows, T name = some rows → ∃ l vs, f name = some (.ref l) ∧ h.IsList l vs.toArray ∧ RowsAt CT CP fM fN h vs rows
/-- a token's tuple -/
def TokAt (CT : Addr) (h₀ h : Heap) (v : Value) (k : LTok) : Prop :=
  ∃ t x tk tk2, v = .ref t ∧ IsTup h t #[.int (k.pos : Int) tk, .ref x, .str ⟨#[k.val]⟩ tk2] ∧ KindAt CT h₀ x k.names
/-- the list that the generator's frame calls its stack -/
def OwnS (Lg : Addr) (h : Heap) (S : Option Addr) : Prop := ∃ m, h.Ns Lg m ∧ match S with
  | some a => m (Str.ofString "statestack") = some (.ref a)
  | none => m (Str.ofString "statestack") = none
def Since (Lg : Addr) (S : Option Addr) (h h' : Heap) : Prop := ∀ b o, b ≠ Lg → some b ≠ S → h.get? b = some o → h'.get? b = some o
theorem Since.refl {Lg S h} : Since Lg S h h := fun _ _ _ _ e => e
theorem Since.step {Lg S h h' h''} (a : Since Lg S h h') (k : ∀ b o, h'.get? b = some o → b ≠ Lg → some b ≠ S → h''.get? b = some o) : Since Lg S h h'' := fun b o hb hs e => k b o (a b o hb hs e) hb hs
def genY (CT : Addr) (h₀ : Heap) (Lg : Addr) (all : List LTok) : Protocol := fun n s₀ v s' kap =>
  ∃ tok S₀ S, all[all.length - (n + 1)]? = some tok ∧ n + 1 ≤ all.length ∧ OwnS Lg s₀.heap S₀ ∧ OwnS Lg s'.heap (some S) ∧ (S₀ = some S ∨ s₀.heap.get? S = none) ∧ Since Lg S₀ s₀.heap s'.heap ∧ TokAt CT h₀ s'.heap v tok ∧ ((s'.gens = s₀.gens ∧ s'.os = s₀.os) ∧ ∃ o, s'.heap.get? S = some o) ∧
    ∀ s'' : Shared, (∀ o, s'.heap.get? Lg = some o → s''.heap.get? Lg = some o) → (∀ o, s'.heap.get? S = some o → s''.heap.get? S = some o) → (∀ b o, h₀.get? b = some o → s''.heap.get? b = some o) → (∀ b o, s₀.heap.get? b = none → s'.heap.get? b = some o → s''.heap.get? b = some o) → kap (.send .none) s''
def genP (Lg : Addr) : Nat → Shared → Shared → Prop := fun n s₀ s₁ => n = 0 ∧ (s₁.gens = s₀.gens ∧ s₁.os = s₀.os) ∧ ∃ S₀, OwnS Lg s₀.heap S₀ ∧ Since Lg S₀ s₀.heap s₁.heap
def genR (Lg : Addr) : GenEnd := fun n s₀ r s₁ => r = .ok (.ret .none) ∧ genP Lg n s₀ s₁
theorem lex_top {T : Tab} {n : Nat} {st : List Str} {rest : List Nat} {pos : Nat} {ts : List LTok} (h : lex T n st rest pos = some ts) : ∃ k rows, n = k + 1 ∧ T (st.getLastD (Str.ofString "")) = some rows := by
  cases n with
  | zero => cases h
  | succ k =>
    unfold lex at h
    cases q : T (st.getLastD (Str.ofString "")) with
    | none => rw [q] at h; cases h
    | some rows => exact ⟨k, rows, rfl, rfl⟩
section
variable {prog : Program} {w : World} {A : Around} {E : Value → Shared → Prop} {s : Shared} {h₀ : Heap} {L a : Addr} {m : Str → Option Value} {Q : Value → Shared → Prop}
theorem tab_item {value slice : Expr} {f : Str → Option Value} {x : Str} {t : PySem.Tok} {v : Value} (F : Fr h₀ L s.heap m) (hm : h₀.MapOf (strKind prog w) a f) (hv : f x = some v) (h : Q v { s with toks := s.toks + 1 })
    (hs : subscripted slice false (.ref a) (.str x t) = operate [.ref a, .str x t] (getItem (.ref a) (.str x t)) := by with_unfolding_all rfl) :
    wpAny (model prog w) A (subscriptTail value slice (.ref a) (.str x t)) Q E s :=
  have hm' : s.heap.MapOf (strKind prog w) a f := let ⟨o, es, ep, ho, r⟩ := hm; ⟨o, es, ep, F.keep _ _ ho, r⟩
  tail_any hm'.typeIs slot_dict_getitem.lookup (wpAny_getItem_of (strKind_is prog w x t) hm' hv h) hs
theorem stk_last {value slice : Expr} {items : List Value} {t : PySem.Tok} {v : Value} (hl : s.heap.IsList a items.toArray) (hv : items.getLast? = some v) (h : Q v s)
    (hs : subscripted slice false (.ref a) (.int (-1) t) = operate [.ref a, .int (-1) t] (getItem (.ref a) (.int (-1) t)) := by with_unfolding_all rfl) :
    wpAny (model prog w) A (subscriptTail value slice (.ref a) (.int (-1) t)) Q E s := by
  have hne : items ≠ [] := by rintro rfl; cases hv
  have hp : 0 < items.length := List.length_pos_iff.mpr hne
  refine tail_any hl.typeIs slot_list_getitem.lookup (wpAny_getItem_list_neg hl (by omega) (by simp; omega) (by decide) ?_ h) hs
  have e : ((-1 : Int) + (items.toArray.size : Int)).toNat = items.length - 1 := by simp; omega
  rw [e, List.getElem?_toArray, ← List.getLast?_eq_getElem?]
  exact hv
end
/-- every object that stood, but the generator's own, is in the base or in the ledger's rest -/
def Cover (h₀ : Heap) (Lg : Addr) (S₀ : Option Addr) (hs : Heap) (rest : List (Addr × Obj)) : Prop := ∀ b o, b ≠ Lg → some b ≠ S₀ → hs.get? b = some o → h₀.get? b = some o ∨ (b, o) ∈ rest
theorem Cover.since {h₀ h hs : Heap} {Lg L : Addr} {S₀ : Option Addr} {rest news : List (Addr × Obj)} {m : Str → Option Value} (C : Cover h₀ Lg S₀ hs rest) (F : Fr h₀ L h m) (N : News h₀ L h news) (sub : ∀ p ∈ rest, p ∈ news) : Since Lg S₀ hs h := fun b o h1 h2 e => by
  rcases C b o h1 h2 e with q | q
  · exact F.keep _ _ q
  · exact (N _ (sub _ q)).1
theorem cover_exists (h₀ hs : Heap) (Lg : Addr) (S₀ : Option Addr) (hk : Keeps h₀ hs) : ∃ rest : List (Addr × Obj), News h₀ Lg hs rest ∧ (∀ p ∈ rest, some p.1 ≠ S₀) ∧ Cover h₀ Lg S₀ hs rest := by
  refine ⟨(List.range hs.objs.size).filterMap fun b => if b = Lg ∨ some b = S₀ ∨ (h₀.get? b).isSome then none else (hs.get? b).map fun o => (b, o), ?_, ?_, ?_⟩
  · intro p hp
    obtain ⟨b, hb, e⟩ := List.mem_filterMap.mp hp
    split at e
    · cases e
    · rename_i hn
      cases q : hs.get? b with
      | none => rw [q] at e; cases e
      | some o =>
        rw [q] at e
        cases e
        refine ⟨q, fun z => hn (.inl z), ?_⟩
        cases z : h₀.get? b with
        | none => rfl
        | some o' => exact absurd (.inr (.inr (by rw [z]; rfl))) hn
  · intro p hp
    obtain ⟨b, hb, e⟩ := List.mem_filterMap.mp hp
    split at e
    · cases e
    · rename_i hn
      cases q : hs.get? b with
      | none => rw [q] at e; cases e
      | some o =>
        rw [q] at e
        cases e
        exact fun z => hn (.inr (.inl z))
  · intro b o h1 h2 e
    cases z : h₀.get? b with
    | some o' => left; have := hk _ _ z; rw [e] at this; exact this.symm
    | none =>
      right
      refine List.mem_filterMap.mpr ⟨b, List.mem_range.mpr (Heap.lt_size e), ?_⟩
      rw [if_neg (by rw [z]; simp [h1, h2]), e]
      rfl
theorem Cover.fresh {h₀ h hs : Heap} {Lg S : Addr} {S₀ : Option Addr} {rest : List (Addr × Obj)} (C : Cover h₀ Lg S₀ hs rest) (hL : S ≠ Lg) (h0 : h₀.get? S = none) (off : ∀ p ∈ rest, p.1 ≠ S) : S₀ = some S ∨ hs.get? S = none := by
  by_cases e : some S = S₀
  · exact .inl e.symm
  · right
    cases q : hs.get? S with
    | none => rfl
    | some o =>
      rcases C S o hL e q with z | z
      · rw [h0] at z; cases z
      · exact absurd rfl (off _ z)
/-- what stands at the head of the generator's while -/
def GI (CT CP fM fN : Addr) (TT : Tab) (h₀ : Heap) (Lg tab : Addr) (text : Str) (st : List Str) (pos : Nat) (hs h : Heap) : Prop :=
  ∃ m S items ne l vs rows t t1 S₀ rest, Fr h₀ Lg h m ∧ News h₀ Lg h ((S, lstN items ne) :: rest) ∧ (∀ p ∈ rest, p.1 ≠ S) ∧ StrsAre items st ∧
    m (Str.ofString "text") = some (.str text t1) ∧ m (Str.ofString "tokendefs") = some (.ref tab) ∧ m (Str.ofString "statestack") = some (.ref S) ∧ m (Str.ofString "statetokens") = some (.ref l) ∧
    m (Str.ofString "pos") = some (.int (pos : Int) t) ∧ h₀.IsList l vs.toArray ∧ RowsAt CT CP fM fN h₀ vs rows ∧ TT (st.getLastD (Str.ofString "")) = some rows ∧ (pos ≤ text.length ∧ st ≠ []) ∧
    OwnS Lg hs S₀ ∧ Cover h₀ Lg S₀ hs rest ∧ (S₀ = none ∨ S₀ = some S) ∧ (S₀ = some S ∨ hs.get? S = none)
theorem goOne_ne {st : List Str} {t : Str} (h : st ≠ []) : goOne st t ≠ [] := by
  unfold goOne
  split
  · split
    · rename_i q
      intro e
      have := congrArg List.length e
      simp at this; omega
    · exact h
  · split <;> simp
theorem goAll_ne : ∀ (ts : List Str) {st : List Str}, st ≠ [] → ts.foldl goOne st ≠ []
  | [], _, h => h
  | t :: r, _, h => goAll_ne r (goOne_ne h)
theorem doAct_ne {st : List Str} {a : Act} (h : st ≠ []) : doAct st a ≠ [] := by
  have hl : 0 < st.length := List.length_pos_iff.mpr h
  cases a with
  | none => exact h
  | pop k =>
    show (if k ≥ st.length then st.take 1 else st.take (st.length - k)) ≠ []
    split
    · intro e; have := congrArg List.length e; rw [List.length_take] at this; simp only [List.length_nil] at this; omega
    · intro e; have := congrArg List.length e; rw [List.length_take] at this; simp only [List.length_nil] at this; omega
  | push => show st ++ _ ≠ []; simp
  | go ts => exact goAll_ne ts h
theorem goOne_len (st : List Str) (t : Str) : (goOne st t).length ≤ st.length + 1 := by
  unfold goOne
  split
  · split
    · simp; omega
    · omega
  · split <;> simp
theorem goAll_len : ∀ (ts : List Str) (st : List Str), (ts.foldl goOne st).length ≤ st.length + ts.length
  | [], st => by simp
  | t :: r, st => by
    have := goAll_len r (goOne st t)
    have := goOne_len st t
    show (r.foldl goOne (goOne st t)).length ≤ _
    simp only [List.length_cons]
    omega
theorem strs_last {items : List Value} {st : List Str} (h : StrsAre items st) (hne : st ≠ []) : ∃ tk, items.getLast? = some (.str (st.getLastD (Str.ofString "")) tk) := by
  induction h with
  | nil => exact absurd rfl hne
  | @cons x t vs ss h' ih =>
    cases h' with
    | nil => exact ⟨_, rfl⟩
    | cons y u h'' =>
      obtain ⟨tk, e⟩ := ih (by simp)
      exact ⟨tk, by rw [List.getLast?_cons_cons, e]; simp [List.getLastD]⟩
theorem strs_take {items : List Value} {st : List Str} (h : StrsAre items st) (j : Nat) : StrsAre (items.take j) (st.take j) := by
  induction h generalizing j with
  | nil => simp; exact .nil
  | cons x t h' ih =>
    cases j with
    | zero => exact .nil
    | succ j => exact .cons _ _ (ih j)
theorem strs_get {items : List Value} {st : List Str} (h : StrsAre items st) {i : Nat} {v : Value} (hv : items[i]? = some v) : ∃ t tk, st[i]? = some t ∧ v = .str t tk := by
  induction h generalizing i with
  | nil => simp at hv
  | cons x t h' ih =>
    cases i with
    | zero => exact ⟨x, t, rfl, by simpa using hv.symm⟩
    | succ i => simpa using ih (by simpa using hv)
theorem goAll_step {ts st : List Str} {i : Nat} {t : Str} (h : ts[i]? = some t) : (ts.take (i + 1)).foldl goOne st = goOne ((ts.take i).foldl goOne st) t := by
  rw [List.take_add_one, h]
  simp
theorem strs_drop {items : List Value} {st : List Str} (h : StrsAre items st) : StrsAre items.dropLast st.dropLast := by
  induction h with
  | nil => exact .nil
  | @cons x t vs ss h' ih =>
    cases h' with
    | nil => exact .nil
    | cons y u h'' => exact .cons _ _ ih
theorem go_pop1 {st : List Str} {t : Str} (h : (t == Str.ofString "#pop") = true) (hl : 1 < st.length) : goOne st t = st.dropLast := by
  unfold goOne; rw [if_pos (eq_of_beq h), if_pos hl]
theorem go_pop0 {st : List Str} {t : Str} (h : (t == Str.ofString "#pop") = true) (hl : ¬ 1 < st.length) : goOne st t = st := by
  unfold goOne; rw [if_pos (eq_of_beq h), if_neg hl]
theorem go_push {st : List Str} {t : Str} (h' : (t == Str.ofString "#pop") = false) (h2 : (t == Str.ofString "#push") = true) : goOne st t = st ++ [st.getLastD (Str.ofString "")] := by
  have h : ¬ (t == Str.ofString "#pop") = true := by rw [h']; exact Bool.false_ne_true
  unfold goOne; rw [if_neg (fun e => h (by rw [e]; exact beq_self_eq_true _)), if_pos (eq_of_beq h2)]
theorem go_else {st : List Str} {t : Str} (h' : (t == Str.ofString "#pop") = false) (h2' : (t == Str.ofString "#push") = false) : goOne st t = st ++ [t] := by
  have h : ¬ (t == Str.ofString "#pop") = true := by rw [h']; exact Bool.false_ne_true
  have h2 : ¬ (t == Str.ofString "#push") = true := by rw [h2']; exact Bool.false_ne_true
  unfold goOne; rw [if_neg (fun e => h (by rw [e]; exact beq_self_eq_true _)), if_neg (fun e => h2 (by rw [e]; exact beq_self_eq_true _))]
theorem strs_len {items : List Value} {st : List Str} (h : StrsAre items st) : items.length = st.length := by
  induction h with
  | nil => rfl
  | cons x t h' ih => simp [ih]
theorem strs_app {items vs : List Value} {st ss : List Str} (h : StrsAre items st) (h2 : StrsAre vs ss) : StrsAre (items ++ vs) (st ++ ss) := by
  induction h with
  | nil => exact h2
  | cons x t h' ih => exact .cons _ _ ih
theorem ne_of_allLt {D : Addr} {l : List (Addr × Obj)} : AllLt D l → ∀ p ∈ l, p.1 ≠ D := by
  induction l with
  | nil => intro _ p hp; cases hp
  | cons q r ih =>
    intro h p hp
    rcases List.mem_cons.mp hp with e | hp
    · rw [e]; exact Nat.ne_of_lt h.1
    · exact ih h.2 p hp
theorem ne_of_allL {D : Addr} {l : List (Addr × Obj)} (h : ∀ p ∈ l, p.1 < D) : ∀ p ∈ l, p.1 ≠ D := fun p hp => Nat.ne_of_lt (h p hp)
def LoopGoal (prog : Program) (w : World) (A : Around) (CT CP fM fN : Addr) (TT : Tab) (h₀ : Heap) (Lg tab : Addr) (text : Str) (all : List LTok) (cW : Code) (FS : List Frame) (k : Nat) : Prop :=
  ∀ st pos toks s₀ s, lex TT k st (text.cps.toList.drop pos) pos = some toks → toks.length ≤ all.length → all.drop (all.length - toks.length) = toks → st.length + 100 * k ≤ 1000000 → (s.gens = s₀.gens ∧ s.os = s₀.os) →
    GI CT CP fM fN TT h₀ Lg tab text st pos s₀.heap s.heap →
    Seg (model prog w) A (genR Lg) (genY CT h₀ Lg all) toks.length s₀ cW ((model prog w).den cW) FS s
theorem loop_intro {prog : Program} {w : World} {A : Around} {CT CP fM fN : Addr} {TT : Tab} {h₀ : Heap} {Lg tab : Addr} {text : Str} {all : List LTok} {cW : Code} {FS : List Frame} {k : Nat} {s₀ s : Shared}
    (st : List Str) (hlex : lex TT k st text.cps.toList 0 = some all) (hst : st.length + 100 * k ≤ 1000000) (hgo : s.gens = s₀.gens ∧ s.os = s₀.os) (hG : GI CT CP fM fN TT h₀ Lg tab text st 0 s₀.heap s.heap)
    (step : ∀ k, LoopGoal prog w A CT CP fM fN TT h₀ Lg tab text all cW FS k → LoopGoal prog w A CT CP fM fN TT h₀ Lg tab text all cW FS (k + 1)) :
    Seg (model prog w) A (genR Lg) (genY CT h₀ Lg all) all.length s₀ cW ((model prog w).den cW) FS s := by
  have go : ∀ k, LoopGoal prog w A CT CP fM fN TT h₀ Lg tab text all cW FS k := by
    intro k
    induction k with
    | zero => intro st pos toks s₀ s h; cases h
    | succ k ih => exact step k ih
  exact go k st 0 all s₀ s (by simpa using hlex) (Nat.le_refl _) (by simp) hst hgo hG
end Mine
end
section
open PySem PySem.W PyProof.Rows PySem.Calls
set_option maxRecDepth 100000
namespace Mine
def ItL (it : Obj) (l : Addr) (i : Nat) : Prop := it.cls = .type "list_iterator" ∧ it.data = .fields #[.ref l, .int i 0]
theorem Fr.re {h₀ h : Heap} {L : Addr} {m m' : Str → Option Value} (F : Fr h₀ L h m) (e : ∀ y, m' y = m y) : Fr h₀ L h m' := (funext e : m' = m) ▸ F
section
variable {prog : Program} {w : World} {A : Around} {R : GenEnd} {Y : Protocol} {n : Nat} {s₀ : Shared} {c : Code} {fs : List Frame} {s : Shared} {env : Env}
  {h₀ : Heap} {Lg l I : Addr} {m : Str → Option Value} {news : List (Addr × Obj)}
theorem it_start {A' : Around} {E : Value → Shared → Prop} {vs : List Value} {Q : Value → Shared → Prop} (hl : h₀.IsList l vs.toArray) (F : Fr h₀ Lg s.heap m) (N : News h₀ Lg s.heap news)
    (h : ∀ I it h' tk, ItL it l 0 → (∀ p ∈ news, p.1 < I) → Fr h₀ Lg h' m → News h₀ Lg h' ((I, it) :: news) → Q (.ref I) { s with heap := h', toks := tk }) : wpAny (model prog w) A' (pyIter (.ref l)) Q E s := by
  have hls : s.heap.IsList l vs.toArray := hl.at fun o e => F.keep l o e
  refine wpAny_pyIter_list hls (h _ { cls := .type "list_iterator", data := .fields #[.ref l, .int 0 0] } _ s.toks ⟨rfl, rfl⟩ (fun p hp => Heap.lt_size (N p hp).1) (F.push _) (fun p hp => ?_))
  rcases List.mem_cons.mp hp with rfl | hp
  · exact ⟨Heap.get?_push_size _ rfl, Nat.ne_of_gt F.ns.lt, F.fresh⟩
  · exact ⟨Heap.get?_push_of_some _ (N p hp).1, (N p hp).2⟩
theorem forRow {A' : Around} {elts : List Expr} {x1} {tpos : Pos} {body orelse : List Stmt} {i : Nat} {vs : List Value} (hov : A.over (.forLoop (.Tuple elts x1 tpos) (.ref I) body orelse env) fs = A') (hh : A'.handled = none)
    (H' : Value → Sem Fin) (hH : H' = fun x => (do noteFrame x env; theTreesLotGoes x : Sem Unit).bind fun _ => .raise x)
    (hl : h₀.IsList l vs.toArray) (F : Fr h₀ Lg s.heap m) {it : Obj} (hit0 : ItL it l i) (N : News h₀ Lg s.heap ((I, it) :: news)) (off : ∀ p ∈ news, p.1 ≠ I)
    (hend : vs[i]? = none → ∀ h' tk, Fr h₀ Lg h' m → News h₀ Lg h' news → Seg (model prog w) A R Y n s₀ (.block orelse env) ((model prog w).den (.block orelse env)) fs { s with heap := h', toks := tk })
    (hturn : ∀ v, vs[i]? = some v → (∃ t, v = .ref t) ∧ ∀ it' h' tk, ItL it' l (i + 1) → Fr h₀ Lg h' m → News h₀ Lg h' ((I, it') :: news) → wpAny (model prog w) A' (assign (.Tuple elts x1 tpos) env v) (fun _ s₃ =>
          Seg (model prog w) A R Y n s₀ (.forLoop (.Tuple elts x1 tpos) (.ref I) body orelse env) ((execs body env).wrap (kTurn (.forLoop (.Tuple elts x1 tpos) (.ref I) body orelse env)) H' id id) fs s₃) NoE { s with heap := h', toks := tk }) :
    Seg (model prog w) A R Y n s₀ (.forLoop (.Tuple elts x1 tpos) (.ref I) body orelse env) ((model prog w).den (.forLoop (.Tuple elts x1 tpos) (.ref I) body orelse env)) fs s := by
  have hls : s.heap.IsList l vs.toArray := hl.at fun o e => F.keep l o e
  have hlI : l ≠ I := fun e => by
    obtain ⟨o, ho, _⟩ := hl
    have := (N (I, it) (List.mem_cons_self ..)).2.2
    rw [← e, ho] at this; cases this
  have hLI : I ≠ Lg := (N (I, it) (List.mem_cons_self ..)).2.1
  refine sg_forTurn H' hH ?_
  rw [hov]
  have hI0 := (N (I, it) (List.mem_cons_self ..)).2.2
  cases q : vs[i]? with
  | none =>
    refine wpAny_pyNext_list_end hh ⟨_, (N _ (List.mem_cons_self ..)).1, hit0.1, hit0.2⟩ hls (by simpa using q) fun h' he => ?_
    refine hend q h' s.toks ⟨F.ns.at' (fun o e => he _ _ hLI.symm e), fun b o e => he b o (fun z => ?_) (F.keep b o e), F.above⟩ (fun p hp => ⟨he _ _ (off p hp) (N p (List.mem_cons_of_mem _ hp)).1, (N p (List.mem_cons_of_mem _ hp)).2⟩)
    rw [z, hI0] at e; cases e
  | some v =>
    obtain ⟨⟨t, rfl⟩, hv⟩ := hturn v q
    refine wpAny_pyNext_list_item ⟨_, (N _ (List.mem_cons_self ..)).1, hit0.1, hit0.2⟩ hls (by simpa using q) fun h' hit hs => ?_
    refine wpAny_letOwnedTupleGo_listiter hit ?_
    obtain ⟨o, ho, hc, hd⟩ := id hit
    refine hv o h' s.toks ⟨hc, hd⟩ (F.change hs hLI hI0) fun p hp => ?_
    rcases List.mem_cons.mp hp with rfl | hp
    · exact ⟨ho, hLI, hI0⟩
    · exact ⟨(hs.2 _ (off p hp)).trans (N p (List.mem_cons_of_mem _ hp)).1, (N p (List.mem_cons_of_mem _ hp)).2⟩
theorem rows_intro {A' : Around} {CT CP fM fN : Addr} {elts : List Expr} {x1} {tpos : Pos} {body orelse : List Stmt} {vs : List Value} {rows : List Row} {it : Obj} {txt : List Nat} (hov : A.over (.forLoop (.Tuple elts x1 tpos) (.ref I) body orelse env) fs = A') (hh : A'.handled = none)
    (H' : Value → Sem Fin) (hH : H' = fun x => (do noteFrame x env; theTreesLotGoes x : Sem Unit).bind fun _ => .raise x)
    (P : (Str → Option Value) → Prop) (hgo : s.gens = s₀.gens ∧ s.os = s₀.os) (hP : P m) (hl : h₀.IsList l vs.toArray) (hrows : RowsAt CT CP fM fN h₀ vs rows) (F : Fr h₀ Lg s.heap m) (hit0 : ItL it l 0) (N : News h₀ Lg s.heap ((I, it) :: news)) (off : ∀ p ∈ news, p.1 ≠ I)
    (hend : ∀ m' s', (s'.gens = s₀.gens ∧ s'.os = s₀.os) → P m' → Fr h₀ Lg s'.heap m' → News h₀ Lg s'.heap news → rows.find? (·.meets txt) = none → Seg (model prog w) A R Y n s₀ (.block orelse env) ((model prog w).den (.block orelse env)) fs s')
    (hturn : ∀ t r m' it' s', RowAt CT CP fM fN h₀ (.ref t) r → (s'.gens = s₀.gens ∧ s'.os = s₀.os) → P m' → Fr h₀ Lg s'.heap m' → News h₀ Lg s'.heap ((I, it') :: news) → (r.meets txt = true → rows.find? (·.meets txt) = some r) →
       (r.meets txt = false → ∀ m'' s'', (s''.gens = s₀.gens ∧ s''.os = s₀.os) → P m'' → Fr h₀ Lg s''.heap m'' → News h₀ Lg s''.heap ((I, it') :: news) →
           Seg (model prog w) A R Y n s₀ (.forLoop (.Tuple elts x1 tpos) (.ref I) body orelse env) ((model prog w).den (.forLoop (.Tuple elts x1 tpos) (.ref I) body orelse env)) fs s'') →
       wpAny (model prog w) A' (assign (.Tuple elts x1 tpos) env (.ref t)) (fun _ s₃ =>
          Seg (model prog w) A R Y n s₀ (.forLoop (.Tuple elts x1 tpos) (.ref I) body orelse env) ((execs body env).wrap (kTurn (.forLoop (.Tuple elts x1 tpos) (.ref I) body orelse env)) H' id id) fs s₃) NoE s') :
    Seg (model prog w) A R Y n s₀ (.forLoop (.Tuple elts x1 tpos) (.ref I) body orelse env) ((model prog w).den (.forLoop (.Tuple elts x1 tpos) (.ref I) body orelse env)) fs s := by
  have go : ∀ vs₂ rows₂, RowsAt CT CP fM fN h₀ vs₂ rows₂ → ∀ vs₁ m it s, vs = vs₁ ++ vs₂ → rows.find? (·.meets txt) = rows₂.find? (·.meets txt) → (s.gens = s₀.gens ∧ s.os = s₀.os) → P m → Fr h₀ Lg s.heap m → ItL it l vs₁.length → News h₀ Lg s.heap ((I, it) :: news) →
      Seg (model prog w) A R Y n s₀ (.forLoop (.Tuple elts x1 tpos) (.ref I) body orelse env) ((model prog w).den (.forLoop (.Tuple elts x1 tpos) (.ref I) body orelse env)) fs s := by
    intro vs₂ rows₂ hr
    induction hr with
    | nil =>
      intro vs₁ m it s hv hfind hgo hP F hit N
      refine forRow hov hh H' hH hl F hit N off (fun _ h' tk F' N' => hend m _ hgo hP F' N' (by rw [hfind]; rfl)) (fun v hv' => ?_)
      rw [hv, List.append_nil, List.getElem?_eq_none (Nat.le_refl _)] at hv'; cases hv'
    | @cons v r vs₃ rs hra hrs ih =>
      intro vs₁ m it s hv hfind hgo hP F hit N
      have hvi : vs[vs₁.length]? = some v := by rw [hv]; simp
      obtain ⟨t, x, y, z, ht, rest⟩ := id hra
      refine forRow hov hh H' hH hl F hit N off (fun q => by rw [hvi] at q; cases q) (fun v' hv' => ?_)
      rw [hvi] at hv'
      cases hv'
      refine ⟨⟨t, ht⟩, fun it' h' tk hit' F' N' => ?_⟩
      rw [ht] at hra ⊢
      refine hturn t r m it' _ hra hgo hP F' N' (fun hm => ?_) (fun hm m'' s'' g'' P'' F'' N'' => ?_)
      · rw [hfind, List.find?_cons, hm]
      · refine ih (vs₁ ++ [v]) m'' it' s'' (by rw [hv]; simp) ?_ g'' P'' F'' (by simpa using hit') N''
        rw [hfind, List.find?_cons, hm]
  exact go vs rows hrows [] m it s rfl rfl hgo hP F hit0 N
end
section
variable {M : Model} {A : Around} {E : Value → Shared → Prop} {s : Shared} {K : Frag} {L q g : Addr} {self : Value} {h₀ : Heap} {m : Str → Option Value} {pos : Pos} {first : List Value} {env : Env} {Q : Value → Shared → Prop}
theorem callWith_Mb {e : Expr} {rest : List Expr} (F : Fr h₀ L s.heap m) (X : K.In h₀) (zq : h₀.get? q = some (methodObj (.ref g) self)) (hf : fnIn K g = true) (h : wpAny M A (spliced (backTo pos (starEach (e :: rest) env))) (fun vs s₁ => MethP K q g self s₁.heap ∧ wpAny M A (call (.ref q) (first ++ vs)) Q E s₁) E s)
    (he : starEach (e :: rest) env = (false, eval e env) :: starEach rest env := by rfl) (hplain : (backTo pos (starEach rest env)).any (·.1) = false := by rfl) :
    wpAny M A (callWith pos (.ref q) first (backTo pos (starEach (e :: rest) env)) []) Q E s := by
  rw [he] at h ⊢
  exact callWith_of (by show ((false || (backTo pos (starEach rest env)).any (·.1)) || false) = false; rw [hplain]; rfl) (keeps_M hf) (evalArgs_plain h)
theorem call_mb {prog : Program} {w : World} {f : Value} {pos : List Value} (F : Fr h₀ L s.heap m) (hq : h₀.get? q = some (methodObj f self))
    (h : codeAny (model prog w) A (.call f ⟨self :: pos, []⟩) (fun r s' => match r with | .ok (.ret v) => Q v s' | .ok _ => False | .error e => E e s') s) : wpAny (model prog w) A (call (.ref q) pos) Q E s :=
  wpAny_call (method_call (F.keep _ _ hq) h)
end
theorem methPb {K : Frag} {q g L : Addr} {self : Value} {h₀ h : Heap} {m : Str → Option Value} (F : Fr h₀ L h m) (hq : h₀.get? q = some (methodObj (.ref g) self)) (X : K.In h) : MethP K q g self h := ⟨F.keep _ _ hq, X⟩
theorem posLe {a b : Nat} (h : a ≤ b) (h2 : b ≤ 1000) : (a : Int) ≤ 100000 := by omega
theorem lt_at {text : Str} {pos c : Nat} (h : text.cps[pos]? = some c) : pos + 1 ≤ text.length := by
  rcases Nat.lt_or_ge pos text.cps.size with q | q
  · exact q
  · rw [Array.getElem?_eq_none q] at h; cases h
theorem newsTwo {h₀ h h' : Heap} {L q dq S : Addr} {m : Str → Option Value} {o o1 o2 ol : Obj} {I : Addr} {rest : List (Addr × Obj)} (F : Fr h₀ L h m) (N : News h₀ L h ((I, o) :: (S, ol) :: rest)) (hk : Keeps h h')
   (h1 : h'.get? q = some o1 ∧ h.get? q = none) (h2 : h'.get? dq = some o2 ∧ h.get? dq = none) (hoff : ∀ p ∈ rest, p.1 ≠ S) :
   Fr h₀ L h' m ∧ News h₀ L h' ((S, ol) :: (q, o1) :: (dq, o2) :: rest) ∧ (∀ p ∈ (q, o1) :: (dq, o2) :: rest, p.1 ≠ S) ∧ (∀ p ∈ (S, ol) :: rest, p.1 ≠ q) ∧ ∀ p ∈ (S, ol) :: rest, p.1 ≠ dq := by
  have hLn : ∀ x, h.get? x = none → x ≠ L ∧ h₀.get? x = none := fun x hx => by
      constructor
      · intro e
        obtain ⟨oL, _, _, hL, _⟩ := F.ns
        rw [e, hL] at hx; cases hx
      · cases z : h₀.get? x with
        | none => rfl
        | some o => rw [F.keep _ _ z] at hx; cases hx
  have hSs := (N (S, ol) (.tail _ (.head _))).1
  have off : ∀ x, h.get? x = none → ∀ p ∈ (S, ol) :: rest, p.1 ≠ x := fun x hx p hp e => by
    have := (N p (.tail _ hp)).1
    rw [e, hx] at this; cases this
  refine ⟨F.keeps hk, fun p hp => ?_, fun p hp => ?_, off _ h1.2, off _ h2.2⟩
  · rcases List.mem_cons.mp hp with rfl | hp
    · exact (N.grown hk) _ (.tail _ (.head _))
    rcases List.mem_cons.mp hp with rfl | hp
    · exact ⟨h1.1, hLn _ h1.2⟩
    rcases List.mem_cons.mp hp with rfl | hp
    · exact ⟨h2.1, hLn _ h2.2⟩
    · exact (N.grown hk) _ (.tail _ (.tail _ hp))
  · rcases List.mem_cons.mp hp with rfl | hp
    · intro e; have := h1.2; rw [show q = S from e, hSs] at this; cases this
    rcases List.mem_cons.mp hp with rfl | hp
    · intro e; have := h2.2; rw [show dq = S from e, hSs] at this; cases this
    · exact hoff p hp
theorem newsDrop {h₀ h h' : Heap} {L : Addr} {p : Addr × Obj} {rest : List (Addr × Obj)} (N : News h₀ L h (p :: rest)) : News h₀ L h rest := fun q hq => N q (.tail _ hq)
theorem freshQ {h₀ h hs : Heap} {Lg S q : Addr} {S₀ : Option Addr} {ol o : Obj} {rest news : List (Addr × Obj)} (C : Cover h₀ Lg S₀ hs rest) (hSS : S₀ = none ∨ S₀ = some S) (N : News h₀ Lg h news) (hm : (q, o) ∈ news) (off : ∀ p ∈ (S, ol) :: rest, p.1 ≠ q) : hs.get? q = none := by
  rcases C.fresh (h := h) (S := q) (N _ hm).2.1 (N _ hm).2.2 (fun p hp => off p (.tail _ hp)) with e | e
  · rcases hSS with z | z
    · rw [z] at e; cases e
    · exact absurd (Option.some.inj (z.symm.trans e)) (off (S, ol) (.head _))
  · exact e
theorem sgo_Yield {prog : Program} {w : World} {A A' : Around} {R : GenEnd} {Y : Protocol} {n : Nat} {s₀ : Shared} {c : Code} {fs : List Frame} {s : Shared} {env : Env}
  {K : Flow → Sem Fin} {H : Value → Sem Fin} {gd : Bool → Bool} {lv : List Value → List Value} (hov : A.over c fs = A') {e : Expr} {ypos pos : Pos} (hfs : splitAtGen fs = none) (hgd : gd false = false) (hfg : fs.any Frame.guarded = false)
    (hco : env.scope.isCoroutine = false) (hi : interactive env = false)
    (h : wpAny (model prog w) A' (eval e env) (fun v s' => ∀ kap : Resume → Shared → Prop,
        (∀ x s'', (match x with | .ref _ => False | _ => Seg (model prog w) A R Y n s'' c (K .next) fs s'') → kap (.send x) s'') → Y n s₀ v s' kap) NoE s) :
    Seg (model prog w) A R Y (n + 1) s₀ c ((exec (.Expr (.Yield (some e) ypos) pos) env).wrap K H gd lv) fs s :=
  seg_Expr_Yield hfs hgd hfg (hov ▸ wpAny_mono h (fun _ _ x => x) fun _ _ x => x.elim) hco hi
theorem drop_at {text : Str} {pos c : Nat} (h : text.cps[pos]? = some c) : text.cps.toList.drop pos = c :: text.cps.toList.drop (pos + 1) := by
  have h' : text.cps.toList[pos]? = some c := by simpa using h
  have hl : pos < text.cps.toList.length := by
    rcases Nat.lt_or_ge pos text.cps.toList.length with q | q
    · exact q
    · rw [List.getElem?_eq_none q] at h'; cases h'
  rw [List.drop_eq_getElem_cons hl]
  congr 1
  exact Option.some.inj ((List.getElem?_eq_getElem hl).symm.trans h')
theorem meets_at {r : Row} {text : Str} {pos c : Nat} (hp : r.pat = some c) : r.meets (text.cps.toList.drop pos) = (text.cps[pos]? == some c) := by
  unfold Row.meets
  rw [hp]
  show ((text.cps.toList.drop pos).head? == some c) = _
  rw [List.head?_drop]
  simp
theorem lex_hit {T : Tab} {k pos c : Nat} {st : List Str} {rest rest' : List Nat} {toks : List LTok} {rows : List Row} {r : Row} (h : lex T (k + 1) st rest pos = some toks)
    (hT : T (st.getLastD (Str.ofString "")) = some rows) (hf : rows.find? (·.meets rest) = some r) (hp : r.pat = some c) (hr : rest = c :: rest') :
    ∃ toks', toks = ⟨pos, r.kind, c⟩ :: toks' ∧ lex T k (doAct st r.act) rest' (pos + 1) = some toks' := by
  unfold lex at h
  rw [hT] at h
  dsimp only at h
  rw [hf] at h
  dsimp only at h
  rw [hp, hr] at h
  dsimp only at h
  cases q : lex T k (doAct st r.act) rest' (pos + 1) with
  | none => rw [q] at h; cases h
  | some ts => rw [q] at h; exact ⟨ts, (Option.some.inj h).symm, rfl⟩
theorem lex_skip {T : Tab} {k pos : Nat} {st : List Str} {rest : List Nat} {toks : List LTok} {rows : List Row} {r : Row} (h : lex T (k + 1) st rest pos = some toks)
    (hT : T (st.getLastD (Str.ofString "")) = some rows) (hf : rows.find? (·.meets rest) = some r) (hp : r.pat = none) : lex T k (doAct st r.act) rest pos = some toks := by
  unfold lex at h
  rw [hT] at h
  dsimp only at h
  rw [hf] at h
  dsimp only at h
  rw [hp] at h
  exact h
theorem lex_end {T : Tab} {k pos : Nat} {st : List Str} {toks : List LTok} {rows : List Row} (h : lex T (k + 1) st [] pos = some toks)
    (hT : T (st.getLastD (Str.ofString "")) = some rows) (hf : rows.find? (·.meets []) = none) : toks = [] := by
  unfold lex at h
  rw [hT] at h
  dsimp only at h
  rw [hf] at h
  exact (Option.some.inj h).symm
theorem lex_line {T : Tab} {k pos : Nat} {st : List Str} {rest' : List Nat} {toks : List LTok} {rows : List Row} (h : lex T (k + 1) st (10 :: rest') pos = some toks)
    (hT : T (st.getLastD (Str.ofString "")) = some rows) (hf : rows.find? (·.meets (10 :: rest')) = none) : ∃ toks', toks = ⟨pos, wsNames, 10⟩ :: toks' ∧ lex T k [Str.ofString "root"] rest' (pos + 1) = some toks' := by
  unfold lex at h
  rw [hT] at h
  dsimp only at h
  rw [hf] at h
  dsimp only at h
  rw [if_pos rfl] at h
  cases q : lex T k [Str.ofString "root"] rest' (pos + 1) with
  | none => rw [q] at h; cases h
  | some ts => rw [q] at h; exact ⟨ts, (Option.some.inj h).symm, rfl⟩
theorem lex_err {T : Tab} {k pos c : Nat} {st : List Str} {rest' : List Nat} {toks : List LTok} {rows : List Row} (h : lex T (k + 1) st (c :: rest') pos = some toks)
    (hT : T (st.getLastD (Str.ofString "")) = some rows) (hf : rows.find? (·.meets (c :: rest')) = none) (hc : c ≠ 10) : ∃ toks', toks = ⟨pos, errNames, c⟩ :: toks' ∧ lex T k st rest' (pos + 1) = some toks' := by
  unfold lex at h
  rw [hT] at h
  dsimp only at h
  rw [hf] at h
  dsimp only at h
  rw [if_neg hc] at h
  cases q : lex T k st rest' (pos + 1) with
  | none => rw [q] at h; cases h
  | some ts => rw [q] at h; exact ⟨ts, (Option.some.inj h).symm, rfl⟩
theorem IsTup.kp {h h' : Heap} {a : Addr} {xs : Array Value} (k : Keeps h h') (x : IsTup h a xs) : IsTup h' a xs := x.keeps k
theorem KindAt.kp {CT : Addr} {h h' : Heap} {k : Addr} {ns : List Str} (kk : Keeps h h') (x : KindAt CT h k ns) : KindAt CT h' k ns :=
  let ⟨dk, hsh, tk, nt, vs, a, b, c, d⟩ := x; ⟨dk, hsh, tk, nt, vs, kk _ _ a, kk _ _ b, IsTup.kp kk c, d⟩
theorem tokAt_mk {CT : Addr} {h₀ h : Heap} {L D kd : Addr} {m : Str → Option Value} {pos c : Nat} {ns : List Str} {t t2 : PySem.Tok} (F : Fr h₀ L h m) (hT : IsTup h D #[.int (pos : Int) t, .ref kd, .str ⟨#[c]⟩ t2]) (hk : KindAt CT h₀ kd ns) :
    TokAt CT h₀ h (.ref D) ⟨pos, ns, c⟩ := ⟨D, kd, t, t2, rfl, hT, hk⟩
theorem all_at {all toks' : List LTok} {tok : LTok} (hle : (tok :: toks').length ≤ all.length) (h : all.drop (all.length - (tok :: toks').length) = tok :: toks') : all[all.length - (toks'.length + 1)]? = some tok := by
  have : (all.drop (all.length - (tok :: toks').length))[0]? = some tok := by rw [h]; rfl
  rw [List.getElem?_drop] at this
  simpa using this
theorem all_drop {all toks' : List LTok} {tok : LTok} (hle : (tok :: toks').length ≤ all.length) (h : all.drop (all.length - (tok :: toks').length) = tok :: toks') : all.drop (all.length - toks'.length) = toks' := by
  have h1 : all.length - toks'.length = all.length - (tok :: toks').length + 1 := by simp at hle ⊢; omega
  rw [h1, ← List.drop_drop, h]
  rfl
theorem yield_go {CT : Addr} {h₀ h : Heap} {Lg S : Addr} {S₀ : Option Addr} {all toks' : List LTok} {tok : LTok} {m : Str → Option Value} {news rest : List (Addr × Obj)} {s₀ s' : Shared} {v : Value} {kap : Resume → Shared → Prop}
    (hle : (tok :: toks').length ≤ all.length) (hall : all.drop (all.length - (tok :: toks').length) = tok :: toks') (hown : OwnS Lg s₀.heap S₀) (F : Fr h₀ Lg h m) (hh : s'.heap = h) (hstk : m (Str.ofString "statestack") = some (.ref S)) (N : News h₀ Lg h news) (sub : ∀ p ∈ rest, p ∈ news)
    (C : Cover h₀ Lg S₀ s₀.heap rest) (hS : S₀ = some S ∨ s₀.heap.get? S = none) (htok : TokAt CT h₀ h v tok) (hgo : s'.gens = s₀.gens ∧ s'.os = s₀.os) (hSx : ∃ ol, (S, ol) ∈ news)
    (hkap : ∀ s'' : Shared, (∀ o, h.get? Lg = some o → s''.heap.get? Lg = some o) → (∀ o, h.get? S = some o → s''.heap.get? S = some o) → Keeps h₀ s''.heap → (∀ b o, s₀.heap.get? b = none → h.get? b = some o → s''.heap.get? b = some o) → kap (.send .none) s'') :
    genY CT h₀ Lg all toks'.length s₀ v s' kap := by
  subst hh
  exact ⟨tok, S₀, S, all_at hle hall, hle, hown, ⟨m, F.ns, hstk⟩, hS, C.since F N sub, htok, ⟨hgo, let ⟨ol, hm⟩ := hSx; ⟨ol, (N _ hm).1⟩⟩, hkap⟩
theorem resume {h₀ h hs h'' : Heap} {Lg S : Addr} {ol : Obj} {keepL : List (Addr × Obj)} {m : Str → Option Value} {news : List (Addr × Obj)} (F : Fr h₀ Lg h m) (N : News h₀ Lg h news) (sub : ∀ p ∈ (S, ol) :: keepL, p ∈ news) (hstk : m (Str.ofString "statestack") = some (.ref S))
    (hf : ∀ p ∈ keepL, hs.get? p.1 = none ∧ p.1 ≠ S) (k1 : ∀ o, h.get? Lg = some o → h''.get? Lg = some o) (k2 : ∀ o, h.get? S = some o → h''.get? S = some o) (k3 : Keeps h₀ h'') (k4 : ∀ b o, hs.get? b = none → h.get? b = some o → h''.get? b = some o) :
    ∃ rest'', Fr h₀ Lg h'' m ∧ News h₀ Lg h'' ((S, ol) :: (keepL ++ rest'')) ∧ (∀ p ∈ keepL ++ rest'', p.1 ≠ S) ∧ OwnS Lg h'' (some S) ∧ Cover h₀ Lg (some S) h'' (keepL ++ rest'') := by
  obtain ⟨rest'', N2, o2, C2⟩ := cover_exists h₀ h'' Lg (some S) k3
  have F2 : Fr h₀ Lg h'' m := ⟨F.ns.at' k1, k3, F.above⟩
  refine ⟨rest'', F2, fun p hp => ?_, fun p hp => ?_, ⟨m, F2.ns, hstk⟩, fun b o h1 h2 e => ?_⟩
  · rcases List.mem_cons.mp hp with rfl | hp
    · exact ⟨k2 _ (N _ (sub _ (.head _))).1, (N _ (sub _ (.head _))).2⟩
    rcases List.mem_append.mp hp with hp | hp
    · have := N _ (sub _ (.tail _ hp))
      exact ⟨k4 _ _ (hf p hp).1 this.1, this.2⟩
    · exact N2 p hp
  · rcases List.mem_append.mp hp with hp | hp
    · exact (hf p hp).2
    · exact fun e => o2 p hp (by rw [e])
  · rcases C2 b o h1 h2 e with q | q
    · exact .inl q
    · exact .inr (List.mem_append_right _ q)
end Mine
end
section
open PySem PySem.W PyProof.Rows PySem.Calls
set_option maxRecDepth 100000
namespace Mine
theorem iter_T {prog : Program} {A : Around} {E : Value → Shared → Prop} {env : Env} {h₀ : Heap} {x : Str} {body : List Stmt} {Q : Flow → Shared → Prop} {l : Addr} {vs : List Value} {m₀ : Str → Option Value} {news : List (Addr × Obj)}
    (J : Nat → (Str → Option Value) → List (Addr × Obj) → Prop)
    (hh : A.handled = none) (hl : IsTup h₀ l vs.toArray) (F : Fr h₀ env.locals s.heap m₀) (N : News h₀ env.locals s.heap news) (hj : J 0 m₀ news)
    (turn : ∀ i v m₁ news₁ h tk I it, vs[i]? = some v → J i m₁ news₁ → it.cls = .type "tuple_iterator" → (∀ p ∈ news₁, p.1 ≠ I) →
      Fr h₀ env.locals h (fun y => if y = x then some v else m₁ y) → News h₀ env.locals h ((I, it) :: news₁) →
      wpAny (model prog w) A (execs body env) (UnrPost h₀ env.locals { s with heap := h, toks := tk } I it (J (i + 1)) Q) E { s with heap := h, toks := tk })
    (done : ∀ m₁ news₁ h tk, J vs.length m₁ news₁ → Fr h₀ env.locals h m₁ → News h₀ env.locals h news₁ → Q .next { s with heap := h, toks := tk }) :
    wpAny (model prog w) A (pyIter (.ref l)) (fun it s₂ => LoopAtV prog w A h₀ env x body Q E it s₂) E s := by
  have hls : IsTup s.heap l vs.toArray := hl.keeps F.keep
  obtain ⟨ol, hol, _⟩ := id hl
  have hlt : l < s.heap.objs.size := Heap.lt_size (F.keep _ _ hol)
  have hne : l ≠ s.heap.objs.size := Nat.ne_of_lt hlt
  refine wpAny_pyIter_tuple hls ?_
  have W := Walks.tuple (prog := prog) (w := w) hh s.heap.objs.size l hne vs.toArray
  have hnew := next_is_new F
  have hlen : vs.toArray.size = vs.length := by simp
  rw [hlen] at W
  have hlL : l ≠ env.locals := Nat.ne_of_lt (Nat.lt_of_lt_of_le (Heap.lt_size hol) F.above)
  refine ⟨_, _, _, vs.length, _, _, m₀, news, J, rfl, W, ?_, ?_, ?_, ⟨⟨_, Heap.get?_push_size _ rfl, rfl, rfl⟩, hls.keeps fun b o e => Heap.get?_push_of_some _ e⟩, F.push _, (fun p hp => ⟨Heap.get?_push_of_some _ (N p hp).1, (N p hp).2⟩), hj, ?_, ?_⟩
  · intro hmm
    rcases List.mem_cons.mp hmm with e | hmm
    · exact absurd F.ns.lt (e ▸ Nat.lt_irrefl _)
    · exact hlL (List.mem_singleton.mp hmm).symm
  · intro b hb
    rw [List.mem_singleton.mp hb]
    exact hnew
  · intro p hp hI
    exact absurd (Heap.lt_size (N p hp).1) ((List.mem_singleton.mp hI) ▸ Nat.lt_irrefl _)
  · rintro i v m₁ news₁ s₁ own ⟨hh', tk', rfl⟩ hin hP hJ hoff hown hget hall hst F₁ N₁
    obtain ⟨it, hit, hic, hid⟩ := hst.1
    have hmemI := hall s.heap.objs.size (List.mem_cons_self ..) hnew _ hit
    have hoffI : ∀ p ∈ news₁, p.1 ≠ s.heap.objs.size := fun p hp e => hoff p hp (e ▸ List.mem_singleton.mpr rfl)
    have N₂ : News h₀ env.locals hh' ((s.heap.objs.size, it) :: news₁) := fun p hp => by
      rcases List.mem_cons.mp hp with rfl | hp
      · exact N₁ _ (List.mem_append_left _ hmemI)
      · exact N₁ _ (List.mem_append_right _ hp)
    refine wpAny_mono (turn i v m₁ news₁ hh' tk' _ it (by simpa using hP) hJ hic hoffI F₁ N₂) (fun f s₂ p => ?_) fun _ _ e => e
    have fin : UnrEnd h₀ env.locals { s with heap := hh', toks := tk' } s.heap.objs.size it (J (i + 1)) s₂ →
        LoopStepU h₀ env.locals [s.heap.objs.size] own (J (i + 1)) { s with heap := hh', toks := tk' } .next s₂ := by
      rintro ⟨h', tk, m', news', e, F', N', ho, hmm⟩
      refine ⟨rfl, h', tk, m', news', e, F', fun p hp => ?_, fun p hp hI => ho p hp (List.mem_singleton.mp hI), hmm⟩
      rcases List.mem_append.mp hp with hp | hp
      · have h2 : hh'.get? p.1 = some p.2 := hget p hp
        rcases List.mem_cons.mp (hown p hp) with h1 | h1
        · have h3 : p = (s.heap.objs.size, it) := by
            rw [h1, hit] at h2
            exact Prod.ext h1 (Option.some.inj h2).symm
          rw [h3]; exact N' _ (List.mem_cons_self ..)
        · have h1' : p.1 = l := List.mem_singleton.mp h1
          have := (N₁ p (List.mem_append_left _ hp)).2.2
          rw [h1', hol] at this; cases this
      · exact N' _ (List.mem_cons_of_mem _ hp)
    cases f with
    | ret v => exact .ret p
    | brk => exact .brk p
    | next => exact .next (fin p)
    | cont => exact .cont (fin p)
  · rintro h' tk m' news' F' N' _ hJ
    exact done m' news' h' tk hJ F' N'
theorem iter_T2 {prog : Program} {w : World} {A : Around} {E : Value → Shared → Prop} {s : Shared} {env : Env} {h₀ : Heap} {x : Str} {body : List Stmt} {Q : Flow → Shared → Prop} {l : Addr} {vs : List Value} {m₀ : Str → Option Value} {news : List (Addr × Obj)}
    (J : Nat → (Str → Option Value) → List (Addr × Obj) → Prop)
    (hh : A.handled = none) (hl : IsTup h₀ l vs.toArray) (F : Fr h₀ env.locals s.heap m₀) (N : News h₀ env.locals s.heap news) (hj : J 0 m₀ news)
    (turn : ∀ i v m₁ news₁ I it s₁, vs[i]? = some v → J i m₁ news₁ → (∀ p ∈ news₁, p.1 ≠ I) →
      Fr h₀ env.locals s₁.heap (fun y => if y = x then some v else m₁ y) → News h₀ env.locals s₁.heap ((I, it) :: news₁) → ∀ (P : Flow → Shared → Prop) (E' : Value → Shared → Prop),
      (∀ s', UnrEnd h₀ env.locals s₁ I it (J (i + 1)) s' → P .next s') → wpAny (model prog w) A (execs body env) P E' s₁)
    (done : ∀ m₁ news₁ h tk, J vs.length m₁ news₁ → Fr h₀ env.locals h m₁ → News h₀ env.locals h news₁ → Q .next { s with heap := h, toks := tk }) :
    wpAny (model prog w) A (pyIter (.ref l)) (fun it s₂ => LoopAtV prog w A h₀ env x body Q E it s₂) E s :=
  iter_T J hh hl F N hj (fun i v m₁ news₁ h tk I it hv hJ _ ho F₁ N₁ => turn i v m₁ news₁ I it { s with heap := h, toks := tk } hv hJ ho F₁ N₁ _ _ fun _ z => z) done
section
variable {prog : Program} {w : World} {A : Around} {E : Value → Shared → Prop} {s : Shared} {h₀ : Heap} {L S : Addr} {m : Str → Option Value} {rest : List (Addr × Obj)} {items : List Value} {n : Nat} {x : Value}
theorem updPre {o o' : Obj} {pre : List (Addr × Obj)} (h1 : ∀ p ∈ pre, p.1 ≠ S) (h2 : ∀ p ∈ rest, p.1 ≠ S) : Upd S o o' (pre ++ (S, o) :: rest) (pre ++ (S, o') :: rest) := by
  induction pre with
  | nil => exact .head h2
  | cons p r ih => exact .tail (h1 p (.head _)) (ih fun q hq => h1 q (.tail _ hq))
theorem append_S {pre : List (Addr × Obj)} {Q : Value → Shared → Prop} (F : Fr h₀ L s.heap m) (N : News h₀ L s.heap (pre ++ (S, lstN items n) :: rest)) (off1 : ∀ p ∈ pre, p.1 ≠ S) (off : ∀ p ∈ rest, p.1 ≠ S) (hsz : items.length ≤ 1100000)
    (h : ∀ h', Fr h₀ L h' m → News h₀ L h' (pre ++ (S, lstN (items ++ [x]) (n + 1)) :: rest) → Q .none { s with heap := h' }) : wpAny (model prog w) A (call (.builtin "list.append") [.ref S, x]) Q E s := by
  refine append_K (its := items.toArray) (n := n) F N (updPre off1 off) (fun h' F' N' => h h' F' ?_) (by rw [sizeLine_eq]; simpa using Nat.le_trans hsz (by decide))
  have e : items.toArray.push x = (items ++ [x]).toArray := by simp
  rw [e] at N'
  exact N'
theorem pop_S {pre : List (Addr × Obj)} {Q : Value → Shared → Prop} (F : Fr h₀ L s.heap m) (N : News h₀ L s.heap (pre ++ (S, lstN items n) :: rest)) (off1 : ∀ p ∈ pre, p.1 ≠ S) (off : ∀ p ∈ rest, p.1 ≠ S) (hsz : items.length ≤ 1100000) (hne : items ≠ [])
    (h : ∀ y h', Fr h₀ L h' m → News h₀ L h' (pre ++ (S, lstN items.dropLast (n + 1)) :: rest) → Q y { s with heap := h' }) : wpAny (model prog w) A (call (.builtin "list.pop") [.ref S]) Q E s := by
  have e : items = items.dropLast ++ [items.getLast hne] := (List.dropLast_concat_getLast hne).symm
  have hk := kpa_last (items.getLast hne) items.dropLast
  rw [← e] at hk
  refine kl_pop (its := items.toArray) (n := n) (p := items.dropLast) (y := items.getLast hne) F N (by simpa using hk) (updPre off1 off) (by rw [sizeLine_eq]; simpa using Nat.le_trans hsz (by decide)) (h _)
theorem len_S {pre : List (Addr × Obj)} {st : List Str} {Q : Value → Shared → Prop} (N : News h₀ L s.heap (pre ++ (S, lstN items n) :: rest)) (hi : StrsAre items st) (hsz : items.length ≤ 1100000)
    (h : ∀ t tk, Q (.int (st.length : Int) t) { s with toks := tk }) : wpAny (model prog w) A (call (.builtin "len") [.ref S]) Q E s := by
  have hS := (N (S, lstN items n) (List.mem_append_right _ (.head _))).1
  refine len_list (items := items.toArray) ⟨_, hS, rfl, n, rfl⟩ (by simp; omega) ?_
  have e : (items.toArray.size : Int) = (st.length : Int) := by simp [strs_len hi]
  rw [e]
  exact h _ _
theorem kitAt_B {h : Heap} {a : Addr} {xs : Array Value} (F : Fr h₀ L h m) (t : IsTup h₀ a xs) : KitAt a "tuple" h := let ⟨o, ho, hc, _⟩ := t; ⟨o, F.keep _ _ ho, hc⟩
theorem take_filter (items : List Value) (j : Nat) (f : Nat → Bool) (hf : ∀ i, i < items.length → f i = decide (j ≤ i)) : (items.zipIdx.filterMap fun (x, k) => if f k then none else some x) = items.take j := by
  have go : ∀ (l : List Value) (b j : Nat), (∀ i, b ≤ i → i < b + l.length → f i = decide (j ≤ i)) → ((l.zipIdx b).filterMap fun (x, k) => if f k then none else some x) = l.take (j - b) := by
    intro l
    induction l with
    | nil => intro b j _; simp
    | cons x r ih =>
      intro b j h
      have h0 := h b (Nat.le_refl _) (by simp)
      have ih' := ih (b + 1) j (fun i h1 h2 => h i (by omega) (by simp; omega))
      rw [List.zipIdx_cons, List.filterMap_cons]
      dsimp only
      rw [h0, ih']
      by_cases q : j ≤ b
      · simp only [q, decide_true, if_true]
        rw [Nat.sub_eq_zero_of_le q, Nat.sub_eq_zero_of_le (Nat.le_succ_of_le q)]
        simp
      · simp only [q, decide_false, Bool.false_eq_true, if_false]
        have e : j - b = (j - (b + 1)) + 1 := by omega
        rw [e, List.take_succ_cons]
  have := go items 0 j (fun i _ h => hf i (by omega))
  simpa using this
theorem mapSeq_to (its : Array Value) (n : Nat) (f : Array Value → Array Value) : ∃ n', Obj.mapSeq f { cls := .type "list", data := .seq its n } = { cls := .type "list", data := .seq (f its) n' } := by
  simp only [Obj.mapSeq]
  exact ⟨_, rfl⟩
theorem upd_S {j : Nat} {f : Array Value → Array Value} {Q : Unit → Shared → Prop} (F : Fr h₀ L s.heap m) (N : News h₀ L s.heap ((S, lstN items n) :: rest)) (off : ∀ p ∈ rest, p.1 ≠ S) (hsz : items.length ≤ 1100000)
    (hf : f items.toArray = (items.take j).toArray) (h : ∀ h' n', Fr h₀ L h' m → News h₀ L h' ((S, lstN (items.take j) n') :: rest) → Q () { s with heap := h' }) : wpAny (model prog w) A (updateSeq S f) Q E s := by
  have hS := N (S, lstN items n) (.head _)
  have ho : s.heap.get? S = some { cls := .type "list", data := .seq items.toArray n } := hS.1
  obtain ⟨n', e⟩ := mapSeq_to items.toArray n f
  rw [hf] at e
  refine wpAny_updateSeq ho rfl (h _ n' (F.change (Heap.SameBut.update ..) hS.2.1 hS.2.2) (N.setHead off (Heap.SameBut.update ..) ?_)) (by rw [sizeLine_eq]; simpa using Nat.le_trans hsz (by decide)) (by rw [hf, sizeLine_eq]; simp; omega)
  rw [Heap.get?_update_self _ ho (by rw [e]; rfl), e]
theorem del_S {sl j : Nat} {lo : Int} {t : PySem.Tok} {Q : Unit → Shared → Prop} (F : Fr h₀ L s.heap m) (N : News h₀ L s.heap ((S, lstN items n) :: rest)) (off : ∀ p ∈ rest, p.1 ≠ S) (hsz : items.length ≤ 1100000)
    (hsl : s.heap.IsSliceOf sl (.int lo t) .none .none) (hj : max 0 (min (if lo < 0 then lo + (items.length : Int) else lo) (items.length : Int)) = (j : Int))
    (h : ∀ h' n', Fr h₀ L h' m → News h₀ L h' ((S, lstN (items.take j) n') :: rest) → Q () { s with heap := h' }) : wpAny (model prog w) A (delItem (.ref S) (.ref sl)) Q E s := by
  obtain ⟨os, hos, hcs, hds⟩ := id hsl
  have hTs : s.TypeIs (.ref sl) "slice" := ⟨os, hos, hcs⟩
  have hS := N (S, lstN items n) (.head _)
  have ho : s.heap.get? S = some { cls := .type "list", data := .seq items.toArray n } := hS.1
  have hTS : s.TypeIs (.ref S) "list" := ⟨_, ho, rfl⟩
  refine wpAny_delItem_slot hTS (by decide) PySem.F.slot_list_delitem ?_
  refine wpAny_call_entry PySem.F.slot_list_delitem hTS PySem.F.entry_list_delitem ?_ (PySem.F.args_list_delitem_2 _ _)
  show wpAny _ _ (Builtin.List.listSubscript? (.ref sl) >>= _) _ _ s
  refine wpAny_bind ?_
  unfold Builtin.List.listSubscript?
  refine wpAny_bind (wpAny_specialOf hTs slice_no_index ?_)
  simp only [Option.isNone_none, if_true]
  refine wpAny_pure ?_
  show wpAny _ _ (typeOf (.ref sl) >>= _) _ _ s
  refine wpAny_bind (wpAny_typeOf hTs ?_)
  rw [if_neg (by decide)]
  rw [listSliceParts_eq]
  refine wpAny_bind (wpAny_bind (wpAny_field hos hds (x := .none) rfl (wpAny_bind (wpAny_listPart .none ?_))))
  rw [if_neg (show ¬ ((rawPart none == rawInt 0) = true) from Bool.false_ne_true)]
  refine wpAny_bind (wpAny_field hos hds (x := .int lo t) rfl (wpAny_bind (wpAny_listPart (.int lo t) ?_)))
  refine wpAny_bind (wpAny_field hos hds (x := .none) rfl (wpAny_bind (wpAny_listPart .none (wpAny_pure ?_))))
  refine wpAny_bind (m := Builtin.List.listItems (.ref S)) ?_
  unfold Builtin.List.listItems
  refine wpAny_bind (wpAny_seqItems ho rfl (wpAny_pure ?_))
  refine wpAny_bind (wpAny_of_eq (sliceIndices_raw (some lo) none none items.toArray.size (by simp)) ?_)
  have hb : sliceBounds (some lo) none none items.toArray.size = ((j : Int), (items.length : Int), 1) := by
    simp only [sliceBounds, Option.getD_none, List.size_toArray]
    rw [if_pos (by decide), hj]
    rfl
  rw [hb]
  dsimp only
  refine wpAny_bind (wpAny_rule ?_)
  refine wpAny_bind (m := updateSeq S _) (upd_S (j := j) F N off hsz ?_ ?_)
  · refine congrArg List.toArray (take_filter items j _ (fun i hi => ?_))
    show (if (1 : Int) > 0 then (decide ((j : Int) ≤ (i : Int)) && decide ((i : Int) < (items.length : Int)) && (((i : Int) - (j : Int)) % 1 == 0)) else _) = _
    rw [if_pos (by decide)]
    have e1 : decide ((i : Int) < (items.length : Int)) = true := by simpa using hi
    have e2 : (((i : Int) - (j : Int)) % 1 == 0) = true := by simp
    rw [e1, e2]
    simp
  · intro h' n' F' N'
    refine wpAny_bind (wpAny_letGo (wpAny_pure ⟨_, rfl, h h' n' F' N'⟩))
theorem del_new {j : Nat} {lo : Int} {t : PySem.Tok} {hp : Heap} {Q : Unit → Shared → Prop} (hs : s.heap = hp.push { cls := .type "slice", data := .fields #[.int lo t, .none, .none] }) (F : Fr h₀ L hp m) (N : News h₀ L hp ((S, lstN items n) :: rest)) (off : ∀ p ∈ rest, p.1 ≠ S) (hsz : items.length ≤ 1100000)
    (hj : max 0 (min (if lo < 0 then lo + (items.length : Int) else lo) (items.length : Int)) = (j : Int))
    (h : ∀ h' n', Fr h₀ L h' m → News h₀ L h' ((S, lstN (items.take j) n') :: rest) → Q () { s with heap := h' }) : wpAny (model prog w) A (delItem (.ref S) (.ref hp.objs.size)) Q E s :=
  del_S (hs ▸ F.push _) (hs ▸ N.pushKeep _) off hsz ⟨_, hs ▸ Heap.get?_push_size _ rfl, rfl, rfl⟩ hj h
end
end Mine
end
section
open PySem PySem.W PyProof.Rows PySem.Calls
set_option maxRecDepth 100000
set_option maxHeartbeats 8000000
namespace Mine
section
variable {prog : Program} {w : World} {A : Around} {s : Shared} {K : Frag} {h₀ : Heap} {L : Addr} {m mg mb : Str → Option Value} {news : List (Addr × Obj)} {p : Program} {loose : List Str} {mean : ExcName → Option Value}
  {R : Result → Shared → Prop} {name qual : Str} {params : Arguments} {body : List Stmt} {scope : Scope} {dV kV doc pm cdv ct oc : Value} {an od : Option Addr} {osl : Array (Option Value)} {f : Addr} {args : Args} {binds : List (Str × Value)}
theorem frame0 {E : Value → Shared → Prop} (F : Fr h₀ L s.heap m) (X₀ : K.In h₀) (N : News h₀ L s.heap news) (T : Top p loose mean mg mb h₀)
    (hloc : ∀ y ∈ binds, scope.names.lookup y.1 = some .local)
    (h : ∀ g L' h₁, Fr h₀ L g m → Fr g L' h₁ (fun y => binds.reverse.lookup y) → News g L' h₁ news → K.In g → Top p loose mean mg mb g →
      wpAny (model prog w) (A.deeper (envOf qual scope L' f cdv)) (execs body (envOf qual scope L' f cdv))
        (fun fl s' => LeaveK h₀ L m g R (match fl with | .ret v => v | _ => .none) s')
        (fun e s' => wpAny (model prog w) (A.deeper (envOf qual scope L' f cdv)) (leaving (envOf qual scope L' f cdv) e) (fun _ s'' => R (.error e) s'') (fun e' s'' => R (.error e') s'') s')
        { s with heap := h₁, toks := s.toks + binds.length })
    (hcell : ∀ x ∈ scope.names, x.2 ≠ .cell) (hk : scope.kind = .function) :
    wpAny (model prog w) A.in1 (newFunctionEnv scope mainGlobals [] binds (qual ++ ".<locals>.") (some f) cdv none builtinsNs) (fun env' s₂ => s₂.heap.NoLimit ∧ codeAny (model prog w) A (.func body env') R s₂) E s := by
  refine wpAny_newFunctionEnv hcell hloc (fun h₁ hns hsb => ⟨(T.nolimit.keeps F.keep).fresh _ hsb, codeAny_func ?_⟩) hk
  have hk₁ : ∀ b o, s.heap.get? b = some o → h₁.get? b = some o := fun b o e => hsb.extBut b o (Nat.ne_of_lt (Heap.lt_size e)) (Heap.get?_push_of_some _ e)
  have nm : ∀ b o, h₀.get? b = some o → b ∉ news.map (·.1) := fun b o e q => by
    obtain ⟨p, hp, rfl⟩ := List.mem_map.mp q
    rw [(N p hp).2.2] at e; cases e
  have st : ∀ b o, h₀.get? b = some o → (hideAll s.heap (news.map (·.1))).get? b = some o := fun b o e => hideAll_get _ (F.keep b o e) (nm b o e)
  obtain ⟨oL, es, ep, hL, hLd, hLk, hLf⟩ := F.ns
  have nL : L ∉ news.map (·.1) := fun q => by
    obtain ⟨p, hp, e⟩ := List.mem_map.mp q
    exact (N p hp).2.1 e
  have hLg := hideAll_get (news.map (·.1)) hL nL
  refine wpAny_mono (h _ s.heap.objs.size h₁ ⟨⟨oL, es, ep, hLg, hLd, hLk, hLf⟩, st, F.above⟩ ⟨hns, fun b o e => hk₁ b o (of_hideAll _ e), Nat.le_of_eq (hideAll_size _ _)⟩
    (fun p hp => ⟨hk₁ _ _ (N p hp).1, Nat.ne_of_lt (Heap.lt_size (N p hp).1), hideAll_none _ (List.mem_map_of_mem hp)⟩) (X₀.keeps st) (T.keeps st)) (fun fl s' hl => ?_) fun _ _ y => y
  obtain ⟨L', m', news', F', N', k⟩ := hl
  refine k ⟨⟨oL, es, ep, F'.keep L oL hLg, hLd, hLk, hLf⟩, fun b o e => F'.keep b o (st b o e), F.above⟩ fun p hp => ⟨(N' p hp).1, fun q => ?_, ?_⟩
  · have := (N' p hp).2.2; rw [q, hLg] at this; cases this
  · cases q : h₀.get? p.1 with
    | none => rfl
    | some o => have := (N' p hp).2.2; rw [st _ _ q] at this; cases this
theorem code_rest0 {vs : List Value} {g₁ : Addr → Option (List (Str × Value))} {binds : Addr → List (Str × Value)}
    (F : Fr h₀ L s.heap m) (X₀ : K.In h₀) (N : News h₀ L s.heap news) (T : Top p loose mean mg mb h₀)
    (ho : K.lookup f = some ⟨oc, od, .func (fnOf name qual params body scope dV kV doc pm an cdv ct), osl⟩) (hcd : codeIn K cdv qual = true) (hroom : A.depth < recursionLimit)
    (hv : args.pos.drop (params.posonlyargs.length + params.args.length) = vs)
    (hp : peek1 K ⟨prog, w.params⟩ (bindArgs (fnOf name qual params body scope dV kV doc pm an cdv ct) args) = some (({ cls := .type "tuple", data := .seq vs.toArray } : Obj), g₁))
    (hg : ∀ D, g₁ D = some (binds D)) (hloc : ∀ D, ∀ y ∈ binds D, scope.names.lookup y.1 = some .local)
    (h : ∀ D g L' h₁, (∀ p ∈ news, p.1 < D) → Fr h₀ L g m → Fr g L' h₁ (fun y => (binds D).reverse.lookup y) → News g L' h₁ ((D, ({ cls := .type "tuple", data := .seq vs.toArray } : Obj)) :: news) → K.In g → Top p loose mean mg mb g →
      wpAny (model prog w) (A.deeper (envOf qual scope L' f cdv)) (execs body (envOf qual scope L' f cdv))
        (fun fl s' => LeaveK h₀ L m g R (match fl with | .ret v => v | _ => .none) s')
        (fun e s' => wpAny (model prog w) (A.deeper (envOf qual scope L' f cdv)) (leaving (envOf qual scope L' f cdv) e) (fun _ s'' => R (.error e) s'') (fun e' s'' => R (.error e') s'') s')
        { s with heap := h₁, toks := s.toks + (binds D).length })
    (hco : scope.isCoroutine = false) (hgen : scope.isGenerator = false) (hk : scope.kind = .function)
    (hcell : ∀ x ∈ scope.names, x.2 ≠ .cell) : codeAny (model prog w) A (.call (.ref f) args) R s := by
  have _ := hv
  refine codeAny_call_function (fd := fnOf name qual params body scope dV kV doc pm an cdv ct) (body := body) hroom ((X₀.keeps F.keep) _ _ ho) rfl hco hgen rfl (codeRec_of (X₀.keeps F.keep) hcd) ?_
  refine wp_of_peek1 (o := ({ cls := .type "tuple", data := .seq vs.toArray } : Obj)) F N (X₀.keeps F.keep) rfl (r := binds) (fun D h' F' N' l => ?_) _ g₁ hp hg
  exact frame0 (s := { s with heap := h' }) F' X₀ N' T (hloc D) (fun g L' h₁ FG FL NG X' T' => h D g L' h₁ l FG FL NG X' T') hcell hk
theorem code_more0 {nm : Str} {front : List (Str × Value)} {g₁ : Addr → Sem (List (Str × Value))}
    (F : Fr h₀ L s.heap m) (X₀ : K.In h₀) (N : News h₀ L s.heap news) (T : Top p loose mean mg mb h₀)
    (ho : K.lookup f = some ⟨oc, od, .func (fnOf name qual params body scope dV kV doc pm an cdv ct), osl⟩) (hcd : codeIn K cdv qual = true) (hroom : A.depth < recursionLimit)
    (hp : peekA K ⟨prog, w.params⟩ (bindArgs (fnOf name qual params body scope dV kV doc pm an cdv ct) args) = some (dictOf [] 0, g₁))
    (hk₁ : ∀ D, g₁ D = (forIn [] PUnit.unit (fun (x : Str × Value) _ => (nsSet D x.1 x.2 >>= fun _ => pure (ForInStep.yield PUnit.unit))) >>= fun _ => pure (front ++ [(nm, Value.ref D)])))
    (hloc : ∀ D, ∀ y ∈ front ++ [(nm, Value.ref D)], scope.names.lookup y.1 = some .local)
    (h : ∀ D o g L' h₁ tk, (∀ p ∈ news, p.1 < D) → (D == sysModules) = false → o.IsDictOf (PySem.strKind prog w) [] → PyProof.V.FlatPairs PyData.str ([] : List (Str × Value)) [] → Fr h₀ L g m → Fr g L' h₁ (fun y => (front ++ [(nm, Value.ref D)]).reverse.lookup y) → News g L' h₁ ((D, o) :: news) → K.In g → Top p loose mean mg mb g →
      wpAny (model prog w) (A.deeper (envOf qual scope L' f cdv)) (execs body (envOf qual scope L' f cdv))
        (fun fl s' => LeaveK h₀ L m g R (match fl with | .ret v => v | _ => .none) s')
        (fun e s' => wpAny (model prog w) (A.deeper (envOf qual scope L' f cdv)) (leaving (envOf qual scope L' f cdv) e) (fun _ s'' => R (.error e) s'') (fun e' s'' => R (.error e') s'') s')
        { s with heap := h₁, toks := tk })
    (hco : scope.isCoroutine = false) (hgen : scope.isGenerator = false) (hk : scope.kind = .function)
    (hcell : ∀ x ∈ scope.names, x.2 ≠ .cell) : codeAny (model prog w) A (.call (.ref f) args) R s := by
  refine codeAny_call_function (fd := fnOf name qual params body scope dV kV doc pm an cdv ct) (body := body) hroom ((X₀.keeps F.keep) _ _ ho) rfl hco hgen rfl (codeRec_of (X₀.keeps F.keep) hcd) ?_
  refine wp_of_peekA (o := dictOf [] 0) F N (X₀.keeps F.keep) rfl _ g₁ hp fun h' F' N' l => ?_
  rw [hk₁]
  refine wpAny_bind (wpAny_pure (wpAny_pure ?_))
  exact frame0 (s := { s with heap := h' }) F' X₀ N' T (hloc _) (fun g L' h₁ FG FL NG X' T' => h _ _ g L' h₁ _ l (F.notModules (modules_low T.nolimit)) (kp_isDict (ex := []) 0 0 List.nodup_nil) .nil FG FL NG X' T') hcell hk
theorem code_both0 {vs : List Value} {nm nr : Str} {front : List (Str × Value)} {g₁ : Addr → Sem (List (Str × Value))} {g₂ : Addr → Addr → Sem (List (Str × Value))}
    (F : Fr h₀ L s.heap m) (X₀ : K.In h₀) (N : News h₀ L s.heap news) (T : Top p loose mean mg mb h₀)
    (ho : K.lookup f = some ⟨oc, od, .func (fnOf name qual params body scope dV kV doc pm an cdv ct), osl⟩) (hcd : codeIn K cdv qual = true) (hroom : A.depth < recursionLimit)
    (hv : args.pos.drop (params.posonlyargs.length + params.args.length) = vs)
    (hp : peekA K ⟨prog, w.params⟩ (bindArgs (fnOf name qual params body scope dV kV doc pm an cdv ct) args) = some (({ cls := .type "tuple", data := .seq vs.toArray } : Obj), g₁))
    (hp₂ : ∀ D, peekA K ⟨prog, w.params⟩ (g₁ D) = some (dictOf [] 0, g₂ D))
    (hk₂ : ∀ C D, g₂ C D = (forIn [] PUnit.unit (fun (x : Str × Value) _ => (nsSet D x.1 x.2 >>= fun _ => pure (ForInStep.yield PUnit.unit))) >>= fun _ => pure (front ++ [(nr, Value.ref C)] ++ [(nm, Value.ref D)])))
    (hloc : ∀ C D, ∀ y ∈ front ++ [(nr, Value.ref C)] ++ [(nm, Value.ref D)], scope.names.lookup y.1 = some .local)
    (h : ∀ C D g L' h₁ tk, (∀ p ∈ news, p.1 < C) → C < D → (∀ p ∈ news, p.1 < D) → Fr h₀ L g m → Fr g L' h₁ (fun y => (front ++ [(nr, Value.ref C)] ++ [(nm, Value.ref D)]).reverse.lookup y) →
      News g L' h₁ ((D, dictOf [] 0) :: (C, ({ cls := .type "tuple", data := .seq vs.toArray } : Obj)) :: news) → K.In g → Top p loose mean mg mb g →
      wpAny (model prog w) (A.deeper (envOf qual scope L' f cdv)) (execs body (envOf qual scope L' f cdv))
        (fun fl s' => LeaveK h₀ L m g R (match fl with | .ret v => v | _ => .none) s')
        (fun e s' => wpAny (model prog w) (A.deeper (envOf qual scope L' f cdv)) (leaving (envOf qual scope L' f cdv) e) (fun _ s'' => R (.error e) s'') (fun e' s'' => R (.error e') s'') s')
        { s with heap := h₁, toks := tk })
    (hco : scope.isCoroutine = false) (hgen : scope.isGenerator = false) (hk : scope.kind = .function)
    (hcell : ∀ x ∈ scope.names, x.2 ≠ .cell) : codeAny (model prog w) A (.call (.ref f) args) R s := by
  have _ := hv
  refine codeAny_call_function (fd := fnOf name qual params body scope dV kV doc pm an cdv ct) (body := body) hroom ((X₀.keeps F.keep) _ _ ho) rfl hco hgen rfl (codeRec_of (X₀.keeps F.keep) hcd) ?_
  refine wp_of_peekA (o := ({ cls := .type "tuple", data := .seq vs.toArray } : Obj)) F N (X₀.keeps F.keep) rfl _ g₁ hp fun h' F' N' l => ?_
  refine wp_of_peekA (s := { s with heap := h' }) (o := dictOf [] 0) F' N' (X₀.keeps F'.keep) rfl _ (g₂ s.heap.objs.size) (hp₂ _) fun h'' F'' N'' l' => ?_
  rw [hk₂]
  refine wpAny_bind (wpAny_pure (wpAny_pure ?_))
  exact frame0 (s := { s with heap := h'' }) F'' X₀ N'' T (hloc _ _) (fun g L' h₁ FG FL NG X' T' => h _ _ g L' h₁ _ l (l' _ (.head _)) (fun p hp => l' p (.tail _ hp)) FG FL NG X' T') hcell hk
theorem enterC 
    (X : K.In s.heap) (T : Top p loose mean mg mb s.heap)
    (ho : K.lookup f = some ⟨oc, od, .func (fnOf name qual params body scope dV kV doc pm an cdv ct), osl⟩) (hcd : codeIn K cdv qual = true) (hroom : A.depth < recursionLimit)
    (hbind : BindsTo s (fnOf name qual params body scope dV kV doc pm an cdv ct) args binds) (hkind : (binds.all fun y => scope.names.lookup y.1 == some .local || scope.names.lookup y.1 == some .cell) = true)
    (hnd : ((cellsFrom 0 scope.names []).map (·.1)).Nodup)
    (h : ∀ L' h₁ tk cells, Fr s.heap L' h₁ (bindL (envOfC qual scope L' f cdv).kindOf binds fun _ => none) → News s.heap L' h₁ cells →
      CellsAre (bindC (envOfC qual scope L' f cdv).kindOf binds fun _ => none) (cellsFrom (L' + 1) scope.names []) cells →
      wpAny (model prog w) (A.deeper (envOfC qual scope L' f cdv)) (execs body (envOfC qual scope L' f cdv))
        (fun fl s' => R (.ok (.ret (match fl with | .ret v => v | _ => .none))) s')
        (fun e s' => wpAny (model prog w) (A.deeper (envOfC qual scope L' f cdv)) (leaving (envOfC qual scope L' f cdv) e) (fun _ s'' => R (.error e) s'') (fun e' s'' => R (.error e') s'') s')
        { s with heap := h₁, toks := tk })
    (hco : scope.isCoroutine = false) (hgen : scope.isGenerator = false) (hk : scope.kind = .function) : codeAny (model prog w) A (.call (.ref f) args) R s := by
  refine codeAny_call_function (fd := fnOf name qual params body scope dV kV doc pm an cdv ct) (body := body) hroom (X _ _ ho) rfl hco hgen rfl (codeRec_of X hcd) (hbind _ _ _ _ ?_)
  refine wpAny_newFunctionEnv_cells hk (kindsX hkind _) fun env' he s' x => ?_
  subst he
  refine ⟨T.nolimit.keeps x.toInCall.keep, codeAny_func ?_⟩
  obtain ⟨h₁, tk, rfl, _⟩ := x.done
  have hk₁ := x.toInCall.keep
  obtain ⟨cells, NC, Y⟩ := Cl.news (h₀ := s.heap) (Nat.le_refl _) fun n c hm => ⟨x.cell n c (lookup_of_mem_nodup (cellsFrom_names scope.names 0 (s.heap.objs.size + 1) [] [] rfl ▸ hnd) hm), x.above n c hm⟩
  exact h s.heap.objs.size h₁ tk cells ⟨x.toInCall.ns, hk₁, Nat.le_refl _⟩ NC Y
end
section
variable {prog : Program} {w : World} {A : Around} {E : Value → Shared → Prop} {s : Shared} {h₀ : Heap} {L : Addr} {m : Str → Option Value} {env : Env}
/-- a comprehension over a range of any step -/
def SrcD (prog : Program) (w : World) (A : Around) (h₀ : Heap) (L : Addr) (m : Str → Option Value) (env : Env) (elt : Expr) (x : Str) (scope : Scope) (cl : List (Str × Addr)) (Fin : Shared → List Value → List (Addr × Obj) → Prop) (xv : Value) (s₁ : Shared) : Prop :=
  ∃ r a b c t u v n news, xv = .ref r ∧ A.handled = none ∧ Fr h₀ L s₁.heap m ∧ News h₀ L s₁.heap news ∧ IsRange s₁.heap r a b c t u v ∧ Builtin.Range.small a b c = true ∧ Builtin.Range.rangeSize a b c = ((n : Nat) : Int) ∧ n ≤ sizeLine ∧
    ∀ s₂ : Shared, (∃ h, s₂ = { s₁ with heap := h }) → LCg.CompRest prog w A h₀ L m env elt x scope cl s₂ (fun _ => True) (fun i v => ∃ t, v = .int (a + (i : Int) * c) t) (Fin s₂) n 0 [] news
theorem SrcD.intro {elt : Expr} {x : Str} {scope : Scope} {cl : List (Str × Addr)} {Fin : Shared → List Value → List (Addr × Obj) → Prop} {r : Addr} {a b c : Int} {t u v : Tok} {n : Nat} {news : List (Addr × Obj)} {s₁ : Shared}
    (hh : A.handled = none) (F : Fr h₀ L s₁.heap m) (N : News h₀ L s₁.heap news) (hr : IsRange s₁.heap r a b c t u v) (hsm : Builtin.Range.small a b c = true) (hn : Builtin.Range.rangeSize a b c = ((n : Nat) : Int)) (hsz : n ≤ sizeLine)
    (h : ∀ g, LCg.CompRest prog w A h₀ L m env elt x scope cl { s₁ with heap := g } (fun _ => True) (fun i v => ∃ t, v = .int (a + (i : Int) * c) t) (Fin { s₁ with heap := g }) n 0 [] news) :
    SrcD prog w A h₀ L m env elt x scope cl Fin (.ref r) s₁ := ⟨r, a, b, c, t, u, v, n, news, rfl, hh, F, N, hr, hsm, hn, hsz, fun _ ⟨g, e⟩ => e ▸ h g⟩
theorem walks_step {I : Addr} (hh : A.handled = none) (a c : Int) (n : Nat) : Walks prog w A I [I] [I] n (fun i v => ∃ t, v = .int (a + (i : Int) * c) t) (fun i h => IsRangeIter h I (a + (i : Nat) * c) ((n : Int) - (i : Nat)) c) :=
  let W : Walks prog w A I [I] [I] n (fun i v => i < n ∧ ∃ t, v = .int (a + i * c) t) (fun i h => IsRangeIter h I (a + (i : Nat) * c) ((n : Int) - (i : Nat)) c) := (Walks.range hh I a c n).bound
  { sub := W.sub, frame := W.frame, done := W.done, self := W.self, item := fun i s Q E hi st hQ => W.item i s Q E hi st fun v h' tk hP => hQ v h' tk hP.2 }
theorem ListComp_D {elt iter : Expr} {x : Str} {px : Pos} {scope : Scope} {cl : List (Str × Addr)} {pos : Pos} {Q : Value → Shared → Prop} (zF₀ : Fr h₀ L s.heap m)
    (hclos : closureFor scope env = pure cl) (hcell : ∀ y ∈ scope.names, y.2 ≠ .cell) (hkind : scope.kind = .function)
    (hnames : ∀ y ∈ scope.names, y.2 = .local → scope.names.lookup y.1 = some .local) (hx : scope.names.lookup x = some .local)
    (h : wpAny (model prog w) A (eval iter env) (SrcD prog w A h₀ L m env elt x scope cl (fun s₂ => LCg.FinE h₀ L m s₂ Q)) E s)
    (hs : ∀ x, foldedSetIterable iter env x = pure x := by intro _; rfl) :
    wpAny (model prog w) A (eval (.ListComp elt [⟨.Name x px, iter, [], 0⟩] scope pos) env) Q E s := by
  rw [eval_ListComp]
  refine wpAny_comprehension_free (use := none) rfl hs hclos hkind hnames (wpAny_mono h (fun xv s₁ h₁ => ?_) fun _ _ e => e)
  obtain ⟨r, a, b, c, t, u, v, n, news, rfl, hh, F, N, hr, hsm, hn, hsz, R⟩ := h₁
  refine wpAny_pyIter_range hr hsm ?_
  have up : ∀ o', ∀ b o, s₁.heap.get? b = some o → (s₁.heap.push o').get? b = some o := fun _ _ _ e => Heap.get?_push_of_some _ e
  refine LCg.block_U (walks_step hh a c n) hsz (fun _ _ st => ⟨_, st⟩) (fun i h h' o nw st e e' _ _ _ => ?_) hcell hkind hx ?_ (fun b hb => ?_) (F.keeps (up _)) (N.grown (up _)) (Nat.ne_of_lt F.ns.lt) (next_is_new F)
    (fun p hp => Nat.ne_of_lt (Heap.lt_size (N p hp).1)) trivial (R _ ⟨_, rfl⟩) ?_
  · have st' : h.get? _ = some _ := st
    show h'.get? _ = some _
    rw [e', ← e]; exact st'
  · show IsRangeIter _ _ _ _ _
    rw [hn]
    simpa using Heap.get?_push_size _ rfl
  · rw [List.mem_singleton.mp hb]
    show s₁.heap.objs.size < (s₁.heap.push _).objs.size
    rw [Heap.size_push]; exact Nat.lt_succ_self _
  · intro D C h tk m' ys news' F' N' o1 hn' hC₀ hD₀ hCL hDL hCD offC fin
    refine ⟨m', hn', fun h'' hs'' => fin D h'' tk (F'.change hs'' hCL hC₀) (fun p hp => ?_) o1⟩
    refine ⟨hs''.extBut _ _ ?_ (N' p hp).1, (N' p hp).2⟩
    rcases List.mem_cons.mp hp with rfl | hp
    · exact Ne.symm hCD
    · exact offC p hp
end
end Mine
end
section
open PySem PySem.W PyProof.Rows PySem.Calls
set_option Elab.async false
set_option maxRecDepth 100000
set_option maxHeartbeats 8000000
namespace Mine
section
variable {w : World}
theorem truthy_tup {s : Shared} {prog : Program} {A : Around} {E : Value → Shared → Prop} {h₀ : Heap} {L t : Addr} {m : Str → Option Value} {items : List Value} {Q : Bool → Shared → Prop} {b : Bool} (F : Fr h₀ L s.heap m) (ht : IsTup h₀ t items.toArray) (hfit : items.length ≤ 1000000)
    (hb : (!items.isEmpty) = b) (h : ∀ k, Q b { s with toks := k }) : wpAny (model prog w) A (truthy (.ref t)) Q E s := by
  refine truthy_tuple (ht.keeps F.keep) (by simp; omega) ?_
  have e : (!items.toArray.isEmpty) = b := by rw [← hb]; cases items <;> simp
  rw [e]
  exact h _
theorem evalArgs_star2 {M : Model} {A : Around} {E : Value → Shared → Prop} {s : Shared} {f : Value} {x : Sem Value} {y : Bool × Sem Value} {rest : List (Bool × Sem Value)} {Q : Args → Shared → Prop}
    (h : wpAny M A (spliced ((true, x) :: y :: rest)) (fun vs s' => Q ⟨vs, []⟩ s') E s) : wpAny M A (evalArgs f true ((true, x) :: y :: rest) []) Q E s := by
  unfold evalArgs
  show wpAny M A (spliced ((true, x) :: y :: rest) >>= _) Q E s
  refine wpAny_bind (wpAny_mono h (fun vs s' h' => ?_) fun _ _ x => x)
  refine wpAny_holding ?_
  exact wpAny_bind (wpAny_pure (wpAny_bind (wpAny_pure (wpAny_pure h'))))
theorem callWith_S3 {M : Model} {A : Around} {E : Value → Shared → Prop} {s : Shared} {K : Frag} {env : Env} {pos p : Pos} {f : Value} {first : List Value} {Q : Value → Shared → Prop} {h₀ : Heap} {e e2 : Expr} {rest : List Expr}
  (zX : K.In h₀) (hk : keepIn K f = true) (h : wpAny M A (spliced (backTo pos (starEach (.Starred e p :: e2 :: rest) env))) (fun vs s₁ => K.In s₁.heap ∧ wpAny M A (call f (first ++ vs)) Q E s₁) E s)
    (he : starEach (.Starred e p :: e2 :: rest) env = (true, eval e env) :: (false, eval e2 env) :: starEach rest env := by rfl) :
    wpAny M A (callWith pos f first (backTo pos (starEach (.Starred e p :: e2 :: rest) env)) []) Q E s := by
  rw [he] at h ⊢
  exact ks_call rfl (keeps_K hk) (evalArgs_star2 h)
theorem star_tup {prog : Program} {w : World} {A : Around} {E : Value → Shared → Prop} {s : Shared} {h₀ : Heap} {L a : Addr} {m : Str → Option Value} {news : List (Addr × Obj)} {items : List Value} {Q : List Value → Shared → Prop} (F : Fr h₀ L s.heap m) (N : News h₀ L s.heap news) (ht : IsTup h₀ a items.toArray)
    (hz : items.length ≤ 1000000) (h : ∀ h', Fr h₀ L h' m → News h₀ L h' news → Q items { s with heap := h' }) : StarOf (model prog w) A E (.ref a) Q s := by
  obtain ⟨o, ho, hc, n, hd⟩ := ht
  have D := F.keep _ _ ho
  have hT' : s.TypeIs (.ref a) "tuple" := ⟨o, D, hc⟩
  have z : wpAny (model prog w) A (collect (.ref a)) Q E s := by
    refine wpAny_collect_seq a (.inr rfl) D hc hd (fun h' hk => ?_) (by rw [sizeLine_eq]; simpa using Nat.le_trans hz (by decide))
    have e : items.toArray.toList = items := by simp
    rw [e]
    refine h h' ?_ fun p hp => ⟨hk _ _ (N p hp).1, (N p hp).2⟩
    obtain ⟨oL, es, ep, hL, r⟩ := F.ns
    exact ⟨⟨oL, es, ep, hk _ _ hL, r⟩, fun b x q => hk _ _ (F.keep b x q), F.above⟩
  unfold StarOf notIterableAtAll
  exact wpAny_bind (wpAny_specialOf hT' PySem.F.slot_tuple_iter.lookup (wpAny_pure ⟨rfl, z⟩))
theorem str_int9 {prog : Program} {A : Around} {E : Value → Shared → Prop} {s : Shared} {a : Int} {t : Tok} {Q : Value → Shared → Prop} (h0 : 0 ≤ a) (h1 : a ≤ 1000000) (h : ∀ t' k, Q (.str (Str.ofString (toString a)) t') { s with toks := k }) : wpAny (model prog w) A (call (.type "str") [.int a t]) Q E s :=
  P.str_of_int (shown (N := 2000000) (by omega) (by omega) (by decide +kernel)) (h _ _)
theorem in_map {prog : Program} {A : Around} {E : Value → Shared → Prop} {s : Shared} {h₀ : Heap} {L d : Addr} {m : Str → Option Value} {f : Str → Option Value} {x : Str} {t : Tok} {b : Bool} {Q : Value → Shared → Prop} (F : Fr h₀ L s.heap m) (hm : h₀.MapOf (PySem.strKind prog w) d f) (hd : (d == sysModules) = false)
   (hb : (f x).isSome = b) (h : ∀ k, Q (.bool b) { s with toks := k }) : wpAny (model prog w) A (compareOp .In (.str x t) (.ref d)) Q E s :=
  wpAny_in_of (strKind_is prog w x t) hd (let ⟨o, es, ep, ho, r⟩ := hm; ⟨o, es, ep, F.keep _ _ ho, r⟩) (hb ▸ h _)
def cname (c side : Int) : Str := Str.ofString "C" ++ Str.ofString (toString c) ++ Str.ofString "D" ++ Str.ofString (toString side)
def awNames (side : Int) : Nat → List Str
  | 0 => []
  | n + 1 => cname (n + 1 : Int) side :: awNames side n
/-- a dict object that maps as f tells -/
def ObjMap (prog : Program) (w : World) (o : Obj) (f : Str → Option Value) : Prop := ∃ es ep, o.ExactDict ∧ o.data = .dict es ep ∧ KeysOf (PySem.strKind prog w) es ∧ (∀ k, findBy (PySem.strKind prog w).is es k = f k) ∧ es.size ≤ 100000
theorem ObjMap.at {prog : Program} {h : Heap} {a : Addr} {o : Obj} {f : Str → Option Value} (m : ObjMap prog w o f) (e : h.get? a = some o) : h.MapOf (PySem.strKind prog w) a f := let ⟨es, ep, x, y, z, k, _⟩ := m; ⟨o, es, ep, e, x, y, z, k⟩
theorem ObjMap.nil {prog : Program} : ObjMap prog w (dictOf [] 0) (fun _ => none) := ⟨#[], 0, ⟨rfl, rfl, rfl⟩, rfl, fun _ he => by simp at he, fun _ => rfl, by decide⟩
theorem keeps_hide {g h : Heap} {as : List Addr} (k : Keeps g h) (n : ∀ a ∈ as, g.get? a = none) : Keeps g (hideAll h as) := fun b o e => hideAll_get _ (k b o e) fun q => by
  have := n b q; rw [e] at this; cases this
theorem KindAt.kp2 {CT : Addr} {h h' : Heap} {k : Addr} {ns : List Str} (kk : Keeps h h') (x : KindAt CT h k ns) : KindAt CT h' k ns := x.kp kk
theorem ActAt.kp {h h' : Heap} {v : Value} {a : Act} (kk : Keeps h h') (x : ActAt h v a) : ActAt h' v a := by
  cases a with
  | none => exact x
  | pop k => exact x
  | push => exact x
  | go ts => obtain ⟨a, vs, e, t, r⟩ := x; exact ⟨a, vs, e, IsTup.kp kk t, r⟩
theorem PatAt.kp {CP fM : Addr} {h h' : Heap} {q : Addr} {c : Nat} (kk : Keeps h h') (x : PatAt CP fM h q c) : PatAt CP fM h' q c := by
  obtain ⟨x, dx, hsh, tk, r, r1, tk2, h1, h2, h3, h4, h5⟩ := x
  exact ⟨x, dx, hsh, tk, r, r1, tk2, kk _ _ h1, kk _ _ h2, kk _ _ h3, h4.at fun o e => kk _ o e, h5.at fun o e => kk _ o e⟩
theorem RowAt.kp {CT CP fM fN : Addr} {h h' : Heap} {v : Value} {r : Row} (kk : Keeps h h') (x : RowAt CT CP fM fN h v r) : RowAt CT CP fM fN h' v r := by
  obtain ⟨t, x, y, z, e, ht, ha, hp⟩ := x
  refine ⟨t, x, y, z, e, IsTup.kp kk ht, ActAt.kp kk ha, ?_⟩
  cases q : r.pat with
  | none => rw [q] at hp; exact hp
  | some c => rw [q] at hp; obtain ⟨q1, k, e1, e2, h1, h2⟩ := hp; exact ⟨q1, k, e1, e2, PatAt.kp kk h1, h2.kp kk⟩
theorem RowsAt.kp {CT CP fM fN : Addr} {h h' : Heap} {vs : List Value} {rs : List Row} (kk : Keeps h h') (x : RowsAt CT CP fM fN h vs rs) : RowsAt CT CP fM fN h' vs rs := by
  induction x with
  | nil => exact .nil
  | cons a _ ih => exact .cons (RowAt.kp kk a) ih
theorem RowsAt.snoc {CT CP fM fN : Addr} {h : Heap} {vs : List Value} {rs : List Row} {v : Value} {r : Row} (x : RowsAt CT CP fM fN h vs rs) (y : RowAt CT CP fM fN h v r) : RowsAt CT CP fM fN h (vs ++ [v]) (rs ++ [r]) := by
  induction x with
  | nil => exact .cons y .nil
  | cons a _ ih => exact .cons a ih
/-- what the ledger's rest bears, as a heap -/
def Bears (B : Heap) (rest : List (Addr × Obj)) (g : Heap) : Prop := Keeps B g ∧ ∀ b o, g.get? b = some o → B.get? b = some o ∨ (b, o) ∈ rest
theorem Bears.start (B : Heap) (rest : List (Addr × Obj)) : Bears B rest B := ⟨fun _ _ e => e, fun _ _ e => .inl e⟩
theorem Bears.keeps {B h g : Heap} {L : Addr} {m : Str → Option Value} {rest news : List (Addr × Obj)} (b : Bears B rest g) (F : Fr B L h m) (N : News B L h news) (sub : ∀ p ∈ rest, p ∈ news) : Keeps g h := fun a o e => by
  rcases b.2 a o e with q | q
  · exact F.keep _ _ q
  · exact (N _ (sub _ q)).1
theorem regrow {B h g : Heap} {L : Addr} {m : Str → Option Value} {mu rest0 new : List (Addr × Obj)} (F : Fr B L h m) (N : News B L h (mu ++ (new ++ rest0))) (off : ∀ p ∈ new ++ rest0, ∀ q ∈ mu, p.1 ≠ q.1) (b : Bears B rest0 g) :
    ∃ rest g', News B L h (mu ++ rest) ∧ (∀ p ∈ rest, ∀ q ∈ mu, p.1 ≠ q.1) ∧ Bears B rest g' ∧ Keeps g g' ∧ (∀ p ∈ new, g'.get? p.1 = some p.2) ∧ g'.get? L = none ∧ (∀ q ∈ mu, g'.get? q.1 = none) := by
  let as := L :: mu.map (·.1)
  have hnot : ∀ p ∈ new ++ rest0, p.1 ∉ as := fun p hp q => by
    rcases List.mem_cons.mp q with e | q
    · exact (N p (List.mem_append_right _ hp)).2.1 e
    · obtain ⟨z, hz, e⟩ := List.mem_map.mp q
      exact off p hp z hz e.symm
  have hB : ∀ a o, B.get? a = some o → a ∉ as := fun a o e q => by
    rcases List.mem_cons.mp q with rfl | q
    · have := Heap.get?_none_of_le F.above; rw [e] at this; cases this
    · obtain ⟨z, hz, rfl⟩ := List.mem_map.mp q
      have := (N z (List.mem_append_left _ hz)).2.2; rw [e] at this; cases this
  have kB : Keeps B (hideAll h as) := fun a o e => hideAll_get _ (F.keep a o e) (hB a o e)
  refine ⟨(List.range h.objs.size).filterMap fun b => if b ∈ as ∨ (B.get? b).isSome then none else (h.get? b).map fun o => (b, o), hideAll h as, ?_, ?_, ⟨kB, ?_⟩, ?_, ?_, hideAll_none _ (.head _), fun q hq => hideAll_none _ (.tail _ (List.mem_map_of_mem hq))⟩
  · intro p hp
    rcases List.mem_append.mp hp with hp | hp
    · exact N p (List.mem_append_left _ hp)
    obtain ⟨b, hb, e⟩ := List.mem_filterMap.mp hp
    split at e
    · cases e
    · rename_i hn
      cases q : h.get? b with
      | none => rw [q] at e; cases e
      | some o =>
        rw [q] at e
        cases e
        refine ⟨q, fun z => hn (.inl (by rw [show b = L from z]; exact .head _)), ?_⟩
        cases z : B.get? b with
        | none => rfl
        | some o' => exact absurd (.inr (by rw [z]; rfl)) hn
  · intro p hp z hz e
    obtain ⟨b, hb, e'⟩ := List.mem_filterMap.mp hp
    split at e'
    · cases e'
    · rename_i hn
      cases q : h.get? b with
      | none => rw [q] at e'; cases e'
      | some o =>
        rw [q] at e'
        cases e'
        exact hn (.inl (by rw [show b = z.1 from e]; exact .tail _ (List.mem_map_of_mem hz)))
  · intro a o e
    have e1 := of_hideAll _ e
    have na : a ∉ as := fun q => by rw [hideAll_none _ q] at e; cases e
    cases z : B.get? a with
    | some o' => left; have := F.keep _ _ z; rw [e1] at this; exact this.symm
    | none =>
      right
      refine List.mem_filterMap.mpr ⟨a, List.mem_range.mpr (Heap.lt_size e1), ?_⟩
      rw [if_neg (by rw [z]; simp [na]), e1]
      rfl
  · intro a o e
    rcases b.2 a o e with q | q
    · exact kB _ _ q
    · exact hideAll_get _ (N _ (List.mem_append_right _ (List.mem_append_right _ q))).1 (hnot _ (List.mem_append_right _ q))
  · intro p hp
    exact hideAll_get _ (N _ (List.mem_append_right _ (List.mem_append_left _ hp))).1 (hnot _ (List.mem_append_left _ hp))
def anyKind : ItemKind Value := ⟨fun a v => v = a, some, fun _ _ h => by rw [h]⟩
theorem areAny : ∀ vs : List Value, AreOf anyKind vs vs
  | [] => .nil
  | _ :: r => .cons rfl (areAny r)
end
end Mine
end
section
open PySem PySem.W PyProof.Rows PySem.Calls
set_option Elab.async false
set_option maxRecDepth 100000
set_option maxHeartbeats 8000000
namespace Mine
section
variable {w : World} {s : Shared} {p : Program} {loose : List Str} {mean : ExcName → Option Value} {mg mb : Str → Option Value}
theorem name_lt {a b : Nat} (h : a < b) : ∃ c, c = b ∧ a < c := ⟨b, rfl, h⟩
theorem swp_mem {α : Type} {a b p : α} {rest : List α} (h : p ∈ a :: b :: rest) : p ∈ b :: a :: rest := by
  rcases List.mem_cons.mp h with rfl | h
  · exact .tail _ (.head _)
  rcases List.mem_cons.mp h with rfl | h
  · exact .head _
  · exact .tail _ (.tail _ h)
theorem nw_swp {h₀ h : Heap} {L : Addr} {a b : Addr × Obj} {rest : List (Addr × Obj)} (N : News h₀ L h (a :: b :: rest)) : News h₀ L h (b :: a :: rest) := fun p hp => N p (swp_mem hp)
theorem item_tup0 {prog : Program} {A : Around} {E : Value → Shared → Prop} {h₀ : Heap} {L t : Addr} {m : Str → Option Value} {value slice : Expr} {l : List Value} {k : Int} {u : Tok} {x : Value} {Q : Value → Shared → Prop} (F : Fr h₀ L s.heap m) (ht : IsTup h₀ t l.toArray)
    (j : Nat) (hk : k = (j : Int)) (hj : j < 1000) (hx : l[j]? = some x) (h : Q x s)
    (hs : subscripted slice false (.ref t) (.int k u) = operate [.ref t, .int k u] (getItem (.ref t) (.int k u)) := by with_unfolding_all rfl) :
    wpAny (model prog w) A (subscriptTail value slice (.ref t) (.int k u)) Q E s := by
  subst hk
  have hlt : j < l.length := by
    rcases Nat.lt_or_ge j l.length with q | q
    · exact q
    · rw [List.getElem?_eq_none q] at hx; cases hx
  exact item_tupleT (ht.keeps F.keep) (by omega) (by omega) (seqIndex_of (by omega) (by omega)) (by simpa using hx) h hs
theorem len_tup0 {prog : Program} {A : Around} {E : Value → Shared → Prop} {h₀ : Heap} {L t : Addr} {m : Str → Option Value} {l : List Value} {n : Nat} {Q : Value → Shared → Prop} (F : Fr h₀ L s.heap m) (ht : IsTup h₀ t l.toArray)
    (hn : l.length = n) (hs : n < 1000) (h : ∀ t' k, Q (.int (n : Int) t') { s with toks := k }) : wpAny (model prog w) A (call (.builtin "len") [.ref t]) Q E s := by
  refine len_tuple (ht.keeps F.keep) (by simp; omega) ?_
  have e : (l.toArray.size : Int) = (n : Int) := by simp [hn]
  rw [e]
  exact h _ _
theorem news_add {h₀ h h' : Heap} {L q : Addr} {m : Str → Option Value} {o : Obj} {news : List (Addr × Obj)} (F : Fr h₀ L h m) (N : News h₀ L h news) (hk : Keeps h h') (hq : h'.get? q = some o ∧ h.get? q = none) :
    Fr h₀ L h' m ∧ News h₀ L h' ((q, o) :: news) ∧ (∀ p ∈ news, p.1 ≠ q) := by
  refine ⟨F.keeps hk, fun p hp => ?_, fun p hp e => ?_⟩
  · rcases List.mem_cons.mp hp with rfl | hp
    · refine ⟨hq.1, fun e => ?_, ?_⟩
      · obtain ⟨oL, _, _, hL, _⟩ := F.ns
        rw [show q = L from e, hL] at hq; cases hq.2
      · cases z : h₀.get? q with
        | none => rfl
        | some o' => rw [F.keep _ _ z] at hq; cases hq.2
    · exact (N.grown hk) _ hp
  · have := (N p hp).1
    rw [e, hq.2] at this; cases this
theorem news_add3 {h₀ h h' : Heap} {L q lt : Addr} {m : Str → Option Value} {o ol : Obj} {tail : List (Addr × Obj)} (F : Fr h₀ L h m) (N : News h₀ L h ((lt, ol) :: tail)) (off : ∀ p ∈ tail, p.1 ≠ lt) (hk : Keeps h h') (hq : h'.get? q = some o ∧ h.get? q = none) :
    Fr h₀ L h' m ∧ News h₀ L h' ((lt, ol) :: (q, o) :: tail) ∧ (∀ p ∈ (q, o) :: tail, p.1 ≠ lt) ∧ (∀ p ∈ tail, p.1 ≠ q) := by
  obtain ⟨F', N', ho⟩ := news_add F N hk hq
  exact ⟨F', nw_swp N', List.forall_mem_cons.mpr ⟨(ho _ (.head _)).symm, off⟩, fun p hp => ho p (.tail _ hp)⟩
inductive RAct where
  | stay
  | popS
  | goT (ts : List Str)
structure Raw where
  c : Nat
  kind : List Str
  act : RAct
def RAct.act : RAct → Act
  | .stay => .none
  | .popS => .pop 1
  | .goT ts => .go ts
def Raw.row (r : Raw) : Row := ⟨some r.c, r.kind, r.act.act⟩
def PlainAt1 (CP : Addr) (h : Heap) (x : Addr) (c : Nat) : Prop :=
  ∃ dx hsh tk r r1 tk2, h.get? x = some (instObj CP dx) ∧ h.get? dx = some (dictOf [⟨hsh, .str (Str.ofString "rows") tk, .ref r⟩] 1) ∧ h.IsList r #[.ref r1] ∧ h.IsList r1 #[.str ⟨#[c]⟩ tk2]
def RawAt (CT CP : Addr) (h : Heap) (v : Value) (r : Raw) : Prop :=
  ∃ t x y, v = .ref t ∧ PlainAt1 CP h x r.c ∧ KindAt CT h y r.kind ∧ match r.act with
    | .stay => IsTup h t [.ref x, .ref y].toArray
    | .popS => ∃ tk, IsTup h t [.ref x, .ref y, .str (Str.ofString "#pop") tk].toArray
    | .goT ts => ∃ a vs, IsTup h t [.ref x, .ref y, .ref a].toArray ∧ IsTup h a vs.toArray ∧ StrsAre vs ts ∧ ts.length ≤ 100
inductive RawsAt (CT CP : Addr) (h : Heap) : List Value → List Raw → Prop
  | nil : RawsAt CT CP h [] []
  | cons {v r vs rs} : RawAt CT CP h v r → RawsAt CT CP h vs rs → RawsAt CT CP h (v :: vs) (r :: rs)
theorem PlainAt1.kp {CP : Addr} {h h' : Heap} {x : Addr} {c : Nat} (kk : Keeps h h') (y : PlainAt1 CP h x c) : PlainAt1 CP h' x c := by
  obtain ⟨dx, hsh, tk, r, r1, tk2, h2, h3, h4, h5⟩ := y
  exact ⟨dx, hsh, tk, r, r1, tk2, kk _ _ h2, kk _ _ h3, h4.at fun o e => kk _ o e, h5.at fun o e => kk _ o e⟩
theorem RawAt.kp {CT CP : Addr} {h h' : Heap} {v : Value} {r : Raw} (kk : Keeps h h') (x : RawAt CT CP h v r) : RawAt CT CP h' v r := by
  obtain ⟨t, x, y, e, hp, hk, ha⟩ := x
  refine ⟨t, x, y, e, hp.kp kk, hk.kp kk, ?_⟩
  cases q : r.act with
  | stay => rw [q] at ha; exact IsTup.kp kk ha
  | popS => rw [q] at ha; obtain ⟨tk, ha⟩ := ha; exact ⟨tk, IsTup.kp kk ha⟩
  | goT ts => rw [q] at ha; obtain ⟨a, vs, h1, h2, h3⟩ := ha; exact ⟨a, vs, IsTup.kp kk h1, IsTup.kp kk h2, h3⟩
theorem RawsAt.kp {CT CP : Addr} {h h' : Heap} {vs : List Value} {rs : List Raw} (kk : Keeps h h') (x : RawsAt CT CP h vs rs) : RawsAt CT CP h' vs rs := by
  induction x with
  | nil => exact .nil
  | cons a _ ih => exact .cons (a.kp kk) ih
theorem RawsAt.snoc {CT CP : Addr} {h : Heap} {vs : List Value} {rs : List Raw} {v : Value} {r : Raw} (x : RawsAt CT CP h vs rs) (y : RawAt CT CP h v r) : RawsAt CT CP h (vs ++ [v]) (rs ++ [r]) := by
  induction x with
  | nil => exact .cons y .nil
  | cons a _ ih => exact .cons a ih
theorem RawsAt.get {CT CP : Addr} {h : Heap} {vs : List Value} {rs : List Raw} (x : RawsAt CT CP h vs rs) : ∀ {i : Nat} {v : Value}, vs[i]? = some v → ∃ r, rs[i]? = some r ∧ RawAt CT CP h v r := by
  induction x with
  | nil => intro i v e; simp at e
  | cons a _ ih =>
    intro i v e
    cases i with
    | zero => simp at e; exact ⟨_, rfl, e ▸ a⟩
    | succ i => simpa using ih (by simpa using e)
theorem RawsAt.len {CT CP : Addr} {h : Heap} {vs : List Value} {rs : List Raw} (x : RawsAt CT CP h vs rs) : vs.length = rs.length := by
  induction x with
  | nil => rfl
  | cons a _ ih => simp [ih]
theorem RawsAt.tup {CT CP : Addr} {h : Heap} {vs : List Value} {rs : List Raw} (x : RawsAt CT CP h vs rs) : ∀ v ∈ vs, ∃ a xs, v = .ref a ∧ IsTup h a xs := by
  intro v hv
  obtain ⟨i, hi⟩ := List.mem_iff_getElem?.mp hv
  obtain ⟨r, _, t, x, y, e, _, _, ha⟩ := x.get hi
  cases q : r.act with
  | stay => rw [q] at ha; exact ⟨t, _, e, ha⟩
  | popS => rw [q] at ha; obtain ⟨tk, ha⟩ := ha; exact ⟨t, _, e, ha⟩
  | goT ts => rw [q] at ha; obtain ⟨a, vs, h1, _⟩ := ha; exact ⟨t, _, e, h1⟩
/-- what the ledger's rest bears upon g, as a heap -/
def BearsG (g : Heap) (rest : List (Addr × Obj)) (g' : Heap) : Prop := Keeps g g' ∧ ∀ b o, g'.get? b = some o → g.get? b = some o ∨ (b, o) ∈ rest
theorem BearsG.start (g : Heap) (rest : List (Addr × Obj)) : BearsG g rest g := ⟨fun _ _ e => e, fun _ _ e => .inl e⟩
theorem grow {h g g1 : Heap} {rest0 new : List (Addr × Obj)} (kg : Keeps g h) (hn : ∀ p ∈ new ++ rest0, h.get? p.1 = some p.2) (b : BearsG g rest0 g1) :
    ∃ g', BearsG g (new ++ rest0) g' ∧ Keeps g1 g' ∧ (∀ p ∈ new, g'.get? p.1 = some p.2) := by
  let bad := (List.range h.objs.size).filter fun a => !((g.get? a).isSome || (new ++ rest0).any fun p => p.1 == a)
  have good : ∀ a o, h.get? a = some o → ((g.get? a).isSome = true ∨ ∃ p ∈ new ++ rest0, p.1 = a) → a ∉ bad := fun a o e q z => by
    have := (List.mem_filter.mp z).2
    rcases q with q | ⟨p, hp, rfl⟩
    · rw [q] at this; simp at this
    · have e1 : ((new ++ rest0).any fun q => q.1 == p.1) = true := List.any_eq_true.mpr ⟨p, hp, by simp⟩
      rw [e1] at this; simp at this
  refine ⟨hideAll h bad, ⟨fun a o e => hideAll_get _ (kg a o e) (good _ _ (kg a o e) (.inl (by rw [e]; rfl))), fun a o e => ?_⟩, fun a o e => ?_, fun p hp => hideAll_get _ (hn p (List.mem_append_left _ hp)) (good _ _ (hn p (List.mem_append_left _ hp)) (.inr ⟨p, List.mem_append_left _ hp, rfl⟩))⟩
  · have e1 := of_hideAll _ e
    have na : a ∉ bad := fun q => by rw [hideAll_none _ q] at e; cases e
    by_cases q : (g.get? a).isSome = true
    · left
      obtain ⟨o', ho'⟩ := Option.isSome_iff_exists.mp q
      have := kg _ _ ho'; rw [e1] at this; rw [ho']; exact this.symm
    · right
      have : ((new ++ rest0).any fun p => p.1 == a) = true := by
        cases z : (new ++ rest0).any fun p => p.1 == a with
        | true => rfl
        | false =>
          refine absurd (List.mem_filter.mpr ⟨List.mem_range.mpr (Heap.lt_size e1), ?_⟩) na
          rw [z]; simp at q; simp [q]
      obtain ⟨p, hp, hpa⟩ := List.any_eq_true.mp this
      have hpa : p.1 = a := by simpa using hpa
      have := hn p hp
      rw [hpa, e1] at this
      have : p = (a, o) := Prod.ext hpa (Option.some.inj this).symm
      exact this ▸ hp
  · rcases b.2 a o e with q | q
    · exact hideAll_get _ (kg a o q) (good _ _ (kg a o q) (.inl (by rw [q]; rfl)))
    · have := hn _ (List.mem_append_right _ q)
      exact hideAll_get _ this (good _ _ this (.inr ⟨_, List.mem_append_right _ q, rfl⟩))
/-- what a call has added to what was known -/
def Ext (g h h' g' : Heap) : Prop := Keeps g g' ∧ Keeps g' h' ∧ ∀ b o, g'.get? b = some o → g.get? b = some o ∨ h.get? b = none
theorem absorb {B h h' g0 g g' : Heap} {L : Addr} {mu rest : List (Addr × Obj)} (hB : Keeps B h) (hL : h.get? L ≠ none) (hm : ∀ q ∈ mu, h.get? q.1 ≠ none) (N : News B L h' (mu ++ rest)) (off : ∀ p ∈ rest, ∀ q ∈ mu, p.1 ≠ q.1) (b : BearsG g0 rest g) (E : Ext g h h' g') :
    ∃ rest', News B L h' (mu ++ rest') ∧ (∀ p ∈ rest', ∀ q ∈ mu, p.1 ≠ q.1) ∧ BearsG g0 rest' g' ∧ (∀ p ∈ rest, p ∈ rest') := by
  let extra := (List.range h'.objs.size).filterMap fun a => if (g.get? a).isSome then none else (g'.get? a).map fun o => (a, o)
  have hex : ∀ p ∈ extra, g'.get? p.1 = some p.2 ∧ h.get? p.1 = none := fun p hp => by
    obtain ⟨a, ha, e⟩ := List.mem_filterMap.mp hp
    split at e
    · cases e
    · rename_i hn
      cases q : g'.get? a with
      | none => rw [q] at e; cases e
      | some o =>
        rw [q] at e
        cases e
        refine ⟨q, (E.2.2 _ _ q).resolve_left fun z => hn (by rw [z]; rfl)⟩
  refine ⟨extra ++ rest, fun p hp => ?_, fun p hp q hq e => ?_, ⟨fun a o e => E.1 _ _ (b.1 _ _ e), fun a o e => ?_⟩, fun p hp => List.mem_append_right _ hp⟩
  · rcases List.mem_append.mp hp with hp | hp
    · exact N p (List.mem_append_left _ hp)
    rcases List.mem_append.mp hp with hp | hp
    · obtain ⟨e1, e2⟩ := hex p hp
      refine ⟨E.2.1 _ _ e1, fun z => hL (z ▸ e2), ?_⟩
      cases z : B.get? p.1 with
      | none => rfl
      | some o => have := hB _ _ z; rw [e2] at this; cases this
    · exact N p (List.mem_append_right _ hp)
  · rcases List.mem_append.mp hp with hp | hp
    · exact hm q hq (e ▸ (hex p hp).2)
    · exact off p hp q hq e
  · cases z : g.get? a with
    | some o' =>
      have := E.1 _ _ z
      rw [e] at this
      rcases b.2 a o' z with q | q
      · left; rw [q]; exact this.symm
      · right; rw [Option.some.inj this]; exact List.mem_append_right _ q
    | none =>
      right
      refine List.mem_append_left _ (List.mem_filterMap.mpr ⟨a, List.mem_range.mpr (Heap.lt_size (E.2.1 _ _ e)), ?_⟩)
      rw [z, e]
      rfl
theorem enterM {prog : Program} {K : Frag} {A : Around} {R : Result → Shared → Prop} {name qual : Str} {params : Arguments} {body : List Stmt} {scope : Scope} {dV kV doc pm cdv ct oc : Value} {an od : Option Addr} {osl : Array (Option Value)} {f : Addr} {args : Args} {binds : List (Str × Value)} (g : Heap) (mu : List (Addr × Obj))
    (X : K.In g) (T : Top p loose mean mg mb g) (hg : Keeps g s.heap) (hm : ∀ q ∈ mu, s.heap.get? q.1 = some q.2 ∧ g.get? q.1 = none)
    (ho : K.lookup f = some ⟨oc, od, .func (fnOf name qual params body scope dV kV doc pm an cdv ct), osl⟩) (hcd : codeIn K cdv qual = true) (hroom : A.depth < recursionLimit)
    (hbind : BindsTo s (fnOf name qual params body scope dV kV doc pm an cdv ct) args binds) (hloc : ∀ y ∈ binds, scope.names.lookup y.1 = some .local)
    (h : ∀ L' h₁ B, Keeps g B → Keeps B s.heap → (∀ b o, s.heap.get? b = some o → (∀ q ∈ mu, q.1 ≠ b) → B.get? b = some o) → (∀ q ∈ mu, B.get? q.1 = none) → Fr B L' h₁ (fun y => binds.reverse.lookup y) → News B L' h₁ mu → K.In B → Top p loose mean mg mb B →
      wpAny (model prog w) (A.deeper (envOf qual scope L' f cdv)) (execs body (envOf qual scope L' f cdv))
        (fun fl s' => R (.ok (.ret (match fl with | .ret v => v | _ => .none))) s')
        (fun e s' => wpAny (model prog w) (A.deeper (envOf qual scope L' f cdv)) (leaving (envOf qual scope L' f cdv) e) (fun _ s'' => R (.error e) s'') (fun e' s'' => R (.error e') s'') s')
        { s with heap := h₁, toks := s.toks + binds.length })
    (hco : scope.isCoroutine = false) (hgen : scope.isGenerator = false) (hk : scope.kind = .function)
    (hcell : ∀ x ∈ scope.names, x.2 ≠ .cell) : codeAny (model prog w) A (.call (.ref f) args) R s := by
  have kB : Keeps g (hideAll s.heap (mu.map (·.1))) := keeps_hide hg fun a ha => by
    obtain ⟨q, hq, rfl⟩ := List.mem_map.mp ha
    exact (hm q hq).2
  refine codeAny_call_def (fd := fnOf name qual params body scope dV kV doc pm an cdv ct) (body := body) (binds := binds) hroom (hg _ _ (X _ _ ho)) rfl (T.nolimit.keeps hg) (codeRec_of (X.keeps hg) hcd) rfl hbind hcell hloc (fun h₁ hns hk₁ => ?_) hco hgen hk
  refine h s.heap.objs.size h₁ (hideAll s.heap (mu.map (·.1))) kB (fun a o e => of_hideAll _ e) (fun b o e hn => hideAll_get _ e fun hb => ?_) (fun q hq => hideAll_none _ (List.mem_map_of_mem hq)) ⟨hns, fun b o e => hk₁ b o (of_hideAll _ e), Nat.le_of_eq (hideAll_size _ _)⟩ (fun q hq => ?_) (X.keeps kB) (T.keeps kB)
  · obtain ⟨q, hq, e⟩ := List.mem_map.mp hb
    exact hn q hq e
  · exact ⟨hk₁ _ _ (hm q hq).1, Nat.ne_of_lt (Heap.lt_size (hm q hq).1), hideAll_none _ (List.mem_map_of_mem hq)⟩
theorem set_dict {prog : Program} {A : Around} {E : Value → Shared → Prop} {h₀ : Heap} {L d : Addr} {m : Str → Option Value} {o : Obj} {pre rest : List (Addr × Obj)} {kvs : List (Str × Value)} {x : Str} {t : Tok} {v : Value} {Q : Unit → Shared → Prop}
    (F : Fr h₀ L s.heap m) (N : News h₀ L s.heap (pre ++ (d, o) :: rest)) (off1 : ∀ p ∈ pre, p.1 ≠ d) (off : ∀ p ∈ rest, p.1 ≠ d) (hd : o.IsDictOf (PySem.strKind prog w) kvs) (hnew : valueAt kvs x = none) (hsz : kvs.length ≤ 100000)
    (h : ∀ h' o' k, Fr h₀ L h' m → News h₀ L h' (pre ++ (d, o') :: rest) → o'.IsDictOf (PySem.strKind prog w) (kvs ++ [(x, v)]) → Q () { s with heap := h', toks := k }) : wpAny (model prog w) A (setItem (.ref d) (.str x t) v) Q E s := by
  have hm := N (d, o) (List.mem_append_right _ (.head _))
  refine wpAny_setItem_pairs (hsz := by rw [sizeLine_eq]; exact Nat.le_trans hsz (by decide)) (strKind_is prog w x t) (Heap.dictOf_iff.mpr ⟨o, hm.1, hd⟩) fun h' hmm hs => ?_
  obtain ⟨o', ho', hd'⟩ := Heap.dictOf_iff.mp hmm
  have e : stored kvs x v = kvs ++ [(x, v)] := by
    unfold stored
    rw [if_neg]
    intro hany
    obtain ⟨kv, hkv, e⟩ := List.any_eq_true.mp hany
    unfold valueAt at hnew
    have : kvs.find? (fun kv => kv.1 = x) = none := by simpa using hnew
    have := List.find?_eq_none.mp this kv hkv
    exact this e
  rw [e] at hd'
  exact h h' o' _ (F.change hs hm.2.1 hm.2.2) (N.setIn off1 off hs ho') hd'
theorem in_dict {prog : Program} {A : Around} {E : Value → Shared → Prop} {h₀ : Heap} {L d : Addr} {o : Obj} {rest : List (Addr × Obj)} {kvs : List (Str × Value)} {x : Str} {t : Tok} {Q : Value → Shared → Prop}
    (N : News h₀ L s.heap ((d, o) :: rest)) (hd : o.IsDictOf (PySem.strKind prog w) kvs) (hs : (d == sysModules) = false) (hnew : valueAt kvs x = none)
    (h : ∀ k, Q (.bool false) { s with toks := k }) : wpAny (model prog w) A (compareOp .In (.str x t) (.ref d)) Q E s :=
  wpAny_in_of (strKind_is prog w x t) hs (Heap.DictOf.mapOf (Heap.dictOf_iff.mpr ⟨o, (N (d, o) (.head _)).1, hd⟩)) (by rw [hnew]; exact h _)
theorem iter_J2 {prog : Program} {A : Around} {E : Value → Shared → Prop} {env : Env} {h₀ : Heap} {x : Str} {body : List Stmt} {Q : Flow → Shared → Prop} {l : Addr} {vs : List Value} {m₀ : Str → Option Value} {news : List (Addr × Obj)}
    (J : Nat → (Str → Option Value) → List (Addr × Obj) → Prop)
    (hh : A.handled = none) (hl : h₀.IsList l vs.toArray) (F : Fr h₀ env.locals s.heap m₀) (N : News h₀ env.locals s.heap news) (hj : J 0 m₀ news)
    (turn : ∀ i v m₁ news₁ I it s₁, vs[i]? = some v → J i m₁ news₁ → (∀ p ∈ news₁, p.1 ≠ I) →
      Fr h₀ env.locals s₁.heap (fun y => if y = x then some v else m₁ y) → News h₀ env.locals s₁.heap ((I, it) :: news₁) → ∀ (P : Flow → Shared → Prop) (E' : Value → Shared → Prop),
      (∀ fl s', (fl = .next ∨ fl = .cont) → UnrEnd h₀ env.locals s₁ I it (J (i + 1)) s' → P fl s') → wpAny (model prog w) A (execs body env) P E' s₁)
    (done : ∀ m₁ news₁ h tk, J vs.length m₁ news₁ → Fr h₀ env.locals h m₁ → News h₀ env.locals h news₁ → Q .next { s with heap := h, toks := tk }) :
    wpAny (model prog w) A (pyIter (.ref l)) (fun it s₂ => LoopAtV prog w A h₀ env x body Q E it s₂) E s :=
  iter_J J hh hl F N hj (fun i v m₁ news₁ h tk I it hv hJ _ ho F₁ N₁ => turn i v m₁ news₁ I it { s with heap := h, toks := tk } hv hJ ho F₁ N₁ _ _ fun fl s' hf z => by
    rcases hf with rfl | rfl
    · exact z
    · exact z) done
end
end Mine
end
section
open PySem PySem.W PyProof.Rows PySem.Calls
set_option Elab.async false
set_option maxRecDepth 100000
set_option maxHeartbeats 8000000
namespace Mine
section
variable {w : World} {s : Shared}
theorem mapKeep {prog : Program} {B h : Heap} {L un : Addr} {m : Str → Option Value} {f : Str → Option Value} (F : Fr B L h m) (hm : B.MapOf (PySem.strKind prog w) un f) : h.MapOf (PySem.strKind prog w) un f := let ⟨o, es, ep, ho, r⟩ := hm; ⟨o, es, ep, F.keep _ _ ho, r⟩
theorem tupsKeep {B h : Heap} {L : Addr} {m : Str → Option Value} {vs : List Value} (F : Fr B L h m) (hv : ∀ v ∈ vs, ∃ a xs, v = .ref a ∧ IsTup B a xs) : ∀ v ∈ vs, ∃ a xs, v = .ref a ∧ IsTup h a xs := fun v h => let ⟨a, xs, e, t⟩ := hv v h; ⟨a, xs, e, IsTup.kp F.keep t⟩
def StJ (w : World) (g : Heap) (x un pr lt : Addr) (st : Str) (stk : Tok) (kvp : List (Str × Value)) (rrs : List Raw) (i : Nat) (m₁ : Str → Option Value) (news₁ : List (Addr × Obj)) : Prop :=
  ∃ its ne o₁ rest gv, news₁ = (lt, lstN its ne) :: (pr, o₁) :: rest ∧ its.length = i ∧ (∀ p ∈ rest, p.1 ≠ lt ∧ p.1 ≠ pr) ∧ o₁.IsDictOf (PySem.strKind PG w) (kvp ++ [(st, .ref lt)]) ∧ BearsG g rest gv ∧ RowsAt 66 613 610 449 gv its ((rrs.take i).map Raw.row) ∧
     m₁ (Str.ofString "cls") = some (.ref x) ∧ m₁ (Str.ofString "unprocessed") = some (.ref un) ∧ m₁ (Str.ofString "processed") = some (.ref pr) ∧ m₁ (Str.ofString "state") = some (.str st stk) ∧ m₁ (Str.ofString "tokens") = some (.ref lt) ∧ ∃ z, m₁ (Str.ofString "rflags") = some z
theorem row_end {g h gv : Heap} {D q y xx : Addr} {z : Value} {n : Nat} {rest : List (Addr × Obj)} {its : List Value} {rrs : List Raw} {i : Nat} {r : Raw} (kg : Keeps g h) (hD : h.get? D = some { cls := .type "tuple", data := .seq #[.ref q, .ref y, z] n }) (hq : h.get? q = some (methodObj (.ref 610) (.ref xx))) (hrest : ∀ p ∈ rest, h.get? p.1 = some p.2)
    (hb : BearsG g rest gv) (hrows : RowsAt 66 613 610 449 gv its ((rrs.take i).map Raw.row)) (hget : rrs[i]? = some r) (hplain : PlainAt1 613 g xx r.c) (hkind : KindAt 66 g y r.kind) (hz : ActAt g z r.act.act) :
    ∃ gv', BearsG g ((D, { cls := .type "tuple", data := .seq #[.ref q, .ref y, z] n }) :: (q, methodObj (.ref 610) (.ref xx)) :: rest) gv' ∧ RowsAt 66 613 610 449 gv' (its ++ [.ref D]) ((rrs.take (i + 1)).map Raw.row) := by
  obtain ⟨gv', hb', k1, hnew⟩ := grow (new := [(D, { cls := .type "tuple", data := .seq #[.ref q, .ref y, z] n }), (q, methodObj (.ref 610) (.ref xx))]) kg (List.forall_mem_cons.mpr ⟨hD, List.forall_mem_cons.mpr ⟨hq, hrest⟩⟩) hb
  have e : (rrs.take (i + 1)).map Raw.row = (rrs.take i).map Raw.row ++ [r.row] := by rw [List.take_add_one, hget]; simp
  rw [e]
  refine ⟨gv', hb', (hrows.kp k1).snoc ⟨D, .ref q, .ref y, z, rfl, ⟨_, hnew _ (.head _), rfl, _, rfl⟩, hz.kp hb'.1, ?_⟩⟩
  obtain ⟨dx, hsh, tk, r0, r1, tk2, h2, h3, h4, h5⟩ := hplain.kp hb'.1
  exact ⟨q, y, rfl, rfl, ⟨xx, dx, hsh, tk, r0, r1, tk2, hnew _ (.tail _ (.head _)), h2, h3, h4, h5⟩, hkind.kp hb'.1⟩
theorem state_turn {g B gv h9 : Heap} {L' lt pr I5 D q y xx x un : Addr} {m9 : Str → Option Value} {it5 o₁ : Obj} {rest : List (Addr × Obj)} {its : List Value} {ne n tk i : Nat} {z : Value} {s5 : Shared} {st : Str} {stk : Tok} {kvp : List (Str × Value)} {rrs : List Raw} {r : Raw} {z6 : Value}
    (kgB : Keeps g B) (F9 : Fr B L' h9 m9) (N9 : News B L' h9 ((D, { cls := .type "tuple", data := .seq #[.ref q, .ref y, z] n }) :: (lt, lstN (its ++ [.ref D]) (ne + 1)) :: (q, methodObj (.ref 610) (.ref xx)) :: (I5, it5) :: (pr, o₁) :: rest))
    (hl : lt < D ∧ q < D ∧ I5 < D ∧ pr < D ∧ AllLt D rest) (hq : ∀ p ∈ (I5, it5) :: (pr, o₁) :: rest, p.1 ≠ q) (hq2 : ∀ p ∈ (q, methodObj (.ref 610) (.ref xx)) :: (I5, it5) :: (pr, o₁) :: rest, p.1 ≠ lt) (ho5 : ∀ p ∈ (lt, lstN its ne) :: (pr, o₁) :: rest, p.1 ≠ I5)
    (hoff : ∀ p ∈ rest, p.1 ≠ lt ∧ p.1 ≠ pr) (hlen : its.length = i) (hdict : o₁.IsDictOf (PySem.strKind PG w) (kvp ++ [(st, .ref lt)])) (hb : BearsG g rest gv) (hrows : RowsAt 66 613 610 449 gv its ((rrs.take i).map Raw.row)) (hget : rrs[i]? = some r) (hplain : PlainAt1 613 g xx r.c) (hkind : KindAt 66 g y r.kind) (hz : ActAt g z r.act.act)
    (q1 : m9 (Str.ofString "cls") = some (.ref x)) (q2 : m9 (Str.ofString "unprocessed") = some (.ref un)) (q3 : m9 (Str.ofString "processed") = some (.ref pr)) (q4 : m9 (Str.ofString "state") = some (.str st stk)) (q5 : m9 (Str.ofString "tokens") = some (.ref lt)) (q6 : m9 (Str.ofString "rflags") = some z6) :
    UnrEnd B L' s5 I5 it5 (StJ w g x un pr lt st stk kvp rrs (i + 1)) { s5 with heap := h9, toks := tk } := by
  obtain ⟨gv', hb', hrows'⟩ := row_end (fun b o e => F9.keep _ _ (kgB _ _ e)) (N9 _ (.head _)).1 (N9 _ (.tail _ (.tail _ (.head _)))).1 (fun p hp => (N9 _ (.tail _ (.tail _ (.tail _ (.tail _ (.tail _ hp)))))).1) hb hrows hget hplain hkind hz
  refine UnrEnd.intro (s₁ := s5) F9 N9 ((lt, lstN (its ++ [.ref D]) (ne + 1)) :: (pr, o₁) :: (D, { cls := .type "tuple", data := .seq #[.ref q, .ref y, z] n }) :: (q, methodObj (.ref 610) (.ref xx)) :: rest) ?_ ?_ ⟨its ++ [.ref D], ne + 1, o₁, _, gv', rfl, by simp [hlen], ?_, hdict, hb', hrows', q1, q2, q3, q4, q5, z6, q6⟩
  · refine List.forall_mem_cons.mpr ⟨by k_mem, List.forall_mem_cons.mpr ⟨by k_mem, List.forall_mem_cons.mpr ⟨by k_mem, List.forall_mem_cons.mpr ⟨by k_mem, List.forall_mem_cons.mpr ⟨by k_mem, fun p hp => .tail _ (.tail _ (.tail _ (.tail _ (.tail _ hp))))⟩⟩⟩⟩⟩
  · refine List.forall_mem_cons.mpr ⟨ho5 (lt, lstN its ne) (.head _), List.forall_mem_cons.mpr ⟨ho5 _ (.tail _ (.head _)), List.forall_mem_cons.mpr ⟨Nat.ne_of_gt hl.2.2.1, List.forall_mem_cons.mpr ⟨(hq _ (.head _)).symm, fun p hp => ho5 p (.tail _ (.tail _ hp))⟩⟩⟩⟩
  · refine List.forall_mem_cons.mpr ⟨⟨Nat.ne_of_gt hl.1, Nat.ne_of_gt hl.2.2.2.1⟩, List.forall_mem_cons.mpr ⟨⟨hq2 _ (.head _), (hq _ (.tail _ (.head _))).symm⟩, hoff⟩⟩
theorem state_done {g B gv h h5 : Heap} {L' lt pr : Addr} {m9 : Str → Option Value} {o o₁ : Obj} {rest : List (Addr × Obj)} {its : List Value} {ne : Nat} {rows : List Row}
    (kgB : Keeps g B) (hBk : ∀ b o', h.get? b = some o' → (∀ q ∈ [(pr, o)], q.1 ≠ b) → B.get? b = some o') (F : Fr B L' h5 m9) (N : News B L' h5 ((lt, lstN its ne) :: (pr, o₁) :: rest)) (hlt : pr < lt) (hoff : ∀ p ∈ rest, p.1 ≠ lt ∧ p.1 ≠ pr) (hb : BearsG g rest gv) (hrows : RowsAt 66 613 610 449 gv its rows) :
    ∃ g', (∀ b ob, b ≠ pr → h.get? b = some ob → h5.get? b = some ob) ∧ h5.get? pr = some o₁ ∧ Ext g h h5 g' ∧ g'.IsList lt its.toArray ∧ RowsAt 66 613 610 449 g' its rows := by
  have kgh : Keeps g h5 := fun b o e => F.keep _ _ (kgB _ _ e)
  obtain ⟨g', hb', k1, hnew⟩ := grow (new := [(lt, lstN its ne)]) kgh (List.forall_mem_cons.mpr ⟨(N _ (.head _)).1, fun p hp => (N p (.tail _ (.tail _ hp))).1⟩) hb
  have hne : ∀ p ∈ [(lt, lstN its ne)] ++ rest, p.1 ≠ pr ∧ News B L' h5 [p] := List.forall_mem_cons.mpr ⟨⟨Nat.ne_of_gt hlt, fun q hq => by rw [List.mem_singleton.mp hq]; exact N _ (.head _)⟩, fun p hp => ⟨(hoff p hp).2, fun q hq => by rw [List.mem_singleton.mp hq]; exact N _ (.tail _ (.tail _ hp))⟩⟩
  refine ⟨g', fun b ob hb e => F.keep _ _ (hBk b ob e (List.forall_mem_cons.mpr ⟨fun z => hb z.symm, fun _ hq => nomatch hq⟩)), (N _ (.tail _ (.head _))).1, ⟨hb'.1, fun b ob e => ?_, fun b ob e => ?_⟩, ⟨_, hnew _ (.head _), rfl, _, rfl⟩, hrows.kp k1⟩
  · rcases hb'.2 b ob e with q | q
    · exact kgh _ _ q
    · exact ((hne _ q).2 _ (.head _)).1
  · rcases hb'.2 b ob e with q | q
    · exact .inl q
    · right
      have hBn := ((hne _ q).2 _ (.head _)).2.2
      cases z : h.get? b with
      | none => rfl
      | some o' =>
        have := hBk b o' z (List.forall_mem_cons.mpr ⟨fun z => (hne _ q).1 z.symm, fun _ hq => nomatch hq⟩)
        rw [show (b, ob).1 = b from rfl, this] at hBn
        cases hBn
theorem ext_of {g B h h' : Heap} {L' : Addr} {m : Str → Option Value} {mu all : List (Addr × Obj)} (n : Nat) (kgB : Keeps g B) (F : Fr B L' h' m) (N : News B L' h' all) (hBk : ∀ b o, h.get? b = some o → (∀ q ∈ mu, q.1 ≠ b) → B.get? b = some o)
    (off : ∀ p ∈ all.take n, ∀ q ∈ mu, p.1 ≠ q.1) (hmu : ∀ q ∈ mu, h.get? q.1 = some q.2 ∧ q ∈ all) : ∃ g', Keeps h h' ∧ Ext g h h' g' ∧ (∀ p ∈ all.take n, g'.get? p.1 = some p.2 ∧ h.get? p.1 = none) := by
  have kgh : Keeps g h' := fun b o e => F.keep _ _ (kgB _ _ e)
  have sub : ∀ p ∈ all.take n, News B L' h' [p] := fun p hp q hq => by rw [List.mem_singleton.mp hq]; exact N _ (List.mem_of_mem_take hp)
  obtain ⟨g', hb', k1, hnew⟩ := grow (new := all.take n) (rest0 := []) kgh (fun p hp => by rw [List.append_nil] at hp; exact (sub p hp _ (.head _)).1) (BearsG.start g [])
  rw [List.append_nil] at hb'
  have hfr : ∀ p ∈ all.take n, h.get? p.1 = none := fun p q => by
    have hBn := (sub _ q _ (.head _)).2.2
    cases z : h.get? p.1 with
    | none => rfl
    | some o' =>
      have := hBk p.1 o' z (fun y hy => (off _ q y hy).symm)
      rw [this] at hBn
      cases hBn
  refine ⟨g', fun b ob e => ?_, ⟨hb'.1, fun b ob e => ?_, fun b ob e => ?_⟩, fun p hp => ⟨hnew p hp, hfr p hp⟩⟩
  · by_cases q : ∀ q ∈ mu, q.1 ≠ b
    · exact F.keep _ _ (hBk b ob e q)
    · obtain ⟨z, hz⟩ := Classical.not_forall.mp q
      obtain ⟨hz, hzb⟩ := Classical.not_imp.mp hz
      have hzb : z.1 = b := Classical.not_not.mp hzb
      obtain ⟨e1, e2⟩ := hmu z hz
      rw [hzb, e] at e1
      rw [Option.some.inj e1, ← hzb]
      exact (N _ e2).1
  · rcases hb'.2 b ob e with q | q
    · exact kgh _ _ q
    · exact (sub _ q _ (.head _)).1
  · rcases hb'.2 b ob e with q | q
    · exact .inl q
    · exact .inr (hfr _ q)
theorem isList_of {h : Heap} {a : Addr} {xs : Array Value} {n : Nat} (e : h.get? a = some (W.listOf xs n)) : h.IsList a xs := ⟨_, e, rfl, _, rfl⟩
theorem iter_JL {prog : Program} {A : Around} {E : Value → Shared → Prop} {env : Env} {h₀ : Heap} {x : Str} {body : List Stmt} {Q : Flow → Shared → Prop} {l : Addr} {lo : Obj} {vs : List Value} {nl : Nat} {m₀ : Str → Option Value} {news : List (Addr × Obj)}
    (J : Nat → (Str → Option Value) → List (Addr × Obj) → Prop)
    (hh : A.handled = none) (F : Fr h₀ env.locals s.heap m₀) (N : News h₀ env.locals s.heap ((l, lo) :: news)) (hc : lo.cls = .type "list") (hd : lo.data = .seq vs.toArray nl) (hj : J 0 m₀ news)
    (turn : ∀ i v m₁ news₁ I it lo' s₁, vs[i]? = some v → J i m₁ news₁ → (∀ p ∈ (l, lo') :: news₁, p.1 ≠ I) →
      Fr h₀ env.locals s₁.heap (fun y => if y = x then some v else m₁ y) → News h₀ env.locals s₁.heap ((I, it) :: (l, lo') :: news₁) → ∀ (P : Flow → Shared → Prop) (E' : Value → Shared → Prop),
      (∀ s', UnrEnd h₀ env.locals s₁ I it (fun m' all => ∃ news', all = (l, lo') :: news' ∧ J (i + 1) m' news') s' → P .next s') → wpAny (model prog w) A (execs body env) P E' s₁)
    (done : ∀ m₁ news₁ h tk, J vs.length m₁ news₁ → Fr h₀ env.locals h m₁ → News h₀ env.locals h news₁ → Q .next { s with heap := h, toks := tk }) :
    wpAny (model prog w) A (pyIter (.ref l)) (fun it s₂ => LoopAtV prog w A h₀ env x body Q E it s₂) E s := by
  have hl0 := N (l, lo) (.head _)
  have hls : s.heap.IsList l vs.toArray := ⟨lo, hl0.1, hc, nl, hd⟩
  have N0 : News h₀ env.locals s.heap news := fun p hp => N p (.tail _ hp)
  have hlt : l < s.heap.objs.size := Heap.lt_size hl0.1
  have hne : l ≠ s.heap.objs.size := Nat.ne_of_lt hlt
  refine wpAny_pyIter_list hls ?_
  have W := Walks.list (prog := prog) (w := w) hh s.heap.objs.size l hne vs.toArray
  have hnew := next_is_new F
  have hlen : vs.toArray.size = vs.length := by simp
  rw [hlen] at W
  refine ⟨_, _, _, vs.length, _, _, m₀, news, J, rfl, W, ?_, ?_, ?_, ⟨⟨_, Heap.get?_push_size _ rfl, rfl, rfl⟩, hls.at fun o e => Heap.get?_push_of_some _ e⟩, F.push _, (fun p hp => ⟨Heap.get?_push_of_some _ (N0 p hp).1, (N0 p hp).2⟩), hj, ?_, ?_⟩
  · intro hmm
    rcases List.mem_cons.mp hmm with e | hmm
    · exact absurd F.ns.lt (e ▸ Nat.lt_irrefl _)
    · exact hl0.2.1 (List.mem_singleton.mp hmm).symm
  · intro b hb
    rw [List.mem_singleton.mp hb]
    exact hnew
  · intro p hp hI
    exact absurd (Heap.lt_size (N0 p hp).1) ((List.mem_singleton.mp hI) ▸ Nat.lt_irrefl _)
  · rintro i v m₁ news₁ s₁ own ⟨hh', tk', rfl⟩ hin hP hJ hoff hown hget hall hst F₁ N₁
    obtain ⟨it, hit, hic, hid⟩ := hst.1
    obtain ⟨lo', hlo, _⟩ := hst.2
    have hmemI := hall s.heap.objs.size (List.mem_cons_self ..) hnew _ hit
    have hmemL := hall l (List.mem_cons_of_mem _ (List.mem_cons_self ..)) hl0.2.2 _ hlo
    have hoffI : ∀ p ∈ (l, lo') :: news₁, p.1 ≠ s.heap.objs.size := List.forall_mem_cons.mpr ⟨hne, fun p hp e => hoff p hp (e ▸ List.mem_singleton.mpr rfl)⟩
    have N₂ : News h₀ env.locals hh' ((s.heap.objs.size, it) :: (l, lo') :: news₁) := fun p hp => by
      rcases List.mem_cons.mp hp with rfl | hp
      · exact N₁ _ (List.mem_append_left _ hmemI)
      rcases List.mem_cons.mp hp with rfl | hp
      · exact N₁ _ (List.mem_append_left _ hmemL)
      · exact N₁ _ (List.mem_append_right _ hp)
    refine turn i v m₁ news₁ _ it lo' { s with heap := hh', toks := tk' } (by simpa using hP) hJ hoffI F₁ N₂ _ _ fun s₂ z => ?_
    obtain ⟨h', tk, m', all, e, F', N', ho, news', rfl, hmm⟩ := z
    refine ⟨rfl, h', tk, m', news', e, F', fun p hp => ?_, fun p hp hI => ho p (.tail _ hp) (List.mem_singleton.mp hI), hmm⟩
    rcases List.mem_append.mp hp with hp | hp
    · have h2 : hh'.get? p.1 = some p.2 := hget p hp
      rcases List.mem_cons.mp (hown p hp) with h1 | h1
      · have h3 : p = (s.heap.objs.size, it) := by
          rw [h1, hit] at h2
          exact Prod.ext h1 (Option.some.inj h2).symm
        rw [h3]; exact N' _ (List.mem_cons_self ..)
      · have h1' : p.1 = l := List.mem_singleton.mp h1
        have h3 : p = (l, lo') := by
          rw [h1', hlo] at h2
          exact Prod.ext h1' (Option.some.inj h2).symm
        rw [h3]; exact N' _ (.tail _ (.head _))
    · exact N' _ (.tail _ (.tail _ hp))
  · rintro h' tk m' news' F' N' _ hJ
    exact done m' news' h' tk hJ F' N'
end
end Mine
end
section
open PySem PySem.W PyProof.Rows PySem.Calls
set_option Elab.async false
set_option maxRecDepth 100000
set_option maxHeartbeats 8000000
namespace Mine
section
variable {w : World} {s : Shared}
inductive TabR (g : Heap) : List (Str × Value) → List (Str × List Raw) → Prop
  | nil : TabR g [] []
  | cons {nm l vs rs kvs tab} : g.IsList l vs.toArray → RawsAt 66 613 g vs rs → vs.length ≤ 1000 → TabR g kvs tab → TabR g ((nm, .ref l) :: kvs) ((nm, rs) :: tab)
inductive TabO (g : Heap) : List (Str × Value) → List (Str × List Raw) → Prop
  | nil : TabO g [] []
  | cons {nm l vs rs kvs tab} : g.IsList l vs.toArray → RowsAt 66 613 610 449 g vs (rs.map Raw.row) → TabO g kvs tab → TabO g ((nm, .ref l) :: kvs) ((nm, rs) :: tab)
theorem TabR.kp {g g' : Heap} {kvs tab} (k : Keeps g g') (x : TabR g kvs tab) : TabR g' kvs tab := by
  induction x with
  | nil => exact .nil
  | cons a b c _ ih => exact .cons (a.at fun o e => k _ o e) (b.kp k) c ih
theorem TabO.kp {g g' : Heap} {kvs tab} (k : Keeps g g') (x : TabO g kvs tab) : TabO g' kvs tab := by
  induction x with
  | nil => exact .nil
  | cons a b _ ih => exact .cons (a.at fun o e => k _ o e) (b.kp k) ih
theorem TabO.snoc {g : Heap} {kvs tab} {nm : Str} {l : Addr} {vs : List Value} {rs : List Raw} (x : TabO g kvs tab) (a : g.IsList l vs.toArray) (b : RowsAt 66 613 610 449 g vs (rs.map Raw.row)) : TabO g (kvs ++ [(nm, .ref l)]) (tab ++ [(nm, rs)]) := by
  induction x with
  | nil => exact .cons a b .nil
  | cons c d _ ih => exact .cons c d ih
theorem TabO.keys {g : Heap} {kvs tab} (x : TabO g kvs tab) : kvs.map (·.1) = tab.map (·.1) := by
  induction x with
  | nil => rfl
  | cons c d _ ih => simp [ih]
theorem TabR.keys {g : Heap} {kvs tab} (x : TabR g kvs tab) : kvs.map (·.1) = tab.map (·.1) := by
  induction x with
  | nil => rfl
  | cons a b c _ ih => simp [ih]
theorem TabR.get {g : Heap} {kvs tab} (x : TabR g kvs tab) : ∀ {i : Nat} {nm : Str}, (kvs.map (·.1))[i]? = some nm → ∃ l vs rs, kvs[i]? = some (nm, .ref l) ∧ tab[i]? = some (nm, rs) ∧ g.IsList l vs.toArray ∧ RawsAt 66 613 g vs rs ∧ vs.length ≤ 1000 := by
  induction x with
  | nil => intro i nm e; simp at e
  | cons a b c _ ih =>
    intro i nm e
    cases i with
    | zero => simp at e; subst e; exact ⟨_, _, _, rfl, rfl, a, b, c⟩
    | succ i => simpa using ih (by simpa using e)
theorem valueAt_no {kvs : List (Str × Value)} {x : Str} (h : x ∉ kvs.map (·.1)) : valueAt kvs x = none := by
  unfold valueAt
  rw [List.find?_eq_none.mpr]
  · rfl
  · intro kv hkv e
    exact h (List.mem_map.mpr ⟨kv, hkv, by simpa using e⟩)
theorem TabO.lookup {g : Heap} {kvs tab} (x : TabO g kvs tab) {nm : Str} {rs : List Raw} (h : tab.lookup nm = some rs) : ∃ l vs, valueAt kvs nm = some (.ref l) ∧ g.IsList l vs.toArray ∧ RowsAt 66 613 610 449 g vs (rs.map Raw.row) := by
  induction x with
  | nil => cases h
  | @cons nm' l vs rs' kvs tab a b _ ih =>
    rw [List.lookup_cons] at h
    by_cases e : nm = nm'
    · subst e
      rw [beq_self_eq_true] at h
      cases h
      exact ⟨l, vs, by simp [valueAt], a, b⟩
    · rw [beq_eq_false_iff_ne.mpr e] at h
      obtain ⟨l', vs', h1, h2⟩ := ih h
      refine ⟨l', vs', ?_, h2⟩
      unfold valueAt at h1 ⊢
      rw [List.find?_cons_of_neg (by simpa using fun q => e q.symm)]
      exact h1
theorem truthy_dct {prog : Program} {A : Around} {E : Value → Shared → Prop} {h₀ : Heap} {L d : Addr} {o : Obj} {kv : Str × Value} {kvs : List (Str × Value)} {news : List (Addr × Obj)} {Q : Bool → Shared → Prop} (N : News h₀ L s.heap news) (hm : (d, o) ∈ news) (hd : o.IsDictOf (PySem.strKind prog w) (kv :: kvs)) (hs : (d == sysModules) = false)
    (hn : (kv :: kvs).length ≤ 100000) (h : ∀ k, Q true { s with toks := k }) : wpAny (model prog w) A (truthy (.ref d)) Q E s := by
  refine wpAny_truthy_dict hs (Heap.dictOf_iff.mpr ⟨o, (N _ hm).1, hd⟩) (by omega) ?_
  first
  | exact h _
  | (have e : (((kv :: kvs).length : Int) != 0) = true := by simp; omega
     rw [e]; exact h _)
  | (simp; exact h _)
def Parked (P : Prop) : Prop := P
theorem park {P : Prop} (h : Parked P) : P := h
theorem unpark {P : Prop} (h : P) : Parked P := h
def TkJ (w : World) (gB : Heap) (x un at' pr l : Addr) (ou oat : Obj) (tab : List (Str × List Raw)) (i : Nat) (m₁ : Str → Option Value) (news₁ : List (Addr × Obj)) : Prop :=
  ∃ o₁ rest gv kvo, news₁ = (pr, o₁) :: (at', oat) :: (un, ou) :: rest ∧ (∀ p ∈ rest, p.1 ≠ l ∧ p.1 ≠ pr ∧ p.1 ≠ at' ∧ p.1 ≠ un) ∧ o₁.IsDictOf (PySem.strKind PG w) kvo ∧ BearsG gB rest gv ∧ TabO gv kvo (tab.take i) ∧
    m₁ (Str.ofString "cls") = some (.ref x) ∧ m₁ (Str.ofString "tokendefs") = some (.ref un) ∧ m₁ (Str.ofString "processed") = some (.ref pr)
theorem tok_step {B gB gv h h' g' : Heap} {L' I l pr at' un : Addr} {m : Str → Option Value} {it lo o₁ o' ou oat : Obj} {rest : List (Addr × Obj)} (F : Fr B L' h m) (N : News B L' h ((I, it) :: (l, lo) :: (pr, o₁) :: (at', oat) :: (un, ou) :: rest))
    (hI : ∀ p ∈ (l, lo) :: (pr, o₁) :: (at', oat) :: (un, ou) :: rest, p.1 ≠ I) (hoff : ∀ p ∈ rest, p.1 ≠ l ∧ p.1 ≠ pr ∧ p.1 ≠ at' ∧ p.1 ≠ un) (hd1 : pr ≠ l) (hd2 : at' ≠ pr) (hd3 : un ≠ pr)
    (e1 : ∀ b ob, b ≠ pr → h.get? b = some ob → h'.get? b = some ob) (e2 : h'.get? pr = some o') (e4 : Ext gv h h' g') (hb : BearsG gB rest gv) :
    ∃ rest', Fr B L' h' m ∧ News B L' h' ((I, it) :: (l, lo) :: (pr, o') :: (at', oat) :: (un, ou) :: rest') ∧ (∀ p ∈ rest', p.1 ≠ I) ∧ (∀ p ∈ rest', p.1 ≠ l ∧ p.1 ≠ pr ∧ p.1 ≠ at' ∧ p.1 ≠ un) ∧ BearsG gB rest' g' := by
  have hpr := N (pr, o₁) (.tail _ (.tail _ (.head _)))
  have F' : Fr B L' h' m := LCg.fr_but F (fun b o hn e => e1 b o (by simpa using hn) e) (Ne.symm hpr.2.1) hpr.2.2
  have kp : ∀ q : Addr × Obj, q.1 ≠ pr → q ∈ (I, it) :: (l, lo) :: (pr, o₁) :: (at', oat) :: (un, ou) :: rest → News B L' h' [q] := fun q hq hm z hz => by
    rw [List.mem_singleton.mp hz]
    exact ⟨e1 _ _ hq (N q hm).1, (N q hm).2⟩
  have N' : News B L' h' ([(I, it), (l, lo), (pr, o'), (at', oat), (un, ou)] ++ rest) := fun p hp => by
    rcases List.mem_append.mp hp with hp | hp
    · rcases List.mem_cons.mp hp with rfl | hp
      · exact kp _ (fun e => hI (pr, o₁) (.tail _ (.head _)) e.symm) (.head _) _ (.head _)
      rcases List.mem_cons.mp hp with rfl | hp
      · exact kp _ hd1.symm (.tail _ (.head _)) _ (.head _)
      rcases List.mem_cons.mp hp with rfl | hp
      · exact ⟨e2, hpr.2⟩
      rcases List.mem_cons.mp hp with rfl | hp
      · exact kp _ hd2 (.tail _ (.tail _ (.tail _ (.head _)))) _ (.head _)
      · rw [List.mem_singleton.mp hp]
        exact kp _ hd3 (.tail _ (.tail _ (.tail _ (.tail _ (.head _))))) _ (.head _)
    · exact kp p (hoff p hp).2.1 (.tail _ (.tail _ (.tail _ (.tail _ (.tail _ hp))))) _ (.head _)
  have offm : ∀ p ∈ rest, ∀ q ∈ [(I, it), (l, lo), (pr, o'), (at', oat), (un, ou)], p.1 ≠ q.1 := fun p hp => List.forall_mem_cons.mpr ⟨hI p (.tail _ (.tail _ (.tail _ (.tail _ hp)))), List.forall_mem_cons.mpr ⟨(hoff p hp).1, List.forall_mem_cons.mpr ⟨(hoff p hp).2.1, List.forall_mem_cons.mpr ⟨(hoff p hp).2.2.1, List.forall_mem_cons.mpr ⟨(hoff p hp).2.2.2, fun _ h => (List.not_mem_nil h).elim⟩⟩⟩⟩⟩
  have inh : ∀ q ∈ [(I, it), (l, lo), (pr, o'), (at', oat), (un, ou)], h.get? q.1 ≠ none := by
    have z : ∀ q ∈ (I, it) :: (l, lo) :: (pr, o₁) :: (at', oat) :: (un, ou) :: rest, h.get? q.1 ≠ none := fun q hq e => by
      have := (N q hq).1; rw [e] at this; cases this
    exact List.forall_mem_cons.mpr ⟨z _ (.head _), List.forall_mem_cons.mpr ⟨z _ (.tail _ (.head _)), List.forall_mem_cons.mpr ⟨z (pr, o₁) (.tail _ (.tail _ (.head _))), List.forall_mem_cons.mpr ⟨z _ (.tail _ (.tail _ (.tail _ (.head _)))), List.forall_mem_cons.mpr ⟨z _ (.tail _ (.tail _ (.tail _ (.tail _ (.head _))))), fun _ h => (List.not_mem_nil h).elim⟩⟩⟩⟩⟩
  obtain ⟨rest', N2, off2, hb2, _⟩ := absorb F.keep (fun e => by obtain ⟨oL, _, _, hL, _⟩ := F.ns; rw [e] at hL; cases hL) inh N' offm hb e4
  exact ⟨rest', F', N2, fun p hp => off2 p hp _ (.head _), fun p hp => ⟨off2 p hp _ (.tail _ (.head _)), off2 p hp _ (.tail _ (.tail _ (.head _))), off2 p hp _ (.tail _ (.tail _ (.tail _ (.head _)))), off2 p hp _ (.tail _ (.tail _ (.tail _ (.tail _ (.head _)))))⟩, hb2⟩
theorem not_in_take {l : List Str} {i : Nat} {x : Str} (hn : l.Nodup) (h : l[i]? = some x) : x ∉ l.take i := by
  intro hx
  obtain ⟨j, hj⟩ := List.mem_iff_getElem?.mp hx
  have hji : j < i := by
    rcases Nat.lt_or_ge j i with q | q
    · exact q
    · rw [List.getElem?_eq_none (by simp; omega)] at hj; cases hj
  rw [List.getElem?_take_of_lt hji] at hj
  have hi := (List.getElem?_eq_some_iff.mp h).1
  have := (List.getElem?_inj (i := j) (j := i) (by omega) hn).mp (by rw [hj, h])
  omega
theorem tok_done {gB B gv h h5 : Heap} {L' pr at' un l : Addr} {m9 : Str → Option Value} {oat0 oat o₁ ou : Obj} {rest : List (Addr × Obj)} {kvo : List (Str × Value)} {tab : List (Str × List Raw)}
    (hgB : Keeps gB h) (hgBB : ∀ b o, gB.get? b = some o → b ≠ un → B.get? b = some o) (hou : h.get? un = some ou) (hBk : ∀ b o', h.get? b = some o' → (∀ q ∈ [(at', oat0), (un, ou)], q.1 ≠ b) → B.get? b = some o') (F : Fr B L' h5 m9) (N : News B L' h5 ((pr, o₁) :: (at', oat) :: (un, ou) :: rest)) (h1 : at' < pr) (h2 : un < pr) (h3 : un ≠ at')
    (hoff : ∀ p ∈ rest, p.1 ≠ l ∧ p.1 ≠ pr ∧ p.1 ≠ at' ∧ p.1 ≠ un) (hd : o₁.IsDictOf (PySem.strKind PG w) kvo) (hb : BearsG gB rest gv) (ht : TabO gv kvo tab) :
    ∃ g', (∀ b ob, b ≠ at' → h.get? b = some ob → h5.get? b = some ob) ∧ Ext gB h h5 g' ∧ g'.DictOf (PySem.strKind PG w) pr kvo ∧ TabO g' kvo tab := by
  have kgh : Keeps gB h5 := fun b o e => by
    by_cases hbu : b = un
    · have := hgB _ _ e
      rw [hbu, hou] at this; cases this; rw [hbu]; exact (N (un, ou) (.tail _ (.tail _ (.head _)))).1
    · exact F.keep _ _ (hgBB _ _ e hbu)
  obtain ⟨g', hb', k1, hnew⟩ := grow (new := [(pr, o₁)]) kgh (List.forall_mem_cons.mpr ⟨(N _ (.head _)).1, fun p hp => (N p (.tail _ (.tail _ (.tail _ hp)))).1⟩) hb
  have hne : ∀ p ∈ [(pr, o₁)] ++ rest, (p.1 ≠ at' ∧ p.1 ≠ un) ∧ News B L' h5 [p] := List.forall_mem_cons.mpr ⟨⟨⟨Nat.ne_of_gt h1, Nat.ne_of_gt h2⟩, fun q hq => by rw [List.mem_singleton.mp hq]; exact N _ (.head _)⟩, fun p hp => ⟨(hoff p hp).2.2, fun q hq => by rw [List.mem_singleton.mp hq]; exact N _ (.tail _ (.tail _ (.tail _ hp)))⟩⟩
  refine ⟨g', fun b ob hb e => ?_, ⟨hb'.1, fun b ob e => ?_, fun b ob e => ?_⟩, Heap.dictOf_iff.mpr ⟨_, hnew _ (.head _), hd⟩, ht.kp k1⟩
  · by_cases hbu : b = un
    · rw [hbu, hou] at e; cases e; rw [hbu]; exact (N (un, ou) (.tail _ (.tail _ (.head _)))).1
    · exact F.keep _ _ (hBk b ob e (List.forall_mem_cons.mpr ⟨fun z => hb z.symm, List.forall_mem_cons.mpr ⟨fun z => hbu z.symm, fun _ hq => (List.not_mem_nil hq).elim⟩⟩))
  · rcases hb'.2 b ob e with q | q
    · exact kgh _ _ q
    · exact ((hne _ q).2 _ (.head _)).1
  · rcases hb'.2 b ob e with q | q
    · exact .inl q
    · right
      have hBn := ((hne _ q).2 _ (.head _)).2.2
      cases z : h.get? b with
      | none => rfl
      | some o' =>
        have := hBk b o' z (List.forall_mem_cons.mpr ⟨fun z => (hne _ q).1.1 z.symm, List.forall_mem_cons.mpr ⟨fun z => (hne _ q).1.2 z.symm, fun _ hq => (List.not_mem_nil hq).elim⟩⟩)
        rw [show (b, ob).1 = b from rfl, this] at hBn
        cases hBn
end
end Mine
end
section
open PySem PySem.W PyProof.Rows PySem.Calls
set_option Elab.async false
set_option maxRecDepth 100000
set_option maxHeartbeats 8000000
namespace Mine
section
variable {prog : Program} {w : World} {A : Around} {E : Value → Shared → Prop} {s : Shared}
theorem merge_empty {d D : Addr} {od oD : Obj} {ep ep' : Nat} {Q : Unit → Shared → Prop} (hd : s.heap.get? d = some od) (hdd : od.data = .dict #[] ep) (hD : s.heap.get? D = some oD) (hc : oD.cls = .type "dict") (hDd : oD.data = .dict #[] ep') (hs : (D == sysModules) = false)
    (h : Q () s) : wpAny (model prog w) A (mergeMapping d (.ref D) true) Q E s := by
  have hT : s.TypeIs (.ref D) "dict" := ⟨oD, hD, hc⟩
  unfold mergeMapping
  refine wpAny_bind (wpAny_isInstance hT (b := true) (by rw [isSubtype_type]; kernel_rfl) ?_)
  simp only [if_true]
  refine wpAny_bind (wpAny_specialOf hT PySem.F.slot_dict_iter.lookup ?_)
  refine wpAny_bind (wpAny_pure ?_)
  rw [show ((some (Value.builtin "dict.__iter__")) == some (Value.builtin "dict.__iter__")) = true from by decide +kernel]
  dsimp only
  rw [if_neg (by rw [hs]; exact Bool.false_ne_true)]
  refine wpAny_bind (wpAny_dictEntries hd hdd ?_)
  rw [if_pos (by rfl)]
  refine wpAny_bind (wpAny_dictEntries hD hDd ?_)
  have e : ∀ f : DictEntry → PUnit → Sem (ForInStep PUnit), (forIn (#[] : Array DictEntry) PUnit.unit f : Sem PUnit) = pure PUnit.unit := fun f => by first | rfl | simp
  rw [e]
  refine wpAny_bind (wpAny_pure ?_)
  refine wpAny_bind (wpAny_dictEntries hD hDd ?_)
  refine wpAny_bind (wpAny_dictEpoch hD hDd ?_)
  refine wpAny_bind (m := forIn (List.range 0) PUnit.unit _) ?_
  rw [show List.range 0 = [] from rfl, List.forIn_nil]
  exact wpAny_pure (wpAny_pure h)
theorem merged_one {f : Value} {x : Sem Value} {D : Addr} {oD : Obj} {ep : Nat} {Q : Addr → Shared → Prop} (hx : ∀ (s' : Shared) (Q' : Value → Shared → Prop), s'.heap = s.heap.push { cls := .type "dict", data := .dict #[] } → Q' (.ref D) s' → wpAny (model prog w) A x Q' E s')
    (hD : s.heap.get? D = some oD) (hc : oD.cls = .type "dict") (hDd : oD.data = .dict #[] ep) (hs : (D == sysModules) = false)
    (h : Q s.heap.objs.size { s with heap := s.heap.push { cls := .type "dict", data := .dict #[] } }) : wpAny (model prog w) A (mergedKeywords f [(none, x)]) Q E s := by
  unfold mergedKeywords
  refine wpAny_bind (wpAny_alloc ?_)
  dsimp only
  refine wpAny_bind (wpAny_holding ?_)
  rw [List.forIn_cons]
  have h1 : (s.heap.push { cls := .type "dict", data := .dict #[] }).get? s.heap.objs.size = some { cls := .type "dict", data := .dict #[] } := Heap.get?_push_size _ rfl
  have h2 : (s.heap.push { cls := .type "dict", data := .dict #[] }).get? D = some oD := Heap.get?_push_of_some _ hD
  refine wpAny_bind (wpAny_bind ?_)
  dsimp only
  refine wpAny_bind (m := ite _ _ _) ?_
  rw [if_pos (show ([] : List (Str × Sem Value)).isEmpty = true from rfl)]
  refine wpAny_pure ?_
  refine wpAny_bind (hx _ _ rfl ?_)
  refine wpAny_bind (wpAny_onRaise (wpAny_holding (wpAny_tryCatch (wpAny_onRaise (merge_empty h1 rfl h2 hc hDd hs ?_)))))
  refine wpAny_pure ?_
  dsimp only
  rw [List.forIn_nil]
  refine wpAny_pure ?_
  rw [if_pos (show ([] : List (Str × Sem Value)).isEmpty = true from rfl)]
  exact wpAny_pure (wpAny_pure h)
theorem kwIn_empty {f : Value} {d : Addr} {od : Obj} {ep : Nat} {Q : List (Str × Value) → Shared → Prop} (hd : s.heap.get? d = some od) (hdd : od.data = .dict #[] ep) (h : Q [] s) : wpAny (model prog w) A (keywordsIn f d) Q E s := by
  unfold keywordsIn
  refine wpAny_bind (wpAny_dictEntries hd hdd ?_)
  have e : ∀ (a : List (Str × Value)) (f : DictEntry → List (Str × Value) → Sem (ForInStep (List (Str × Value)))), (forIn (#[] : Array DictEntry) a f : Sem (List (Str × Value))) = pure a := fun a f => by first | rfl | simp
  rw [e]
  exact wpAny_bind (wpAny_pure (wpAny_pure h))
theorem evalArgs_kw {f : Value} {a x : Sem Value} {rest : List (Bool × Sem Value)} {D : Addr} {Q : Args → Shared → Prop}
    (h : wpAny (model prog w) A (spliced ((false, a) :: rest)) (fun vs s₁ => (∃ oD ep, s₁.heap.get? D = some oD ∧ oD.cls = .type "dict" ∧ oD.data = .dict #[] ep) ∧ (D == sysModules) = false ∧
      (∀ (s' : Shared) (Q' : Value → Shared → Prop), s'.heap = s₁.heap.push { cls := .type "dict", data := .dict #[] } → Q' (.ref D) s' → wpAny (model prog w) A x Q' E s') ∧ Q ⟨vs, []⟩ { s₁ with heap := s₁.heap.push { cls := .type "dict", data := .dict #[] } }) E s) :
    wpAny (model prog w) A (evalArgs f true ((false, a) :: rest) [(none, x)]) Q E s := by
  unfold evalArgs
  show wpAny _ A (spliced ((false, a) :: rest) >>= _) Q E s
  refine wpAny_bind (wpAny_mono h (fun vs s₁ h₁ => ?_) fun _ _ e => e)
  obtain ⟨⟨oD, ep, e1, e2, e3⟩, e4, e5, e6⟩ := h₁
  refine wpAny_holding ?_
  dsimp only
  rw [if_neg (by simp)]
  refine wpAny_bind (merged_one e5 e1 e2 e3 e4 ?_)
  refine wpAny_bind (wpAny_pure ?_)
  refine wpAny_bind (wpAny_holding (kwIn_empty (Heap.get?_push_size _ rfl) rfl ?_))
  exact wpAny_pure e6
theorem callWith_kw {K : Frag} {env : Env} {pos : Pos} {f : Value} {first : List Value} {Q : Value → Shared → Prop} {h₀ : Heap} {e : Expr} {rest : List Expr} {nm : Str} {px kp : Pos} {D : Addr} (zX : K.In h₀) (hk : keepIn K f = true)
    (h : wpAny (model prog w) A (spliced (backTo pos (starEach (e :: rest) env))) (fun vs s₁ => Parked (∃ m news, Fr h₀ env.locals s₁.heap m ∧ News h₀ env.locals s₁.heap news ∧ m nm = some (.ref D) ∧ (D, dictOf [] 0) ∈ news ∧ (D == sysModules) = false ∧ K.In s₁.heap ∧
       ∀ h', Fr h₀ env.locals h' m → News h₀ env.locals h' news → wpAny (model prog w) A (call f (first ++ vs)) Q E { s₁ with heap := h' })) E s)
    (hld : ∀ (s' : Shared) (m : Str → Option Value) (Q' : Value → Shared → Prop), Fr h₀ env.locals s'.heap m → m nm = some (.ref D) → Q' (.ref D) s' → wpAny (model prog w) A (eval (.Name nm px) env) Q' E s')
    (he : starEach (e :: rest) env = (false, eval e env) :: starEach rest env := by rfl) :
    wpAny (model prog w) A (callWith pos f first (backTo pos (starEach (e :: rest) env)) (backToKw pos (keywordEach [⟨none, .Name nm px, kp⟩] env))) Q E s := by
  rw [he] at h ⊢
  unfold callWith
  refine wpAny_bind (wpAny_holding (evalArgs_kw (D := D) (wpAny_mono h (fun vs s₁ h₁ => ?_) fun _ _ e => e)))
  obtain ⟨m, news, F, N, hm, hD, hs, hK, hc⟩ := h₁
  refine ⟨⟨_, _, (N _ hD).1, rfl, rfl⟩, hs, fun s' Q' e hQ => ?_, ?_⟩
  · refine wpAny_bind (hld s' m _ (e ▸ F.push _) hm (wpAny_bind (wpAny_standAt (wpAny_pure hQ))))
  · refine wpAny_bind (wpAny_standAt ?_)
    have up : ∀ b o, s₁.heap.get? b = some o → (s₁.heap.push { cls := .type "dict", data := .dict #[] }).get? b = some o := fun b o e => Heap.get?_push_of_some _ e
    obtain ⟨k, hk', Lk⟩ := keeps_K (M := model prog w) hk _ (hK.keeps up)
    have hcall := hc _ (F.push _) (N.grown up)
    simp only [keywordEach, backToKw, List.map_cons, List.map_nil, List.any_cons, Option.isNone_none, Bool.true_or, Bool.or_true]
    refine wpAny_bind (Lk.here ?_)
    have tail : ∀ {t : Sem Value} {s₂ : Shared}, wpAny (model prog w) A t Q E s₂ → wpAny (model prog w) A (t >>= fun r => holding [r] point >>= fun _ => pure r) Q E s₂ :=
      fun ht => wpAny_bind (wpAny_mono ht (fun r s₂ hr => wpAny_bind (wpAny_holding (wpAny_point (wpAny_pure hr)))) fun _ _ x => x)
    rcases hk' with rfl | rfl | rfl <;> dsimp only <;> first | exact tail (by unfold callMarked; exact Calls.wpAny_keep hcall) | exact tail (wpAny_operating hcall)
theorem eval_MethodKw {env : Env} {name nm : Str} {px apos pos : Pos} {args : List Expr} {kws : List Keyword} {Q : Value → Shared → Prop} (hf : methodCallForm (args.length + kws.length) (backTo pos (starEach args env)) (backToKw pos (keywordEach kws env)) = false)
    (h : wpAny (model prog w) A (eval (.Name nm px) env) (fun ov s₁ => wpAny (model prog w) A (getAttr ov name true) (fun f s₂ => wpAny (model prog w) A (callWith pos f [] (backTo pos (starEach args env)) (backToKw pos (keywordEach kws env))) Q E s₂) E s₁) E s) :
    wpAny (model prog w) A (eval (.Call (.Attribute (.Name nm px) name apos) args kws pos) env) Q E s := by
  rw [arm_eval_Call]
  refine wpAny_bind (m := attributeBase (.Name nm px) name env (eval (.Name nm px) env)) ?_
  show wpAny _ A (eval (.Name nm px) env) _ _ _
  refine wpAny_mono h (fun ov s₁ h₁ => wpAny_bind (wpAny_standAt ?_)) fun _ _ e => e
  unfold methodCall
  rw [hf]
  refine wpAny_bind (wpAny_holding (wpAny_bind (wpAny_mono h₁ (fun f s₂ h₂ => wpAny_pure ?_) fun _ _ e => e)))
  refine wpAny_bind (m := methodCallPos false (.Name nm px) env apos pos) (wpAny_pure ?_)
  exact h₂
theorem dget_none {h₀ : Heap} {L d : Addr} {o : Obj} {kvs : List (Str × Value)} {k : Str} {tk : Tok} {dflt : Value} {news : List (Addr × Obj)} {Q : Value → Shared → Prop} (N : News h₀ L s.heap news) (hm : (d, o) ∈ news) (hd : o.IsDictOf (PySem.strKind prog w) kvs) (hs : (d == sysModules) = false) (hk : valueAt kvs k = none)
    (h : ∀ tk', Q dflt { s with toks := tk' }) : wpAny (model prog w) A (call (.builtin "dict.get") [.ref d, .str k tk, dflt]) Q E s :=
  have hmm : s.heap.MapOf (PySem.strKind prog w) d (valueAt kvs) := Heap.DictOf.mapOf (Heap.dictOf_iff.mpr ⟨o, (N _ hm).1, hd⟩)
  call_meetsIn PySem.F.slot_dict_get hmm.typeIs PySem.F.entry_dict_get (PySem.F.args_dict_get_3 _ _ _) (meets_dict_get_default (PySem.strKind prog w) d (strKind_is prog w k tk) hs dflt) ⟨valueAt kvs, hmm, by rw [hk]; exact h _⟩
theorem iter_T0 {env : Env} {h₀ : Heap} {x : Str} {body : List Stmt} {Q : Flow → Shared → Prop} {l : Addr} {to : Obj} {n : Nat} {m₀ : Str → Option Value} {news : List (Addr × Obj)}
    (hh : A.handled = none) (F : Fr h₀ env.locals s.heap m₀) (N : News h₀ env.locals s.heap news) (hm : (l, to) ∈ news) (hc : to.cls = .type "tuple") (hd : to.data = .seq #[] n)
    (done : ∀ h tk, Fr h₀ env.locals h m₀ → News h₀ env.locals h news → Q .next { s with heap := h, toks := tk }) :
    wpAny (model prog w) A (pyIter (.ref l)) (fun it s₂ => LoopAtV prog w A h₀ env x body Q E it s₂) E s := by
  have hl0 := N _ hm
  have hls : IsTup s.heap l #[] := ⟨to, hl0.1, hc, n, hd⟩
  have hlt : l < s.heap.objs.size := Heap.lt_size hl0.1
  have hne : l ≠ s.heap.objs.size := Nat.ne_of_lt hlt
  refine wpAny_pyIter_tuple hls ?_
  have W := Walks.tuple (prog := prog) (w := w) hh s.heap.objs.size l hne #[]
  have hnew := next_is_new F
  refine ⟨_, _, _, 0, _, _, m₀, news, fun _ m nw => m = m₀ ∧ nw = news, rfl, W, ?_, ?_, ?_, ⟨⟨_, Heap.get?_push_size _ rfl, rfl, rfl⟩, hls.keeps fun b o e => Heap.get?_push_of_some _ e⟩, F.push _, (fun p hp => ⟨Heap.get?_push_of_some _ (N p hp).1, (N p hp).2⟩), ⟨rfl, rfl⟩, ?_, ?_⟩
  · intro hmm
    rcases List.mem_cons.mp hmm with e | hmm
    · exact absurd F.ns.lt (e ▸ Nat.lt_irrefl _)
    · exact hl0.2.1 (List.mem_singleton.mp hmm).symm
  · intro b hb
    rw [List.mem_singleton.mp hb]
    exact hnew
  · intro p hp hI
    exact absurd (Heap.lt_size (N p hp).1) ((List.mem_singleton.mp hI) ▸ Nat.lt_irrefl _)
  · rintro i v m₁ news₁ s₁ own _ hin
    exact absurd hin (Nat.not_lt_zero i)
  · rintro h' tk m' news' F' N' _ ⟨rfl, rfl⟩
    exact done h' tk F' N'
theorem bears_none {h₀ gv : Heap} {rest : List (Addr × Obj)} {a : Addr} (hb : BearsG h₀ rest gv) (h0 : h₀.get? a = none) (off : ∀ p ∈ rest, p.1 ≠ a) : gv.get? a = none := by
  cases z : gv.get? a with
  | none => rfl
  | some o =>
    rcases hb.2 _ _ z with q | q
    · rw [h0] at q; cases q
    · exact absurd rfl (off _ q)
theorem none_of {g h : Heap} {a : Addr} (k : Keeps g h) (h0 : h.get? a = none) : g.get? a = none := by
  cases z : g.get? a with
  | none => rfl
  | some o => have := k _ _ z; rw [h0] at this; cases this
theorem Ext.none {g h h' g' : Heap} {a : Addr} (E : Ext g h h' g') (hg : g.get? a = .none) {o : Obj} (hh : h.get? a = some o) : g'.get? a = .none := by
  cases z : g'.get? a with
  | none => rfl
  | some o' =>
    rcases E.2.2 _ _ z with q | q
    · rw [hg] at q; cases q
    · rw [hh] at q; cases q
theorem Ext.trans {g h h1 g1 h2 g2 : Heap} (E : Ext g h h1 g1) (k : Keeps h h1) (E' : Ext g1 h1 h2 g2) : Ext g h h2 g2 := by
  refine ⟨fun b o e => E'.1 _ _ (E.1 _ _ e), E'.2.1, fun b o e => ?_⟩
  rcases E'.2.2 _ _ e with q | q
  · exact E.2.2 _ _ q
  · exact .inr (none_of k q)
theorem rin_step {B h6 h7 : Heap} {L dx x a : Addr} {od ox : Obj} {all rest : List (Addr × Obj)} (N : News B L h6 all) (m1 : (dx, od) ∈ all) (m2 : (x, ox) ∈ all) (m3 : ∀ p ∈ rest, p ∈ all) (n1 : dx ≠ a) (n2 : x ≠ a) (n3 : ∀ p ∈ rest, p.1 ≠ a) (k : ∀ b ob, b ≠ a → h6.get? b = some ob → h7.get? b = some ob) :
    News B L h7 ([(dx, od), (x, ox)] ++ rest) := by
  refine List.forall_mem_cons.mpr ⟨⟨k _ _ n1 (N _ m1).1, (N _ m1).2⟩, List.forall_mem_cons.mpr ⟨⟨k _ _ n2 (N _ m2).1, (N _ m2).2⟩, fun p hp => ⟨k _ _ (n3 p hp) (N _ (m3 p hp)).1, (N _ (m3 p hp)).2⟩⟩⟩
theorem val_or {kvs : List (Str × Value)} {names : List Str} {t : Str} (hk : kvs.map (·.1) = names) (h : t ∈ names ∨ t = Str.ofString "#pop") (hp : Str.ofString "#pop" ∉ names) : (valueAt kvs t).isSome = true ∨ ((valueAt kvs t).isSome = false ∧ t = Str.ofString "#pop") := by
  rcases h with h | rfl
  · left
    rw [← hk] at h
    obtain ⟨kv, hkv, e⟩ := List.mem_map.mp h
    unfold valueAt
    cases z : kvs.find? (fun kv => kv.1 = t) with
    | none => exact absurd (by simpa using e) (List.find?_eq_none.mp z kv hkv)
    | some kv' => simp
  · right
    rw [valueAt_no (by rw [hk]; exact hp)]
    exact ⟨rfl, rfl⟩
theorem TabR.inv {g : Heap} {nm : Str} {l : Addr} {kvs : List (Str × Value)} {tab : List (Str × List Raw)} (x : TabR g ((nm, .ref l) :: kvs) tab) : ∃ vs rs tab', tab = (nm, rs) :: tab' ∧ g.IsList l vs.toArray ∧ RawsAt 66 613 g vs rs ∧ vs.length ≤ 1000 ∧ TabR g kvs tab' := by
  cases x with
  | cons a b c d => exact ⟨_, _, _, rfl, a, b, c, d⟩
end
end Mine
end
section
open PySem PySem.W PyProof.Rows PySem.Calls
set_option Elab.async false
set_option maxRecDepth 100000
set_option maxHeartbeats 8000000
namespace Mine
section
variable {prog : Program} {w : World} {A : Around} {E : Value → Shared → Prop} {s : Shared}
theorem iter_R {env : Env} {h₀ : Heap} {x : Str} {body : List Stmt} {Q : Flow → Shared → Prop} {r : Addr} {a b : Int} {t u v : Tok} {n : Nat} {m₀ : Str → Option Value} {news : List (Addr × Obj)}
    (J : Nat → (Str → Option Value) → List (Addr × Obj) → Prop)
    (hh : A.handled = none) (hr : IsRange s.heap r a b 1 t u v) (hsm : Builtin.Range.small a b 1 = true) (hn : Builtin.Range.rangeSize a b 1 = ((n : Nat) : Int)) (F : Fr h₀ env.locals s.heap m₀) (N : News h₀ env.locals s.heap news) (hj : J 0 m₀ news)
    (turn : ∀ i tk m₁ news₁ I it s₁, i < n → J i m₁ news₁ → (∀ p ∈ news₁, p.1 ≠ I) →
      Fr h₀ env.locals s₁.heap (fun y => if y = x then some (.int (a + (i : Int)) tk) else m₁ y) → News h₀ env.locals s₁.heap ((I, it) :: news₁) → ∀ (P : Flow → Shared → Prop) (E' : Value → Shared → Prop),
      (∀ s', UnrEnd h₀ env.locals s₁ I it (J (i + 1)) s' → P .next s') → wpAny (model prog w) A (execs body env) P E' s₁)
    (done : ∀ m₁ news₁ h tk, J n m₁ news₁ → Fr h₀ env.locals h m₁ → News h₀ env.locals h news₁ → Q .next { s with heap := h, toks := tk }) :
    wpAny (model prog w) A (pyIter (.ref r)) (fun it s₂ => LoopAtV prog w A h₀ env x body Q E it s₂) E s := by
  refine wpAny_pyIter_range hr hsm ?_
  have hnew := next_is_new F
  refine ⟨_, _, _, n, _, _, m₀, news, J, rfl, LCg.range_walks hh a n, ?_, ?_, ?_, ?_, F.push _, (fun p hp => ⟨Heap.get?_push_of_some _ (N p hp).1, (N p hp).2⟩), hj, ?_, ?_⟩
  · intro hmm
    exact absurd F.ns.lt ((List.mem_singleton.mp hmm) ▸ Nat.lt_irrefl _)
  · intro b hb
    rw [List.mem_singleton.mp hb]
    exact hnew
  · intro p hp hI
    exact absurd (Heap.lt_size (N p hp).1) ((List.mem_singleton.mp hI) ▸ Nat.lt_irrefl _)
  · show IsRangeIter _ _ _ _ _
    rw [hn]
    simpa using Heap.get?_push_size _ rfl
  · rintro i v m₁ news₁ s₁ own ⟨hh', tk', rfl⟩ hin hP hJ hoff hown hget hall hst F₁ N₁
    obtain ⟨tk, rfl⟩ := hP
    obtain ⟨itO, hit⟩ : ∃ o, hh'.get? s.heap.objs.size = some o := ⟨_, hst⟩
    have hmemI := hall s.heap.objs.size (List.mem_cons_self ..) hnew _ hit
    have hoffI : ∀ p ∈ news₁, p.1 ≠ s.heap.objs.size := fun p hp e => hoff p hp (e ▸ List.mem_singleton.mpr rfl)
    have N₂ : News h₀ env.locals hh' ((s.heap.objs.size, itO) :: news₁) := fun p hp => by
      rcases List.mem_cons.mp hp with rfl | hp
      · exact N₁ _ (List.mem_append_left _ hmemI)
      · exact N₁ _ (List.mem_append_right _ hp)
    refine turn i tk m₁ news₁ _ _ { s with heap := hh', toks := tk' } hin hJ hoffI F₁ N₂ _ _ fun s₂ z => ?_
    obtain ⟨h', tk, m', news', e, F', N', ho, hmm⟩ := z
    refine ⟨rfl, h', tk, m', news', e, F', fun p hp => ?_, fun p hp hI => ho p hp (List.mem_singleton.mp hI), hmm⟩
    rcases List.mem_append.mp hp with hp | hp
    · have h2 : hh'.get? p.1 = some p.2 := hget p hp
      have h1 : p.1 = s.heap.objs.size := List.mem_singleton.mp (hown p hp)
      have h3 : p = (s.heap.objs.size, itO) := by
        rw [h1, hit] at h2
        exact Prod.ext h1 (Option.some.inj h2).symm
      rw [h3]; exact N' _ (List.mem_cons_self ..)
    · exact N' _ (List.mem_cons_of_mem _ hp)
  · rintro h' tk m' news' F' N' _ hJ
    exact done m' news' h' tk hJ F' N'
theorem name_gt {a b : Nat} (h : a < b) : ∃ c, c = a ∧ c < b := ⟨a, rfl, h⟩
theorem news_kid {h₀ h h' : Heap} {L q dq nt : Addr} {m : Str → Option Value} {o1 o2 o3 : Obj} {news : List (Addr × Obj)} (F : Fr h₀ L h m) (N : News h₀ L h news) (hk : Keeps h h') (h1 : h'.get? q = some o1 ∧ h.get? q = none) (h2 : h'.get? dq = some o2 ∧ h.get? dq = none) (h3 : h'.get? nt = some o3 ∧ h.get? nt = none) :
    Fr h₀ L h' m ∧ News h₀ L h' ((q, o1) :: (dq, o2) :: (nt, o3) :: news) ∧ (∀ p ∈ news, p.1 ≠ q) ∧ (∀ p ∈ news, p.1 ≠ dq) ∧ (∀ p ∈ news, p.1 ≠ nt) := by
  obtain ⟨F1, N1, o1'⟩ := news_add F N hk h1
  obtain ⟨_, N2, o2'⟩ := news_add F N hk h2
  obtain ⟨_, N3, o3'⟩ := news_add F N hk h3
  exact ⟨F1, List.forall_mem_cons.mpr ⟨N1 _ (.head _), List.forall_mem_cons.mpr ⟨N2 _ (.head _), N3⟩⟩, o1', o2', o3'⟩
theorem tup_get {h : Heap} {a : Addr} {xs : List Value} {n : Nat} (e : h.get? a = some { cls := .type "tuple", data := .seq xs.toArray n }) : IsTup h a xs.toArray := ⟨_, e, rfl, _, rfl⟩
def rootRaw (k : Nat) : Raw := ⟨97 + k, [Str.ofString "Root", Str.ofString "A" ++ Str.ofString (toString ((k : Nat) : Int))], if k = 0 then .stay else .goT (awNames 1 k)⟩
def RootJ (B : Heap) (table rl : Addr) (o : Obj) (i : Nat) (m₁ : Str → Option Value) (news₁ : List (Addr × Obj)) : Prop :=
  ∃ its ne rest gv, news₁ = (rl, lstN its ne) :: (table, o) :: rest ∧ its.length = i ∧ (∀ p ∈ rest, p.1 ≠ rl) ∧ (∀ p ∈ rest, p.1 ≠ table) ∧ BearsG B rest gv ∧ RawsAt 66 613 gv its ((List.range i).map rootRaw) ∧ m₁ (Str.ofString "table") = some (.ref table)
theorem off_of {news : List (Addr × Obj)} {e z : Addr} {o : Obj} (h : ∀ p ∈ news, p.1 ≠ e) (hm : (z, o) ∈ news) : e ≠ z := (h _ hm).symm
theorem ch_abcd {i : Nat} (hi : i < 4) : Txt.item (Str.ofString "abcd") (0 + (i : Int)) = ⟨#[97 + i]⟩ := by
  have : ∀ i : Nat, i < 4 → Txt.item (Str.ofString "abcd") (0 + (i : Int)) = ⟨#[97 + i]⟩ := by decide +kernel
  exact this i hi
theorem RootJ.turn {B h9 gv : Heap} {L rl table I5 D q dq nt x dx l l1 : Addr} {m9 : Str → Option Value} {ot it5 : Obj} {rest other : List (Addr × Obj)} {its : List Value} {ne n0 n1 n2 n3 tk i : Nat} {s5 : Shared} {hs hs2 : Int} {tk1 tk4 tk5 : Tok} {c : Nat} {ns : List Str} {vs : List Value} {xs : Array Value} {act : RAct}
    (F9 : Fr B L h9 m9) (N : News B L h9 ((rl, lstN (its ++ [.ref D]) (ne + 1)) :: (I5, it5) :: (table, ot) :: (((D, { cls := .type "tuple", data := .seq xs n0 }) :: (q, instObj 66 dq) :: (dq, dictOf [⟨hs, .str (Str.ofString "names") tk1, .ref nt⟩] 1) :: (nt, { cls := .type "tuple", data := .seq vs.toArray n1 }) :: (x, instObj 613 dx) :: (dx, dictOf [⟨hs2, .str (Str.ofString "rows") tk4, .ref l⟩] 1) :: (l, { cls := .type "list", data := .seq #[.ref l1] n2 }) :: (l1, { cls := .type "list", data := .seq #[.str ⟨#[c]⟩ tk5] n3 }) :: other) ++ rest)))
    (offN : ∀ p ∈ (D, { cls := .type "tuple", data := .seq xs n0 }) :: (q, instObj 66 dq) :: (dq, dictOf [⟨hs, .str (Str.ofString "names") tk1, .ref nt⟩] 1) :: (nt, { cls := .type "tuple", data := .seq vs.toArray n1 }) :: (x, instObj 613 dx) :: (dx, dictOf [⟨hs2, .str (Str.ofString "rows") tk4, .ref l⟩] 1) :: (l, { cls := .type "list", data := .seq #[.ref l1] n2 }) :: (l1, { cls := .type "list", data := .seq #[.str ⟨#[c]⟩ tk5] n3 }) :: other, p.1 ≠ rl ∧ p.1 ≠ I5 ∧ p.1 ≠ table)
    (hI : rl ≠ I5) (htI : table ≠ I5) (hoffl : ∀ p ∈ rest, p.1 ≠ rl) (hofft : ∀ p ∈ rest, p.1 ≠ table) (hoffI : ∀ p ∈ rest, p.1 ≠ I5) (hlen : its.length = i) (hb : BearsG B rest gv) (hraw : RawsAt 66 613 gv its ((List.range i).map rootRaw))
    (hvs : StrsAre vs ns) (he : rootRaw i = ⟨c, ns, act⟩)
    (hact : ∀ g', (∀ p ∈ (D, ({ cls := .type "tuple", data := .seq xs n0 } : Obj)) :: other, g'.get? p.1 = some p.2) → match act with
      | .stay => xs = [.ref x, .ref q].toArray
      | .popS => ∃ tk, xs = [.ref x, .ref q, .str (Str.ofString "#pop") tk].toArray
      | .goT ts => ∃ a vs, xs = [.ref x, .ref q, .ref a].toArray ∧ IsTup g' a vs.toArray ∧ StrsAre vs ts ∧ ts.length ≤ 100)
    (q1 : m9 (Str.ofString "table") = some (.ref table)) :
    UnrEnd B L s5 I5 it5 (RootJ B table rl ot (i + 1)) { s5 with heap := h9, toks := tk } := by
  obtain ⟨gv', hb', k1, hnew⟩ := grow (fun b o e => F9.keep b o e) (fun p hp => (N p (.tail _ (.tail _ (.tail _ hp)))).1) hb
  refine UnrEnd.intro (s₁ := s5) F9 N ((rl, lstN (its ++ [.ref D]) (ne + 1)) :: (table, ot) :: (_ ++ rest)) ?_ ?_ ⟨its ++ [.ref D], ne + 1, _, gv', rfl, by simp [hlen], ?_, ?_, hb', ?_, q1⟩
  · intro p hp
    rcases List.mem_cons.mp hp with rfl | hp
    · exact .tail _ (.head _)
    rcases List.mem_cons.mp hp with rfl | hp
    · exact .head _
    rcases List.mem_cons.mp hp with rfl | hp
    · exact .tail _ (.tail _ (.head _))
    · exact .tail _ (.tail _ (.tail _ hp))
  · refine List.forall_mem_cons.mpr ⟨hI, List.forall_mem_cons.mpr ⟨htI, fun p hp => ?_⟩⟩
    rcases List.mem_append.mp hp with hp | hp
    · exact (offN p hp).2.1
    · exact hoffI p hp
  · intro p hp
    rcases List.mem_append.mp hp with hp | hp
    · exact (offN p hp).1
    · exact hoffl p hp
  · intro p hp
    rcases List.mem_append.mp hp with hp | hp
    · exact (offN p hp).2.2
    · exact hofft p hp
  · rw [List.range_succ, List.map_append, List.map_singleton]
    refine (hraw.kp k1).snoc ⟨D, x, q, rfl, ?_, ?_, ?_⟩
    · rw [he]
      exact ⟨dx, hs2, tk4, l, l1, tk5, hnew _ (.tail _ (.tail _ (.tail _ (.tail _ (.head _))))), hnew _ (.tail _ (.tail _ (.tail _ (.tail _ (.tail _ (.head _)))))), ⟨_, hnew _ (.tail _ (.tail _ (.tail _ (.tail _ (.tail _ (.tail _ (.head _))))))), rfl, _, rfl⟩, ⟨_, hnew _ (.tail _ (.tail _ (.tail _ (.tail _ (.tail _ (.tail _ (.tail _ (.head _)))))))), rfl, _, rfl⟩⟩
    · rw [he]
      exact ⟨dq, hs, tk1, nt, vs, hnew _ (.tail _ (.head _)), hnew _ (.tail _ (.tail _ (.head _))), ⟨_, hnew _ (.tail _ (.tail _ (.tail _ (.head _)))), rfl, _, rfl⟩, hvs⟩
    · rw [he]
      have hD : IsTup gv' D xs := ⟨_, hnew _ (.head _), rfl, _, rfl⟩
      have ha := hact gv' (List.forall_mem_cons.mpr ⟨hnew _ (.head _), fun p hp => hnew p (.tail _ (.tail _ (.tail _ (.tail _ (.tail _ (.tail _ (.tail _ (.tail _ hp))))))))⟩)
      cases act with
      | stay => dsimp only at ha ⊢; rw [← ha]; exact hD
      | popS => dsimp only at ha ⊢; obtain ⟨tk, ha⟩ := ha; exact ⟨tk, ha ▸ hD⟩
      | goT ts => dsimp only at ha ⊢; obtain ⟨a, vs, ha, h2⟩ := ha; exact ⟨a, vs, ha ▸ hD, h2⟩
theorem reorder0 {B h : Heap} {L : Addr} {D q dq nt e4 e5 e6 x dx l l1 rl I5 table : Addr × Obj} {rest : List (Addr × Obj)} (N : News B L h (D :: q :: dq :: nt :: e4 :: e5 :: e6 :: x :: dx :: l :: l1 :: rl :: I5 :: table :: rest)) :
    News B L h (rl :: I5 :: table :: ((D :: q :: dq :: nt :: x :: dx :: l :: l1 :: [e4, e5, e6]) ++ rest)) := by
  refine List.forall_mem_cons.mpr ⟨N _ (by k_mem), List.forall_mem_cons.mpr ⟨N _ (by k_mem), List.forall_mem_cons.mpr ⟨N _ (by k_mem), fun p hp => ?_⟩⟩⟩
  rcases List.mem_append.mp hp with hp | hp
  · have hall : ∀ p ∈ D :: q :: dq :: nt :: x :: dx :: l :: l1 :: [e4, e5, e6], h.get? p.1 = some p.2 ∧ p.1 ≠ L ∧ B.get? p.1 = none := by
     refine List.forall_mem_cons.mpr ⟨N _ (by k_mem), List.forall_mem_cons.mpr ⟨N _ (by k_mem), List.forall_mem_cons.mpr ⟨N _ (by k_mem), List.forall_mem_cons.mpr ⟨N _ (by k_mem), List.forall_mem_cons.mpr ⟨N _ (by k_mem), List.forall_mem_cons.mpr ⟨N _ (by k_mem), List.forall_mem_cons.mpr ⟨N _ (by k_mem), List.forall_mem_cons.mpr ⟨N _ (by k_mem), List.forall_mem_cons.mpr ⟨N _ (by k_mem), List.forall_mem_cons.mpr ⟨N _ (by k_mem), List.forall_mem_cons.mpr ⟨N _ (by k_mem), fun _ h => (List.not_mem_nil h).elim⟩⟩⟩⟩⟩⟩⟩⟩⟩⟩⟩
    exact hall p hp
  · exact N p (by repeat (first | exact hp | refine List.Mem.tail _ ?_))
theorem reorder1 {B h : Heap} {L : Addr} {D f1 aw f2 q dq nt e4 e5 e6 x dx l l1 rl I5 table : Addr × Obj} {rest : List (Addr × Obj)} (N : News B L h (D :: f1 :: aw :: f2 :: q :: dq :: nt :: e4 :: e5 :: e6 :: x :: dx :: l :: l1 :: rl :: I5 :: table :: rest)) :
    News B L h (rl :: I5 :: table :: ((D :: q :: dq :: nt :: x :: dx :: l :: l1 :: [aw, f1, f2, e4, e5, e6]) ++ rest)) := by
  refine List.forall_mem_cons.mpr ⟨N _ (by k_mem), List.forall_mem_cons.mpr ⟨N _ (by k_mem), List.forall_mem_cons.mpr ⟨N _ (by k_mem), fun p hp => ?_⟩⟩⟩
  rcases List.mem_append.mp hp with hp | hp
  · have hall : ∀ p ∈ D :: q :: dq :: nt :: x :: dx :: l :: l1 :: [aw, f1, f2, e4, e5, e6], h.get? p.1 = some p.2 ∧ p.1 ≠ L ∧ B.get? p.1 = none := by
     refine List.forall_mem_cons.mpr ⟨N _ (by k_mem), List.forall_mem_cons.mpr ⟨N _ (by k_mem), List.forall_mem_cons.mpr ⟨N _ (by k_mem), List.forall_mem_cons.mpr ⟨N _ (by k_mem), List.forall_mem_cons.mpr ⟨N _ (by k_mem), List.forall_mem_cons.mpr ⟨N _ (by k_mem), List.forall_mem_cons.mpr ⟨N _ (by k_mem), List.forall_mem_cons.mpr ⟨N _ (by k_mem), List.forall_mem_cons.mpr ⟨N _ (by k_mem), List.forall_mem_cons.mpr ⟨N _ (by k_mem), List.forall_mem_cons.mpr ⟨N _ (by k_mem), List.forall_mem_cons.mpr ⟨N _ (by k_mem), List.forall_mem_cons.mpr ⟨N _ (by k_mem), List.forall_mem_cons.mpr ⟨N _ (by k_mem), fun _ h => (List.not_mem_nil h).elim⟩⟩⟩⟩⟩⟩⟩⟩⟩⟩⟩⟩⟩⟩
    exact hall p hp
  · exact N p (by repeat (first | exact hp | refine List.Mem.tail _ ?_))
/-- law 02's states -/
def stKind (c d : Nat) : List Str := [Str.ofString "C" ++ Str.ofString (toString ((1 : Int) + (c : Int))), Str.ofString "D" ++ Str.ofString (toString ((0 : Int) + (d : Int)))]
def stRaw (c d : Nat) : Nat → Raw
  | 0 => ⟨97, stKind c d, .popS⟩
  | a + 1 => ⟨98 + a, stKind c d, .goT (Str.ofString "#pop" :: awNames (1 - (d : Int)) (a + 1))⟩
def stRaws (c d : Nat) : List Raw := (List.range 4).map (stRaw c d)
def stName (c d : Nat) : Str := cname ((1 : Int) + (c : Int)) ((0 : Int) + (d : Int))
def stTab (m : Nat) : List (Str × List Raw) := (Str.ofString "root", (List.range 4).map rootRaw) :: (List.range m).map fun k => (stName (k / 2) (k % 2), stRaws (k / 2) (k % 2))
theorem stTab_succ (m : Nat) : stTab (m + 1) = stTab m ++ [(stName (m / 2) (m % 2), stRaws (m / 2) (m % 2))] := by
  unfold stTab
  rw [List.range_succ (n := m)]
  simp
theorem stName_new : ∀ m : Nat, m < 6 → stName (m / 2) (m % 2) ∉ (stTab m).map (·.1) := by
  intro m hm
  have : ∀ m : Nat, m < 6 → stName (m / 2) (m % 2) ∉ (Str.ofString "root" :: (List.range m).map fun k => stName (k / 2) (k % 2)) := by decide +kernel
  have h := this m hm
  simpa [stTab, List.map_map, Function.comp_def] using h
theorem stTab_names : (stTab 6).map (·.1) = [Str.ofString "root", Str.ofString "C1D0", Str.ofString "C1D1", Str.ofString "C2D0", Str.ofString "C2D1", Str.ofString "C3D0", Str.ofString "C3D1"] := by
  have : (Str.ofString "root" :: (List.range 6).map fun k => stName (k / 2) (k % 2)) = [Str.ofString "root", Str.ofString "C1D0", Str.ofString "C1D1", Str.ofString "C2D0", Str.ofString "C2D1", Str.ofString "C3D0", Str.ofString "C3D1"] := by decide +kernel
  rw [← this]
  simp [stTab, List.map_map, Function.comp_def]
theorem TabR.snoc {g : Heap} {kvs : List (Str × Value)} {tab : List (Str × List Raw)} {nm : Str} {l : Addr} {vs : List Value} {rs : List Raw} (x : TabR g kvs tab) (a : g.IsList l vs.toArray) (b : RawsAt 66 613 g vs rs) (c : vs.length ≤ 1000) : TabR g (kvs ++ [(nm, .ref l)]) (tab ++ [(nm, rs)]) := by
  induction x with
  | nil => exact .cons a b c .nil
  | cons a' b' c' _ ih => exact .cons a' b' c' ih
/-- between the states: the table, m states made -/
def TabJ (w : World) (B : Heap) (table : Addr) (own : List (Addr × Obj)) (m : Nat) (m₁ : Str → Option Value) (news₁ : List (Addr × Obj)) : Prop :=
  ∃ o₁ kvs rest gv, news₁ = own ++ (table, o₁) :: rest ∧ (∀ p ∈ rest, p.1 ≠ table) ∧ (∀ p ∈ rest, ∀ q ∈ own, p.1 ≠ q.1) ∧ o₁.IsDictOf (PySem.strKind PG w) kvs ∧ BearsG B rest gv ∧ TabR gv kvs (stTab m) ∧ m₁ (Str.ofString "table") = some (.ref table)
/-- the root list is done: it joins what is known -/
theorem tabJ_start {B h gv : Heap} {L table rl : Addr} {m9 : Str → Option Value} {o : Obj} {rest : List (Addr × Obj)} {its : List Value} {ne : Nat} (F : Fr B L h m9) (N : News B L h ((rl, lstN its ne) :: (table, o) :: rest)) (hrt : rl ≠ table) (hofft : ∀ p ∈ rest, p.1 ≠ table)
    (hd : o.IsDictOf (PySem.strKind PG w) [(Str.ofString "root", .ref rl)]) (hb : BearsG B rest gv) (hraw : RawsAt 66 613 gv its ((List.range 4).map rootRaw)) (hlen : its.length = 4) (q1 : m9 (Str.ofString "table") = some (.ref table)) :
    News B L h ((table, o) :: (rl, lstN its ne) :: rest) ∧ TabJ w B table [] 0 m9 ((table, o) :: (rl, lstN its ne) :: rest) := by
  obtain ⟨gv', hb', k1, hnew⟩ := grow (new := [(rl, lstN its ne)]) (fun b o e => F.keep b o e) (List.forall_mem_cons.mpr ⟨(N _ (.head _)).1, fun p hp => (N p (.tail _ (.tail _ hp))).1⟩) hb
  exact ⟨nw_swp N, o, _, (rl, lstN its ne) :: rest, gv', rfl, List.forall_mem_cons.mpr ⟨hrt, hofft⟩, fun _ _ _ h => (List.not_mem_nil h).elim, hd, hb', .cons ⟨_, hnew _ (.head _), rfl, _, rfl⟩ (hraw.kp k1) (by omega) .nil, q1⟩
theorem stTab6 : stTab 6 = [(Str.ofString "root", (List.range 4).map rootRaw), (Str.ofString "C1D0", stRaws 0 0), (Str.ofString "C1D1", stRaws 0 1), (Str.ofString "C2D0", stRaws 1 0), (Str.ofString "C2D1", stRaws 1 1), (Str.ofString "C3D0", stRaws 2 0), (Str.ofString "C3D1", stRaws 2 1)] := by
  have n0 : stName 0 0 = Str.ofString "C1D0" := by decide +kernel
  have n1 : stName 0 1 = Str.ofString "C1D1" := by decide +kernel
  have n2 : stName 1 0 = Str.ofString "C2D0" := by decide +kernel
  have n3 : stName 1 1 = Str.ofString "C2D1" := by decide +kernel
  have n4 : stName 2 0 = Str.ofString "C3D0" := by decide +kernel
  have n5 : stName 2 1 = Str.ofString "C3D1" := by decide +kernel
  show [_, (stName 0 0, stRaws 0 0), (stName 0 1, stRaws 0 1), (stName 1 0, stRaws 1 0), (stName 1 1, stRaws 1 1), (stName 2 0, stRaws 2 0), (stName 2 1, stRaws 2 1)] = _
  rw [n0, n1, n2, n3, n4, n5]
def RAct.targets : RAct → List Str
  | .goT ts => ts
  | _ => []
theorem go6 : ∀ e ∈ [(Str.ofString "root", (List.range 4).map rootRaw), (Str.ofString "C1D0", stRaws 0 0), (Str.ofString "C1D1", stRaws 0 1), (Str.ofString "C2D0", stRaws 1 0), (Str.ofString "C2D1", stRaws 1 1), (Str.ofString "C3D0", stRaws 2 0), (Str.ofString "C3D1", stRaws 2 1)], ∀ r ∈ e.2, ∀ ts, r.act = .goT ts → ∀ t ∈ ts, t ∈ [Str.ofString "root", Str.ofString "C1D0", Str.ofString "C1D1", Str.ofString "C2D0", Str.ofString "C2D1", Str.ofString "C3D0", Str.ofString "C3D1"] ∨ t = Str.ofString "#pop" := by
  have h : ∀ e ∈ [(Str.ofString "root", (List.range 4).map rootRaw), (Str.ofString "C1D0", stRaws 0 0), (Str.ofString "C1D1", stRaws 0 1), (Str.ofString "C2D0", stRaws 1 0), (Str.ofString "C2D1", stRaws 1 1), (Str.ofString "C3D0", stRaws 2 0), (Str.ofString "C3D1", stRaws 2 1)], ∀ r ∈ e.2, ∀ t ∈ r.act.targets, t ∈ [Str.ofString "root", Str.ofString "C1D0", Str.ofString "C1D1", Str.ofString "C2D0", Str.ofString "C2D1", Str.ofString "C3D0", Str.ofString "C3D1"] ∨ t = Str.ofString "#pop" := by decide +kernel
  intro e he r hr ts ha t ht
  exact h e he r hr t (by rw [ha]; exact ht)
theorem nm6 : ∀ e ∈ [(Str.ofString "root", (List.range 4).map rootRaw), (Str.ofString "C1D0", stRaws 0 0), (Str.ofString "C1D1", stRaws 0 1), (Str.ofString "C2D0", stRaws 1 0), (Str.ofString "C2D1", stRaws 1 1), (Str.ofString "C3D0", stRaws 2 0), (Str.ofString "C3D1", stRaws 2 1)], 1 ≤ e.1.length ∧ e.1.length ≤ 1000 ∧ (Txt.item e.1 0 == Str.ofString "#") = false := by
  have h : ∀ n ∈ [Str.ofString "root", Str.ofString "C1D0", Str.ofString "C1D1", Str.ofString "C2D0", Str.ofString "C2D1", Str.ofString "C3D0", Str.ofString "C3D1"], 1 ≤ n.length ∧ n.length ≤ 1000 ∧ (Txt.item n 0 == Str.ofString "#") = false := by decide +kernel
  intro e he
  exact h e.1 (by
    have : e.1 ∈ ([(Str.ofString "root", (List.range 4).map rootRaw), (Str.ofString "C1D0", stRaws 0 0), (Str.ofString "C1D1", stRaws 0 1), (Str.ofString "C2D0", stRaws 1 0), (Str.ofString "C2D1", stRaws 1 1), (Str.ofString "C3D0", stRaws 2 0), (Str.ofString "C3D1", stRaws 2 1)] : List (Str × List Raw)).map (·.1) := List.mem_map_of_mem he
    simpa using this)
theorem TabR.inv2 {g : Heap} {kvs : List (Str × Value)} {nm : Str} {rs : List Raw} {tab : List (Str × List Raw)} (x : TabR g kvs ((nm, rs) :: tab)) : ∃ l kvs', kvs = (nm, .ref l) :: kvs' ∧ TabR g kvs' tab := by
  cases x with
  | cons a b c d => exact ⟨_, _, rfl, d⟩
end
end Mine
end
section
namespace Mine
section
variable {w : World} {d u : Nat} {gd : Option (List Code)} {base : Heap} {outer : List Env} {s : Shared} {p : Program} {loose : List Str} {mean : ExcName → Option Value} {mg mb : Str → Option Value}
local macro_rules | `(tactic| k_inst) => `(tactic| exact inst_base (by k_asm) (by assumption) (by assumption))
local macro_rules | `(tactic| k_room) => `(tactic| ((try simp only [depth_under_make, depth_under_kw, depth_in1, depth_deeper, depth_caller, depth_mk, Around.in1_depth, rl_is]); omega))
local macro_rules | `(tactic| k_units) => `(tactic| ((try simp only [Around.in1_units, Around.deeper_units, Around.mark_units, units_mk, cl_is]); omega))
local macro_rules | `(tactic| walk_at "truthy str") => `(tactic| (k_here; (with_reducible refine truthy_ch ?_); intro _))
local macro_rules | `(tactic| walk_at "call builtin:str.join") => `(tactic| (k_here; (refine join_one (by is_list) ?_); intro _ _))
local macro_rules | `(tactic| walk_at "MINE enter") => `(tactic| (refine' enter ?mX ?mT ?k6 ?k7 ?k8 ?k9 ?kB ?_ ?c2 ?c3 ?c4 ?c5; (case mX => assumption); (case mT => assumption); (case k6 => k_is); (case k7 => k_is); (case k8 => k_room); (case k9 => first | exact BindsTo.of_eq rfl | exact binds_K (by assumption) rfl (by k_is) rfl rfl rfl); (case c5 => decide); (case kB => exact locs rfl); (case c2 => exact rfl); (case c3 => exact rfl); (case c4 => exact rfl); intro L' h' F' N'; (try dsimp only)))
local macro_rules | `(tactic| walk_at "BRest") => `(tactic| (with_unfolding_all first | (refine BRest.succ (fun I' it' h' tk' hit' off' F' N' => ?_)) | (refine BRest.zero (fun h' tk' F' N' => ?_))))
local macro_rules | `(tactic| walk_at "MINE obj") => `(tactic| first | assumption | exact Fr.keep (by assumption) _ _ (by assumption) | exact News.get (by assumption) (by k_mem))
local macro_rules | `(tactic| walk_at "MINE lst") => `(tactic| first | assumption | exact Heap.IsList.at (by assumption) (fun o e => Fr.keep (by assumption) _ o e) | is_list)
local macro_rules | `(tactic| walk_at "MINE X") => `(tactic| first | assumption | exact Frag.In.keeps (by assumption) (Fr.keep (by assumption)))
local macro_rules | `(tactic| walk_at "MINE T") => `(tactic| first | assumption | exact Top.keeps (by assumption) (Fr.keep (by assumption)))
local macro_rules | `(tactic| walk_at "MINE B") => `(tactic| first | assumption | exact Below.push (by assumption) (by assumption))
local macro_rules | `(tactic| k_enter) => `(tactic| (refine' code_def0 ?k2 ?k3 ?k4 ?k5 ?k6 ?k7 ?k8 ?k9 ?kB ?_ ?c2 ?c3 ?c4 ?c5; (case k2 => k_asm); (case k3 => k_asm); (case k4 => k_asm); (case k5 => k_asm); (case k6 => k_is); (case k7 => k_is); (case k8 => k_room); (case k9 => first | exact BindsTo.of_eq rfl | exact binds_K (by k_in) rfl (by k_is) rfl rfl rfl | fail "k_enter: no rule for these arguments"); (case c5 => decide); (case kB => exact locs rfl); (case c2 => exact rfl); (case c3 => exact rfl); (case c4 => exact rfl); k_whole; intro g' L' h' FG' F' N' X' T'; (try dsimp only); (try k_fold)))
local macro_rules | `(tactic| walk_at "subscriptTail") => `(tactic| (k_here; (with_reducible show wpAny _ _ (subscriptTail _ _ (Value.ref _) (Value.str _ _)) _ _ _); k_dflt (refine tab_item (by k_asm) (by assumption) (by assumption) ?_)))
local macro_rules | `(tactic| walk_at "subscriptTail") => `(tactic| (k_here; (with_reducible show wpAny _ _ (subscriptTail _ _ (Value.ref _) (Value.int _ _)) _ _ _); k_dflt (refine stk_last (by is_list) (by assumption) ?_)))
local macro_rules | `(tactic| k_all) => `(tactic| first | assumption | exact ne_of_allL (by assumption) | exact ne_of_allLt (by assumption) | exact ne_of_allLt (And.right (by assumption)) | exact ne_of_allLt (And.right (And.right (by assumption))) | exact ne_of_allLt (And.right (And.right (And.right (by assumption)))))
local macro_rules | `(tactic| k_enter) => `(tactic| (kp_kind "rest"; (refine' code_rest0 ?k2 ?k3 ?k4 ?k5 ?k6 ?k7 ?k8 ?kV ?kP ?kG ?kB ?_ ?c2 ?c3 ?c4 ?c5; (case k2 => k_asm); (case k3 => k_asm); (case k4 => k_asm); (case k5 => k_asm); (case k6 => k_is); (case k7 => k_is); (case k8 => k_room); (case kV => exact rfl); (case kP => exact rfl); (case kG => exact fun _ => rfl); (case kB => exact fun _ => locs rfl); (case c5 => decide); (case c2 => exact rfl); (case c3 => exact rfl); (case c4 => exact rfl); k_whole; intro D' g' L' h' l1 FG' F' N' X' T'; (try k_lt l1); (try dsimp only); (try k_fold))))
local macro_rules | `(tactic| k_enter) => `(tactic| (kp_kind "more"; (refine' code_more0 ?k2 ?k3 ?k4 ?k5 ?k6 ?k7 ?k8 ?kP ?kK ?kB ?_ ?c2 ?c3 ?c4 ?c5; (case k2 => k_asm); (case k3 => k_asm); (case k4 => k_asm); (case k5 => k_asm); (case k6 => k_is); (case k7 => k_is); (case k8 => k_room); (case kP => exact rfl); (case kK => exact fun _ => rfl); (case kB => exact fun _ => locs rfl); (case c5 => decide); (case c2 => exact rfl); (case c3 => exact rfl); (case c4 => exact rfl); k_whole; intro D' o' g' L' h' tk' l1 lo' hd' fs' FG' F' N' X' T'; (try k_lt l1); (try dsimp only); (try k_fold))))
local macro_rules | `(tactic| k_enter) => `(tactic| (kp_kind "both"; (refine' code_both0 ?k2 ?k3 ?k4 ?k5 ?k6 ?k7 ?k8 ?kV ?kP ?kQ ?kK ?kB ?_ ?c2 ?c3 ?c4 ?c5; (case k2 => k_asm); (case k3 => k_asm); (case k4 => k_asm); (case k5 => k_asm); (case k6 => k_is); (case k7 => k_is); (case k8 => k_room); (case kV => exact rfl); (case kP => exact rfl); (case kQ => exact fun _ => rfl); (case kK => exact fun _ _ => rfl); (case kB => exact fun _ _ => locs rfl); (case c5 => decide); (case c2 => exact rfl); (case c3 => exact rfl); (case c4 => exact rfl); k_whole; intro C' D' g' L' h' tk' l1 l2 l3 FG' F' N' X' T'; (try k_lt l1); (try k_lt l3); (try dsimp only); (try k_fold))))
local macro_rules | `(tactic| walk_at "subscriptTail Name UnaryOp ref int") => `(tactic| (k_here; (with_reducible show wpAny _ _ (subscriptTail _ _ (Value.ref _) (Value.int _ _)) _ _ _); k_dflt (refine stk_last (by is_list) (by assumption) ?_)))
local macro_rules | `(tactic| walk_at "pyIter ref") => `(tactic| (k_here; (with_reducible show wpAny _ _ (pyIter (Value.ref _)) (fun it s₂ => LoopAtV _ _ _ _ _ _ _ _ _ it s₂) _ _); (with_unfolding_all refine iter_unr rfl (vs := _) (by assumption) (by k_asm) (by k_asm) ?_)))
local macro_rules | `(tactic| walk_at "UnrEnd") => `(tactic| (refine UnrEnd.intro (by k_asm) (by k_asm) [] (List.forall_mem_cons.mpr ⟨by k_mem, fun _ h => nomatch h⟩) (fun _ h => nomatch h) ?_))
theorem t_match {x dx r r1 : Addr} {hs1 : Int} {tk1 tk2 t v : Tok} {pos : Int} {text : Str} {c : Nat} {R : Result → Shared → Prop}
  (X : (Mine.hd2.heap_39 w.params).In s.heap) (T : Top p loose mean mg mb s.heap)
  (hd9 : d < 500) (hu9 : u < 1000)
  (hx : s.heap.get? x = some (instObj 613 dx)) (hd : s.heap.get? dx = some (dictOf [⟨hs1, .str "rows" tk1, .ref r⟩] 1))
  (hr : s.heap.IsList r #[.ref r1]) (hr1 : s.heap.IsList r1 #[.str ⟨#[c]⟩ tk2])
  (h0 : 0 ≤ pos) (hp : pos ≤ text.length) (ht : text.length ≤ 1000)
  (hno : text.cps[pos.toNat]? ≠ some c → ∀ h' k, Keeps s.heap h' → R (.ok (.ret .none)) {s with heap := h', toks := k})
  (hok : text.cps[pos.toNat]? = some c → ∀ h' k q dq hs1 hs2 t1 t2 t3, Keeps s.heap h' → (h'.get? q = some (instObj 586 dq) ∧ s.heap.get? q = none) → (h'.get? dq = some (dictOf [⟨hs1, .str "place" t1, .int pos t2⟩, ⟨hs2, .str "pieces" t3, .ref r1⟩] 2) ∧ s.heap.get? dq = none) → R (.ok (.ret (.ref q))) {s with heap := h', toks := k}) :
  codeAny (model PG w) ⟨none, d, some outer, gd, u⟩ (.call (.ref 610) ⟨[.ref x, .str text t, .int pos v], []⟩) R s := by
  walk_at "MINE enter"
  k_steps
  · exact hok ((slice_one h0 hp).mp (by assumption)) _ _ _ _ _ _ _ _ _ (Fr.keep (by assumption)) (newsBoth (by assumption) (by k_mem)) (newsBoth (by assumption) (by k_mem))
  · show R _ _
    exact hno (slice_no h0 hp (by assumption)) _ _ (Fr.keep (by assumption))
end
end Mine
end
section
namespace Mine
section
variable {w : World} {d u : Nat} {gd : Option (List Code)} {base : Heap} {outer : List Env} {s : Shared} {p : Program} {loose : List Str} {mean : ExcName → Option Value} {mg mb : Str → Option Value}
local macro_rules | `(tactic| k_inst) => `(tactic| exact inst_base (by k_asm) (by assumption) (by assumption))
local macro_rules | `(tactic| k_room) => `(tactic| ((try simp only [depth_under_make, depth_under_kw, depth_in1, depth_deeper, depth_caller, depth_mk, Around.in1_depth, rl_is]); omega))
local macro_rules | `(tactic| k_units) => `(tactic| ((try simp only [Around.in1_units, Around.deeper_units, Around.mark_units, units_mk, cl_is]); omega))
local macro_rules | `(tactic| walk_at "truthy str") => `(tactic| (k_here; (with_reducible refine truthy_ch ?_); intro _))
local macro_rules | `(tactic| walk_at "call builtin:str.join") => `(tactic| (k_here; (refine join_one (by is_list) ?_); intro _ _))
local macro_rules | `(tactic| walk_at "MINE enter") => `(tactic| (refine' enter ?mX ?mT ?k6 ?k7 ?k8 ?k9 ?kB ?_ ?c2 ?c3 ?c4 ?c5; (case mX => assumption); (case mT => assumption); (case k6 => k_is); (case k7 => k_is); (case k8 => k_room); (case k9 => first | exact BindsTo.of_eq rfl | exact binds_K (by assumption) rfl (by k_is) rfl rfl rfl); (case c5 => decide); (case kB => exact locs rfl); (case c2 => exact rfl); (case c3 => exact rfl); (case c4 => exact rfl); intro L' h' F' N'; (try dsimp only)))
local macro_rules | `(tactic| walk_at "BRest") => `(tactic| (with_unfolding_all first | (refine BRest.succ (fun I' it' h' tk' hit' off' F' N' => ?_)) | (refine BRest.zero (fun h' tk' F' N' => ?_))))
local macro_rules | `(tactic| walk_at "MINE obj") => `(tactic| first | assumption | exact Fr.keep (by assumption) _ _ (by assumption) | exact News.get (by assumption) (by k_mem))
local macro_rules | `(tactic| walk_at "MINE lst") => `(tactic| first | assumption | exact Heap.IsList.at (by assumption) (fun o e => Fr.keep (by assumption) _ o e) | is_list)
local macro_rules | `(tactic| walk_at "MINE X") => `(tactic| first | assumption | exact Frag.In.keeps (by assumption) (Fr.keep (by assumption)))
local macro_rules | `(tactic| walk_at "MINE T") => `(tactic| first | assumption | exact Top.keeps (by assumption) (Fr.keep (by assumption)))
local macro_rules | `(tactic| walk_at "MINE B") => `(tactic| first | assumption | exact Below.push (by assumption) (by assumption))
local macro_rules | `(tactic| k_enter) => `(tactic| (refine' code_def0 ?k2 ?k3 ?k4 ?k5 ?k6 ?k7 ?k8 ?k9 ?kB ?_ ?c2 ?c3 ?c4 ?c5; (case k2 => k_asm); (case k3 => k_asm); (case k4 => k_asm); (case k5 => k_asm); (case k6 => k_is); (case k7 => k_is); (case k8 => k_room); (case k9 => first | exact BindsTo.of_eq rfl | exact binds_K (by k_in) rfl (by k_is) rfl rfl rfl | fail "k_enter: no rule for these arguments"); (case c5 => decide); (case kB => exact locs rfl); (case c2 => exact rfl); (case c3 => exact rfl); (case c4 => exact rfl); k_whole; intro g' L' h' FG' F' N' X' T'; (try dsimp only); (try k_fold)))
local macro_rules | `(tactic| walk_at "subscriptTail") => `(tactic| (k_here; (with_reducible show wpAny _ _ (subscriptTail _ _ (Value.ref _) (Value.str _ _)) _ _ _); k_dflt (refine tab_item (by k_asm) (by assumption) (by assumption) ?_)))
local macro_rules | `(tactic| walk_at "subscriptTail") => `(tactic| (k_here; (with_reducible show wpAny _ _ (subscriptTail _ _ (Value.ref _) (Value.int _ _)) _ _ _); k_dflt (refine stk_last (by is_list) (by assumption) ?_)))
local macro_rules | `(tactic| k_all) => `(tactic| first | assumption | exact ne_of_allL (by assumption) | exact ne_of_allLt (by assumption) | exact ne_of_allLt (And.right (by assumption)) | exact ne_of_allLt (And.right (And.right (by assumption))) | exact ne_of_allLt (And.right (And.right (And.right (by assumption)))))
local macro_rules | `(tactic| k_enter) => `(tactic| (kp_kind "rest"; (refine' code_rest0 ?k2 ?k3 ?k4 ?k5 ?k6 ?k7 ?k8 ?kV ?kP ?kG ?kB ?_ ?c2 ?c3 ?c4 ?c5; (case k2 => k_asm); (case k3 => k_asm); (case k4 => k_asm); (case k5 => k_asm); (case k6 => k_is); (case k7 => k_is); (case k8 => k_room); (case kV => exact rfl); (case kP => exact rfl); (case kG => exact fun _ => rfl); (case kB => exact fun _ => locs rfl); (case c5 => decide); (case c2 => exact rfl); (case c3 => exact rfl); (case c4 => exact rfl); k_whole; intro D' g' L' h' l1 FG' F' N' X' T'; (try k_lt l1); (try dsimp only); (try k_fold))))
local macro_rules | `(tactic| k_enter) => `(tactic| (kp_kind "more"; (refine' code_more0 ?k2 ?k3 ?k4 ?k5 ?k6 ?k7 ?k8 ?kP ?kK ?kB ?_ ?c2 ?c3 ?c4 ?c5; (case k2 => k_asm); (case k3 => k_asm); (case k4 => k_asm); (case k5 => k_asm); (case k6 => k_is); (case k7 => k_is); (case k8 => k_room); (case kP => exact rfl); (case kK => exact fun _ => rfl); (case kB => exact fun _ => locs rfl); (case c5 => decide); (case c2 => exact rfl); (case c3 => exact rfl); (case c4 => exact rfl); k_whole; intro D' o' g' L' h' tk' l1 lo' hd' fs' FG' F' N' X' T'; (try k_lt l1); (try dsimp only); (try k_fold))))
local macro_rules | `(tactic| k_enter) => `(tactic| (kp_kind "both"; (refine' code_both0 ?k2 ?k3 ?k4 ?k5 ?k6 ?k7 ?k8 ?kV ?kP ?kQ ?kK ?kB ?_ ?c2 ?c3 ?c4 ?c5; (case k2 => k_asm); (case k3 => k_asm); (case k4 => k_asm); (case k5 => k_asm); (case k6 => k_is); (case k7 => k_is); (case k8 => k_room); (case kV => exact rfl); (case kP => exact rfl); (case kQ => exact fun _ => rfl); (case kK => exact fun _ _ => rfl); (case kB => exact fun _ _ => locs rfl); (case c5 => decide); (case c2 => exact rfl); (case c3 => exact rfl); (case c4 => exact rfl); k_whole; intro C' D' g' L' h' tk' l1 l2 l3 FG' F' N' X' T'; (try k_lt l1); (try k_lt l3); (try dsimp only); (try k_fold))))
local macro_rules | `(tactic| walk_at "subscriptTail Name UnaryOp ref int") => `(tactic| (k_here; (with_reducible show wpAny _ _ (subscriptTail _ _ (Value.ref _) (Value.int _ _)) _ _ _); k_dflt (refine stk_last (by is_list) (by assumption) ?_)))
local macro_rules | `(tactic| walk_at "truthy ref") => `(tactic| (k_here; (with_reducible show wpAny _ _ (truthy (Value.ref _)) _ _ _); k_dflt (first | refine truthy_tup (b := false) (by assumption) (by assumption) (by first | exact Nat.le_of_ble_eq_true rfl | omega) rfl ?_ | refine truthy_tup (b := true) (by assumption) (by assumption) (by first | exact Nat.le_of_ble_eq_true rfl | omega) rfl ?_); intro _))
local macro_rules | `(tactic| walk_at "truthy str") => `(tactic| (k_here; (with_reducible show wpAny _ _ (truthy (Value.str _ _)) _ _ _); k_dflt (refine KXt.truthy_pos (K := 1000) (by omega) (by omega) (by omega) ?_); intro _))
local macro_rules | `(tactic| walk_at "StarOf ref") => `(tactic| (k_here; k_dflt (refine star_tup (by assumption) (by assumption) (by assumption) (by first | exact Nat.le_of_ble_eq_true rfl | omega) ?_); intro h' F' N'; (try dsimp only [List.nil_append, List.cons_append]); (try k_sweep)))
local macro_rules | `(tactic| walk_at "callWith ref") => `(tactic| (k_here; (with_reducible show wpAny _ _ (callWith _ (Value.ref _) _ (backTo _ (starEach (Expr.Starred _ _ :: _ :: _) _)) []) _ _ _); k_dflt (refine' callWith_S3 ?k1 ?k2 ?_; (case k1 => k_asm); (case k2 => k_is); k_whole)))
local macro_rules | `(tactic| walk_at "call type:str") => `(tactic| (k_here; (with_reducible show wpAny _ _ (call (Value.type "str") [Value.int _ _]) _ _ _); k_dflt (refine str_int9 (by omega) (by omega) ?_); intro _ _))
local macro_rules | `(tactic| walk_at "MINE enterC") => `(tactic| (refine' enterC ?mX ?mT ?k6 ?k7 ?k8 ?k9 ?kB ?kD ?_ ?c2 ?c3 ?c4; (case mX => assumption); (case mT => assumption); (case k6 => k_is); (case k7 => k_is); (case k8 => k_room); (case k9 => first | exact BindsTo.of_eq rfl | exact binds_K (by assumption) rfl (by k_is) rfl rfl rfl); (case kB => exact rfl); (case kD => decide +kernel); (case c2 => exact rfl); (case c3 => exact rfl); (case c4 => exact rfl); intro L' h' tk' cells' F' N' Y'; k_cells Y'; (try simp only [List.cons_append, List.nil_append] at N'); (try dsimp only)))
local macro_rules | `(tactic| walk_at "compareOp In str ref") => `(tactic| (k_here; (with_reducible show wpAny _ _ (compareOp _ (Value.str _ _) (Value.ref _)) _ _ _); k_dflt (refine in_map (by assumption) (by assumption) (by assumption) (by assumption) ?_); intro _))
local macro_rules | `(tactic| walk_at "call builtin:isinstance") => `(tactic| (k_here; (with_reducible show wpAny _ _ (call _ [Value.ref _, Value.type _]) _ _ _); k_dflt (refine' kia_one kitx_tuple ?X ?c ?ee ?nb ?_; (case c => exact kitAt_B (by assumption) (by assumption)); (case X => walk_at "MINE X"); (case ee => kit_is); (case nb => kit_nb); k_whole; intro _)))
local macro_rules | `(tactic| walk_at "call builtin:isinstance") => `(tactic| (k_here; (with_reducible show wpAny _ _ (call _ [Value.ref _, Value.ref _]) _ _ _); k_dflt (refine' kia_one kitx_tuple ?X ?c ?ee ?nb ?_; (case c => exact kitAt_B (by assumption) (by assumption)); (case X => walk_at "MINE X"); (case ee => kit_is); (case nb => kit_nb); k_whole; intro _)))
local macro_rules | `(tactic| walk_at "call type:type") => `(tactic| (k_here; (with_reducible show wpAny _ _ (call (Value.type "type") [Value.ref _]) _ _ _); k_dflt (refine kto_cont (T := "tuple") (kitAt_B (by assumption) (by assumption)) (by decide +kernel) ?_)))
local macro_rules | `(tactic| walk_at "pyIter ref") => `(tactic| (k_here; (with_reducible show wpAny _ _ (pyIter (Value.ref _)) (fun it s₂ => LoopAtV _ _ _ _ _ _ _ _ _ it s₂) _ _); (with_unfolding_all refine iter_unr rfl (vs := _) (by assumption) (by k_asm) (by k_asm) ?_)))
local macro_rules | `(tactic| walk_at "UnrEnd") => `(tactic| (refine UnrEnd.intro (by k_asm) (by k_asm) [] (List.forall_mem_cons.mpr ⟨by k_mem, fun _ h => nomatch h⟩) (fun _ h => nomatch h) ?_))
theorem t_group {x dx q : Addr} {hs1 hs2 : Int} {tk1 tk2 tk3 tk4 : Tok} {place : Int} {c : Nat} {R : Result → Shared → Prop}
  (X : (Mine.hd2.heap_39 w.params).In s.heap) (T : Top p loose mean mg mb s.heap)
  (hd9 : d < 500) (hu9 : u < 1000)
  (hx : s.heap.get? x = some (instObj 586 dx)) (hd : s.heap.get? dx = some (dictOf [⟨hs1, .str "place" tk1, .int place tk2⟩, ⟨hs2, .str "pieces" tk3, .ref q⟩] 2))
  (hq : s.heap.IsList q #[.str ⟨#[c]⟩ tk4])
  (hR : ∀ h' k, Keeps s.heap h' → ∀ t, R (.ok (.ret (.str ⟨#[c]⟩ t))) {s with heap := h', toks := k}) :
  codeAny (model PG w) ⟨none, d, some outer, gd, u⟩ (.call (.ref 583) ⟨[.ref x], []⟩) R s := by
  walk_at "MINE enter"
  k_steps
  exact hR _ _ (Fr.keep (by assumption)) _
local macro_rules | `(tactic| walk_at "call ref") => `(tactic| (k_here; (with_reducible show wpAny _ _ (call (Value.ref 583) _) _ _ _); k_dflt ((refine wpAny_call ?_); (refine' t_group ?sX ?sT ?sd ?su ?sh ?s1 ?s2 ?_; (case sX => walk_at "MINE X"); (case sT => walk_at "MINE T"); (case sd => k_room); (case su => k_units); (case sh => walk_at "MINE obj"); (case s1 => walk_at "MINE obj"); (case s2 => walk_at "MINE lst"); (intro h' k' hk' t'); (have F' := Fr.keeps (by assumption) hk'); (have N' := News.grown (by assumption) hk')))))
theorem t_end {x dx q : Addr} {hs1 hs2 : Int} {tk1 tk2 tk3 tk4 : Tok} {place : Int} {c : Nat} {R : Result → Shared → Prop}
  (X : (Mine.hd2.heap_39 w.params).In s.heap) (T : Top p loose mean mg mb s.heap)
  (hd9 : d < 499) (hu9 : u < 990) (h0 : 0 ≤ place) (hp : place ≤ 100000)
  (hx : s.heap.get? x = some (instObj 586 dx)) (hd : s.heap.get? dx = some (dictOf [⟨hs1, .str "place" tk1, .int place tk2⟩, ⟨hs2, .str "pieces" tk3, .ref q⟩] 2))
  (hq : s.heap.IsList q #[.str ⟨#[c]⟩ tk4])
  (hR : ∀ h' k, Keeps s.heap h' → ∀ t, R (.ok (.ret (.int (place + 1) t))) {s with heap := h', toks := k}) :
  codeAny (model PG w) ⟨none, d, some outer, gd, u⟩ (.call (.ref 577) ⟨[.ref x], []⟩) R s := by
  walk_at "MINE enter"
  k_steps
  exact hR _ _ (Fr.keep (by assumption)) _
end
end Mine
end
section
namespace Mine
section
variable {w : World} {d u : Nat} {gd : Option (List Code)} {base : Heap} {outer : List Env} {s : Shared} {p : Program} {loose : List Str} {mean : ExcName → Option Value} {mg mb : Str → Option Value}
local macro_rules | `(tactic| k_inst) => `(tactic| exact inst_base (by k_asm) (by assumption) (by assumption))
local macro_rules | `(tactic| k_room) => `(tactic| ((try simp only [depth_under_make, depth_under_kw, depth_in1, depth_deeper, depth_caller, depth_mk, Around.in1_depth, rl_is]); omega))
local macro_rules | `(tactic| k_units) => `(tactic| ((try simp only [Around.in1_units, Around.deeper_units, Around.mark_units, units_mk, cl_is]); omega))
local macro_rules | `(tactic| walk_at "truthy str") => `(tactic| (k_here; (with_reducible refine truthy_ch ?_); intro _))
local macro_rules | `(tactic| walk_at "call builtin:str.join") => `(tactic| (k_here; (refine join_one (by is_list) ?_); intro _ _))
local macro_rules | `(tactic| walk_at "MINE enter") => `(tactic| (refine' enter ?mX ?mT ?k6 ?k7 ?k8 ?k9 ?kB ?_ ?c2 ?c3 ?c4 ?c5; (case mX => assumption); (case mT => assumption); (case k6 => k_is); (case k7 => k_is); (case k8 => k_room); (case k9 => first | exact BindsTo.of_eq rfl | exact binds_K (by assumption) rfl (by k_is) rfl rfl rfl); (case c5 => decide); (case kB => exact locs rfl); (case c2 => exact rfl); (case c3 => exact rfl); (case c4 => exact rfl); intro L' h' F' N'; (try dsimp only)))
local macro_rules | `(tactic| walk_at "BRest") => `(tactic| (with_unfolding_all first | (refine BRest.succ (fun I' it' h' tk' hit' off' F' N' => ?_)) | (refine BRest.zero (fun h' tk' F' N' => ?_))))
local macro_rules | `(tactic| walk_at "MINE obj") => `(tactic| first | assumption | exact Fr.keep (by assumption) _ _ (by assumption) | exact News.get (by assumption) (by k_mem))
local macro_rules | `(tactic| walk_at "MINE lst") => `(tactic| first | assumption | exact Heap.IsList.at (by assumption) (fun o e => Fr.keep (by assumption) _ o e) | is_list)
local macro_rules | `(tactic| walk_at "MINE X") => `(tactic| first | assumption | exact Frag.In.keeps (by assumption) (Fr.keep (by assumption)))
local macro_rules | `(tactic| walk_at "MINE T") => `(tactic| first | assumption | exact Top.keeps (by assumption) (Fr.keep (by assumption)))
local macro_rules | `(tactic| walk_at "MINE B") => `(tactic| first | assumption | exact Below.push (by assumption) (by assumption))
local macro_rules | `(tactic| k_enter) => `(tactic| (refine' code_def0 ?k2 ?k3 ?k4 ?k5 ?k6 ?k7 ?k8 ?k9 ?kB ?_ ?c2 ?c3 ?c4 ?c5; (case k2 => k_asm); (case k3 => k_asm); (case k4 => k_asm); (case k5 => k_asm); (case k6 => k_is); (case k7 => k_is); (case k8 => k_room); (case k9 => first | exact BindsTo.of_eq rfl | exact binds_K (by k_in) rfl (by k_is) rfl rfl rfl | fail "k_enter: no rule for these arguments"); (case c5 => decide); (case kB => exact locs rfl); (case c2 => exact rfl); (case c3 => exact rfl); (case c4 => exact rfl); k_whole; intro g' L' h' FG' F' N' X' T'; (try dsimp only); (try k_fold)))
local macro_rules | `(tactic| walk_at "subscriptTail") => `(tactic| (k_here; (with_reducible show wpAny _ _ (subscriptTail _ _ (Value.ref _) (Value.str _ _)) _ _ _); k_dflt (refine tab_item (by k_asm) (by assumption) (by assumption) ?_)))
local macro_rules | `(tactic| walk_at "subscriptTail") => `(tactic| (k_here; (with_reducible show wpAny _ _ (subscriptTail _ _ (Value.ref _) (Value.int _ _)) _ _ _); k_dflt (refine stk_last (by is_list) (by assumption) ?_)))
local macro_rules | `(tactic| k_all) => `(tactic| first | assumption | exact ne_of_allL (by assumption) | exact ne_of_allLt (by assumption) | exact ne_of_allLt (And.right (by assumption)) | exact ne_of_allLt (And.right (And.right (by assumption))) | exact ne_of_allLt (And.right (And.right (And.right (by assumption)))))
local macro_rules | `(tactic| k_enter) => `(tactic| (kp_kind "rest"; (refine' code_rest0 ?k2 ?k3 ?k4 ?k5 ?k6 ?k7 ?k8 ?kV ?kP ?kG ?kB ?_ ?c2 ?c3 ?c4 ?c5; (case k2 => k_asm); (case k3 => k_asm); (case k4 => k_asm); (case k5 => k_asm); (case k6 => k_is); (case k7 => k_is); (case k8 => k_room); (case kV => exact rfl); (case kP => exact rfl); (case kG => exact fun _ => rfl); (case kB => exact fun _ => locs rfl); (case c5 => decide); (case c2 => exact rfl); (case c3 => exact rfl); (case c4 => exact rfl); k_whole; intro D' g' L' h' l1 FG' F' N' X' T'; (try k_lt l1); (try dsimp only); (try k_fold))))
local macro_rules | `(tactic| k_enter) => `(tactic| (kp_kind "more"; (refine' code_more0 ?k2 ?k3 ?k4 ?k5 ?k6 ?k7 ?k8 ?kP ?kK ?kB ?_ ?c2 ?c3 ?c4 ?c5; (case k2 => k_asm); (case k3 => k_asm); (case k4 => k_asm); (case k5 => k_asm); (case k6 => k_is); (case k7 => k_is); (case k8 => k_room); (case kP => exact rfl); (case kK => exact fun _ => rfl); (case kB => exact fun _ => locs rfl); (case c5 => decide); (case c2 => exact rfl); (case c3 => exact rfl); (case c4 => exact rfl); k_whole; intro D' o' g' L' h' tk' l1 lo' hd' fs' FG' F' N' X' T'; (try k_lt l1); (try dsimp only); (try k_fold))))
local macro_rules | `(tactic| k_enter) => `(tactic| (kp_kind "both"; (refine' code_both0 ?k2 ?k3 ?k4 ?k5 ?k6 ?k7 ?k8 ?kV ?kP ?kQ ?kK ?kB ?_ ?c2 ?c3 ?c4 ?c5; (case k2 => k_asm); (case k3 => k_asm); (case k4 => k_asm); (case k5 => k_asm); (case k6 => k_is); (case k7 => k_is); (case k8 => k_room); (case kV => exact rfl); (case kP => exact rfl); (case kQ => exact fun _ => rfl); (case kK => exact fun _ _ => rfl); (case kB => exact fun _ _ => locs rfl); (case c5 => decide); (case c2 => exact rfl); (case c3 => exact rfl); (case c4 => exact rfl); k_whole; intro C' D' g' L' h' tk' l1 l2 l3 FG' F' N' X' T'; (try k_lt l1); (try k_lt l3); (try dsimp only); (try k_fold))))
local macro_rules | `(tactic| walk_at "subscriptTail Name UnaryOp ref int") => `(tactic| (k_here; (with_reducible show wpAny _ _ (subscriptTail _ _ (Value.ref _) (Value.int _ _)) _ _ _); k_dflt (refine stk_last (by is_list) (by assumption) ?_)))
local macro_rules | `(tactic| walk_at "truthy ref") => `(tactic| (k_here; (with_reducible show wpAny _ _ (truthy (Value.ref _)) _ _ _); k_dflt (first | refine truthy_tup (b := false) (by assumption) (by assumption) (by first | exact Nat.le_of_ble_eq_true rfl | omega) rfl ?_ | refine truthy_tup (b := true) (by assumption) (by assumption) (by first | exact Nat.le_of_ble_eq_true rfl | omega) rfl ?_); intro _))
local macro_rules | `(tactic| walk_at "truthy str") => `(tactic| (k_here; (with_reducible show wpAny _ _ (truthy (Value.str _ _)) _ _ _); k_dflt (refine KXt.truthy_pos (K := 1000) (by omega) (by omega) (by omega) ?_); intro _))
local macro_rules | `(tactic| walk_at "StarOf ref") => `(tactic| (k_here; k_dflt (refine star_tup (by assumption) (by assumption) (by assumption) (by first | exact Nat.le_of_ble_eq_true rfl | omega) ?_); intro h' F' N'; (try dsimp only [List.nil_append, List.cons_append]); (try k_sweep)))
local macro_rules | `(tactic| walk_at "callWith ref") => `(tactic| (k_here; (with_reducible show wpAny _ _ (callWith _ (Value.ref _) _ (backTo _ (starEach (Expr.Starred _ _ :: _ :: _) _)) []) _ _ _); k_dflt (refine' callWith_S3 ?k1 ?k2 ?_; (case k1 => k_asm); (case k2 => k_is); k_whole)))
local macro_rules | `(tactic| walk_at "call type:str") => `(tactic| (k_here; (with_reducible show wpAny _ _ (call (Value.type "str") [Value.int _ _]) _ _ _); k_dflt (refine str_int9 (by omega) (by omega) ?_); intro _ _))
local macro_rules | `(tactic| walk_at "MINE enterC") => `(tactic| (refine' enterC ?mX ?mT ?k6 ?k7 ?k8 ?k9 ?kB ?kD ?_ ?c2 ?c3 ?c4; (case mX => assumption); (case mT => assumption); (case k6 => k_is); (case k7 => k_is); (case k8 => k_room); (case k9 => first | exact BindsTo.of_eq rfl | exact binds_K (by assumption) rfl (by k_is) rfl rfl rfl); (case kB => exact rfl); (case kD => decide +kernel); (case c2 => exact rfl); (case c3 => exact rfl); (case c4 => exact rfl); intro L' h' tk' cells' F' N' Y'; k_cells Y'; (try simp only [List.cons_append, List.nil_append] at N'); (try dsimp only)))
local macro_rules | `(tactic| walk_at "compareOp In str ref") => `(tactic| (k_here; (with_reducible show wpAny _ _ (compareOp _ (Value.str _ _) (Value.ref _)) _ _ _); k_dflt (refine in_map (by assumption) (by assumption) (by assumption) (by assumption) ?_); intro _))
local macro_rules | `(tactic| walk_at "call builtin:isinstance") => `(tactic| (k_here; (with_reducible show wpAny _ _ (call _ [Value.ref _, Value.type _]) _ _ _); k_dflt (refine' kia_one kitx_tuple ?X ?c ?ee ?nb ?_; (case c => exact kitAt_B (by assumption) (by assumption)); (case X => walk_at "MINE X"); (case ee => kit_is); (case nb => kit_nb); k_whole; intro _)))
local macro_rules | `(tactic| walk_at "call builtin:isinstance") => `(tactic| (k_here; (with_reducible show wpAny _ _ (call _ [Value.ref _, Value.ref _]) _ _ _); k_dflt (refine' kia_one kitx_tuple ?X ?c ?ee ?nb ?_; (case c => exact kitAt_B (by assumption) (by assumption)); (case X => walk_at "MINE X"); (case ee => kit_is); (case nb => kit_nb); k_whole; intro _)))
local macro_rules | `(tactic| walk_at "call type:type") => `(tactic| (k_here; (with_reducible show wpAny _ _ (call (Value.type "type") [Value.ref _]) _ _ _); k_dflt (refine kto_cont (T := "tuple") (kitAt_B (by assumption) (by assumption)) (by decide +kernel) ?_)))
theorem aliases {h : Heap} (X : (Mine.hd2.heap_39 w.params).In h) : ∃ f : Str → Option Value, h.MapOf (PySem.strKind PG w) 91 f ∧ ∀ v, v ≠ Str.ofString "Token" → v ≠ Str.ofString "String" → v ≠ Str.ofString "Number" → f v = none := by
  refine ⟨_, mapOf_K X (by k_is) (by repeat' (first | exact trivial | refine ⟨⟨_, _, rfl, rfl⟩, ?_⟩)), fun v h1 h2 h3 => ?_⟩
  have e1 := beq_eq_false_iff_ne.mpr h1.symm
  have e2 := beq_eq_false_iff_ne.mpr h2.symm
  have e3 := beq_eq_false_iff_ne.mpr h3.symm
  simp [findBy, Value.isStrOf, e1, e2, e3, h1.symm, h2.symm, h3.symm]
theorem t_child0 {v : Str} {t : Tok} {R : Result → Shared → Prop}
  (X : (Mine.hd2.heap_39 w.params).In s.heap) (T : Top p loose mean mg mb s.heap)
  (hd9 : d < 500) (hu9 : u < 900) (hl0 : 1 ≤ v.length) (hl1 : v.length ≤ 1000) 
  (ha1 : v ≠ Str.ofString "Token") (ha2 : v ≠ Str.ofString "String") (ha3 : v ≠ Str.ofString "Number") (hup : Txt.isupper (Txt.item v 0) = true)
  (hR : ∀ h' k q dq hs tk nt vt n, Keeps s.heap h' → (h'.get? q = some (instObj 66 dq) ∧ s.heap.get? q = none) → (h'.get? dq = some (dictOf [⟨hs, .str (Str.ofString "names") tk, .ref nt⟩] 1) ∧ s.heap.get? dq = none) → (h'.get? nt = some { cls := .type "tuple", data := .seq #[.str v vt] n } ∧ s.heap.get? nt = none) → R (.ok (.ret (.ref q))) {s with heap := h', toks := k}) :
  codeAny (model PG w) ⟨none, d, some outer, gd, u⟩ (.call (.ref 56) ⟨[.ref 72, .str v t], []⟩) R s := by
  have h91 : ((91 : Addr) == sysModules) = false := by decide
  have h73 : IsTup s.heap 73 ([] : List Value).toArray := tupK X (by k_is)
  obtain ⟨al, hal, hal2⟩ := aliases X
  have hv0 := hal2 v ha1 ha2 ha3
  have hvs : (al v).isSome = false := by rw [hv0]; rfl
  walk_at "MINE enter"
  k_steps
  all_goals try exact absurd hup (by rw [‹Txt.isupper _ = false›]; decide)
  exact hR _ _ _ _ _ _ _ _ _ (Fr.keep (by assumption)) (newsBoth (by assumption) (by k_mem)) (newsBoth (by assumption) (by k_mem)) (newsBoth (by assumption) (by k_mem))
theorem t_child1 {q0 dq0 nt0 : Addr} {hs0 : Int} {tk0 : Tok} {y v : Str} {yt t : Tok} {R : Result → Shared → Prop}
  (X : (Mine.hd2.heap_39 w.params).In s.heap) (T : Top p loose mean mg mb s.heap)
  (hd9 : d < 500) (hu9 : u < 900) (hl0 : 1 ≤ v.length) (hl1 : v.length ≤ 1000) (hup : Txt.isupper (Txt.item v 0) = true)
  (hx : s.heap.get? q0 = some (instObj 66 dq0)) (hd : s.heap.get? dq0 = some (dictOf [⟨hs0, .str "names" tk0, .ref nt0⟩] 1)) (ht : IsTup s.heap nt0 [Value.str y yt].toArray)
  (hR : ∀ h' k q dq hs tk nt yt vt n, Keeps s.heap h' → (h'.get? q = some (instObj 66 dq) ∧ s.heap.get? q = none) → (h'.get? dq = some (dictOf [⟨hs, .str (Str.ofString "names") tk, .ref nt⟩] 1) ∧ s.heap.get? dq = none) → (h'.get? nt = some { cls := .type "tuple", data := .seq #[.str y yt, .str v vt] n } ∧ s.heap.get? nt = none) → R (.ok (.ret (.ref q))) {s with heap := h', toks := k}) :
  codeAny (model PG w) ⟨none, d, some outer, gd, u⟩ (.call (.ref 56) ⟨[.ref q0, .str v t], []⟩) R s := by
  walk_at "MINE enter"
  k_steps
  all_goals try exact absurd hup (by rw [‹Txt.isupper _ = false›]; decide)
  exact hR _ _ _ _ _ _ _ _ _ _ (Fr.keep (by assumption)) (newsBoth (by assumption) (by k_mem)) (newsBoth (by assumption) (by k_mem)) (newsBoth (by assumption) (by k_mem))
end
end Mine
end
section
namespace Mine
section
variable {w : World} {d u : Nat} {gd : Option (List Code)} {base : Heap} {outer : List Env} {s : Shared} {p : Program} {loose : List Str} {mean : ExcName → Option Value} {mg mb : Str → Option Value}
local macro_rules | `(tactic| k_inst) => `(tactic| exact inst_base (by k_asm) (by assumption) (by assumption))
local macro_rules | `(tactic| k_room) => `(tactic| ((try simp only [depth_under_make, depth_under_kw, depth_in1, depth_deeper, depth_caller, depth_mk, Around.in1_depth, rl_is]); omega))
local macro_rules | `(tactic| k_units) => `(tactic| ((try simp only [Around.in1_units, Around.deeper_units, Around.mark_units, units_mk, cl_is]); omega))
local macro_rules | `(tactic| walk_at "truthy str") => `(tactic| (k_here; (with_reducible refine truthy_ch ?_); intro _))
local macro_rules | `(tactic| walk_at "call builtin:str.join") => `(tactic| (k_here; (refine join_one (by is_list) ?_); intro _ _))
local macro_rules | `(tactic| walk_at "MINE enter") => `(tactic| (refine' enter ?mX ?mT ?k6 ?k7 ?k8 ?k9 ?kB ?_ ?c2 ?c3 ?c4 ?c5; (case mX => assumption); (case mT => assumption); (case k6 => k_is); (case k7 => k_is); (case k8 => k_room); (case k9 => first | exact BindsTo.of_eq rfl | exact binds_K (by assumption) rfl (by k_is) rfl rfl rfl); (case c5 => decide); (case kB => exact locs rfl); (case c2 => exact rfl); (case c3 => exact rfl); (case c4 => exact rfl); intro L' h' F' N'; (try dsimp only)))
local macro_rules | `(tactic| walk_at "BRest") => `(tactic| (with_unfolding_all first | (refine BRest.succ (fun I' it' h' tk' hit' off' F' N' => ?_)) | (refine BRest.zero (fun h' tk' F' N' => ?_))))
local macro_rules | `(tactic| walk_at "MINE obj") => `(tactic| first | assumption | exact Fr.keep (by assumption) _ _ (by assumption) | exact News.get (by assumption) (by k_mem))
local macro_rules | `(tactic| walk_at "MINE lst") => `(tactic| first | assumption | exact Heap.IsList.at (by assumption) (fun o e => Fr.keep (by assumption) _ o e) | is_list)
local macro_rules | `(tactic| walk_at "MINE X") => `(tactic| first | assumption | exact Frag.In.keeps (by assumption) (Fr.keep (by assumption)))
local macro_rules | `(tactic| walk_at "MINE T") => `(tactic| first | assumption | exact Top.keeps (by assumption) (Fr.keep (by assumption)))
local macro_rules | `(tactic| walk_at "MINE B") => `(tactic| first | assumption | exact Below.push (by assumption) (by assumption))
local macro_rules | `(tactic| k_enter) => `(tactic| (refine' code_def0 ?k2 ?k3 ?k4 ?k5 ?k6 ?k7 ?k8 ?k9 ?kB ?_ ?c2 ?c3 ?c4 ?c5; (case k2 => k_asm); (case k3 => k_asm); (case k4 => k_asm); (case k5 => k_asm); (case k6 => k_is); (case k7 => k_is); (case k8 => k_room); (case k9 => first | exact BindsTo.of_eq rfl | exact binds_K (by k_in) rfl (by k_is) rfl rfl rfl | fail "k_enter: no rule for these arguments"); (case c5 => decide); (case kB => exact locs rfl); (case c2 => exact rfl); (case c3 => exact rfl); (case c4 => exact rfl); k_whole; intro g' L' h' FG' F' N' X' T'; (try dsimp only); (try k_fold)))
local macro_rules | `(tactic| walk_at "subscriptTail") => `(tactic| (k_here; (with_reducible show wpAny _ _ (subscriptTail _ _ (Value.ref _) (Value.str _ _)) _ _ _); k_dflt (refine tab_item (by k_asm) (by assumption) (by assumption) ?_)))
local macro_rules | `(tactic| walk_at "subscriptTail") => `(tactic| (k_here; (with_reducible show wpAny _ _ (subscriptTail _ _ (Value.ref _) (Value.int _ _)) _ _ _); k_dflt (refine stk_last (by is_list) (by assumption) ?_)))
local macro_rules | `(tactic| k_all) => `(tactic| first | assumption | exact ne_of_allL (by assumption) | exact ne_of_allLt (by assumption) | exact ne_of_allLt (And.right (by assumption)) | exact ne_of_allLt (And.right (And.right (by assumption))) | exact ne_of_allLt (And.right (And.right (And.right (by assumption)))))
local macro_rules | `(tactic| k_enter) => `(tactic| (kp_kind "rest"; (refine' code_rest0 ?k2 ?k3 ?k4 ?k5 ?k6 ?k7 ?k8 ?kV ?kP ?kG ?kB ?_ ?c2 ?c3 ?c4 ?c5; (case k2 => k_asm); (case k3 => k_asm); (case k4 => k_asm); (case k5 => k_asm); (case k6 => k_is); (case k7 => k_is); (case k8 => k_room); (case kV => exact rfl); (case kP => exact rfl); (case kG => exact fun _ => rfl); (case kB => exact fun _ => locs rfl); (case c5 => decide); (case c2 => exact rfl); (case c3 => exact rfl); (case c4 => exact rfl); k_whole; intro D' g' L' h' l1 FG' F' N' X' T'; (try k_lt l1); (try dsimp only); (try k_fold))))
local macro_rules | `(tactic| k_enter) => `(tactic| (kp_kind "more"; (refine' code_more0 ?k2 ?k3 ?k4 ?k5 ?k6 ?k7 ?k8 ?kP ?kK ?kB ?_ ?c2 ?c3 ?c4 ?c5; (case k2 => k_asm); (case k3 => k_asm); (case k4 => k_asm); (case k5 => k_asm); (case k6 => k_is); (case k7 => k_is); (case k8 => k_room); (case kP => exact rfl); (case kK => exact fun _ => rfl); (case kB => exact fun _ => locs rfl); (case c5 => decide); (case c2 => exact rfl); (case c3 => exact rfl); (case c4 => exact rfl); k_whole; intro D' o' g' L' h' tk' l1 lo' hd' fs' FG' F' N' X' T'; (try k_lt l1); (try dsimp only); (try k_fold))))
local macro_rules | `(tactic| k_enter) => `(tactic| (kp_kind "both"; (refine' code_both0 ?k2 ?k3 ?k4 ?k5 ?k6 ?k7 ?k8 ?kV ?kP ?kQ ?kK ?kB ?_ ?c2 ?c3 ?c4 ?c5; (case k2 => k_asm); (case k3 => k_asm); (case k4 => k_asm); (case k5 => k_asm); (case k6 => k_is); (case k7 => k_is); (case k8 => k_room); (case kV => exact rfl); (case kP => exact rfl); (case kQ => exact fun _ => rfl); (case kK => exact fun _ _ => rfl); (case kB => exact fun _ _ => locs rfl); (case c5 => decide); (case c2 => exact rfl); (case c3 => exact rfl); (case c4 => exact rfl); k_whole; intro C' D' g' L' h' tk' l1 l2 l3 FG' F' N' X' T'; (try k_lt l1); (try k_lt l3); (try dsimp only); (try k_fold))))
local macro_rules | `(tactic| walk_at "subscriptTail Name UnaryOp ref int") => `(tactic| (k_here; (with_reducible show wpAny _ _ (subscriptTail _ _ (Value.ref _) (Value.int _ _)) _ _ _); k_dflt (refine stk_last (by is_list) (by assumption) ?_)))
local macro_rules | `(tactic| walk_at "truthy ref") => `(tactic| (k_here; (with_reducible show wpAny _ _ (truthy (Value.ref _)) _ _ _); k_dflt (first | refine truthy_tup (b := false) (by assumption) (by assumption) (by first | exact Nat.le_of_ble_eq_true rfl | omega) rfl ?_ | refine truthy_tup (b := true) (by assumption) (by assumption) (by first | exact Nat.le_of_ble_eq_true rfl | omega) rfl ?_); intro _))
local macro_rules | `(tactic| walk_at "truthy str") => `(tactic| (k_here; (with_reducible show wpAny _ _ (truthy (Value.str _ _)) _ _ _); k_dflt (refine KXt.truthy_pos (K := 1000) (by omega) (by omega) (by omega) ?_); intro _))
local macro_rules | `(tactic| walk_at "StarOf ref") => `(tactic| (k_here; k_dflt (refine star_tup (by assumption) (by assumption) (by assumption) (by first | exact Nat.le_of_ble_eq_true rfl | omega) ?_); intro h' F' N'; (try dsimp only [List.nil_append, List.cons_append]); (try k_sweep)))
local macro_rules | `(tactic| walk_at "callWith ref") => `(tactic| (k_here; (with_reducible show wpAny _ _ (callWith _ (Value.ref _) _ (backTo _ (starEach (Expr.Starred _ _ :: _ :: _) _)) []) _ _ _); k_dflt (refine' callWith_S3 ?k1 ?k2 ?_; (case k1 => k_asm); (case k2 => k_is); k_whole)))
local macro_rules | `(tactic| walk_at "call type:str") => `(tactic| (k_here; (with_reducible show wpAny _ _ (call (Value.type "str") [Value.int _ _]) _ _ _); k_dflt (refine str_int9 (by omega) (by omega) ?_); intro _ _))
local macro_rules | `(tactic| walk_at "MINE enterC") => `(tactic| (refine' enterC ?mX ?mT ?k6 ?k7 ?k8 ?k9 ?kB ?kD ?_ ?c2 ?c3 ?c4; (case mX => assumption); (case mT => assumption); (case k6 => k_is); (case k7 => k_is); (case k8 => k_room); (case k9 => first | exact BindsTo.of_eq rfl | exact binds_K (by assumption) rfl (by k_is) rfl rfl rfl); (case kB => exact rfl); (case kD => decide +kernel); (case c2 => exact rfl); (case c3 => exact rfl); (case c4 => exact rfl); intro L' h' tk' cells' F' N' Y'; k_cells Y'; (try simp only [List.cons_append, List.nil_append] at N'); (try dsimp only)))
local macro_rules | `(tactic| walk_at "compareOp In str ref") => `(tactic| (k_here; (with_reducible show wpAny _ _ (compareOp _ (Value.str _ _) (Value.ref _)) _ _ _); k_dflt (refine in_map (by assumption) (by assumption) (by assumption) (by assumption) ?_); intro _))
local macro_rules | `(tactic| walk_at "call builtin:isinstance") => `(tactic| (k_here; (with_reducible show wpAny _ _ (call _ [Value.ref _, Value.type _]) _ _ _); k_dflt (refine' kia_one kitx_tuple ?X ?c ?ee ?nb ?_; (case c => exact kitAt_B (by assumption) (by assumption)); (case X => walk_at "MINE X"); (case ee => kit_is); (case nb => kit_nb); k_whole; intro _)))
local macro_rules | `(tactic| walk_at "call builtin:isinstance") => `(tactic| (k_here; (with_reducible show wpAny _ _ (call _ [Value.ref _, Value.ref _]) _ _ _); k_dflt (refine' kia_one kitx_tuple ?X ?c ?ee ?nb ?_; (case c => exact kitAt_B (by assumption) (by assumption)); (case X => walk_at "MINE X"); (case ee => kit_is); (case nb => kit_nb); k_whole; intro _)))
local macro_rules | `(tactic| walk_at "call type:type") => `(tactic| (k_here; (with_reducible show wpAny _ _ (call (Value.type "type") [Value.ref _]) _ _ _); k_dflt (refine kto_cont (T := "tuple") (kitAt_B (by assumption) (by assumption)) (by decide +kernel) ?_)))
local macro_rules | `(tactic| walk_at "eval ListComp") => `(tactic| (k_here; k_dflt (refine ListComp_D (by k_asm) (by with_unfolding_all rfl) (by decide) (by rfl) (by decide) (by rfl) ?_)))
local macro_rules | `(tactic| walk_at "SrcD") => `(tactic| (k_here; k_dflt (refine SrcD.intro (by rfl) (by k_asm) (by k_asm) (by assumption) (by first | decide | rfl) (n := 1) (by first | rfl | decide) (Nat.le_of_ble_eq_true rfl) ?_); intro g'))
theorem t_awaited1 {side : Int} {t1 t2 : Tok} {R : Result → Shared → Prop}
  (X : (Mine.hd2.heap_39 w.params).In s.heap) (T : Top p loose mean mg mb s.heap)
  (hd9 : d < 500) (hu9 : u < 900) (hs : 0 ≤ side) (hs1 : side ≤ 1)
  (hR : ∀ h' k D n vs, Keeps s.heap h' → (h'.get? D = some { cls := .type "tuple", data := .seq vs.toArray n } ∧ s.heap.get? D = none) → StrsAre vs (awNames side 1) → R (.ok (.ret (.ref D))) {s with heap := h', toks := k}) :
  codeAny (model PG w) ⟨none, d, some outer, gd, u⟩ (.call (.ref 641) ⟨[.int side t1, .int 1 t2], []⟩) R s := by
  walk_at "MINE enterC"
  k_steps
  exact hR _ _ _ _ [_] (Fr.keep (by assumption)) (newsBoth (by assumption) (by k_mem)) (.cons _ _ .nil)
local macro_rules | `(tactic| walk_at "SrcD") => `(tactic| (k_here; k_dflt (refine SrcD.intro (by rfl) (by k_asm) (by k_asm) (by assumption) (by first | decide | rfl) (n := 2) (by first | rfl | decide) (Nat.le_of_ble_eq_true rfl) ?_); intro g'))
theorem t_awaited2 {side : Int} {t1 t2 : Tok} {R : Result → Shared → Prop}
  (X : (Mine.hd2.heap_39 w.params).In s.heap) (T : Top p loose mean mg mb s.heap)
  (hd9 : d < 500) (hu9 : u < 900) (hs : 0 ≤ side) (hs1 : side ≤ 1)
  (hR : ∀ h' k D n vs, Keeps s.heap h' → (h'.get? D = some { cls := .type "tuple", data := .seq vs.toArray n } ∧ s.heap.get? D = none) → StrsAre vs (awNames side 2) → R (.ok (.ret (.ref D))) {s with heap := h', toks := k}) :
  codeAny (model PG w) ⟨none, d, some outer, gd, u⟩ (.call (.ref 641) ⟨[.int side t1, .int 2 t2], []⟩) R s := by
  walk_at "MINE enterC"
  k_steps
  exact hR _ _ _ _ [_, _] (Fr.keep (by assumption)) (newsBoth (by assumption) (by k_mem)) (.cons _ _ (.cons _ _ .nil))
local macro_rules | `(tactic| walk_at "SrcD") => `(tactic| (k_here; k_dflt (refine SrcD.intro (by rfl) (by k_asm) (by k_asm) (by assumption) (by first | decide | rfl) (n := 3) (by first | rfl | decide) (Nat.le_of_ble_eq_true rfl) ?_); intro g'))
theorem t_awaited3 {side : Int} {t1 t2 : Tok} {R : Result → Shared → Prop}
  (X : (Mine.hd2.heap_39 w.params).In s.heap) (T : Top p loose mean mg mb s.heap)
  (hd9 : d < 500) (hu9 : u < 900) (hs : 0 ≤ side) (hs1 : side ≤ 1)
  (hR : ∀ h' k D n vs, Keeps s.heap h' → (h'.get? D = some { cls := .type "tuple", data := .seq vs.toArray n } ∧ s.heap.get? D = none) → StrsAre vs (awNames side 3) → R (.ok (.ret (.ref D))) {s with heap := h', toks := k}) :
  codeAny (model PG w) ⟨none, d, some outer, gd, u⟩ (.call (.ref 641) ⟨[.int side t1, .int 3 t2], []⟩) R s := by
  walk_at "MINE enterC"
  k_steps
  exact hR _ _ _ _ [_, _, _] (Fr.keep (by assumption)) (newsBoth (by assumption) (by k_mem)) (.cons _ _ (.cons _ _ (.cons _ _ .nil)))
end
end Mine
end
section
namespace Mine
section
variable {w : World} {d u : Nat} {gd : Option (List Code)} {base : Heap} {outer : List Env} {s : Shared} {p : Program} {loose : List Str} {mean : ExcName → Option Value} {mg mb : Str → Option Value}
local macro_rules | `(tactic| k_inst) => `(tactic| exact inst_base (by k_asm) (by assumption) (by assumption))
local macro_rules | `(tactic| k_room) => `(tactic| ((try simp only [depth_under_make, depth_under_kw, depth_in1, depth_deeper, depth_caller, depth_mk, Around.in1_depth, rl_is]); omega))
local macro_rules | `(tactic| k_units) => `(tactic| ((try simp only [Around.in1_units, Around.deeper_units, Around.mark_units, units_mk, cl_is]); omega))
local macro_rules | `(tactic| walk_at "truthy str") => `(tactic| (k_here; (with_reducible refine truthy_ch ?_); intro _))
local macro_rules | `(tactic| walk_at "call builtin:str.join") => `(tactic| (k_here; (refine join_one (by is_list) ?_); intro _ _))
local macro_rules | `(tactic| walk_at "MINE enter") => `(tactic| (refine' enter ?mX ?mT ?k6 ?k7 ?k8 ?k9 ?kB ?_ ?c2 ?c3 ?c4 ?c5; (case mX => assumption); (case mT => assumption); (case k6 => k_is); (case k7 => k_is); (case k8 => k_room); (case k9 => first | exact BindsTo.of_eq rfl | exact binds_K (by assumption) rfl (by k_is) rfl rfl rfl); (case c5 => decide); (case kB => exact locs rfl); (case c2 => exact rfl); (case c3 => exact rfl); (case c4 => exact rfl); intro L' h' F' N'; (try dsimp only)))
local macro_rules | `(tactic| walk_at "BRest") => `(tactic| (with_unfolding_all first | (refine BRest.succ (fun I' it' h' tk' hit' off' F' N' => ?_)) | (refine BRest.zero (fun h' tk' F' N' => ?_))))
local macro_rules | `(tactic| walk_at "MINE obj") => `(tactic| first | assumption | exact Fr.keep (by assumption) _ _ (by assumption) | exact News.get (by assumption) (by k_mem))
local macro_rules | `(tactic| walk_at "MINE lst") => `(tactic| first | assumption | exact Heap.IsList.at (by assumption) (fun o e => Fr.keep (by assumption) _ o e) | is_list)
local macro_rules | `(tactic| walk_at "MINE X") => `(tactic| first | assumption | exact Frag.In.keeps (by assumption) (Fr.keep (by assumption)))
local macro_rules | `(tactic| walk_at "MINE T") => `(tactic| first | assumption | exact Top.keeps (by assumption) (Fr.keep (by assumption)))
local macro_rules | `(tactic| walk_at "MINE B") => `(tactic| first | assumption | exact Below.push (by assumption) (by assumption))
local macro_rules | `(tactic| k_enter) => `(tactic| (refine' code_def0 ?k2 ?k3 ?k4 ?k5 ?k6 ?k7 ?k8 ?k9 ?kB ?_ ?c2 ?c3 ?c4 ?c5; (case k2 => k_asm); (case k3 => k_asm); (case k4 => k_asm); (case k5 => k_asm); (case k6 => k_is); (case k7 => k_is); (case k8 => k_room); (case k9 => first | exact BindsTo.of_eq rfl | exact binds_K (by k_in) rfl (by k_is) rfl rfl rfl | fail "k_enter: no rule for these arguments"); (case c5 => decide); (case kB => exact locs rfl); (case c2 => exact rfl); (case c3 => exact rfl); (case c4 => exact rfl); k_whole; intro g' L' h' FG' F' N' X' T'; (try dsimp only); (try k_fold)))
local macro_rules | `(tactic| walk_at "subscriptTail") => `(tactic| (k_here; (with_reducible show wpAny _ _ (subscriptTail _ _ (Value.ref _) (Value.str _ _)) _ _ _); k_dflt (refine tab_item (by k_asm) (by assumption) (by assumption) ?_)))
local macro_rules | `(tactic| walk_at "subscriptTail") => `(tactic| (k_here; (with_reducible show wpAny _ _ (subscriptTail _ _ (Value.ref _) (Value.int _ _)) _ _ _); k_dflt (refine stk_last (by is_list) (by assumption) ?_)))
local macro_rules | `(tactic| k_all) => `(tactic| first | assumption | exact ne_of_allL (by assumption) | exact ne_of_allLt (by assumption) | exact ne_of_allLt (And.right (by assumption)) | exact ne_of_allLt (And.right (And.right (by assumption))) | exact ne_of_allLt (And.right (And.right (And.right (by assumption)))))
local macro_rules | `(tactic| k_enter) => `(tactic| (kp_kind "rest"; (refine' code_rest0 ?k2 ?k3 ?k4 ?k5 ?k6 ?k7 ?k8 ?kV ?kP ?kG ?kB ?_ ?c2 ?c3 ?c4 ?c5; (case k2 => k_asm); (case k3 => k_asm); (case k4 => k_asm); (case k5 => k_asm); (case k6 => k_is); (case k7 => k_is); (case k8 => k_room); (case kV => exact rfl); (case kP => exact rfl); (case kG => exact fun _ => rfl); (case kB => exact fun _ => locs rfl); (case c5 => decide); (case c2 => exact rfl); (case c3 => exact rfl); (case c4 => exact rfl); k_whole; intro D' g' L' h' l1 FG' F' N' X' T'; (try k_lt l1); (try dsimp only); (try k_fold))))
local macro_rules | `(tactic| k_enter) => `(tactic| (kp_kind "more"; (refine' code_more0 ?k2 ?k3 ?k4 ?k5 ?k6 ?k7 ?k8 ?kP ?kK ?kB ?_ ?c2 ?c3 ?c4 ?c5; (case k2 => k_asm); (case k3 => k_asm); (case k4 => k_asm); (case k5 => k_asm); (case k6 => k_is); (case k7 => k_is); (case k8 => k_room); (case kP => exact rfl); (case kK => exact fun _ => rfl); (case kB => exact fun _ => locs rfl); (case c5 => decide); (case c2 => exact rfl); (case c3 => exact rfl); (case c4 => exact rfl); k_whole; intro D' o' g' L' h' tk' l1 lo' hd' fs' FG' F' N' X' T'; (try k_lt l1); (try dsimp only); (try k_fold))))
local macro_rules | `(tactic| k_enter) => `(tactic| (kp_kind "both"; (refine' code_both0 ?k2 ?k3 ?k4 ?k5 ?k6 ?k7 ?k8 ?kV ?kP ?kQ ?kK ?kB ?_ ?c2 ?c3 ?c4 ?c5; (case k2 => k_asm); (case k3 => k_asm); (case k4 => k_asm); (case k5 => k_asm); (case k6 => k_is); (case k7 => k_is); (case k8 => k_room); (case kV => exact rfl); (case kP => exact rfl); (case kQ => exact fun _ => rfl); (case kK => exact fun _ _ => rfl); (case kB => exact fun _ _ => locs rfl); (case c5 => decide); (case c2 => exact rfl); (case c3 => exact rfl); (case c4 => exact rfl); k_whole; intro C' D' g' L' h' tk' l1 l2 l3 FG' F' N' X' T'; (try k_lt l1); (try k_lt l3); (try dsimp only); (try k_fold))))
local macro_rules | `(tactic| walk_at "subscriptTail Name UnaryOp ref int") => `(tactic| (k_here; (with_reducible show wpAny _ _ (subscriptTail _ _ (Value.ref _) (Value.int _ _)) _ _ _); k_dflt (refine stk_last (by is_list) (by assumption) ?_)))
local macro_rules | `(tactic| walk_at "truthy ref") => `(tactic| (k_here; (with_reducible show wpAny _ _ (truthy (Value.ref _)) _ _ _); k_dflt (first | refine truthy_tup (b := false) (by assumption) (by assumption) (by first | exact Nat.le_of_ble_eq_true rfl | omega) rfl ?_ | refine truthy_tup (b := true) (by assumption) (by assumption) (by first | exact Nat.le_of_ble_eq_true rfl | omega) rfl ?_); intro _))
local macro_rules | `(tactic| walk_at "truthy str") => `(tactic| (k_here; (with_reducible show wpAny _ _ (truthy (Value.str _ _)) _ _ _); k_dflt (refine KXt.truthy_pos (K := 1000) (by omega) (by omega) (by omega) ?_); intro _))
local macro_rules | `(tactic| walk_at "StarOf ref") => `(tactic| (k_here; k_dflt (refine star_tup (by assumption) (by assumption) (by assumption) (by first | exact Nat.le_of_ble_eq_true rfl | omega) ?_); intro h' F' N'; (try dsimp only [List.nil_append, List.cons_append]); (try k_sweep)))
local macro_rules | `(tactic| walk_at "callWith ref") => `(tactic| (k_here; (with_reducible show wpAny _ _ (callWith _ (Value.ref _) _ (backTo _ (starEach (Expr.Starred _ _ :: _ :: _) _)) []) _ _ _); k_dflt (refine' callWith_S3 ?k1 ?k2 ?_; (case k1 => k_asm); (case k2 => k_is); k_whole)))
local macro_rules | `(tactic| walk_at "call type:str") => `(tactic| (k_here; (with_reducible show wpAny _ _ (call (Value.type "str") [Value.int _ _]) _ _ _); k_dflt (refine str_int9 (by omega) (by omega) ?_); intro _ _))
local macro_rules | `(tactic| walk_at "MINE enterC") => `(tactic| (refine' enterC ?mX ?mT ?k6 ?k7 ?k8 ?k9 ?kB ?kD ?_ ?c2 ?c3 ?c4; (case mX => assumption); (case mT => assumption); (case k6 => k_is); (case k7 => k_is); (case k8 => k_room); (case k9 => first | exact BindsTo.of_eq rfl | exact binds_K (by assumption) rfl (by k_is) rfl rfl rfl); (case kB => exact rfl); (case kD => decide +kernel); (case c2 => exact rfl); (case c3 => exact rfl); (case c4 => exact rfl); intro L' h' tk' cells' F' N' Y'; k_cells Y'; (try simp only [List.cons_append, List.nil_append] at N'); (try dsimp only)))
local macro_rules | `(tactic| walk_at "compareOp In str ref") => `(tactic| (k_here; (with_reducible show wpAny _ _ (compareOp _ (Value.str _ _) (Value.ref _)) _ _ _); k_dflt (refine in_map (by assumption) (by assumption) (by assumption) (by assumption) ?_); intro _))
local macro_rules | `(tactic| walk_at "call builtin:isinstance") => `(tactic| (k_here; (with_reducible show wpAny _ _ (call _ [Value.ref _, Value.type _]) _ _ _); k_dflt (refine' kia_one kitx_tuple ?X ?c ?ee ?nb ?_; (case c => exact kitAt_B (by assumption) (by assumption)); (case X => walk_at "MINE X"); (case ee => kit_is); (case nb => kit_nb); k_whole; intro _)))
local macro_rules | `(tactic| walk_at "call builtin:isinstance") => `(tactic| (k_here; (with_reducible show wpAny _ _ (call _ [Value.ref _, Value.ref _]) _ _ _); k_dflt (refine' kia_one kitx_tuple ?X ?c ?ee ?nb ?_; (case c => exact kitAt_B (by assumption) (by assumption)); (case X => walk_at "MINE X"); (case ee => kit_is); (case nb => kit_nb); k_whole; intro _)))
local macro_rules | `(tactic| walk_at "call type:type") => `(tactic| (k_here; (with_reducible show wpAny _ _ (call (Value.type "type") [Value.ref _]) _ _ _); k_dflt (refine kto_cont (T := "tuple") (kitAt_B (by assumption) (by assumption)) (by decide +kernel) ?_)))
theorem t_ns_tuple {x un pr a : Addr} {fu : Str → Option Value} {vs : List Value} {ts : List Str} {R : Result → Shared → Prop}
  (X : (Mine.hd2.heap_39 w.params).In s.heap) (T : Top p loose mean mg mb s.heap)
  (hd9 : d < 500) (hu9 : u < 900) (hun : s.heap.MapOf (PySem.strKind PG w) un fu) (hum : (un == sysModules) = false)
  (ht : IsTup s.heap a vs.toArray) (hs : StrsAre vs ts) (hin : ∀ t ∈ ts, (fu t).isSome = true ∨ ((fu t).isSome = false ∧ t = Str.ofString "#pop"))
  (hR : ∀ h' k, Keeps s.heap h' → R (.ok (.ret (.ref a))) {s with heap := h', toks := k}) :
  codeAny (model PG w) ⟨none, d, some outer, gd, u⟩ (.call (.ref 491) ⟨[.ref x, .ref a, .ref un, .ref pr], []⟩) R s := by
  walk_at "MINE enter"
  k_steps
  (with_unfolding_all refine' For_invVF (by assumption) ?k1 ?k2 ?_)
  case k1 => exact rfl
  case k2 => exact rfl
  k_steps
  rename Fr _ _ _ _ => F5
  rename News _ _ _ _ => N5
  refine iter_T2 (fun i m₁ news₁ => news₁ = [] ∧ m₁ (Str.ofString "unprocessed") = some (.ref un) ∧ m₁ (Str.ofString "new_state") = some (.ref a)) rfl ht F5 N5 ⟨rfl, rfl, rfl⟩ ?turn ?done
  case turn =>
    clear N5 F5
    intro i v m₁ news₁ I5 it5 s5 hv ⟨hn₁, q1, q2⟩ ho5 F5 N5 P5 E5 hP5
    subst hn₁
    obtain ⟨tt5, ttk5, hget, rfl⟩ := strs_get hs hv
    have hin5 := hin tt5 (List.mem_of_getElem? hget)
    replace F5 := Fr.re (m' := fun y => if y = Str.ofString "istate" then some (.str tt5 ttk5) else if y = Str.ofString "unprocessed" then some (.ref un) else if y = Str.ofString "new_state" then some (.ref a) else m₁ y) F5 (by
      intro y
      split
      · rfl
      split
      · rename_i e; rw [e, q1]
      split
      · rename_i e; rw [e, q2]
      rfl)
    clear q1 q2
    rcases hin5 with hin5 | ⟨hin5, rfl⟩
    · k_steps
      rename Fr _ _ _ _ => F9
      rename News _ _ _ _ => N9
      exact hP5 _ (UnrEnd.intro (s₁ := s5) F9 N9 [] (fun p hp => hp) ho5 ⟨rfl, rfl, rfl⟩)
    · k_steps
      rename Fr _ _ _ _ => F9
      rename News _ _ _ _ => N9
      exact hP5 _ (UnrEnd.intro (s₁ := s5) F9 N9 [] (fun p hp => List.mem_append_right [_] hp) ho5 ⟨rfl, rfl, rfl⟩)
  case done =>
    clear N5 F5
    intro m₁ news₁ h5 tk5 ⟨hn₁, q1, q2⟩ F5 N5
    subst hn₁
    replace F5 := Fr.re (m' := fun y => if y = Str.ofString "unprocessed" then some (.ref un) else if y = Str.ofString "new_state" then some (.ref a) else m₁ y) F5 (by
      intro y
      split
      · rename_i e; rw [e, q1]
      split
      · rename_i e; rw [e, q2]
      rfl)
    clear q1 q2
    k_steps
    exact hR _ _ (Fr.keep (by assumption))
end
end Mine
end
section
namespace Mine
section
variable {w : World} {d u : Nat} {gd : Option (List Code)} {base : Heap} {outer : List Env} {s : Shared} {p : Program} {loose : List Str} {mean : ExcName → Option Value} {mg mb : Str → Option Value}
local macro_rules | `(tactic| k_inst) => `(tactic| exact inst_base (by k_asm) (by assumption) (by assumption))
local macro_rules | `(tactic| k_room) => `(tactic| ((try simp only [depth_under_make, depth_under_kw, depth_in1, depth_deeper, depth_caller, depth_mk, Around.in1_depth, rl_is]); omega))
local macro_rules | `(tactic| k_units) => `(tactic| ((try simp only [Around.in1_units, Around.deeper_units, Around.mark_units, units_mk, cl_is]); omega))
local macro_rules | `(tactic| walk_at "truthy str") => `(tactic| (k_here; (with_reducible refine truthy_ch ?_); intro _))
local macro_rules | `(tactic| walk_at "call builtin:str.join") => `(tactic| (k_here; (refine join_one (by is_list) ?_); intro _ _))
local macro_rules | `(tactic| walk_at "MINE enter") => `(tactic| (refine' enter ?mX ?mT ?k6 ?k7 ?k8 ?k9 ?kB ?_ ?c2 ?c3 ?c4 ?c5; (case mX => assumption); (case mT => assumption); (case k6 => k_is); (case k7 => k_is); (case k8 => k_room); (case k9 => first | exact BindsTo.of_eq rfl | exact binds_K (by assumption) rfl (by k_is) rfl rfl rfl); (case c5 => decide); (case kB => exact locs rfl); (case c2 => exact rfl); (case c3 => exact rfl); (case c4 => exact rfl); intro L' h' F' N'; (try dsimp only)))
local macro_rules | `(tactic| walk_at "BRest") => `(tactic| (with_unfolding_all first | (refine BRest.succ (fun I' it' h' tk' hit' off' F' N' => ?_)) | (refine BRest.zero (fun h' tk' F' N' => ?_))))
local macro_rules | `(tactic| walk_at "MINE obj") => `(tactic| first | assumption | exact Fr.keep (by assumption) _ _ (by assumption) | exact News.get (by assumption) (by k_mem))
local macro_rules | `(tactic| walk_at "MINE lst") => `(tactic| first | assumption | exact Heap.IsList.at (by assumption) (fun o e => Fr.keep (by assumption) _ o e) | is_list)
local macro_rules | `(tactic| walk_at "MINE X") => `(tactic| first | assumption | exact Frag.In.keeps (by assumption) (Fr.keep (by assumption)))
local macro_rules | `(tactic| walk_at "MINE T") => `(tactic| first | assumption | exact Top.keeps (by assumption) (Fr.keep (by assumption)))
local macro_rules | `(tactic| walk_at "MINE B") => `(tactic| first | assumption | exact Below.push (by assumption) (by assumption))
local macro_rules | `(tactic| k_enter) => `(tactic| (refine' code_def0 ?k2 ?k3 ?k4 ?k5 ?k6 ?k7 ?k8 ?k9 ?kB ?_ ?c2 ?c3 ?c4 ?c5; (case k2 => k_asm); (case k3 => k_asm); (case k4 => k_asm); (case k5 => k_asm); (case k6 => k_is); (case k7 => k_is); (case k8 => k_room); (case k9 => first | exact BindsTo.of_eq rfl | exact binds_K (by k_in) rfl (by k_is) rfl rfl rfl | fail "k_enter: no rule for these arguments"); (case c5 => decide); (case kB => exact locs rfl); (case c2 => exact rfl); (case c3 => exact rfl); (case c4 => exact rfl); k_whole; intro g' L' h' FG' F' N' X' T'; (try dsimp only); (try k_fold)))
local macro_rules | `(tactic| walk_at "subscriptTail") => `(tactic| (k_here; (with_reducible show wpAny _ _ (subscriptTail _ _ (Value.ref _) (Value.str _ _)) _ _ _); k_dflt (refine tab_item (by k_asm) (by assumption) (by assumption) ?_)))
local macro_rules | `(tactic| walk_at "subscriptTail") => `(tactic| (k_here; (with_reducible show wpAny _ _ (subscriptTail _ _ (Value.ref _) (Value.int _ _)) _ _ _); k_dflt (refine stk_last (by is_list) (by assumption) ?_)))
local macro_rules | `(tactic| k_all) => `(tactic| first | assumption | exact ne_of_allL (by assumption) | exact ne_of_allLt (by assumption) | exact ne_of_allLt (And.right (by assumption)) | exact ne_of_allLt (And.right (And.right (by assumption))) | exact ne_of_allLt (And.right (And.right (And.right (by assumption)))))
local macro_rules | `(tactic| k_enter) => `(tactic| (kp_kind "rest"; (refine' code_rest0 ?k2 ?k3 ?k4 ?k5 ?k6 ?k7 ?k8 ?kV ?kP ?kG ?kB ?_ ?c2 ?c3 ?c4 ?c5; (case k2 => k_asm); (case k3 => k_asm); (case k4 => k_asm); (case k5 => k_asm); (case k6 => k_is); (case k7 => k_is); (case k8 => k_room); (case kV => exact rfl); (case kP => exact rfl); (case kG => exact fun _ => rfl); (case kB => exact fun _ => locs rfl); (case c5 => decide); (case c2 => exact rfl); (case c3 => exact rfl); (case c4 => exact rfl); k_whole; intro D' g' L' h' l1 FG' F' N' X' T'; (try k_lt l1); (try dsimp only); (try k_fold))))
local macro_rules | `(tactic| k_enter) => `(tactic| (kp_kind "more"; (refine' code_more0 ?k2 ?k3 ?k4 ?k5 ?k6 ?k7 ?k8 ?kP ?kK ?kB ?_ ?c2 ?c3 ?c4 ?c5; (case k2 => k_asm); (case k3 => k_asm); (case k4 => k_asm); (case k5 => k_asm); (case k6 => k_is); (case k7 => k_is); (case k8 => k_room); (case kP => exact rfl); (case kK => exact fun _ => rfl); (case kB => exact fun _ => locs rfl); (case c5 => decide); (case c2 => exact rfl); (case c3 => exact rfl); (case c4 => exact rfl); k_whole; intro D' o' g' L' h' tk' l1 lo' hd' fs' FG' F' N' X' T'; (try k_lt l1); (try dsimp only); (try k_fold))))
local macro_rules | `(tactic| k_enter) => `(tactic| (kp_kind "both"; (refine' code_both0 ?k2 ?k3 ?k4 ?k5 ?k6 ?k7 ?k8 ?kV ?kP ?kQ ?kK ?kB ?_ ?c2 ?c3 ?c4 ?c5; (case k2 => k_asm); (case k3 => k_asm); (case k4 => k_asm); (case k5 => k_asm); (case k6 => k_is); (case k7 => k_is); (case k8 => k_room); (case kV => exact rfl); (case kP => exact rfl); (case kQ => exact fun _ => rfl); (case kK => exact fun _ _ => rfl); (case kB => exact fun _ _ => locs rfl); (case c5 => decide); (case c2 => exact rfl); (case c3 => exact rfl); (case c4 => exact rfl); k_whole; intro C' D' g' L' h' tk' l1 l2 l3 FG' F' N' X' T'; (try k_lt l1); (try k_lt l3); (try dsimp only); (try k_fold))))
local macro_rules | `(tactic| walk_at "subscriptTail Name UnaryOp ref int") => `(tactic| (k_here; (with_reducible show wpAny _ _ (subscriptTail _ _ (Value.ref _) (Value.int _ _)) _ _ _); k_dflt (refine stk_last (by is_list) (by assumption) ?_)))
local macro_rules | `(tactic| walk_at "truthy ref") => `(tactic| (k_here; (with_reducible show wpAny _ _ (truthy (Value.ref _)) _ _ _); k_dflt (first | refine truthy_tup (b := false) (by assumption) (by assumption) (by first | exact Nat.le_of_ble_eq_true rfl | omega) rfl ?_ | refine truthy_tup (b := true) (by assumption) (by assumption) (by first | exact Nat.le_of_ble_eq_true rfl | omega) rfl ?_); intro _))
local macro_rules | `(tactic| walk_at "truthy str") => `(tactic| (k_here; (with_reducible show wpAny _ _ (truthy (Value.str _ _)) _ _ _); k_dflt (refine KXt.truthy_pos (K := 1000) (by omega) (by omega) (by omega) ?_); intro _))
local macro_rules | `(tactic| walk_at "StarOf ref") => `(tactic| (k_here; k_dflt (refine star_tup (by assumption) (by assumption) (by assumption) (by first | exact Nat.le_of_ble_eq_true rfl | omega) ?_); intro h' F' N'; (try dsimp only [List.nil_append, List.cons_append]); (try k_sweep)))
local macro_rules | `(tactic| walk_at "callWith ref") => `(tactic| (k_here; (with_reducible show wpAny _ _ (callWith _ (Value.ref _) _ (backTo _ (starEach (Expr.Starred _ _ :: _ :: _) _)) []) _ _ _); k_dflt (refine' callWith_S3 ?k1 ?k2 ?_; (case k1 => k_asm); (case k2 => k_is); k_whole)))
local macro_rules | `(tactic| walk_at "call type:str") => `(tactic| (k_here; (with_reducible show wpAny _ _ (call (Value.type "str") [Value.int _ _]) _ _ _); k_dflt (refine str_int9 (by omega) (by omega) ?_); intro _ _))
local macro_rules | `(tactic| walk_at "MINE enterC") => `(tactic| (refine' enterC ?mX ?mT ?k6 ?k7 ?k8 ?k9 ?kB ?kD ?_ ?c2 ?c3 ?c4; (case mX => assumption); (case mT => assumption); (case k6 => k_is); (case k7 => k_is); (case k8 => k_room); (case k9 => first | exact BindsTo.of_eq rfl | exact binds_K (by assumption) rfl (by k_is) rfl rfl rfl); (case kB => exact rfl); (case kD => decide +kernel); (case c2 => exact rfl); (case c3 => exact rfl); (case c4 => exact rfl); intro L' h' tk' cells' F' N' Y'; k_cells Y'; (try simp only [List.cons_append, List.nil_append] at N'); (try dsimp only)))
local macro_rules | `(tactic| walk_at "compareOp In str ref") => `(tactic| (k_here; (with_reducible show wpAny _ _ (compareOp _ (Value.str _ _) (Value.ref _)) _ _ _); k_dflt (refine in_map (by assumption) (by assumption) (by assumption) (by assumption) ?_); intro _))
local macro_rules | `(tactic| walk_at "call builtin:isinstance") => `(tactic| (k_here; (with_reducible show wpAny _ _ (call _ [Value.ref _, Value.type _]) _ _ _); k_dflt (refine' kia_one kitx_tuple ?X ?c ?ee ?nb ?_; (case c => exact kitAt_B (by assumption) (by assumption)); (case X => walk_at "MINE X"); (case ee => kit_is); (case nb => kit_nb); k_whole; intro _)))
local macro_rules | `(tactic| walk_at "call builtin:isinstance") => `(tactic| (k_here; (with_reducible show wpAny _ _ (call _ [Value.ref _, Value.ref _]) _ _ _); k_dflt (refine' kia_one kitx_tuple ?X ?c ?ee ?nb ?_; (case c => exact kitAt_B (by assumption) (by assumption)); (case X => walk_at "MINE X"); (case ee => kit_is); (case nb => kit_nb); k_whole; intro _)))
local macro_rules | `(tactic| walk_at "call type:type") => `(tactic| (k_here; (with_reducible show wpAny _ _ (call (Value.type "type") [Value.ref _]) _ _ _); k_dflt (refine kto_cont (T := "tuple") (kitAt_B (by assumption) (by assumption)) (by decide +kernel) ?_)))
local macro_rules | `(tactic| walk_at "call type:enumerate") => `(tactic| (k_here; (with_reducible show wpAny _ _ (call (Value.type _) [Value.ref _]) _ _ _); (with_unfolding_all refine call_enum_list (K := anyKind) rfl (by assumption) (areAny _) (by assumption) (by assumption) ?_); intro h' e' F' N' S'))
theorem t_inherit {l : Addr} {vs : List Value} {R : Result → Shared → Prop}
  (X : (Mine.hd2.heap_39 w.params).In s.heap) (T : Top p loose mean mg mb s.heap)
  (hd9 : d < 500) (hu9 : u < 900) (hl : s.heap.IsList l vs.toArray) (hv : ∀ v ∈ vs, ∃ a xs, v = .ref a ∧ IsTup s.heap a xs)
  (hR : ∀ h' k, Keeps s.heap h' → R (.ok (.ret .none)) {s with heap := h', toks := k}) :
  codeAny (model PG w) ⟨none, d, some outer, gd, u⟩ (.call (.ref 456) ⟨[.ref l], []⟩) R s := by
  walk_at "MINE enter"
  k_steps
  rename PairSrcL _ _ _ _ _ _ _ _ _ _ _ _ => S9
  refine S9.at _ rfl _ _ _ _ (fun _ _ news₁ => news₁ = []) rfl ?turn ?done
  case turn =>
    intro i a t v m₁ news₁ s₁ own ⟨h1, tk1, e1⟩ hget hk hn _ _ F1 N1
    subst e1 hn
    obtain ⟨a', xs, rfl, htup⟩ := hv v (by rw [show v = a from hk]; exact List.mem_of_getElem? hget)
    replace htup : IsTup s.heap a' xs.toList.toArray := by simpa using htup
    k_steps
  case done =>
    intro h' tk m' news' F' N' _ _
    k_steps
    exact hR _ _ (Fr.keep (by assumption))
end
end Mine
end
section
namespace Mine
section
variable {w : World} {d u : Nat} {gd : Option (List Code)} {base : Heap} {outer : List Env} {s : Shared} {p : Program} {loose : List Str} {mean : ExcName → Option Value} {mg mb : Str → Option Value}
local macro_rules | `(tactic| k_inst) => `(tactic| exact inst_base (by k_asm) (by assumption) (by assumption))
local macro_rules | `(tactic| k_room) => `(tactic| ((try simp only [depth_under_make, depth_under_kw, depth_in1, depth_deeper, depth_caller, depth_mk, Around.in1_depth, rl_is]); omega))
local macro_rules | `(tactic| k_units) => `(tactic| ((try simp only [Around.in1_units, Around.deeper_units, Around.mark_units, units_mk, cl_is]); omega))
local macro_rules | `(tactic| walk_at "truthy str") => `(tactic| (k_here; (with_reducible refine truthy_ch ?_); intro _))
local macro_rules | `(tactic| walk_at "call builtin:str.join") => `(tactic| (k_here; (refine join_one (by is_list) ?_); intro _ _))
local macro_rules | `(tactic| walk_at "MINE enter") => `(tactic| (refine' enter ?mX ?mT ?k6 ?k7 ?k8 ?k9 ?kB ?_ ?c2 ?c3 ?c4 ?c5; (case mX => assumption); (case mT => assumption); (case k6 => k_is); (case k7 => k_is); (case k8 => k_room); (case k9 => first | exact BindsTo.of_eq rfl | exact binds_K (by assumption) rfl (by k_is) rfl rfl rfl); (case c5 => decide); (case kB => exact locs rfl); (case c2 => exact rfl); (case c3 => exact rfl); (case c4 => exact rfl); intro L' h' F' N'; (try dsimp only)))
local macro_rules | `(tactic| walk_at "BRest") => `(tactic| (with_unfolding_all first | (refine BRest.succ (fun I' it' h' tk' hit' off' F' N' => ?_)) | (refine BRest.zero (fun h' tk' F' N' => ?_))))
local macro_rules | `(tactic| walk_at "MINE obj") => `(tactic| first | assumption | exact Fr.keep (by assumption) _ _ (by assumption) | exact News.get (by assumption) (by k_mem))
local macro_rules | `(tactic| walk_at "MINE lst") => `(tactic| first | assumption | exact Heap.IsList.at (by assumption) (fun o e => Fr.keep (by assumption) _ o e) | is_list)
local macro_rules | `(tactic| walk_at "MINE X") => `(tactic| first | assumption | exact Frag.In.keeps (by assumption) (Fr.keep (by assumption)))
local macro_rules | `(tactic| walk_at "MINE T") => `(tactic| first | assumption | exact Top.keeps (by assumption) (Fr.keep (by assumption)))
local macro_rules | `(tactic| walk_at "MINE B") => `(tactic| first | assumption | exact Below.push (by assumption) (by assumption))
local macro_rules | `(tactic| k_enter) => `(tactic| (refine' code_def0 ?k2 ?k3 ?k4 ?k5 ?k6 ?k7 ?k8 ?k9 ?kB ?_ ?c2 ?c3 ?c4 ?c5; (case k2 => k_asm); (case k3 => k_asm); (case k4 => k_asm); (case k5 => k_asm); (case k6 => k_is); (case k7 => k_is); (case k8 => k_room); (case k9 => first | exact BindsTo.of_eq rfl | exact binds_K (by k_in) rfl (by k_is) rfl rfl rfl | fail "k_enter: no rule for these arguments"); (case c5 => decide); (case kB => exact locs rfl); (case c2 => exact rfl); (case c3 => exact rfl); (case c4 => exact rfl); k_whole; intro g' L' h' FG' F' N' X' T'; (try dsimp only); (try k_fold)))
local macro_rules | `(tactic| walk_at "subscriptTail") => `(tactic| (k_here; (with_reducible show wpAny _ _ (subscriptTail _ _ (Value.ref _) (Value.str _ _)) _ _ _); k_dflt (refine tab_item (by k_asm) (by assumption) (by assumption) ?_)))
local macro_rules | `(tactic| walk_at "subscriptTail") => `(tactic| (k_here; (with_reducible show wpAny _ _ (subscriptTail _ _ (Value.ref _) (Value.int _ _)) _ _ _); k_dflt (refine stk_last (by is_list) (by assumption) ?_)))
local macro_rules | `(tactic| k_all) => `(tactic| first | assumption | exact ne_of_allL (by assumption) | exact ne_of_allLt (by assumption) | exact ne_of_allLt (And.right (by assumption)) | exact ne_of_allLt (And.right (And.right (by assumption))) | exact ne_of_allLt (And.right (And.right (And.right (by assumption)))))
local macro_rules | `(tactic| k_enter) => `(tactic| (kp_kind "rest"; (refine' code_rest0 ?k2 ?k3 ?k4 ?k5 ?k6 ?k7 ?k8 ?kV ?kP ?kG ?kB ?_ ?c2 ?c3 ?c4 ?c5; (case k2 => k_asm); (case k3 => k_asm); (case k4 => k_asm); (case k5 => k_asm); (case k6 => k_is); (case k7 => k_is); (case k8 => k_room); (case kV => exact rfl); (case kP => exact rfl); (case kG => exact fun _ => rfl); (case kB => exact fun _ => locs rfl); (case c5 => decide); (case c2 => exact rfl); (case c3 => exact rfl); (case c4 => exact rfl); k_whole; intro D' g' L' h' l1 FG' F' N' X' T'; (try k_lt l1); (try dsimp only); (try k_fold))))
local macro_rules | `(tactic| k_enter) => `(tactic| (kp_kind "more"; (refine' code_more0 ?k2 ?k3 ?k4 ?k5 ?k6 ?k7 ?k8 ?kP ?kK ?kB ?_ ?c2 ?c3 ?c4 ?c5; (case k2 => k_asm); (case k3 => k_asm); (case k4 => k_asm); (case k5 => k_asm); (case k6 => k_is); (case k7 => k_is); (case k8 => k_room); (case kP => exact rfl); (case kK => exact fun _ => rfl); (case kB => exact fun _ => locs rfl); (case c5 => decide); (case c2 => exact rfl); (case c3 => exact rfl); (case c4 => exact rfl); k_whole; intro D' o' g' L' h' tk' l1 lo' hd' fs' FG' F' N' X' T'; (try k_lt l1); (try dsimp only); (try k_fold))))
local macro_rules | `(tactic| k_enter) => `(tactic| (kp_kind "both"; (refine' code_both0 ?k2 ?k3 ?k4 ?k5 ?k6 ?k7 ?k8 ?kV ?kP ?kQ ?kK ?kB ?_ ?c2 ?c3 ?c4 ?c5; (case k2 => k_asm); (case k3 => k_asm); (case k4 => k_asm); (case k5 => k_asm); (case k6 => k_is); (case k7 => k_is); (case k8 => k_room); (case kV => exact rfl); (case kP => exact rfl); (case kQ => exact fun _ => rfl); (case kK => exact fun _ _ => rfl); (case kB => exact fun _ _ => locs rfl); (case c5 => decide); (case c2 => exact rfl); (case c3 => exact rfl); (case c4 => exact rfl); k_whole; intro C' D' g' L' h' tk' l1 l2 l3 FG' F' N' X' T'; (try k_lt l1); (try k_lt l3); (try dsimp only); (try k_fold))))
local macro_rules | `(tactic| walk_at "subscriptTail Name UnaryOp ref int") => `(tactic| (k_here; (with_reducible show wpAny _ _ (subscriptTail _ _ (Value.ref _) (Value.int _ _)) _ _ _); k_dflt (refine stk_last (by is_list) (by assumption) ?_)))
local macro_rules | `(tactic| walk_at "truthy ref") => `(tactic| (k_here; (with_reducible show wpAny _ _ (truthy (Value.ref _)) _ _ _); k_dflt (first | refine truthy_tup (b := false) (by assumption) (by assumption) (by first | exact Nat.le_of_ble_eq_true rfl | omega) rfl ?_ | refine truthy_tup (b := true) (by assumption) (by assumption) (by first | exact Nat.le_of_ble_eq_true rfl | omega) rfl ?_); intro _))
local macro_rules | `(tactic| walk_at "truthy str") => `(tactic| (k_here; (with_reducible show wpAny _ _ (truthy (Value.str _ _)) _ _ _); k_dflt (refine KXt.truthy_pos (K := 1000) (by omega) (by omega) (by omega) ?_); intro _))
local macro_rules | `(tactic| walk_at "StarOf ref") => `(tactic| (k_here; k_dflt (refine star_tup (by assumption) (by assumption) (by assumption) (by first | exact Nat.le_of_ble_eq_true rfl | omega) ?_); intro h' F' N'; (try dsimp only [List.nil_append, List.cons_append]); (try k_sweep)))
local macro_rules | `(tactic| walk_at "callWith ref") => `(tactic| (k_here; (with_reducible show wpAny _ _ (callWith _ (Value.ref _) _ (backTo _ (starEach (Expr.Starred _ _ :: _ :: _) _)) []) _ _ _); k_dflt (refine' callWith_S3 ?k1 ?k2 ?_; (case k1 => k_asm); (case k2 => k_is); k_whole)))
local macro_rules | `(tactic| walk_at "call type:str") => `(tactic| (k_here; (with_reducible show wpAny _ _ (call (Value.type "str") [Value.int _ _]) _ _ _); k_dflt (refine str_int9 (by omega) (by omega) ?_); intro _ _))
local macro_rules | `(tactic| walk_at "MINE enterC") => `(tactic| (refine' enterC ?mX ?mT ?k6 ?k7 ?k8 ?k9 ?kB ?kD ?_ ?c2 ?c3 ?c4; (case mX => assumption); (case mT => assumption); (case k6 => k_is); (case k7 => k_is); (case k8 => k_room); (case k9 => first | exact BindsTo.of_eq rfl | exact binds_K (by assumption) rfl (by k_is) rfl rfl rfl); (case kB => exact rfl); (case kD => decide +kernel); (case c2 => exact rfl); (case c3 => exact rfl); (case c4 => exact rfl); intro L' h' tk' cells' F' N' Y'; k_cells Y'; (try simp only [List.cons_append, List.nil_append] at N'); (try dsimp only)))
local macro_rules | `(tactic| walk_at "compareOp In str ref") => `(tactic| (k_here; (with_reducible show wpAny _ _ (compareOp _ (Value.str _ _) (Value.ref _)) _ _ _); k_dflt (refine in_map (by assumption) (by assumption) (by assumption) (by assumption) ?_); intro _))
local macro_rules | `(tactic| walk_at "call builtin:isinstance") => `(tactic| (k_here; (with_reducible show wpAny _ _ (call _ [Value.ref _, Value.type _]) _ _ _); k_dflt (refine' kia_one kitx_tuple ?X ?c ?ee ?nb ?_; (case c => exact kitAt_B (by assumption) (by assumption)); (case X => walk_at "MINE X"); (case ee => kit_is); (case nb => kit_nb); k_whole; intro _)))
local macro_rules | `(tactic| walk_at "call builtin:isinstance") => `(tactic| (k_here; (with_reducible show wpAny _ _ (call _ [Value.ref _, Value.ref _]) _ _ _); k_dflt (refine' kia_one kitx_tuple ?X ?c ?ee ?nb ?_; (case c => exact kitAt_B (by assumption) (by assumption)); (case X => walk_at "MINE X"); (case ee => kit_is); (case nb => kit_nb); k_whole; intro _)))
local macro_rules | `(tactic| walk_at "call type:type") => `(tactic| (k_here; (with_reducible show wpAny _ _ (call (Value.type "type") [Value.ref _]) _ _ _); k_dflt (refine kto_cont (T := "tuple") (kitAt_B (by assumption) (by assumption)) (by decide +kernel) ?_)))
theorem t_regex {x xx pdx : Addr} {phs : Int} {ptk : Tok} {pv rf sv : Value} {R : Result → Shared → Prop}
  (X : (Mine.hd2.heap_39 w.params).In s.heap) (T : Top p loose mean mg mb s.heap)
  (hd9 : d < 500) (hu9 : u < 900) (hx : s.heap.get? xx = some (instObj 613 pdx)) (hd : s.heap.get? pdx = some (dictOf [⟨phs, .str "rows" ptk, pv⟩] 1))
  (hR : ∀ h' k q, Keeps s.heap h' → (h'.get? q = some (methodObj (.ref 610) (.ref xx)) ∧ s.heap.get? q = none) → R (.ok (.ret (.ref q))) {s with heap := h', toks := k}) :
  codeAny (model PG w) ⟨none, d, some outer, gd, u⟩ (.call (.ref 631) ⟨[.ref x, .ref xx, rf, sv], []⟩) R s := by
  walk_at "MINE enter"
  k_steps
  exact hR _ _ _ (Fr.keep (by assumption)) (newsBoth (by assumption) (by k_mem))
theorem t_token {x y dk : Addr} {khs : Int} {ktk : Tok} {kv : Value} {R : Result → Shared → Prop}
  (X : (Mine.hd2.heap_39 w.params).In s.heap) (T : Top p loose mean mg mb s.heap)
  (hd9 : d < 500) (hu9 : u < 900) (hx : s.heap.get? y = some (instObj 66 dk)) (hd : s.heap.get? dk = some (dictOf [⟨khs, .str "names" ktk, kv⟩] 1))
  (hR : ∀ h' k, Keeps s.heap h' → R (.ok (.ret (.ref y))) {s with heap := h', toks := k}) :
  codeAny (model PG w) ⟨none, d, some outer, gd, u⟩ (.call (.ref 484) ⟨[.ref x, .ref y], []⟩) R s := by
  walk_at "MINE enter"
  k_steps
  exact hR _ _ (Fr.keep (by assumption))
end
end Mine
end
section
namespace Mine
section
variable {w : World} {d u : Nat} {gd : Option (List Code)} {base : Heap} {outer : List Env} {s : Shared} {p : Program} {loose : List Str} {mean : ExcName → Option Value} {mg mb : Str → Option Value}
local macro_rules | `(tactic| k_inst) => `(tactic| exact inst_base (by k_asm) (by assumption) (by assumption))
local macro_rules | `(tactic| k_room) => `(tactic| ((try simp only [depth_under_make, depth_under_kw, depth_in1, depth_deeper, depth_caller, depth_mk, Around.in1_depth, rl_is]); omega))
local macro_rules | `(tactic| k_units) => `(tactic| ((try simp only [Around.in1_units, Around.deeper_units, Around.mark_units, units_mk, cl_is]); omega))
local macro_rules | `(tactic| walk_at "truthy str") => `(tactic| (k_here; (with_reducible refine truthy_ch ?_); intro _))
local macro_rules | `(tactic| walk_at "call builtin:str.join") => `(tactic| (k_here; (refine join_one (by is_list) ?_); intro _ _))
local macro_rules | `(tactic| walk_at "MINE enter") => `(tactic| (refine' enter ?mX ?mT ?k6 ?k7 ?k8 ?k9 ?kB ?_ ?c2 ?c3 ?c4 ?c5; (case mX => assumption); (case mT => assumption); (case k6 => k_is); (case k7 => k_is); (case k8 => k_room); (case k9 => first | exact BindsTo.of_eq rfl | exact binds_K (by assumption) rfl (by k_is) rfl rfl rfl); (case c5 => decide); (case kB => exact locs rfl); (case c2 => exact rfl); (case c3 => exact rfl); (case c4 => exact rfl); intro L' h' F' N'; (try dsimp only)))
local macro_rules | `(tactic| walk_at "BRest") => `(tactic| (with_unfolding_all first | (refine BRest.succ (fun I' it' h' tk' hit' off' F' N' => ?_)) | (refine BRest.zero (fun h' tk' F' N' => ?_))))
local macro_rules | `(tactic| walk_at "MINE obj") => `(tactic| first | assumption | exact Fr.keep (by assumption) _ _ (by assumption) | exact News.get (by assumption) (by k_mem))
local macro_rules | `(tactic| walk_at "MINE lst") => `(tactic| first | assumption | exact Heap.IsList.at (by assumption) (fun o e => Fr.keep (by assumption) _ o e) | is_list)
local macro_rules | `(tactic| walk_at "MINE X") => `(tactic| first | assumption | exact Frag.In.keeps (by assumption) (Fr.keep (by assumption)))
local macro_rules | `(tactic| walk_at "MINE T") => `(tactic| first | assumption | exact Top.keeps (by assumption) (Fr.keep (by assumption)))
local macro_rules | `(tactic| walk_at "MINE B") => `(tactic| first | assumption | exact Below.push (by assumption) (by assumption))
local macro_rules | `(tactic| k_enter) => `(tactic| (refine' code_def0 ?k2 ?k3 ?k4 ?k5 ?k6 ?k7 ?k8 ?k9 ?kB ?_ ?c2 ?c3 ?c4 ?c5; (case k2 => k_asm); (case k3 => k_asm); (case k4 => k_asm); (case k5 => k_asm); (case k6 => k_is); (case k7 => k_is); (case k8 => k_room); (case k9 => first | exact BindsTo.of_eq rfl | exact binds_K (by k_in) rfl (by k_is) rfl rfl rfl | fail "k_enter: no rule for these arguments"); (case c5 => decide); (case kB => exact locs rfl); (case c2 => exact rfl); (case c3 => exact rfl); (case c4 => exact rfl); k_whole; intro g' L' h' FG' F' N' X' T'; (try dsimp only); (try k_fold)))
local macro_rules | `(tactic| walk_at "subscriptTail") => `(tactic| (k_here; (with_reducible show wpAny _ _ (subscriptTail _ _ (Value.ref _) (Value.str _ _)) _ _ _); k_dflt (refine tab_item (by k_asm) (by assumption) (by assumption) ?_)))
local macro_rules | `(tactic| walk_at "subscriptTail") => `(tactic| (k_here; (with_reducible show wpAny _ _ (subscriptTail _ _ (Value.ref _) (Value.int _ _)) _ _ _); k_dflt (refine stk_last (by is_list) (by assumption) ?_)))
local macro_rules | `(tactic| k_all) => `(tactic| first | assumption | exact ne_of_allL (by assumption) | exact ne_of_allLt (by assumption) | exact ne_of_allLt (And.right (by assumption)) | exact ne_of_allLt (And.right (And.right (by assumption))) | exact ne_of_allLt (And.right (And.right (And.right (by assumption)))))
local macro_rules | `(tactic| k_enter) => `(tactic| (kp_kind "rest"; (refine' code_rest0 ?k2 ?k3 ?k4 ?k5 ?k6 ?k7 ?k8 ?kV ?kP ?kG ?kB ?_ ?c2 ?c3 ?c4 ?c5; (case k2 => k_asm); (case k3 => k_asm); (case k4 => k_asm); (case k5 => k_asm); (case k6 => k_is); (case k7 => k_is); (case k8 => k_room); (case kV => exact rfl); (case kP => exact rfl); (case kG => exact fun _ => rfl); (case kB => exact fun _ => locs rfl); (case c5 => decide); (case c2 => exact rfl); (case c3 => exact rfl); (case c4 => exact rfl); k_whole; intro D' g' L' h' l1 FG' F' N' X' T'; (try k_lt l1); (try dsimp only); (try k_fold))))
local macro_rules | `(tactic| k_enter) => `(tactic| (kp_kind "more"; (refine' code_more0 ?k2 ?k3 ?k4 ?k5 ?k6 ?k7 ?k8 ?kP ?kK ?kB ?_ ?c2 ?c3 ?c4 ?c5; (case k2 => k_asm); (case k3 => k_asm); (case k4 => k_asm); (case k5 => k_asm); (case k6 => k_is); (case k7 => k_is); (case k8 => k_room); (case kP => exact rfl); (case kK => exact fun _ => rfl); (case kB => exact fun _ => locs rfl); (case c5 => decide); (case c2 => exact rfl); (case c3 => exact rfl); (case c4 => exact rfl); k_whole; intro D' o' g' L' h' tk' l1 lo' hd' fs' FG' F' N' X' T'; (try k_lt l1); (try dsimp only); (try k_fold))))
local macro_rules | `(tactic| k_enter) => `(tactic| (kp_kind "both"; (refine' code_both0 ?k2 ?k3 ?k4 ?k5 ?k6 ?k7 ?k8 ?kV ?kP ?kQ ?kK ?kB ?_ ?c2 ?c3 ?c4 ?c5; (case k2 => k_asm); (case k3 => k_asm); (case k4 => k_asm); (case k5 => k_asm); (case k6 => k_is); (case k7 => k_is); (case k8 => k_room); (case kV => exact rfl); (case kP => exact rfl); (case kQ => exact fun _ => rfl); (case kK => exact fun _ _ => rfl); (case kB => exact fun _ _ => locs rfl); (case c5 => decide); (case c2 => exact rfl); (case c3 => exact rfl); (case c4 => exact rfl); k_whole; intro C' D' g' L' h' tk' l1 l2 l3 FG' F' N' X' T'; (try k_lt l1); (try k_lt l3); (try dsimp only); (try k_fold))))
local macro_rules | `(tactic| walk_at "subscriptTail Name UnaryOp ref int") => `(tactic| (k_here; (with_reducible show wpAny _ _ (subscriptTail _ _ (Value.ref _) (Value.int _ _)) _ _ _); k_dflt (refine stk_last (by is_list) (by assumption) ?_)))
local macro_rules | `(tactic| walk_at "truthy ref") => `(tactic| (k_here; (with_reducible show wpAny _ _ (truthy (Value.ref _)) _ _ _); k_dflt (first | refine truthy_tup (b := false) (by assumption) (by assumption) (by first | exact Nat.le_of_ble_eq_true rfl | omega) rfl ?_ | refine truthy_tup (b := true) (by assumption) (by assumption) (by first | exact Nat.le_of_ble_eq_true rfl | omega) rfl ?_); intro _))
local macro_rules | `(tactic| walk_at "truthy str") => `(tactic| (k_here; (with_reducible show wpAny _ _ (truthy (Value.str _ _)) _ _ _); k_dflt (refine KXt.truthy_pos (K := 1000) (by omega) (by omega) (by omega) ?_); intro _))
local macro_rules | `(tactic| walk_at "StarOf ref") => `(tactic| (k_here; k_dflt (refine star_tup (by assumption) (by assumption) (by assumption) (by first | exact Nat.le_of_ble_eq_true rfl | omega) ?_); intro h' F' N'; (try dsimp only [List.nil_append, List.cons_append]); (try k_sweep)))
local macro_rules | `(tactic| walk_at "callWith ref") => `(tactic| (k_here; (with_reducible show wpAny _ _ (callWith _ (Value.ref _) _ (backTo _ (starEach (Expr.Starred _ _ :: _ :: _) _)) []) _ _ _); k_dflt (refine' callWith_S3 ?k1 ?k2 ?_; (case k1 => k_asm); (case k2 => k_is); k_whole)))
local macro_rules | `(tactic| walk_at "call type:str") => `(tactic| (k_here; (with_reducible show wpAny _ _ (call (Value.type "str") [Value.int _ _]) _ _ _); k_dflt (refine str_int9 (by omega) (by omega) ?_); intro _ _))
local macro_rules | `(tactic| walk_at "MINE enterC") => `(tactic| (refine' enterC ?mX ?mT ?k6 ?k7 ?k8 ?k9 ?kB ?kD ?_ ?c2 ?c3 ?c4; (case mX => assumption); (case mT => assumption); (case k6 => k_is); (case k7 => k_is); (case k8 => k_room); (case k9 => first | exact BindsTo.of_eq rfl | exact binds_K (by assumption) rfl (by k_is) rfl rfl rfl); (case kB => exact rfl); (case kD => decide +kernel); (case c2 => exact rfl); (case c3 => exact rfl); (case c4 => exact rfl); intro L' h' tk' cells' F' N' Y'; k_cells Y'; (try simp only [List.cons_append, List.nil_append] at N'); (try dsimp only)))
local macro_rules | `(tactic| walk_at "compareOp In str ref") => `(tactic| (k_here; (with_reducible show wpAny _ _ (compareOp _ (Value.str _ _) (Value.ref _)) _ _ _); k_dflt (refine in_map (by assumption) (by assumption) (by assumption) (by assumption) ?_); intro _))
local macro_rules | `(tactic| walk_at "call builtin:isinstance") => `(tactic| (k_here; (with_reducible show wpAny _ _ (call _ [Value.ref _, Value.type _]) _ _ _); k_dflt (refine' kia_one kitx_tuple ?X ?c ?ee ?nb ?_; (case c => exact kitAt_B (by assumption) (by assumption)); (case X => walk_at "MINE X"); (case ee => kit_is); (case nb => kit_nb); k_whole; intro _)))
local macro_rules | `(tactic| walk_at "call builtin:isinstance") => `(tactic| (k_here; (with_reducible show wpAny _ _ (call _ [Value.ref _, Value.ref _]) _ _ _); k_dflt (refine' kia_one kitx_tuple ?X ?c ?ee ?nb ?_; (case c => exact kitAt_B (by assumption) (by assumption)); (case X => walk_at "MINE X"); (case ee => kit_is); (case nb => kit_nb); k_whole; intro _)))
local macro_rules | `(tactic| walk_at "call type:type") => `(tactic| (k_here; (with_reducible show wpAny _ _ (call (Value.type "type") [Value.ref _]) _ _ _); k_dflt (refine kto_cont (T := "tuple") (kitAt_B (by assumption) (by assumption)) (by decide +kernel) ?_)))
local macro_rules | `(tactic| walk_at "compareOp In str ref") => `(tactic| (k_here; (with_reducible show wpAny _ _ (compareOp _ (Value.str _ _) (Value.ref _)) _ _ _); k_dflt (refine in_dict (by assumption) (by assumption) (by assumption) (by assumption) ?_); intro _))
local macro_rules | `(tactic| walk_at "setItem ref str") => `(tactic| (k_here; (with_reducible show wpAny _ _ (setItem (Value.ref _) (Value.str _ _) _) _ _ _); k_dflt (refine set_dict (pre := [_]) (by assumption) (by assumption) (List.forall_mem_cons.mpr ⟨by first | k_ne | (dsimp only; omega) | (exact Nat.ne_of_gt (by assumption)), fun _ hp => nomatch hp⟩) (by exact fun _ hp => nomatch hp) (by assumption) (by assumption) (by omega) ?_); intro h' o' k' F' N' hd'; (try dsimp only [List.nil_append, List.cons_append] at N'); (try k_sweep)))
local macro_rules | `(tactic| walk_at "exec For Name Subscript cons nil") => `(tactic| (k_here; (with_unfolding_all refine' For_invVF (by assumption) ?k1 ?k2 ?_); (case k1 => exact rfl); (case k2 => exact rfl)))
local macro_rules | `(tactic| walk_at "subscriptTail Name Constant ref int") => `(tactic| (k_here; (with_reducible show wpAny _ _ (subscriptTail _ _ (Value.ref _) (Value.int _ _)) _ _ _); k_dflt (first | refine item_tup0 (by assumption) (by assumption) 0 rfl (by decide) rfl ?_ | refine item_tup0 (by assumption) (by assumption) 1 rfl (by decide) rfl ?_ | refine item_tup0 (by assumption) (by assumption) 2 rfl (by decide) rfl ?_)))
local macro_rules | `(tactic| walk_at "call builtin:len") => `(tactic| (k_here; (with_reducible show wpAny _ _ (call (Value.builtin "len") [Value.ref _]) _ _ _); k_dflt (first | refine len_tup0 (n := 2) (by assumption) (by assumption) rfl (by decide) ?_ | refine len_tup0 (n := 3) (by assumption) (by assumption) rfl (by decide) ?_); intro _ _))
local macro_rules | `(tactic| walk_at "call ref") => `(tactic| (k_here; (with_reducible show wpAny _ _ (call (Value.ref 631) _) _ _ _); k_dflt ((refine wpAny_call ?_); (refine' t_regex ?sX ?sT ?sd ?su ?sh ?s1 ?_; (case sX => walk_at "MINE X"); (case sT => walk_at "MINE T"); (case sd => k_room); (case su => k_units); (case sh => walk_at "MINE obj"); (case s1 => walk_at "MINE obj"); (intro h' k' q' hk' hq'); (obtain ⟨F', N', hoa', hob'⟩ := news_add3 (by assumption) (by assumption) (by assumption) hk' hq')); (try k_sweep))))
local macro_rules | `(tactic| walk_at "call ref") => `(tactic| (k_here; (with_reducible show wpAny _ _ (call (Value.ref 484) _) _ _ _); k_dflt ((refine wpAny_call ?_); (refine' t_token ?sX ?sT ?sd ?su ?sh ?s1 ?_; (case sX => walk_at "MINE X"); (case sT => walk_at "MINE T"); (case sd => k_room); (case su => k_units); (case sh => walk_at "MINE obj"); (case s1 => walk_at "MINE obj"); (intro h' k' hk'); (have F' := Fr.keeps (by assumption) hk'); (have N' := News.grown (by assumption) hk')); (try k_sweep))))
local macro_rules | `(tactic| walk_at "call ref") => `(tactic| (k_here; (with_reducible show wpAny _ _ (call (Value.ref 491) [_, Value.ref _, _, _]) _ _ _); k_dflt ((refine wpAny_call ?_); (refine' t_ns_tuple ?sX ?sT ?sd ?su ?s1 ?s2 ?s3 ?s4 ?s5 ?_; (case sX => walk_at "MINE X"); (case sT => walk_at "MINE T"); (case sd => k_room); (case su => k_units); (case s1 => exact mapKeep (by assumption) (by assumption)); (case s2 => assumption); (case s3 => exact IsTup.kp (Fr.keep (by assumption)) (by assumption)); (case s4 => assumption); (case s5 => assumption); (intro h' k' hk'); (have F' := Fr.keeps (by assumption) hk'); (have N' := News.grown (by assumption) hk')); (try k_sweep))))
local macro_rules | `(tactic| walk_at "call builtin:list.append") => `(tactic| (k_here; (with_reducible show wpAny _ _ (call _ [Value.ref _, _]) _ _ _); (rename Fr _ _ _ _ => fX); (rename News _ _ _ _ => nX); k_dflt (refine append_S (pre := [_]) fX nX (List.forall_mem_cons.mpr ⟨by first | k_ne | (dsimp only; omega), fun _ hp => nomatch hp⟩) (by assumption) (by omega) ?_); (intro h' F' N'); (try dsimp only [List.nil_append, List.cons_append] at N'); (try k_sweep)))
theorem t_state {g : Heap} {x dx un pr l : Addr} {kvu kvp : List (Str × Value)} {st : Str} {stk : Tok} {vs : List Value} {rrs : List Raw} {o : Obj} {R : Result → Shared → Prop}
  {a1 a2 a3 a4 a5 a6 a7 a8 : Int} {b1 b2 b3 b4 b5 b6 b7 b8 : Nat} {v1 v2 v3 v4 v5 v6 v7 v8 : Value}
  (hd9 : d < 480) (hu9 : u < 880)
  (X : (Mine.hd2.heap_39 w.params).In g) (T : Top p loose mean mg mb g) (hg : Keeps g s.heap)
  (hx : s.heap.get? x = some (instObj 634 dx)) (hd : s.heap.get? dx = some (dictOf [⟨a1, .str "options" b1, v1⟩, ⟨a2, .str "stripnl" b2, v2⟩, ⟨a3, .str "stripall" b3, v3⟩, ⟨a4, .str "ensurenl" b4, v4⟩, ⟨a5, .str "filters" b5, v5⟩, ⟨a6, .str "tables" b6, v6⟩, ⟨a7, .str "_all_tokens" b7, v7⟩, ⟨a8, .str "_tmpname" b8, v8⟩] 8))
  (hun : g.DictOf (PySem.strKind PG w) un kvu) (hum : (un == sysModules) = false) (hul : valueAt kvu st = some (.ref l)) (hl : g.IsList l vs.toArray) (hraw : RawsAt 66 613 g vs rrs)
  (hgo : ∀ r ∈ rrs, ∀ ts, r.act = .goT ts → ∀ t ∈ ts, (valueAt kvu t).isSome = true ∨ ((valueAt kvu t).isSome = false ∧ t = Str.ofString "#pop")) (hlen : vs.length ≤ 1000)
  (hpr : s.heap.get? pr = some o) (hgp : g.get? pr = none) (hpm : o.IsDictOf (PySem.strKind PG w) kvp) (hpn : (pr == sysModules) = false) (hps : valueAt kvp st = none) (hkl : kvp.length ≤ 1000) (hpx : pr ≠ x) (hpd : pr ≠ dx)
  (hs0 : 1 ≤ st.length) (hs1 : st.length ≤ 1000) (hs2 : (Txt.item st 0 == Str.ofString "#") = false)
  (hR : ∀ h' k lt vs' o' g', (∀ b ob, b ≠ pr → s.heap.get? b = some ob → h'.get? b = some ob) → h'.get? pr = some o' → o'.IsDictOf (PySem.strKind PG w) (kvp ++ [(st, .ref lt)]) → Ext g s.heap h' g' →
     g'.IsList lt vs'.toArray → RowsAt 66 613 610 449 g' vs' (rrs.map Raw.row) → R (.ok (.ret (.ref lt))) {s with heap := h', toks := k}) :
  codeAny (model PG w) ⟨none, d, some outer, gd, u⟩ (.call (.ref 498) ⟨[.ref x, .ref un, .ref pr, .str st stk], []⟩) R s := by
  have X2 : (Mine.hd2.heap_39 w.params).In s.heap := X.keeps hg
  refine' enterM g [(pr, o)] X T hg (List.forall_mem_cons.mpr ⟨⟨hpr, hgp⟩, fun _ hq => nomatch hq⟩) ?k6 ?k7 ?k8 ?k9 ?kB ?_ ?c2 ?c3 ?c4 ?c5
  case k6 => k_is
  case k7 => k_is
  case k8 => k_room
  case k9 => exact BindsTo.of_eq rfl
  case c5 => decide
  case kB => exact locs rfl
  case c2 => exact rfl
  case c3 => exact rfl
  case c4 => exact rfl
  intro L' h₁ B kgB kBs hBk hBp F1 N1 XB TB
  try dsimp only
  have hxB := hBk _ _ hx (List.forall_mem_cons.mpr ⟨hpx, fun _ hq => nomatch hq⟩)
  have hdB := hBk _ _ hd (List.forall_mem_cons.mpr ⟨hpd, fun _ hq => nomatch hq⟩)
  have hunB : B.MapOf (PySem.strKind PG w) un (valueAt kvu) := let ⟨o, es, ep, ho, r⟩ := Heap.DictOf.mapOf hun; ⟨o, es, ep, kgB _ _ ho, r⟩
  have hlB : B.IsList l vs.toArray := hl.at fun o e => kgB _ o e
  clear X X2 T hx hd hun
  k_steps
  all_goals try exact absurd hs2 (by have h9 := ‹(Txt.item st 0 != Str.ofString "#") = false›; intro z; rw [bne, z] at h9; cases h9)
  obtain ⟨lt, elt, hlt⟩ := name_lt ‹pr < _›
  subst elt
  rename Fr _ _ _ _ => F5
  rename News _ _ _ _ => N5
  rename Obj.IsDictOf _ _ _ => hdict
  refine iter_J2 (StJ w g x un pr lt st stk kvp rrs) rfl hlB F5 N5 ⟨[], 0, _, [], g, rfl, rfl, (fun _ hp => nomatch hp), hdict, BearsG.start _ _, .nil, rfl, rfl, rfl, rfl, rfl, _, rfl⟩ ?turn ?done
  case turn =>
    clear N5 F5 hdict
    intro i v m₁ news₁ I5 it5 s5 hv ⟨its, ne, o₁, rest, gv, hn₁, hlen5, hoff, hdict, hb, hrows, q1, q2, q3, q4, q5, z6, q6⟩ ho5 F5 N5 P5 E5 hP5
    subst hn₁
    obtain ⟨r, hget, hra⟩ := hraw.get hv
    replace N5 : News B L' s5.heap ((lt, lstN its ne) :: (I5, it5) :: (pr, o₁) :: rest) := nw_swp N5
    replace F5 := Fr.re (m' := fun y => if y = Str.ofString "tdef" then some v else if y = Str.ofString "cls" then some (.ref x) else if y = Str.ofString "unprocessed" then some (.ref un) else if y = Str.ofString "processed" then some (.ref pr) else if y = Str.ofString "state" then some (.str st stk) else if y = Str.ofString "tokens" then some (.ref lt) else if y = Str.ofString "rflags" then some z6 else m₁ y) F5 (by
      intro y
      split
      · rfl
      split
      · rename_i e; rw [e, q1]
      split
      · rename_i e; rw [e, q2]
      split
      · rename_i e; rw [e, q3]
      split
      · rename_i e; rw [e, q4]
      split
      · rename_i e; rw [e, q5]
      split
      · rename_i e; rw [e, q6]
      rfl)
    clear q1 q2 q3 q4 q5 q6
    obtain ⟨t, xx, y, rfl, ⟨pdx, phs, ptk, pr0, pr1, ptk2, hp1, hp2, hp3, hp4⟩, hkind, hact⟩ := id hra
    obtain ⟨dk, khsh, ktk, knt, kvs, hk1, hk2, hkt, hks⟩ := id hkind
    have hp1B := kgB _ _ hp1
    have hp2B := kgB _ _ hp2
    have hk1B := kgB _ _ hk1
    have hk2B := kgB _ _ hk2
    have hoff7 : ∀ p ∈ (I5, it5) :: (pr, o₁) :: rest, p.1 ≠ lt := List.forall_mem_cons.mpr ⟨fun e => ho5 _ (.head _) e.symm, List.forall_mem_cons.mpr ⟨Nat.ne_of_lt hlt, fun p hp => (hoff p hp).1⟩⟩
    have hlen7 : its.length ≤ 1000000 := by
      have := (List.getElem?_eq_some_iff.mp hv).1
      omega
    cases ha : r.act with
    | stay =>
      rw [ha] at hact
      have htB : IsTup B t [.ref xx, .ref y].toArray := hact.keeps kgB
      k_steps
      rename Fr _ _ _ _ => F9
      rename News _ _ _ _ => N9
      exact hP5 _ _ (.inl rfl) (state_turn (s5 := s5) kgB F9 N9 (by assumption) (by assumption) (by assumption) ho5 hoff hlen5 hdict hb hrows hget ⟨pdx, phs, ptk, pr0, pr1, ptk2, hp1, hp2, hp3, hp4⟩ hkind (by rw [ha]; rfl) rfl rfl rfl rfl rfl rfl)
    | popS =>
      rw [ha] at hact
      obtain ⟨ptk9, hact⟩ := hact
      have htB : IsTup B t [.ref xx, .ref y, .str (Str.ofString "#pop") ptk9].toArray := hact.keeps kgB
      k_steps
      rename Fr _ _ _ _ => F9
      rename News _ _ _ _ => N9
      exact hP5 _ _ (.inl rfl) (state_turn (s5 := s5) kgB F9 N9 (by assumption) (by assumption) (by assumption) ho5 hoff hlen5 hdict hb hrows hget ⟨pdx, phs, ptk, pr0, pr1, ptk2, hp1, hp2, hp3, hp4⟩ hkind (by rw [ha]; exact ⟨by decide, by decide, _, rfl⟩) rfl rfl rfl rfl rfl rfl)
    | goT ts =>
      rw [ha] at hact
      obtain ⟨ga, gvs, hact, htup2, hstrs, hlen9⟩ := hact
      have htB : IsTup B t [.ref xx, .ref y, .ref ga].toArray := hact.keeps kgB
      have htB2 : IsTup B ga gvs.toArray := htup2.keeps kgB
      have hin9 := hgo r (List.mem_of_getElem? hget) ts ha
      k_steps
      rename Fr _ _ _ _ => F9
      rename News _ _ _ _ => N9
      exact hP5 _ _ (.inl rfl) (state_turn (s5 := s5) kgB F9 N9 (by assumption) (by assumption) (by assumption) ho5 hoff hlen5 hdict hb hrows hget ⟨pdx, phs, ptk, pr0, pr1, ptk2, hp1, hp2, hp3, hp4⟩ hkind (by rw [ha]; exact ⟨ga, gvs, rfl, htup2, hstrs, hlen9⟩) rfl rfl rfl rfl rfl rfl)
  case done =>
    clear N5 F5 hdict
    intro m₁ news₁ h5 tk5 ⟨its, ne, o₁, rest, gv, hn₁, hlen5, hoff, hdict, hb, hrows, q1, q2, q3, q4, q5, z6, q6⟩ F5 N5
    subst hn₁
    rw [hraw.len, List.take_length] at hrows
    replace F5 := Fr.re (m' := fun y => if y = Str.ofString "tokens" then some (.ref lt) else m₁ y) F5 (by
      intro y
      split
      · rename_i e; rw [e, q5]
      rfl)
    clear q1 q2 q3 q4 q5 q6
    k_steps
    rename Fr _ _ _ _ => F9
    rename News _ _ _ _ => N9
    obtain ⟨g', e1, e2, e3, e4, e5⟩ := state_done kgB hBk F9 N9 hlt hoff hb hrows
    exact hR _ _ lt its o₁ g' e1 e2 hdict e3 e4 e5
end
end Mine
end
section
namespace Mine
section
variable {w : World} {d u : Nat} {gd : Option (List Code)} {base : Heap} {outer : List Env} {s : Shared} {p : Program} {loose : List Str} {mean : ExcName → Option Value} {mg mb : Str → Option Value}
local macro_rules | `(tactic| k_inst) => `(tactic| exact inst_base (by k_asm) (by assumption) (by assumption))
local macro_rules | `(tactic| k_room) => `(tactic| ((try simp only [depth_under_make, depth_under_kw, depth_in1, depth_deeper, depth_caller, depth_mk, Around.in1_depth, rl_is]); omega))
local macro_rules | `(tactic| k_units) => `(tactic| ((try simp only [Around.in1_units, Around.deeper_units, Around.mark_units, units_mk, cl_is]); omega))
local macro_rules | `(tactic| walk_at "truthy str") => `(tactic| (k_here; (with_reducible refine truthy_ch ?_); intro _))
local macro_rules | `(tactic| walk_at "call builtin:str.join") => `(tactic| (k_here; (refine join_one (by is_list) ?_); intro _ _))
local macro_rules | `(tactic| walk_at "MINE enter") => `(tactic| (refine' enter ?mX ?mT ?k6 ?k7 ?k8 ?k9 ?kB ?_ ?c2 ?c3 ?c4 ?c5; (case mX => assumption); (case mT => assumption); (case k6 => k_is); (case k7 => k_is); (case k8 => k_room); (case k9 => first | exact BindsTo.of_eq rfl | exact binds_K (by assumption) rfl (by k_is) rfl rfl rfl); (case c5 => decide); (case kB => exact locs rfl); (case c2 => exact rfl); (case c3 => exact rfl); (case c4 => exact rfl); intro L' h' F' N'; (try dsimp only)))
local macro_rules | `(tactic| walk_at "BRest") => `(tactic| (with_unfolding_all first | (refine BRest.succ (fun I' it' h' tk' hit' off' F' N' => ?_)) | (refine BRest.zero (fun h' tk' F' N' => ?_))))
local macro_rules | `(tactic| walk_at "MINE obj") => `(tactic| first | assumption | exact Fr.keep (by assumption) _ _ (by assumption) | exact News.get (by assumption) (by k_mem))
local macro_rules | `(tactic| walk_at "MINE lst") => `(tactic| first | assumption | exact Heap.IsList.at (by assumption) (fun o e => Fr.keep (by assumption) _ o e) | is_list)
local macro_rules | `(tactic| walk_at "MINE X") => `(tactic| first | assumption | exact Frag.In.keeps (by assumption) (Fr.keep (by assumption)))
local macro_rules | `(tactic| walk_at "MINE T") => `(tactic| first | assumption | exact Top.keeps (by assumption) (Fr.keep (by assumption)))
local macro_rules | `(tactic| walk_at "MINE B") => `(tactic| first | assumption | exact Below.push (by assumption) (by assumption))
local macro_rules | `(tactic| k_enter) => `(tactic| (refine' code_def0 ?k2 ?k3 ?k4 ?k5 ?k6 ?k7 ?k8 ?k9 ?kB ?_ ?c2 ?c3 ?c4 ?c5; (case k2 => k_asm); (case k3 => k_asm); (case k4 => k_asm); (case k5 => k_asm); (case k6 => k_is); (case k7 => k_is); (case k8 => k_room); (case k9 => first | exact BindsTo.of_eq rfl | exact binds_K (by k_in) rfl (by k_is) rfl rfl rfl | fail "k_enter: no rule for these arguments"); (case c5 => decide); (case kB => exact locs rfl); (case c2 => exact rfl); (case c3 => exact rfl); (case c4 => exact rfl); k_whole; intro g' L' h' FG' F' N' X' T'; (try dsimp only); (try k_fold)))
local macro_rules | `(tactic| walk_at "subscriptTail") => `(tactic| (k_here; (with_reducible show wpAny _ _ (subscriptTail _ _ (Value.ref _) (Value.str _ _)) _ _ _); k_dflt (refine tab_item (by k_asm) (by assumption) (by assumption) ?_)))
local macro_rules | `(tactic| walk_at "subscriptTail") => `(tactic| (k_here; (with_reducible show wpAny _ _ (subscriptTail _ _ (Value.ref _) (Value.int _ _)) _ _ _); k_dflt (refine stk_last (by is_list) (by assumption) ?_)))
local macro_rules | `(tactic| k_all) => `(tactic| first | assumption | exact ne_of_allL (by assumption) | exact ne_of_allLt (by assumption) | exact ne_of_allLt (And.right (by assumption)) | exact ne_of_allLt (And.right (And.right (by assumption))) | exact ne_of_allLt (And.right (And.right (And.right (by assumption)))))
local macro_rules | `(tactic| k_enter) => `(tactic| (kp_kind "rest"; (refine' code_rest0 ?k2 ?k3 ?k4 ?k5 ?k6 ?k7 ?k8 ?kV ?kP ?kG ?kB ?_ ?c2 ?c3 ?c4 ?c5; (case k2 => k_asm); (case k3 => k_asm); (case k4 => k_asm); (case k5 => k_asm); (case k6 => k_is); (case k7 => k_is); (case k8 => k_room); (case kV => exact rfl); (case kP => exact rfl); (case kG => exact fun _ => rfl); (case kB => exact fun _ => locs rfl); (case c5 => decide); (case c2 => exact rfl); (case c3 => exact rfl); (case c4 => exact rfl); k_whole; intro D' g' L' h' l1 FG' F' N' X' T'; (try k_lt l1); (try dsimp only); (try k_fold))))
local macro_rules | `(tactic| k_enter) => `(tactic| (kp_kind "more"; (refine' code_more0 ?k2 ?k3 ?k4 ?k5 ?k6 ?k7 ?k8 ?kP ?kK ?kB ?_ ?c2 ?c3 ?c4 ?c5; (case k2 => k_asm); (case k3 => k_asm); (case k4 => k_asm); (case k5 => k_asm); (case k6 => k_is); (case k7 => k_is); (case k8 => k_room); (case kP => exact rfl); (case kK => exact fun _ => rfl); (case kB => exact fun _ => locs rfl); (case c5 => decide); (case c2 => exact rfl); (case c3 => exact rfl); (case c4 => exact rfl); k_whole; intro D' o' g' L' h' tk' l1 lo' hd' fs' FG' F' N' X' T'; (try k_lt l1); (try dsimp only); (try k_fold))))
local macro_rules | `(tactic| k_enter) => `(tactic| (kp_kind "both"; (refine' code_both0 ?k2 ?k3 ?k4 ?k5 ?k6 ?k7 ?k8 ?kV ?kP ?kQ ?kK ?kB ?_ ?c2 ?c3 ?c4 ?c5; (case k2 => k_asm); (case k3 => k_asm); (case k4 => k_asm); (case k5 => k_asm); (case k6 => k_is); (case k7 => k_is); (case k8 => k_room); (case kV => exact rfl); (case kP => exact rfl); (case kQ => exact fun _ => rfl); (case kK => exact fun _ _ => rfl); (case kB => exact fun _ _ => locs rfl); (case c5 => decide); (case c2 => exact rfl); (case c3 => exact rfl); (case c4 => exact rfl); k_whole; intro C' D' g' L' h' tk' l1 l2 l3 FG' F' N' X' T'; (try k_lt l1); (try k_lt l3); (try dsimp only); (try k_fold))))
local macro_rules | `(tactic| walk_at "subscriptTail Name UnaryOp ref int") => `(tactic| (k_here; (with_reducible show wpAny _ _ (subscriptTail _ _ (Value.ref _) (Value.int _ _)) _ _ _); k_dflt (refine stk_last (by is_list) (by assumption) ?_)))
local macro_rules | `(tactic| walk_at "truthy ref") => `(tactic| (k_here; (with_reducible show wpAny _ _ (truthy (Value.ref _)) _ _ _); k_dflt (first | refine truthy_tup (b := false) (by assumption) (by assumption) (by first | exact Nat.le_of_ble_eq_true rfl | omega) rfl ?_ | refine truthy_tup (b := true) (by assumption) (by assumption) (by first | exact Nat.le_of_ble_eq_true rfl | omega) rfl ?_); intro _))
local macro_rules | `(tactic| walk_at "truthy str") => `(tactic| (k_here; (with_reducible show wpAny _ _ (truthy (Value.str _ _)) _ _ _); k_dflt (refine KXt.truthy_pos (K := 1000) (by omega) (by omega) (by omega) ?_); intro _))
local macro_rules | `(tactic| walk_at "StarOf ref") => `(tactic| (k_here; k_dflt (refine star_tup (by assumption) (by assumption) (by assumption) (by first | exact Nat.le_of_ble_eq_true rfl | omega) ?_); intro h' F' N'; (try dsimp only [List.nil_append, List.cons_append]); (try k_sweep)))
local macro_rules | `(tactic| walk_at "callWith ref") => `(tactic| (k_here; (with_reducible show wpAny _ _ (callWith _ (Value.ref _) _ (backTo _ (starEach (Expr.Starred _ _ :: _ :: _) _)) []) _ _ _); k_dflt (refine' callWith_S3 ?k1 ?k2 ?_; (case k1 => k_asm); (case k2 => k_is); k_whole)))
local macro_rules | `(tactic| walk_at "call type:str") => `(tactic| (k_here; (with_reducible show wpAny _ _ (call (Value.type "str") [Value.int _ _]) _ _ _); k_dflt (refine str_int9 (by omega) (by omega) ?_); intro _ _))
local macro_rules | `(tactic| walk_at "MINE enterC") => `(tactic| (refine' enterC ?mX ?mT ?k6 ?k7 ?k8 ?k9 ?kB ?kD ?_ ?c2 ?c3 ?c4; (case mX => assumption); (case mT => assumption); (case k6 => k_is); (case k7 => k_is); (case k8 => k_room); (case k9 => first | exact BindsTo.of_eq rfl | exact binds_K (by assumption) rfl (by k_is) rfl rfl rfl); (case kB => exact rfl); (case kD => decide +kernel); (case c2 => exact rfl); (case c3 => exact rfl); (case c4 => exact rfl); intro L' h' tk' cells' F' N' Y'; k_cells Y'; (try simp only [List.cons_append, List.nil_append] at N'); (try dsimp only)))
local macro_rules | `(tactic| walk_at "compareOp In str ref") => `(tactic| (k_here; (with_reducible show wpAny _ _ (compareOp _ (Value.str _ _) (Value.ref _)) _ _ _); k_dflt (refine in_map (by assumption) (by assumption) (by assumption) (by assumption) ?_); intro _))
local macro_rules | `(tactic| walk_at "call builtin:isinstance") => `(tactic| (k_here; (with_reducible show wpAny _ _ (call _ [Value.ref _, Value.type _]) _ _ _); k_dflt (refine' kia_one kitx_tuple ?X ?c ?ee ?nb ?_; (case c => exact kitAt_B (by assumption) (by assumption)); (case X => walk_at "MINE X"); (case ee => kit_is); (case nb => kit_nb); k_whole; intro _)))
local macro_rules | `(tactic| walk_at "call builtin:isinstance") => `(tactic| (k_here; (with_reducible show wpAny _ _ (call _ [Value.ref _, Value.ref _]) _ _ _); k_dflt (refine' kia_one kitx_tuple ?X ?c ?ee ?nb ?_; (case c => exact kitAt_B (by assumption) (by assumption)); (case X => walk_at "MINE X"); (case ee => kit_is); (case nb => kit_nb); k_whole; intro _)))
local macro_rules | `(tactic| walk_at "call type:type") => `(tactic| (k_here; (with_reducible show wpAny _ _ (call (Value.type "type") [Value.ref _]) _ _ _); k_dflt (refine kto_cont (T := "tuple") (kitAt_B (by assumption) (by assumption)) (by decide +kernel) ?_)))
local macro_rules | `(tactic| walk_at "UnrEndW") => `(tactic| (k_here; k_dflt (ktu_end)))
local macro_rules | `(tactic| walk_at "call ref") => `(tactic| (k_here; (with_reducible show wpAny _ _ (call (Value.ref 456) _) _ _ _); k_dflt ((refine wpAny_call ?_); (refine' t_inherit ?sX ?sT ?sd ?su ?s1 ?s2 ?_; (case sX => walk_at "MINE X"); (case sT => walk_at "MINE T"); (case sd => k_room); (case su => k_units); (case s1 => walk_at "MINE lst"); (case s2 => exact tupsKeep (by assumption) (by assumption)); (intro h' k' hk'); (have F' := Fr.keeps (by assumption) hk'); (have N' := News.grown (by assumption) hk')); (try k_sweep))))
theorem t_merged {g : Heap} {table tt : Addr} {o : Obj} {l0 l1 l2 l3 l4 l5 l6 : Addr} {v0 v1 v2 v3 v4 v5 v6 : List Value} {R : Result → Shared → Prop}
  (X : (Mine.hd2.heap_39 w.params).In g) (T : Top p loose mean mg mb g) (hg : Keeps g s.heap)
  (hd9 : d < 480) (hu9 : u < 880)
  (hts : (table == sysModules) = false) (htab : s.heap.get? table = some o) (hgt : g.get? table = none) (hto : o.IsDictOf (PySem.strKind PG w) [(Str.ofString "root", .ref l0), (Str.ofString "C1D0", .ref l1), (Str.ofString "C1D1", .ref l2), (Str.ofString "C2D0", .ref l3), (Str.ofString "C2D1", .ref l4), (Str.ofString "C3D0", .ref l5), (Str.ofString "C3D1", .ref l6)])
  (htt : s.heap.get? tt = some { cls := .type "tuple", data := .seq #[.ref table] }) (hgtt : g.get? tt = none)
  (hl0 : g.IsList l0 v0.toArray) (hv0 : ∀ v ∈ v0, ∃ a xs, v = .ref a ∧ IsTup g a xs) (hn0 : v0.length ≤ 1000)
  (hl1 : g.IsList l1 v1.toArray) (hv1 : ∀ v ∈ v1, ∃ a xs, v = .ref a ∧ IsTup g a xs) (hn1 : v1.length ≤ 1000)
  (hl2 : g.IsList l2 v2.toArray) (hv2 : ∀ v ∈ v2, ∃ a xs, v = .ref a ∧ IsTup g a xs) (hn2 : v2.length ≤ 1000)
  (hl3 : g.IsList l3 v3.toArray) (hv3 : ∀ v ∈ v3, ∃ a xs, v = .ref a ∧ IsTup g a xs) (hn3 : v3.length ≤ 1000)
  (hl4 : g.IsList l4 v4.toArray) (hv4 : ∀ v ∈ v4, ∃ a xs, v = .ref a ∧ IsTup g a xs) (hn4 : v4.length ≤ 1000)
  (hl5 : g.IsList l5 v5.toArray) (hv5 : ∀ v ∈ v5, ∃ a xs, v = .ref a ∧ IsTup g a xs) (hn5 : v5.length ≤ 1000)
  (hl6 : g.IsList l6 v6.toArray) (hv6 : ∀ v ∈ v6, ∃ a xs, v = .ref a ∧ IsTup g a xs) (hn6 : v6.length ≤ 1000)
  (hR : ∀ h' k un D0 D1 D2 D3 D4 D5 D6 g', Keeps s.heap h' → Ext g s.heap h' g' → s.heap.get? un = none → g'.DictOf (PySem.strKind PG w) un [(Str.ofString "root", .ref D0), (Str.ofString "C1D0", .ref D1), (Str.ofString "C1D1", .ref D2), (Str.ofString "C2D0", .ref D3), (Str.ofString "C2D1", .ref D4), (Str.ofString "C3D0", .ref D5), (Str.ofString "C3D1", .ref D6)] → (un == sysModules) = false → g'.IsList D0 v0.toArray → g'.IsList D1 v1.toArray → g'.IsList D2 v2.toArray → g'.IsList D3 v3.toArray → g'.IsList D4 v4.toArray → g'.IsList D5 v5.toArray → g'.IsList D6 v6.toArray → R (.ok (.ret (.ref un))) {s with heap := h', toks := k})
  : codeAny (model PG w) ⟨none, d, some outer, gd, u⟩ (.call (.ref 463) ⟨[.ref tt], []⟩) R s := by
  refine' enterM g [(tt, { cls := .type "tuple", data := .seq #[.ref table] }), (table, o)] X T hg (List.forall_mem_cons.mpr ⟨⟨htt, hgtt⟩, List.forall_mem_cons.mpr ⟨⟨htab, hgt⟩, fun _ hq => nomatch hq⟩⟩) ?k6 ?k7 ?k8 ?k9 ?kB ?_ ?c2 ?c3 ?c4 ?c5
  case k6 => k_is
  case k7 => k_is
  case k8 => k_room
  case k9 => exact BindsTo.of_eq rfl
  case c5 => decide
  case kB => exact locs rfl
  case c2 => exact rfl
  case c3 => exact rfl
  case c4 => exact rfl
  intro L' h₁ B kgB kBs hBk hBp F1 N1 XB TB
  try dsimp only
  have hL0 : B.IsList l0 v0.toArray := hl0.at fun o e => kgB _ o e
  have hV0 : ∀ v ∈ v0, ∃ a xs, v = .ref a ∧ IsTup B a xs := fun v h => let ⟨a, xs, e, t⟩ := hv0 v h; ⟨a, xs, e, IsTup.kp kgB t⟩
  have hL1 : B.IsList l1 v1.toArray := hl1.at fun o e => kgB _ o e
  have hV1 : ∀ v ∈ v1, ∃ a xs, v = .ref a ∧ IsTup B a xs := fun v h => let ⟨a, xs, e, t⟩ := hv1 v h; ⟨a, xs, e, IsTup.kp kgB t⟩
  have hL2 : B.IsList l2 v2.toArray := hl2.at fun o e => kgB _ o e
  have hV2 : ∀ v ∈ v2, ∃ a xs, v = .ref a ∧ IsTup B a xs := fun v h => let ⟨a, xs, e, t⟩ := hv2 v h; ⟨a, xs, e, IsTup.kp kgB t⟩
  have hL3 : B.IsList l3 v3.toArray := hl3.at fun o e => kgB _ o e
  have hV3 : ∀ v ∈ v3, ∃ a xs, v = .ref a ∧ IsTup B a xs := fun v h => let ⟨a, xs, e, t⟩ := hv3 v h; ⟨a, xs, e, IsTup.kp kgB t⟩
  have hL4 : B.IsList l4 v4.toArray := hl4.at fun o e => kgB _ o e
  have hV4 : ∀ v ∈ v4, ∃ a xs, v = .ref a ∧ IsTup B a xs := fun v h => let ⟨a, xs, e, t⟩ := hv4 v h; ⟨a, xs, e, IsTup.kp kgB t⟩
  have hL5 : B.IsList l5 v5.toArray := hl5.at fun o e => kgB _ o e
  have hV5 : ∀ v ∈ v5, ∃ a xs, v = .ref a ∧ IsTup B a xs := fun v h => let ⟨a, xs, e, t⟩ := hv5 v h; ⟨a, xs, e, IsTup.kp kgB t⟩
  have hL6 : B.IsList l6 v6.toArray := hl6.at fun o e => kgB _ o e
  have hV6 : ∀ v ∈ v6, ∃ a xs, v = .ref a ∧ IsTup B a xs := fun v h => let ⟨a, xs, e, t⟩ := hv6 v h; ⟨a, xs, e, IsTup.kp kgB t⟩
  k_steps
  rename Fr _ _ _ _ => F9
  rename News _ _ _ _ => N9
  obtain ⟨g', e1, e2, e3⟩ := ext_of (mu := [(tt, { cls := .type "tuple", data := .seq #[.ref table] }), (table, o)]) (h := s.heap) 9 kgB F9 N9 hBk (by
    show ∀ p ∈ [_, _, _, _, _, _, _, _, _], _
    repeat' (first | refine List.forall_mem_cons.mpr ⟨?_, ?_⟩ | exact fun _ h => (List.not_mem_nil h).elim)
    all_goals (dsimp only; refine neN ?_; omega)) (List.forall_mem_cons.mpr ⟨⟨htt, by k_mem⟩, List.forall_mem_cons.mpr ⟨⟨htab, by k_mem⟩, fun _ hq => nomatch hq⟩⟩)
  have e4 : ∀ a o, (a, o) ∈ _ → g'.get? a = some o := fun a o h => (e3 (a, o) h).1
  have e5 : ∀ a o, (a, o) ∈ _ → s.heap.get? a = none := fun a o h => (e3 (a, o) h).2
  exact hR _ _ _ _ _ _ _ _ _ _ g' e1 e2 (e5 _ _ (by k_mem)) (Heap.dictOf_iff.mpr ⟨_, e4 _ _ (by k_mem), by assumption⟩) (by assumption) (isList_of (e4 _ _ (by k_mem))) (isList_of (e4 _ _ (by k_mem))) (isList_of (e4 _ _ (by k_mem))) (isList_of (e4 _ _ (by k_mem))) (isList_of (e4 _ _ (by k_mem))) (isList_of (e4 _ _ (by k_mem))) (isList_of (e4 _ _ (by k_mem)))
end
end Mine
end
section
namespace Mine
section
variable {w : World} {d u : Nat} {gd : Option (List Code)} {base : Heap} {outer : List Env} {s : Shared} {p : Program} {loose : List Str} {mean : ExcName → Option Value} {mg mb : Str → Option Value}
local macro_rules | `(tactic| k_inst) => `(tactic| exact inst_base (by k_asm) (by assumption) (by assumption))
local macro_rules | `(tactic| k_room) => `(tactic| ((try simp only [depth_under_make, depth_under_kw, depth_in1, depth_deeper, depth_caller, depth_mk, Around.in1_depth, rl_is]); omega))
local macro_rules | `(tactic| k_units) => `(tactic| ((try simp only [Around.in1_units, Around.deeper_units, Around.mark_units, units_mk, cl_is]); omega))
local macro_rules | `(tactic| walk_at "truthy str") => `(tactic| (k_here; (with_reducible refine truthy_ch ?_); intro _))
local macro_rules | `(tactic| walk_at "call builtin:str.join") => `(tactic| (k_here; (refine join_one (by is_list) ?_); intro _ _))
local macro_rules | `(tactic| walk_at "MINE enter") => `(tactic| (refine' enter ?mX ?mT ?k6 ?k7 ?k8 ?k9 ?kB ?_ ?c2 ?c3 ?c4 ?c5; (case mX => assumption); (case mT => assumption); (case k6 => k_is); (case k7 => k_is); (case k8 => k_room); (case k9 => first | exact BindsTo.of_eq rfl | exact binds_K (by assumption) rfl (by k_is) rfl rfl rfl); (case c5 => decide); (case kB => exact locs rfl); (case c2 => exact rfl); (case c3 => exact rfl); (case c4 => exact rfl); intro L' h' F' N'; (try dsimp only)))
local macro_rules | `(tactic| walk_at "BRest") => `(tactic| (with_unfolding_all first | (refine BRest.succ (fun I' it' h' tk' hit' off' F' N' => ?_)) | (refine BRest.zero (fun h' tk' F' N' => ?_))))
local macro_rules | `(tactic| walk_at "MINE obj") => `(tactic| first | assumption | exact Fr.keep (by assumption) _ _ (by assumption) | exact News.get (by assumption) (by k_mem))
local macro_rules | `(tactic| walk_at "MINE lst") => `(tactic| first | assumption | exact Heap.IsList.at (by assumption) (fun o e => Fr.keep (by assumption) _ o e) | is_list)
local macro_rules | `(tactic| walk_at "MINE X") => `(tactic| first | assumption | exact Frag.In.keeps (by assumption) (Fr.keep (by assumption)))
local macro_rules | `(tactic| walk_at "MINE T") => `(tactic| first | assumption | exact Top.keeps (by assumption) (Fr.keep (by assumption)))
local macro_rules | `(tactic| walk_at "MINE B") => `(tactic| first | assumption | exact Below.push (by assumption) (by assumption))
local macro_rules | `(tactic| k_enter) => `(tactic| (refine' code_def0 ?k2 ?k3 ?k4 ?k5 ?k6 ?k7 ?k8 ?k9 ?kB ?_ ?c2 ?c3 ?c4 ?c5; (case k2 => k_asm); (case k3 => k_asm); (case k4 => k_asm); (case k5 => k_asm); (case k6 => k_is); (case k7 => k_is); (case k8 => k_room); (case k9 => first | exact BindsTo.of_eq rfl | exact binds_K (by k_in) rfl (by k_is) rfl rfl rfl | fail "k_enter: no rule for these arguments"); (case c5 => decide); (case kB => exact locs rfl); (case c2 => exact rfl); (case c3 => exact rfl); (case c4 => exact rfl); k_whole; intro g' L' h' FG' F' N' X' T'; (try dsimp only); (try k_fold)))
local macro_rules | `(tactic| walk_at "subscriptTail") => `(tactic| (k_here; (with_reducible show wpAny _ _ (subscriptTail _ _ (Value.ref _) (Value.str _ _)) _ _ _); k_dflt (refine tab_item (by k_asm) (by assumption) (by assumption) ?_)))
local macro_rules | `(tactic| walk_at "subscriptTail") => `(tactic| (k_here; (with_reducible show wpAny _ _ (subscriptTail _ _ (Value.ref _) (Value.int _ _)) _ _ _); k_dflt (refine stk_last (by is_list) (by assumption) ?_)))
local macro_rules | `(tactic| k_all) => `(tactic| first | assumption | exact ne_of_allL (by assumption) | exact ne_of_allLt (by assumption) | exact ne_of_allLt (And.right (by assumption)) | exact ne_of_allLt (And.right (And.right (by assumption))) | exact ne_of_allLt (And.right (And.right (And.right (by assumption)))))
local macro_rules | `(tactic| k_enter) => `(tactic| (kp_kind "rest"; (refine' code_rest0 ?k2 ?k3 ?k4 ?k5 ?k6 ?k7 ?k8 ?kV ?kP ?kG ?kB ?_ ?c2 ?c3 ?c4 ?c5; (case k2 => k_asm); (case k3 => k_asm); (case k4 => k_asm); (case k5 => k_asm); (case k6 => k_is); (case k7 => k_is); (case k8 => k_room); (case kV => exact rfl); (case kP => exact rfl); (case kG => exact fun _ => rfl); (case kB => exact fun _ => locs rfl); (case c5 => decide); (case c2 => exact rfl); (case c3 => exact rfl); (case c4 => exact rfl); k_whole; intro D' g' L' h' l1 FG' F' N' X' T'; (try k_lt l1); (try dsimp only); (try k_fold))))
local macro_rules | `(tactic| k_enter) => `(tactic| (kp_kind "more"; (refine' code_more0 ?k2 ?k3 ?k4 ?k5 ?k6 ?k7 ?k8 ?kP ?kK ?kB ?_ ?c2 ?c3 ?c4 ?c5; (case k2 => k_asm); (case k3 => k_asm); (case k4 => k_asm); (case k5 => k_asm); (case k6 => k_is); (case k7 => k_is); (case k8 => k_room); (case kP => exact rfl); (case kK => exact fun _ => rfl); (case kB => exact fun _ => locs rfl); (case c5 => decide); (case c2 => exact rfl); (case c3 => exact rfl); (case c4 => exact rfl); k_whole; intro D' o' g' L' h' tk' l1 lo' hd' fs' FG' F' N' X' T'; (try k_lt l1); (try dsimp only); (try k_fold))))
local macro_rules | `(tactic| k_enter) => `(tactic| (kp_kind "both"; (refine' code_both0 ?k2 ?k3 ?k4 ?k5 ?k6 ?k7 ?k8 ?kV ?kP ?kQ ?kK ?kB ?_ ?c2 ?c3 ?c4 ?c5; (case k2 => k_asm); (case k3 => k_asm); (case k4 => k_asm); (case k5 => k_asm); (case k6 => k_is); (case k7 => k_is); (case k8 => k_room); (case kV => exact rfl); (case kP => exact rfl); (case kQ => exact fun _ => rfl); (case kK => exact fun _ _ => rfl); (case kB => exact fun _ _ => locs rfl); (case c5 => decide); (case c2 => exact rfl); (case c3 => exact rfl); (case c4 => exact rfl); k_whole; intro C' D' g' L' h' tk' l1 l2 l3 FG' F' N' X' T'; (try k_lt l1); (try k_lt l3); (try dsimp only); (try k_fold))))
local macro_rules | `(tactic| walk_at "subscriptTail Name UnaryOp ref int") => `(tactic| (k_here; (with_reducible show wpAny _ _ (subscriptTail _ _ (Value.ref _) (Value.int _ _)) _ _ _); k_dflt (refine stk_last (by is_list) (by assumption) ?_)))
local macro_rules | `(tactic| walk_at "truthy ref") => `(tactic| (k_here; (with_reducible show wpAny _ _ (truthy (Value.ref _)) _ _ _); k_dflt (first | refine truthy_tup (b := false) (by assumption) (by assumption) (by first | exact Nat.le_of_ble_eq_true rfl | omega) rfl ?_ | refine truthy_tup (b := true) (by assumption) (by assumption) (by first | exact Nat.le_of_ble_eq_true rfl | omega) rfl ?_); intro _))
local macro_rules | `(tactic| walk_at "truthy str") => `(tactic| (k_here; (with_reducible show wpAny _ _ (truthy (Value.str _ _)) _ _ _); k_dflt (refine KXt.truthy_pos (K := 1000) (by omega) (by omega) (by omega) ?_); intro _))
local macro_rules | `(tactic| walk_at "StarOf ref") => `(tactic| (k_here; k_dflt (refine star_tup (by assumption) (by assumption) (by assumption) (by first | exact Nat.le_of_ble_eq_true rfl | omega) ?_); intro h' F' N'; (try dsimp only [List.nil_append, List.cons_append]); (try k_sweep)))
local macro_rules | `(tactic| walk_at "callWith ref") => `(tactic| (k_here; (with_reducible show wpAny _ _ (callWith _ (Value.ref _) _ (backTo _ (starEach (Expr.Starred _ _ :: _ :: _) _)) []) _ _ _); k_dflt (refine' callWith_S3 ?k1 ?k2 ?_; (case k1 => k_asm); (case k2 => k_is); k_whole)))
local macro_rules | `(tactic| walk_at "call type:str") => `(tactic| (k_here; (with_reducible show wpAny _ _ (call (Value.type "str") [Value.int _ _]) _ _ _); k_dflt (refine str_int9 (by omega) (by omega) ?_); intro _ _))
local macro_rules | `(tactic| walk_at "MINE enterC") => `(tactic| (refine' enterC ?mX ?mT ?k6 ?k7 ?k8 ?k9 ?kB ?kD ?_ ?c2 ?c3 ?c4; (case mX => assumption); (case mT => assumption); (case k6 => k_is); (case k7 => k_is); (case k8 => k_room); (case k9 => first | exact BindsTo.of_eq rfl | exact binds_K (by assumption) rfl (by k_is) rfl rfl rfl); (case kB => exact rfl); (case kD => decide +kernel); (case c2 => exact rfl); (case c3 => exact rfl); (case c4 => exact rfl); intro L' h' tk' cells' F' N' Y'; k_cells Y'; (try simp only [List.cons_append, List.nil_append] at N'); (try dsimp only)))
local macro_rules | `(tactic| walk_at "compareOp In str ref") => `(tactic| (k_here; (with_reducible show wpAny _ _ (compareOp _ (Value.str _ _) (Value.ref _)) _ _ _); k_dflt (refine in_map (by assumption) (by assumption) (by assumption) (by assumption) ?_); intro _))
local macro_rules | `(tactic| walk_at "call builtin:isinstance") => `(tactic| (k_here; (with_reducible show wpAny _ _ (call _ [Value.ref _, Value.type _]) _ _ _); k_dflt (refine' kia_one kitx_tuple ?X ?c ?ee ?nb ?_; (case c => exact kitAt_B (by assumption) (by assumption)); (case X => walk_at "MINE X"); (case ee => kit_is); (case nb => kit_nb); k_whole; intro _)))
local macro_rules | `(tactic| walk_at "call builtin:isinstance") => `(tactic| (k_here; (with_reducible show wpAny _ _ (call _ [Value.ref _, Value.ref _]) _ _ _); k_dflt (refine' kia_one kitx_tuple ?X ?c ?ee ?nb ?_; (case c => exact kitAt_B (by assumption) (by assumption)); (case X => walk_at "MINE X"); (case ee => kit_is); (case nb => kit_nb); k_whole; intro _)))
local macro_rules | `(tactic| walk_at "call type:type") => `(tactic| (k_here; (with_reducible show wpAny _ _ (call (Value.type "type") [Value.ref _]) _ _ _); k_dflt (refine kto_cont (T := "tuple") (kitAt_B (by assumption) (by assumption)) (by decide +kernel) ?_)))
local macro_rules | `(tactic| walk_at "setItem ref str") => `(tactic| (k_here; (with_reducible show wpAny _ _ (setItem (Value.ref _) (Value.str _ _) _) _ _ _); k_dflt (refine set_dict (pre := [_]) (by assumption) (by assumption) (List.forall_mem_cons.mpr ⟨by first | k_ne | (dsimp only; refine neN ?_; omega), fun _ hp => nomatch hp⟩) (by exact List.forall_mem_cons.mpr ⟨by assumption, fun _ hp => nomatch hp⟩) (by assumption) (by rfl) (Nat.le_of_ble_eq_true rfl) ?_); intro h' o' k' F' N' hd'; (try dsimp only [List.nil_append, List.cons_append] at N'); (try k_sweep)))
local macro_rules | `(tactic| walk_at "exec For Name Call cons nil") => `(tactic| (k_here; (with_unfolding_all refine' For_invVF (by assumption) ?k1 ?k2 ?_); (case k1 => exact rfl); (case k2 => exact rfl)))
local macro_rules | `(tactic| walk_at "truthy ref") => `(tactic| (k_here; (with_reducible show wpAny _ _ (truthy (Value.ref _)) _ _ _); k_dflt (refine truthy_dct (by assumption) (by k_mem) (by assumption) (by assumption) (Nat.le_of_ble_eq_true rfl) ?_); intro _))
local macro_rules | `(tactic| walk_at "pyIter ref") => `(tactic| (k_here; (with_reducible show wpAny _ _ (pyIter (Value.ref _)) (fun it s₂ => LoopAtV _ _ _ _ _ _ _ _ _ it s₂) _ _); refine park ?_))
local macro_rules | `(tactic| walk_at "call ref") => `(tactic| (k_here; (with_reducible show wpAny _ _ (call (Value.ref 498) _) _ _ _); refine park ?_))
theorem t_tokdef {gA gB : Heap} {x dx un at' : Addr} {ou oat : Obj} {tab : List (Str × List Raw)} {l0 l1 l2 l3 l4 l5 l6 : Addr} {R : Result → Shared → Prop}
  {a1 a2 a3 a4 a5 a6 a7 a8 : Int} {b1 b2 b3 b4 b5 b6 b7 b8 t0 : Nat} {v1 v2 v3 v4 v5 v6 v8 : Value}
  (hd9 : d < 470) (hu9 : u < 860)
  (X : (Mine.hd2.heap_39 w.params).In gA) (T : Top p loose mean mg mb gA) (hgA : Keeps gA gB) (hgB : Keeps gB s.heap)
  (hx : s.heap.get? x = some (instObj 634 dx)) (hd : s.heap.get? dx = some (dictOf [⟨a1, .str "options" b1, v1⟩, ⟨a2, .str "stripnl" b2, v2⟩, ⟨a3, .str "stripall" b3, v3⟩, ⟨a4, .str "ensurenl" b4, v4⟩, ⟨a5, .str "filters" b5, v5⟩, ⟨a6, .str "tables" b6, v6⟩, ⟨a7, .str "_all_tokens" b7, .ref at'⟩, ⟨a8, .str "_tmpname" b8, v8⟩] 8))
  (hou : gB.get? un = some ou) (hun : ou.IsDictOf (PySem.strKind PG w) [(Str.ofString "root", .ref l0), (Str.ofString "C1D0", .ref l1), (Str.ofString "C1D1", .ref l2), (Str.ofString "C2D0", .ref l3), (Str.ofString "C2D1", .ref l4), (Str.ofString "C3D0", .ref l5), (Str.ofString "C3D1", .ref l6)]) (hum : (un == sysModules) = false) (hunA : gA.get? un = none)
  (hat : s.heap.get? at' = some oat) (hoat : oat.IsDictOf (PySem.strKind PG w) []) (hatB : gB.get? at' = none) (hats : (at' == sysModules) = false) (hax : at' ≠ x) (had : at' ≠ dx) (hua : un ≠ at') (hux : un ≠ x) (hud : un ≠ dx)
  (hnm : ∀ e ∈ tab, 1 ≤ e.1.length ∧ e.1.length ≤ 1000 ∧ (Txt.item e.1 0 == Str.ofString "#") = false) (htl : tab.length ≤ 1000)
  (hgo : ∀ e ∈ tab, ∀ r ∈ e.2, ∀ ts, r.act = .goT ts → ∀ t ∈ ts, (valueAt [(Str.ofString "root", .ref l0), (Str.ofString "C1D0", .ref l1), (Str.ofString "C1D1", .ref l2), (Str.ofString "C2D0", .ref l3), (Str.ofString "C2D1", .ref l4), (Str.ofString "C3D0", .ref l5), (Str.ofString "C3D1", .ref l6)] t).isSome = true ∨ ((valueAt [(Str.ofString "root", .ref l0), (Str.ofString "C1D0", .ref l1), (Str.ofString "C1D1", .ref l2), (Str.ofString "C2D0", .ref l3), (Str.ofString "C2D1", .ref l4), (Str.ofString "C3D0", .ref l5), (Str.ofString "C3D1", .ref l6)] t).isSome = false ∧ t = Str.ofString "#pop"))
  (hR : ∀ h' k pr g' kvo, (∀ b ob, b ≠ at' → s.heap.get? b = some ob → h'.get? b = some ob) → (pr == sysModules) = false → Ext gB s.heap h' g' → g'.DictOf (PySem.strKind PG w) pr kvo → TabO g' kvo tab → R (.ok (.ret (.ref pr))) {s with heap := h', toks := k})
  (htab : TabR gB [(Str.ofString "root", .ref l0), (Str.ofString "C1D0", .ref l1), (Str.ofString "C1D1", .ref l2), (Str.ofString "C2D0", .ref l3), (Str.ofString "C2D1", .ref l4), (Str.ofString "C3D0", .ref l5), (Str.ofString "C3D1", .ref l6)] tab) 
  : codeAny (model PG w) ⟨none, d, some outer, gd, u⟩ (.call (.ref 506) ⟨[.ref x, .str (Str.ofString "") t0, .ref un], []⟩) R s := by
  have hus := hgB _ _ hou
  have hatA : gA.get? at' = none := by
    cases z : gA.get? at' with
    | none => rfl
    | some o => have := hgA _ _ z; rw [hatB] at this; cases this
  have X2 : (Mine.hd2.heap_39 w.params).In s.heap := X.keeps fun b o e => hgB _ _ (hgA _ _ e)
  refine' enterM gA [(at', oat), (un, ou)] X T (fun b o e => hgB _ _ (hgA _ _ e)) (List.forall_mem_cons.mpr ⟨⟨hat, hatA⟩, List.forall_mem_cons.mpr ⟨⟨hus, hunA⟩, fun _ hq => nomatch hq⟩⟩) ?k6 ?k7 ?k8 ?k9 ?kB ?_ ?c2 ?c3 ?c4 ?c5
  case k6 => k_is
  case k7 => k_is
  case k8 => k_room
  case k9 => exact binds_K X2 rfl (by k_is) rfl rfl rfl
  case c5 => decide
  case kB => exact locs rfl
  case c2 => exact rfl
  case c3 => exact rfl
  case c4 => exact rfl
  intro L' h₁ B kgB kBs hBk hBp F1 N1 XB TB
  try dsimp only
  have hxB := hBk _ _ hx (List.forall_mem_cons.mpr ⟨hax, List.forall_mem_cons.mpr ⟨hux, fun _ hq => nomatch hq⟩⟩)
  have hdB := hBk _ _ hd (List.forall_mem_cons.mpr ⟨had, List.forall_mem_cons.mpr ⟨hud, fun _ hq => nomatch hq⟩⟩)
  have hgBB : ∀ b o, gB.get? b = some o → b ≠ un → B.get? b = some o := fun b o e hb => hBk b o (hgB _ _ e) (List.forall_mem_cons.mpr ⟨fun z => (by rw [← z, hatB] at e; cases e), List.forall_mem_cons.mpr ⟨fun z => hb z.symm, fun _ hq => nomatch hq⟩⟩)
  k_steps
  refine unpark ?_
  rename Fr _ _ _ _ => F5
  rename News _ _ _ _ => N5
  obtain ⟨pr, epr, hlt⟩ := name_lt ‹at' < _ ∧ un < _›.1
  subst epr
  have hlt2 : un < pr := ‹at' < pr ∧ un < pr›.2
  obtain ⟨lk, elk, hlk⟩ := name_lt ‹pr < _ ∧ at' < _ ∧ un < _›.1
  subst elk
  have hks := (Heap.DictOf.mapOf (h := gB) (Heap.dictOf_iff.mpr ⟨ou, hou, hun⟩))
  have hnd : (([(Str.ofString "root", .ref l0), (Str.ofString "C1D0", .ref l1), (Str.ofString "C1D1", .ref l2), (Str.ofString "C2D0", .ref l3), (Str.ofString "C2D1", .ref l4), (Str.ofString "C3D0", .ref l5), (Str.ofString "C3D1", .ref l6)] : List (Str × Value)).map (·.1)).Nodup := let ⟨_, _, _, _, _, _, n⟩ := hun; n
  have hpn : (pr == sysModules) = false := by assumption
  refine iter_JL (TkJ w gB x un at' pr lk ou _ tab) rfl F5 N5 rfl rfl ⟨_, [], gB, [], rfl, (fun _ hp => nomatch hp), (by assumption), BearsG.start _ _, .nil, rfl, rfl, rfl⟩ ?turn ?done
  case turn =>
    clear N5 F5
    intro i v m₁ news₁ I5 it5 lo5 s5 hv ⟨o₁, rest, gv, kvo, hn₁, hoff, hdict, hb, hto, q1, q2, q3⟩ ho5 F5 N5 P5 E5 hP5
    subst hn₁
    obtain ⟨nm, tk5, hget, rfl⟩ := strs_get (st := ([(Str.ofString "root", .ref l0), (Str.ofString "C1D0", .ref l1), (Str.ofString "C1D1", .ref l2), (Str.ofString "C2D0", .ref l3), (Str.ofString "C2D1", .ref l4), (Str.ofString "C3D0", .ref l5), (Str.ofString "C3D1", .ref l6)] : List (Str × Value)).map (·.1)) (.cons _ _ (.cons _ _ (.cons _ _ (.cons _ _ (.cons _ _ (.cons _ _ (.cons _ _ .nil))))))) hv
    obtain ⟨l, vs, rs, hkv, htb, hlB, hrB, hvl⟩ := htab.get hget
    have hmem := List.mem_of_getElem? htb
    replace F5 := Fr.re (m' := fun y => if y = Str.ofString "state" then some (.str nm tk5) else if y = Str.ofString "cls" then some (.ref x) else if y = Str.ofString "tokendefs" then some (.ref un) else if y = Str.ofString "processed" then some (.ref pr) else m₁ y) F5 (by
      intro y
      split
      · rfl
      split
      · rename_i e; rw [e, q1]
      split
      · rename_i e; rw [e, q2]
      split
      · rename_i e; rw [e, q3]
      rfl)
    clear q1 q2 q3
    k_steps
    refine unpark ?_
    rename Fr _ _ _ _ => F6
    rename News _ _ _ _ => N6
    have hkeyo := hto.keys
    have hprB : B.get? pr = none := (N6 (pr, o₁) (.tail _ (.tail _ (.head _)))).2.2
    have kcur : Keeps gv _ := fun b o e => by
      rcases hb.2 b o e with q | q
      · by_cases hbu : b = un
        · rw [hbu, hou] at q; cases q; rw [hbu]; exact (N6 (un, ou) (.tail _ (.tail _ (.tail _ (.tail _ (.head _)))))).1
        · exact F6.keep _ _ (hgBB _ _ q hbu)
      · exact (N6 _ (.tail _ (.tail _ (.tail _ (.tail _ (.tail _ q)))))).1
    have hgvp : gv.get? pr = none := by
      cases z : gv.get? pr with
      | none => rfl
      | some o =>
        rcases hb.2 _ _ z with q | q
        · have := hgBB _ _ q (Nat.ne_of_gt hlt2); rw [hprB] at this; cases this
        · exact absurd rfl (hoff _ q).2.1
    refine wpAny_call ?_
    refine t_state (g := gv) (kvu := [(Str.ofString "root", .ref l0), (Str.ofString "C1D0", .ref l1), (Str.ofString "C1D1", .ref l2), (Str.ofString "C2D0", .ref l3), (Str.ofString "C2D1", .ref l4), (Str.ofString "C3D0", .ref l5), (Str.ofString "C3D1", .ref l6)]) (kvp := kvo) (rrs := rs) (by k_room) (by k_units) (X.keeps fun b o e => hb.1 _ _ (hgA _ _ e)) (T.keeps fun b o e => hb.1 _ _ (hgA _ _ e)) kcur (F6.keep _ _ hxB) (F6.keep _ _ hdB) (Heap.dictOf_iff.mpr ⟨ou, hb.1 _ _ hou, hun⟩) hum (valueAt_of_get hnd hkv) (hlB.at fun o e => hb.1 _ o e) (hrB.kp hb.1) (hgo _ hmem) hvl
      (N6 (pr, o₁) (.tail _ (.tail _ (.head _)))).1 hgvp hdict hpn (valueAt_no (by rw [hkeyo, List.map_take, ← htab.keys]; exact not_in_take hnd hget)) ?hkl (fun e => by rw [e, hxB] at hprB; cases hprB) (fun e => by rw [e, hdB] at hprB; cases hprB) (hnm _ hmem).1 (hnm _ hmem).2.1 (hnm _ hmem).2.2 ?_
    case hkl =>
      have := congrArg List.length hkeyo
      simp at this
      omega
    intro h' k' lt vs' o' g' e1 e2 e3 e4 e5 e6
    obtain ⟨rest', F7, N7, hI7, hoff7, hb7⟩ := tok_step F6 N6 ho5 hoff (Nat.ne_of_lt hlk) (Nat.ne_of_lt hlt) (Nat.ne_of_lt hlt2) e1 e2 e4 hb
    k_steps
    rename Fr _ _ _ _ => F8
    rename News _ _ _ _ => N8
    refine hP5 _ (UnrEnd.intro (s₁ := s5) F8 N8 ((lk, lo5) :: (pr, o') :: (at', _) :: (un, ou) :: rest') (fun p hp => hp) ?_ ⟨_, rfl, o', rest', g', kvo ++ [(nm, .ref lt)], rfl, hoff7, e3, hb7, ?_, rfl, rfl, rfl⟩)
    · exact List.forall_mem_cons.mpr ⟨ho5 _ (.head _), List.forall_mem_cons.mpr ⟨ho5 (pr, o₁) (.tail _ (.head _)), List.forall_mem_cons.mpr ⟨ho5 _ (.tail _ (.tail _ (.head _))), List.forall_mem_cons.mpr ⟨ho5 _ (.tail _ (.tail _ (.tail _ (.head _)))), hI7⟩⟩⟩⟩
    · rw [List.take_add_one, htb]
      exact (hto.kp e4.1).snoc e5 e6
  case done =>
    clear N5 F5
    intro m₁ news₁ h5 tk5 ⟨o₁, rest, gv, kvo, hn₁, hoff, hdict, hb, hto, q1, q2, q3⟩ F5 N5
    subst hn₁
    replace F5 := Fr.re (m' := fun y => if y = Str.ofString "processed" then some (.ref pr) else m₁ y) F5 (by
      intro y
      split
      · rename_i e; rw [e, q3]
      rfl)
    clear q1 q2 q3
    k_steps
    rename Fr _ _ _ _ => F9
    rename News _ _ _ _ => N9
    have hlt7 : tab.length = 7 := by simpa using (congrArg List.length htab.keys).symm
    rw [List.take_of_length_le (by rw [hlt7]; exact Nat.le_refl 7)] at hto
    obtain ⟨g', e1, e2, e3, e4⟩ := tok_done hgB hgBB hus hBk F9 N9 hlt hlt2 hua hoff hdict hb hto
    exact hR _ _ _ g' _ e1 hpn e2 e3 e4
end
end Mine
end
section
namespace Mine
section
variable {w : World} {d u : Nat} {gd : Option (List Code)} {base : Heap} {outer : List Env} {s : Shared} {p : Program} {loose : List Str} {mean : ExcName → Option Value} {mg mb : Str → Option Value}
local macro_rules | `(tactic| k_inst) => `(tactic| exact inst_base (by k_asm) (by assumption) (by assumption))
local macro_rules | `(tactic| k_room) => `(tactic| ((try simp only [depth_under_make, depth_under_kw, depth_in1, depth_deeper, depth_caller, depth_mk, Around.in1_depth, rl_is]); omega))
local macro_rules | `(tactic| k_units) => `(tactic| ((try simp only [Around.in1_units, Around.deeper_units, Around.mark_units, units_mk, cl_is]); omega))
local macro_rules | `(tactic| walk_at "truthy str") => `(tactic| (k_here; (with_reducible refine truthy_ch ?_); intro _))
local macro_rules | `(tactic| walk_at "call builtin:str.join") => `(tactic| (k_here; (refine join_one (by is_list) ?_); intro _ _))
local macro_rules | `(tactic| walk_at "MINE enter") => `(tactic| (refine' enter ?mX ?mT ?k6 ?k7 ?k8 ?k9 ?kB ?_ ?c2 ?c3 ?c4 ?c5; (case mX => assumption); (case mT => assumption); (case k6 => k_is); (case k7 => k_is); (case k8 => k_room); (case k9 => first | exact BindsTo.of_eq rfl | exact binds_K (by assumption) rfl (by k_is) rfl rfl rfl); (case c5 => decide); (case kB => exact locs rfl); (case c2 => exact rfl); (case c3 => exact rfl); (case c4 => exact rfl); intro L' h' F' N'; (try dsimp only)))
local macro_rules | `(tactic| walk_at "BRest") => `(tactic| (with_unfolding_all first | (refine BRest.succ (fun I' it' h' tk' hit' off' F' N' => ?_)) | (refine BRest.zero (fun h' tk' F' N' => ?_))))
local macro_rules | `(tactic| walk_at "MINE obj") => `(tactic| first | assumption | exact Fr.keep (by assumption) _ _ (by assumption) | exact News.get (by assumption) (by k_mem))
local macro_rules | `(tactic| walk_at "MINE lst") => `(tactic| first | assumption | exact Heap.IsList.at (by assumption) (fun o e => Fr.keep (by assumption) _ o e) | is_list)
local macro_rules | `(tactic| walk_at "MINE X") => `(tactic| first | assumption | exact Frag.In.keeps (by assumption) (Fr.keep (by assumption)))
local macro_rules | `(tactic| walk_at "MINE T") => `(tactic| first | assumption | exact Top.keeps (by assumption) (Fr.keep (by assumption)))
local macro_rules | `(tactic| walk_at "MINE B") => `(tactic| first | assumption | exact Below.push (by assumption) (by assumption))
local macro_rules | `(tactic| k_enter) => `(tactic| (refine' code_def0 ?k2 ?k3 ?k4 ?k5 ?k6 ?k7 ?k8 ?k9 ?kB ?_ ?c2 ?c3 ?c4 ?c5; (case k2 => k_asm); (case k3 => k_asm); (case k4 => k_asm); (case k5 => k_asm); (case k6 => k_is); (case k7 => k_is); (case k8 => k_room); (case k9 => first | exact BindsTo.of_eq rfl | exact binds_K (by k_in) rfl (by k_is) rfl rfl rfl | fail "k_enter: no rule for these arguments"); (case c5 => decide); (case kB => exact locs rfl); (case c2 => exact rfl); (case c3 => exact rfl); (case c4 => exact rfl); k_whole; intro g' L' h' FG' F' N' X' T'; (try dsimp only); (try k_fold)))
local macro_rules | `(tactic| walk_at "subscriptTail") => `(tactic| (k_here; (with_reducible show wpAny _ _ (subscriptTail _ _ (Value.ref _) (Value.str _ _)) _ _ _); k_dflt (refine tab_item (by k_asm) (by assumption) (by assumption) ?_)))
local macro_rules | `(tactic| walk_at "subscriptTail") => `(tactic| (k_here; (with_reducible show wpAny _ _ (subscriptTail _ _ (Value.ref _) (Value.int _ _)) _ _ _); k_dflt (refine stk_last (by is_list) (by assumption) ?_)))
local macro_rules | `(tactic| k_all) => `(tactic| first | assumption | exact ne_of_allL (by assumption) | exact ne_of_allLt (by assumption) | exact ne_of_allLt (And.right (by assumption)) | exact ne_of_allLt (And.right (And.right (by assumption))) | exact ne_of_allLt (And.right (And.right (And.right (by assumption)))))
local macro_rules | `(tactic| k_enter) => `(tactic| (kp_kind "rest"; (refine' code_rest0 ?k2 ?k3 ?k4 ?k5 ?k6 ?k7 ?k8 ?kV ?kP ?kG ?kB ?_ ?c2 ?c3 ?c4 ?c5; (case k2 => k_asm); (case k3 => k_asm); (case k4 => k_asm); (case k5 => k_asm); (case k6 => k_is); (case k7 => k_is); (case k8 => k_room); (case kV => exact rfl); (case kP => exact rfl); (case kG => exact fun _ => rfl); (case kB => exact fun _ => locs rfl); (case c5 => decide); (case c2 => exact rfl); (case c3 => exact rfl); (case c4 => exact rfl); k_whole; intro D' g' L' h' l1 FG' F' N' X' T'; (try k_lt l1); (try dsimp only); (try k_fold))))
local macro_rules | `(tactic| k_enter) => `(tactic| (kp_kind "more"; (refine' code_more0 ?k2 ?k3 ?k4 ?k5 ?k6 ?k7 ?k8 ?kP ?kK ?kB ?_ ?c2 ?c3 ?c4 ?c5; (case k2 => k_asm); (case k3 => k_asm); (case k4 => k_asm); (case k5 => k_asm); (case k6 => k_is); (case k7 => k_is); (case k8 => k_room); (case kP => exact rfl); (case kK => exact fun _ => rfl); (case kB => exact fun _ => locs rfl); (case c5 => decide); (case c2 => exact rfl); (case c3 => exact rfl); (case c4 => exact rfl); k_whole; intro D' o' g' L' h' tk' l1 lo' hd' fs' FG' F' N' X' T'; (try k_lt l1); (try dsimp only); (try k_fold))))
local macro_rules | `(tactic| k_enter) => `(tactic| (kp_kind "both"; (refine' code_both0 ?k2 ?k3 ?k4 ?k5 ?k6 ?k7 ?k8 ?kV ?kP ?kQ ?kK ?kB ?_ ?c2 ?c3 ?c4 ?c5; (case k2 => k_asm); (case k3 => k_asm); (case k4 => k_asm); (case k5 => k_asm); (case k6 => k_is); (case k7 => k_is); (case k8 => k_room); (case kV => exact rfl); (case kP => exact rfl); (case kQ => exact fun _ => rfl); (case kK => exact fun _ _ => rfl); (case kB => exact fun _ _ => locs rfl); (case c5 => decide); (case c2 => exact rfl); (case c3 => exact rfl); (case c4 => exact rfl); k_whole; intro C' D' g' L' h' tk' l1 l2 l3 FG' F' N' X' T'; (try k_lt l1); (try k_lt l3); (try dsimp only); (try k_fold))))
local macro_rules | `(tactic| walk_at "subscriptTail Name UnaryOp ref int") => `(tactic| (k_here; (with_reducible show wpAny _ _ (subscriptTail _ _ (Value.ref _) (Value.int _ _)) _ _ _); k_dflt (refine stk_last (by is_list) (by assumption) ?_)))
local macro_rules | `(tactic| walk_at "truthy ref") => `(tactic| (k_here; (with_reducible show wpAny _ _ (truthy (Value.ref _)) _ _ _); k_dflt (first | refine truthy_tup (b := false) (by assumption) (by assumption) (by first | exact Nat.le_of_ble_eq_true rfl | omega) rfl ?_ | refine truthy_tup (b := true) (by assumption) (by assumption) (by first | exact Nat.le_of_ble_eq_true rfl | omega) rfl ?_); intro _))
local macro_rules | `(tactic| walk_at "truthy str") => `(tactic| (k_here; (with_reducible show wpAny _ _ (truthy (Value.str _ _)) _ _ _); k_dflt (refine KXt.truthy_pos (K := 1000) (by omega) (by omega) (by omega) ?_); intro _))
local macro_rules | `(tactic| walk_at "StarOf ref") => `(tactic| (k_here; k_dflt (refine star_tup (by assumption) (by assumption) (by assumption) (by first | exact Nat.le_of_ble_eq_true rfl | omega) ?_); intro h' F' N'; (try dsimp only [List.nil_append, List.cons_append]); (try k_sweep)))
local macro_rules | `(tactic| walk_at "callWith ref") => `(tactic| (k_here; (with_reducible show wpAny _ _ (callWith _ (Value.ref _) _ (backTo _ (starEach (Expr.Starred _ _ :: _ :: _) _)) []) _ _ _); k_dflt (refine' callWith_S3 ?k1 ?k2 ?_; (case k1 => k_asm); (case k2 => k_is); k_whole)))
local macro_rules | `(tactic| walk_at "call type:str") => `(tactic| (k_here; (with_reducible show wpAny _ _ (call (Value.type "str") [Value.int _ _]) _ _ _); k_dflt (refine str_int9 (by omega) (by omega) ?_); intro _ _))
local macro_rules | `(tactic| walk_at "MINE enterC") => `(tactic| (refine' enterC ?mX ?mT ?k6 ?k7 ?k8 ?k9 ?kB ?kD ?_ ?c2 ?c3 ?c4; (case mX => assumption); (case mT => assumption); (case k6 => k_is); (case k7 => k_is); (case k8 => k_room); (case k9 => first | exact BindsTo.of_eq rfl | exact binds_K (by assumption) rfl (by k_is) rfl rfl rfl); (case kB => exact rfl); (case kD => decide +kernel); (case c2 => exact rfl); (case c3 => exact rfl); (case c4 => exact rfl); intro L' h' tk' cells' F' N' Y'; k_cells Y'; (try simp only [List.cons_append, List.nil_append] at N'); (try dsimp only)))
local macro_rules | `(tactic| walk_at "compareOp In str ref") => `(tactic| (k_here; (with_reducible show wpAny _ _ (compareOp _ (Value.str _ _) (Value.ref _)) _ _ _); k_dflt (refine in_map (by assumption) (by assumption) (by assumption) (by assumption) ?_); intro _))
local macro_rules | `(tactic| walk_at "call builtin:isinstance") => `(tactic| (k_here; (with_reducible show wpAny _ _ (call _ [Value.ref _, Value.type _]) _ _ _); k_dflt (refine' kia_one kitx_tuple ?X ?c ?ee ?nb ?_; (case c => exact kitAt_B (by assumption) (by assumption)); (case X => walk_at "MINE X"); (case ee => kit_is); (case nb => kit_nb); k_whole; intro _)))
local macro_rules | `(tactic| walk_at "call builtin:isinstance") => `(tactic| (k_here; (with_reducible show wpAny _ _ (call _ [Value.ref _, Value.ref _]) _ _ _); k_dflt (refine' kia_one kitx_tuple ?X ?c ?ee ?nb ?_; (case c => exact kitAt_B (by assumption) (by assumption)); (case X => walk_at "MINE X"); (case ee => kit_is); (case nb => kit_nb); k_whole; intro _)))
local macro_rules | `(tactic| walk_at "call type:type") => `(tactic| (k_here; (with_reducible show wpAny _ _ (call (Value.type "type") [Value.ref _]) _ _ _); k_dflt (refine kto_cont (T := "tuple") (kitAt_B (by assumption) (by assumption)) (by decide +kernel) ?_)))
local macro_rules | `(tactic| walk_at "MINE zz") => `(tactic| skip)
local macro_rules | `(tactic| walk_at "call builtin:dict.get") => `(tactic| (k_here; (with_reducible show wpAny _ _ (call _ [Value.ref _, Value.str _ _, Value.ref _]) _ _ _); k_dflt (refine dget_none (by assumption) (by k_mem) (by assumption) (by assumption) (by rfl) ?_); intro _))
local macro_rules | `(tactic| walk_at "pyIter ref") => `(tactic| (k_here; (with_reducible show wpAny _ _ (pyIter (Value.ref _)) (fun it s₂ => LoopAtV _ _ _ _ _ _ _ _ _ it s₂) _ _); k_dflt (refine iter_T0 rfl (by assumption) (by assumption) (by k_mem) rfl rfl ?_); intro h' tk' F' N'; (try k_sweep)))
local macro_rules | `(tactic| walk_at "exec For Name Call cons nil") => `(tactic| (k_here; (with_unfolding_all refine' For_invVF (by assumption) ?k1 ?k2 ?_); (case k1 => exact rfl); (case k2 => exact rfl)))
local macro_rules | `(tactic| walk_at "call ref") => `(tactic| (k_here; (with_reducible show wpAny _ _ (call (Value.ref 463) _) _ _ _); refine park ?_))
local macro_rules | `(tactic| walk_at "call ref") => `(tactic| (k_here; (with_reducible show wpAny _ _ (call (Value.ref 506) _) _ _ _); refine park ?_))
theorem t_rinit {h₀ gv : Heap} {L x dx table : Addr} {m : Str → Option Value} {o : Obj} {rest : List (Addr × Obj)} {l0 l1 l2 l3 l4 l5 l6 : Addr} {tab : List (Str × List Raw)} {R : Result → Shared → Prop}
  (hd9 : d < 460) (hu9 : u < 840)
  (F : Fr h₀ L s.heap m) (X : (Mine.hd2.heap_39 w.params).In h₀) (T : Top p loose mean mg mb h₀)
  (N : News h₀ L s.heap ((x, instObj 634 dx) :: (dx, dictOf [] 0) :: (table, o) :: rest)) (hts : (table == sysModules) = false) (hto : o.IsDictOf (PySem.strKind PG w) [(Str.ofString "root", .ref l0), (Str.ofString "C1D0", .ref l1), (Str.ofString "C1D1", .ref l2), (Str.ofString "C2D0", .ref l3), (Str.ofString "C2D1", .ref l4), (Str.ofString "C3D0", .ref l5), (Str.ofString "C3D1", .ref l6)])
  (hb : BearsG h₀ rest gv) (htab : TabR gv [(Str.ofString "root", .ref l0), (Str.ofString "C1D0", .ref l1), (Str.ofString "C1D1", .ref l2), (Str.ofString "C2D0", .ref l3), (Str.ofString "C2D1", .ref l4), (Str.ofString "C3D0", .ref l5), (Str.ofString "C3D1", .ref l6)] tab) (h1 : @LT.lt Nat _ dx x) (h2 : @LT.lt Nat _ table dx) (hoffd : ∀ p ∈ rest, p.1 ≠ dx) (hoffx : ∀ p ∈ rest, p.1 ≠ x) (hofft : ∀ p ∈ rest, p.1 ≠ table)
  (hnm : ∀ e ∈ tab, 1 ≤ e.1.length ∧ e.1.length ≤ 1000 ∧ (Txt.item e.1 0 == Str.ofString "#") = false) (htl : tab.length ≤ 1000)
  (hgo : ∀ e ∈ tab, ∀ r ∈ e.2, ∀ ts, r.act = .goT ts → ∀ t ∈ ts, t ∈ [Str.ofString "root", Str.ofString "C1D0", Str.ofString "C1D1", Str.ofString "C2D0", Str.ofString "C2D1", Str.ofString "C3D0", Str.ofString "C3D1"] ∨ t = Str.ofString "#pop")
  (hR : ∀ h' k pr g3 kvo rest3 (a1 a2 a3 a4 a5 a6 a7 a8 a9 : Int) (b1 b2 b3 b4 b5 b6 b7 b8 b9 : Nat) (v1 v2 v3 v4 v5 v6 v7 v8 : Value), Fr h₀ L h' m → News h₀ L h' ((dx, dictOf [⟨a1, .str "options" b1, v1⟩, ⟨a2, .str "stripnl" b2, v2⟩, ⟨a3, .str "stripall" b3, v3⟩, ⟨a4, .str "ensurenl" b4, v4⟩, ⟨a5, .str "filters" b5, v5⟩, ⟨a6, .str "tables" b6, v6⟩, ⟨a7, .str "_all_tokens" b7, v7⟩, ⟨a8, .str "_tmpname" b8, v8⟩, ⟨a9, .str "_tokens" b9, .ref pr⟩] 9) :: (x, instObj 634 dx) :: rest3) → (∀ p ∈ rest3, p.1 ≠ dx) → (∀ p ∈ rest3, p.1 ≠ x) → BearsG h₀ rest3 g3 → g3.DictOf (PySem.strKind PG w) pr kvo → TabO g3 kvo tab → R (.ok (.ret .none)) {s with heap := h', toks := k})
  : codeAny (model PG w) ⟨none, d, some outer, gd, u⟩ (.call (.ref 533) ⟨[.ref x, .ref table], []⟩) R s := by
  (refine' code_both0 F X N T ?k6 ?k7 ?k8 ?kV ?kP ?kQ ?kK ?kB ?_ ?c2 ?c3 ?c4 ?c5; (case k6 => k_is); (case k7 => k_is); (case k8 => k_room); (case kV => exact rfl); (case kP => exact rfl); (case kQ => exact fun _ => rfl); (case kK => exact fun _ _ => rfl); (case kB => exact fun _ _ => locs rfl); (case c5 => decide); (case c2 => exact rfl); (case c3 => exact rfl); (case c4 => exact rfl); intro C' D' g' L' h' tk' l1 l2 l3 FG' F' N' X' T'; (try dsimp only))
  have hDm : (D' == sysModules) = false := by
    have a1 : @LT.lt Nat _ x D' := l3 _ (.head _)
    have a2 : @LT.lt Nat _ dx x := h1
    have a3 : @LT.lt Nat _ table dx := h2
    exact beq_eq_false_iff_ne.mpr (Nat.ne_of_gt (by show @LT.lt Nat _ 1 D'; omega))
  have hoffC : ∀ p ∈ rest, p.1 ≠ C' := fun p hp => Nat.ne_of_lt (l1 p (.tail _ (.tail _ (.tail _ hp))))
  k_lt l1
  k_lt l3
  replace l2 : @LT.lt Nat _ C' D' := l2
  k_steps
  refine eval_MethodKw (by rfl) ?_
  k_steps
  refine callWith_kw (K := Mine.hd2.heap_39 w.params) (D := D') (by assumption) (by k_is) ?_ (fun s' m Q' F hv h => ld F hv h)
  k_steps
  refine unpark ⟨_, _, by assumption, by assumption, rfl, by k_mem, hDm, by k_in, fun h9 F9 N9 => ?_⟩
  k_sweep
  k_steps
  have htab0 := htab
  obtain ⟨v0, r0, tab0, rfl, a0, b0, c0, htab⟩ := htab.inv
  obtain ⟨v1, r1, tab1, rfl, a1, b1, c1, htab⟩ := htab.inv
  obtain ⟨v2, r2, tab2, rfl, a2, b2, c2, htab⟩ := htab.inv
  obtain ⟨v3, r3, tab3, rfl, a3, b3, c3, htab⟩ := htab.inv
  obtain ⟨v4, r4, tab4, rfl, a4, b4, c4, htab⟩ := htab.inv
  obtain ⟨v5, r5, tab5, rfl, a5, b5, c5, htab⟩ := htab.inv
  obtain ⟨v6, r6, tab6, rfl, a6, b6, c6, htab⟩ := htab.inv
  cases htab
  rename Fr _ _ _ _ => F6
  rename News _ _ _ _ => N6
  refine unpark ?_
  refine wpAny_call ?_
  rename Fr g' L' _ _ => FG2
  rename _ ∧ _ ∧ _ ∧ _ ∧ C' < _ ∧ x < _ ∧ dx < _ ∧ table < _ ∧ AllLt _ rest => L9
  obtain ⟨at', eat, hxat⟩ := name_lt L9.2.2.2.2.2.1
  subst eat
  have hdat := L9.2.2.2.2.2.2.1
  have hrat : ∀ p ∈ rest, p.1 ≠ at' := ne_of_allLt L9.2.2.2.2.2.2.2.2
  have kg6 : Keeps g' _ := fun b o e => F6.keep b o (FG2.keep b o e)
  have hL9 : ∃ oL, Heap.get? _ L' = some oL := let ⟨oL, _, _, hL, _⟩ := FG2.ns; ⟨oL, F6.keep _ _ hL⟩
  have hmat := (N6 (at', _) (by k_mem)).1
  have hmx := (N6 (x, instObj 634 dx) (by k_mem)).1
  have hmd := (N6 (dx, _) (by k_mem)).1
  have hgat : gv.get? at' = none := bears_none hb (none_of FG'.keep (none_of FG2.keep (N6 (at', _) (by k_mem)).2.2)) hrat
  have kgv : Keeps gv _ := fun b o e => by
    rcases hb.2 b o e with q | q
    · exact F6.keep b o (FG2.keep b o (FG'.keep b o q))
    · exact (N6 (b, o) (by repeat (first | exact q | refine List.Mem.tail _ ?_))).1
  have hgt : gv.get? table = none := bears_none hb (N (table, o) (by k_mem)).2.2 hofft
  have hgdx : gv.get? dx = none := bears_none hb (N (dx, dictOf [] 0) (by k_mem)).2.2 hoffd
  have hgx : gv.get? x = none := bears_none hb (N (x, instObj 634 dx) (by k_mem)).2.2 hoffx
  have hgC : gv.get? C' = none := bears_none hb (none_of FG'.keep (N' (C', _) (by k_mem)).2.2) hoffC
  refine t_merged (g := gv) (X.keeps hb.1) (T.keeps hb.1) kgv (by k_room) (by k_units) hts (N6 (table, o) (by k_mem)).1 hgt hto (N6 (C', _) (by k_mem)).1 hgC a0 b0.tup c0 a1 b1.tup c1 a2 b2.tup c2 a3 b3.tup c3 a4 b4.tup c4 a5 b5.tup c5 a6 b6.tup c6 ?_
  intro h6 k6 un D0 D1 D2 D3 D4 D5 D6 g2 e1 e2 e3 e4 e5 f0 f1 f2 f3 f4 f5 f6
  obtain ⟨ou, hou, hun⟩ := Heap.dictOf_iff.mp e4
  have F7 := Fr.keeps F6 e1
  have N7 := News.grown N6 e1
  k_sweep
  k_steps
  rename Fr _ _ _ _ => F8
  rename News _ _ _ _ => N8
  refine unpark ?_
  refine wpAny_call ?_
  have htab2 : TabR g2 [(Str.ofString "root", .ref D0), (Str.ofString "C1D0", .ref D1), (Str.ofString "C1D1", .ref D2), (Str.ofString "C2D0", .ref D3), (Str.ofString "C2D1", .ref D4), (Str.ofString "C3D0", .ref D5), (Str.ofString "C3D1", .ref D6)] _ := .cons f0 (b0.kp e2.1) c0 (.cons f1 (b1.kp e2.1) c1 (.cons f2 (b2.kp e2.1) c2 (.cons f3 (b3.kp e2.1) c3 (.cons f4 (b4.kp e2.1) c4 (.cons f5 (b5.kp e2.1) c5 (.cons f6 (b6.kp e2.1) c6 (.nil)))))))
  have hg2at : g2.get? at' = none := e2.none hgat hmat
  have hunat : un ≠ at' := fun e => by rw [← e, e3] at hmat; cases hmat
  have hunx : un ≠ x := fun e => by rw [← e, e3] at hmx; cases hmx
  have hund : un ≠ dx := fun e => by rw [← e, e3] at hmd; cases hmd
  refine t_tokdef (gA := gv) (gB := g2) (by k_room) (by k_units) (X.keeps hb.1) (T.keeps hb.1) e2.1 e2.2.1 (N8 (x, instObj 634 dx) (by k_mem)).1 (N8 (dx, _) (by k_mem)).1 hou hun e5 (none_of kgv e3) (N8 (at', _) (by k_mem)).1 (by assumption) hg2at (by assumption) (Nat.ne_of_gt hxat) (Nat.ne_of_gt hdat) hunat hunx hund hnm htl
    (fun e he r hr ts ha t ht => val_or (names := [Str.ofString "root", Str.ofString "C1D0", Str.ofString "C1D1", Str.ofString "C2D0", Str.ofString "C2D1", Str.ofString "C3D0", Str.ofString "C3D1"]) rfl (hgo e he r hr ts ha t ht) (by decide +kernel)) ?_ htab2
  intro h7 k7 pr g3 kvo e1' e2' e3' e4' e5'
  have F9 := LCg.fr_but F8 (fun b o hn e => e1' b o (by simpa using hn) e) (Ne.symm (N8 (at', _) (by k_mem)).2.1) (N8 (at', _) (by k_mem)).2.2
  have N9 := rin_step (rest := rest) N8 (dx := dx) (x := x) (ox := instObj 634 dx) (by k_mem) (by k_mem) (fun p hp => by repeat (first | exact hp | refine List.Mem.tail _ ?_)) (Nat.ne_of_lt hdat) (Nat.ne_of_lt hxat) hrat e1'
  have E9 := Ext.trans e2 e1 e3'
  obtain ⟨rest3, N10, off3, hb3, _⟩ := absorb kg6 (fun e => by obtain ⟨oL, hL⟩ := hL9; cases hL.symm.trans e) (List.forall_mem_cons.mpr ⟨fun e => (by rw [hmd] at e; cases e), List.forall_mem_cons.mpr ⟨fun e => (by rw [hmx] at e; cases e), fun _ h => (List.not_mem_nil h).elim⟩⟩) N9 (fun p hp => List.forall_mem_cons.mpr ⟨hoffd p hp, List.forall_mem_cons.mpr ⟨hoffx p hp, fun _ h => (List.not_mem_nil h).elim⟩⟩) hb E9
  have hoff3d : ∀ p ∈ rest3, p.1 ≠ dx := fun p hp => off3 p hp _ (.head _)
  have hoff3x : ∀ p ∈ rest3, p.1 ≠ x := fun p hp => off3 p hp _ (.tail _ (.head _))
  clear N9
  dsimp only [List.cons_append, List.nil_append] at N10
  k_sweep
  k_steps
  rename Fr _ _ _ _ => FZ
  rename News _ _ _ _ => NZ
  exact hR _ _ pr g3 kvo rest3 _ _ _ _ _ _ _ _ _ _ _ _ _ _ _ _ _ _ _ _ _ _ _ _ _ _ FZ NZ hoff3d hoff3x hb3 e4' e5'
end
end Mine
end
section
namespace Mine
section
variable {w : World} {d u : Nat} {gd : Option (List Code)} {base : Heap} {outer : List Env} {s : Shared} {p : Program} {loose : List Str} {mean : ExcName → Option Value} {mg mb : Str → Option Value}
local macro_rules | `(tactic| k_inst) => `(tactic| exact inst_base (by k_asm) (by assumption) (by assumption))
local macro_rules | `(tactic| k_room) => `(tactic| ((try simp only [depth_under_make, depth_under_kw, depth_in1, depth_deeper, depth_caller, depth_mk, Around.in1_depth, rl_is]); omega))
local macro_rules | `(tactic| k_units) => `(tactic| ((try simp only [Around.in1_units, Around.deeper_units, Around.mark_units, units_mk, cl_is]); omega))
local macro_rules | `(tactic| walk_at "truthy str") => `(tactic| (k_here; (with_reducible refine truthy_ch ?_); intro _))
local macro_rules | `(tactic| walk_at "call builtin:str.join") => `(tactic| (k_here; (refine join_one (by is_list) ?_); intro _ _))
local macro_rules | `(tactic| walk_at "MINE enter") => `(tactic| (refine' enter ?mX ?mT ?k6 ?k7 ?k8 ?k9 ?kB ?_ ?c2 ?c3 ?c4 ?c5; (case mX => assumption); (case mT => assumption); (case k6 => k_is); (case k7 => k_is); (case k8 => k_room); (case k9 => first | exact BindsTo.of_eq rfl | exact binds_K (by assumption) rfl (by k_is) rfl rfl rfl); (case c5 => decide); (case kB => exact locs rfl); (case c2 => exact rfl); (case c3 => exact rfl); (case c4 => exact rfl); intro L' h' F' N'; (try dsimp only)))
local macro_rules | `(tactic| walk_at "BRest") => `(tactic| (with_unfolding_all first | (refine BRest.succ (fun I' it' h' tk' hit' off' F' N' => ?_)) | (refine BRest.zero (fun h' tk' F' N' => ?_))))
local macro_rules | `(tactic| walk_at "MINE obj") => `(tactic| first | assumption | exact Fr.keep (by assumption) _ _ (by assumption) | exact News.get (by assumption) (by k_mem))
local macro_rules | `(tactic| walk_at "MINE lst") => `(tactic| first | assumption | exact Heap.IsList.at (by assumption) (fun o e => Fr.keep (by assumption) _ o e) | is_list)
local macro_rules | `(tactic| walk_at "MINE X") => `(tactic| first | assumption | exact Frag.In.keeps (by assumption) (Fr.keep (by assumption)))
local macro_rules | `(tactic| walk_at "MINE T") => `(tactic| first | assumption | exact Top.keeps (by assumption) (Fr.keep (by assumption)))
local macro_rules | `(tactic| walk_at "MINE B") => `(tactic| first | assumption | exact Below.push (by assumption) (by assumption))
local macro_rules | `(tactic| k_enter) => `(tactic| (refine' code_def0 ?k2 ?k3 ?k4 ?k5 ?k6 ?k7 ?k8 ?k9 ?kB ?_ ?c2 ?c3 ?c4 ?c5; (case k2 => k_asm); (case k3 => k_asm); (case k4 => k_asm); (case k5 => k_asm); (case k6 => k_is); (case k7 => k_is); (case k8 => k_room); (case k9 => first | exact BindsTo.of_eq rfl | exact binds_K (by k_in) rfl (by k_is) rfl rfl rfl | fail "k_enter: no rule for these arguments"); (case c5 => decide); (case kB => exact locs rfl); (case c2 => exact rfl); (case c3 => exact rfl); (case c4 => exact rfl); k_whole; intro g' L' h' FG' F' N' X' T'; (try dsimp only); (try k_fold)))
local macro_rules | `(tactic| walk_at "subscriptTail") => `(tactic| (k_here; (with_reducible show wpAny _ _ (subscriptTail _ _ (Value.ref _) (Value.str _ _)) _ _ _); k_dflt (refine tab_item (by k_asm) (by assumption) (by assumption) ?_)))
local macro_rules | `(tactic| walk_at "subscriptTail") => `(tactic| (k_here; (with_reducible show wpAny _ _ (subscriptTail _ _ (Value.ref _) (Value.int _ _)) _ _ _); k_dflt (refine stk_last (by is_list) (by assumption) ?_)))
local macro_rules | `(tactic| k_all) => `(tactic| first | assumption | exact ne_of_allL (by assumption) | exact ne_of_allLt (by assumption) | exact ne_of_allLt (And.right (by assumption)) | exact ne_of_allLt (And.right (And.right (by assumption))) | exact ne_of_allLt (And.right (And.right (And.right (by assumption)))))
local macro_rules | `(tactic| k_enter) => `(tactic| (kp_kind "rest"; (refine' code_rest0 ?k2 ?k3 ?k4 ?k5 ?k6 ?k7 ?k8 ?kV ?kP ?kG ?kB ?_ ?c2 ?c3 ?c4 ?c5; (case k2 => k_asm); (case k3 => k_asm); (case k4 => k_asm); (case k5 => k_asm); (case k6 => k_is); (case k7 => k_is); (case k8 => k_room); (case kV => exact rfl); (case kP => exact rfl); (case kG => exact fun _ => rfl); (case kB => exact fun _ => locs rfl); (case c5 => decide); (case c2 => exact rfl); (case c3 => exact rfl); (case c4 => exact rfl); k_whole; intro D' g' L' h' l1 FG' F' N' X' T'; (try k_lt l1); (try dsimp only); (try k_fold))))
local macro_rules | `(tactic| k_enter) => `(tactic| (kp_kind "more"; (refine' code_more0 ?k2 ?k3 ?k4 ?k5 ?k6 ?k7 ?k8 ?kP ?kK ?kB ?_ ?c2 ?c3 ?c4 ?c5; (case k2 => k_asm); (case k3 => k_asm); (case k4 => k_asm); (case k5 => k_asm); (case k6 => k_is); (case k7 => k_is); (case k8 => k_room); (case kP => exact rfl); (case kK => exact fun _ => rfl); (case kB => exact fun _ => locs rfl); (case c5 => decide); (case c2 => exact rfl); (case c3 => exact rfl); (case c4 => exact rfl); k_whole; intro D' o' g' L' h' tk' l1 lo' hd' fs' FG' F' N' X' T'; (try k_lt l1); (try dsimp only); (try k_fold))))
local macro_rules | `(tactic| k_enter) => `(tactic| (kp_kind "both"; (refine' code_both0 ?k2 ?k3 ?k4 ?k5 ?k6 ?k7 ?k8 ?kV ?kP ?kQ ?kK ?kB ?_ ?c2 ?c3 ?c4 ?c5; (case k2 => k_asm); (case k3 => k_asm); (case k4 => k_asm); (case k5 => k_asm); (case k6 => k_is); (case k7 => k_is); (case k8 => k_room); (case kV => exact rfl); (case kP => exact rfl); (case kQ => exact fun _ => rfl); (case kK => exact fun _ _ => rfl); (case kB => exact fun _ _ => locs rfl); (case c5 => decide); (case c2 => exact rfl); (case c3 => exact rfl); (case c4 => exact rfl); k_whole; intro C' D' g' L' h' tk' l1 l2 l3 FG' F' N' X' T'; (try k_lt l1); (try k_lt l3); (try dsimp only); (try k_fold))))
local macro_rules | `(tactic| walk_at "subscriptTail Name UnaryOp ref int") => `(tactic| (k_here; (with_reducible show wpAny _ _ (subscriptTail _ _ (Value.ref _) (Value.int _ _)) _ _ _); k_dflt (refine stk_last (by is_list) (by assumption) ?_)))
theorem swap_mem {α : Type} {a b p : α} {rest : List α} (h : p ∈ a :: b :: rest) : p ∈ b :: a :: rest := by
  rcases List.mem_cons.mp h with rfl | h
  · exact .tail _ (.head _)
  rcases List.mem_cons.mp h with rfl | h
  · exact .head _
  · exact .tail _ (.tail _ h)
theorem nw_swap {h₀ h : Heap} {L : Addr} {a b : Addr × Obj} {rest : List (Addr × Obj)} (N : News h₀ L h (a :: b :: rest)) : News h₀ L h (b :: a :: rest) := fun p hp => N p (swap_mem hp)
theorem fr_forget {h₀ h : Heap} {L tab S l : Addr} {m : Str → Option Value} {text : Str} {t1 : Tok} {pos : Int} {z : Value} (F : Fr h₀ L h m) (q1 : m (Str.ofString "text") = some (.str text t1)) (q2 : m (Str.ofString "tokendefs") = some (.ref tab)) (q3 : m (Str.ofString "statestack") = some (.ref S))
   (q4 : ∃ tp, m (Str.ofString "pos") = some (.int pos tp)) (q5 : m (Str.ofString "new_state") = some z) (q6 : m (Str.ofString "statetokens") = some (.ref l)) :
   ∃ (mm : Str → Option Value) (tp : Tok), Fr h₀ L h (fun y => if y = Str.ofString "text" then some (.str text t1) else if y = Str.ofString "tokendefs" then some (.ref tab) else if y = Str.ofString "statestack" then some (.ref S) else if y = Str.ofString "pos" then some (.int pos tp) else if y = Str.ofString "new_state" then some z else if y = Str.ofString "statetokens" then some (.ref l) else mm y) := by
  obtain ⟨tp, q4⟩ := q4
  refine ⟨m, tp, Fr.re F fun y => ?_⟩
  split
  · rename_i e; rw [e, q1]
  split
  · rename_i e; rw [e, q2]
  split
  · rename_i e; rw [e, q3]
  split
  · rename_i e; rw [e, q4]
  split
  · rename_i e; rw [e, q5]
  split
  · rename_i e; rw [e, q6]
  rfl
theorem nw_forget {h₀ h hs : Heap} {L S : Addr} {ol : Obj} {rest : List (Addr × Obj)} (N : News h₀ L h ((S, ol) :: rest)) (off : ∀ p ∈ rest, p.1 ≠ S) (C : Cover h₀ L (some S) hs rest) :
  ∃ rest3, News h₀ L h ((S, ol) :: rest3) ∧ (∀ p ∈ rest3, p.1 ≠ S) ∧ Cover h₀ L (some S) hs rest3 := ⟨rest, N, off, C⟩
theorem txt_item {text : Str} {pos c : Nat} (h : text.cps[pos]? = some c) : Txt.item text (pos : Int) = ⟨#[c]⟩ := by
  have hl := lt_at h
  unfold Txt.item Txt.charAt
  rw [seqIndex_of (by omega) (by omega)]
  simp [h]
theorem nl_is : (Str.ofString "\n") = (⟨#[10]⟩ : Str) := by decide +kernel
theorem one_is {c : Nat} (h : (⟨#[c]⟩ : Str) = Str.ofString "\n") : c = 10 := by
  have e : (Str.ofString "\n") = (⟨#[10]⟩ : Str) := by decide +kernel
  rw [e] at h
  injection h with h
  simpa using h
theorem gen_enter {K : Frag} {name qual : Str} {params : Arguments} {body : List Stmt} {scope : Scope} {dV kV doc pm cdv ct oc : Value} {an od : Option Addr} {osl : Array (Option Value)} {f : Addr} {args : Args} {binds : List (Str × Value)}
    {A : Around} {R : Result → Shared → Prop} (X : K.In s.heap) (T : Top p loose mean mg mb s.heap)
    (ho : K.lookup f = some ⟨oc, od, .func (fnOf name qual params body scope dV kV doc pm an cdv ct), osl⟩) (hcd : codeIn K cdv qual = true) (hroom : A.depth < recursionLimit)
    (hbind : BindsTo s (fnOf name qual params body scope dV kV doc pm an cdv ct) args binds) (hloc : ∀ y ∈ binds, scope.names.lookup y.1 = some .local)
    (hco : scope.isCoroutine = false) (hgen : scope.isGenerator = true) (hk : scope.kind = .function)
    (hcell : ∀ x ∈ scope.names, x.2 ≠ .cell)
    (h : ∀ Lg h' ga k, Lg = s.heap.objs.size → Keeps s.heap h' → h'.Ns Lg (fun y => binds.reverse.lookup y) → h'.IsGen ga s.gens.size →
      R (.ok (.ret (.ref ga))) { s with heap := h', toks := k, gens := s.gens.push (.fresh (.func body (envOf qual scope Lg f cdv))) }) :
    codeAny (model PG w) A (.call (.ref f) args) R s := by
  refine codeAny_call_generator (fd := fnOf name qual params body scope dV kV doc pm an cdv ct) (body := body) hroom (X _ _ ho) rfl hco hgen rfl (codeRec_of X hcd) (hbind _ _ _ _ ?_)
  refine wpAny_newFunctionEnv hcell hloc (fun h₁ hns hsb => ⟨T.nolimit.fresh _ hsb, ?_⟩) hk
  have up : Keeps s.heap h₁ := fun b o e => hsb.extBut b o (Nat.ne_of_lt (Heap.lt_size e)) (Heap.get?_push_of_some _ e)
  refine h s.heap.objs.size _ _ _ rfl (fun b o e => Heap.get?_push_of_some _ (up b o e)) (hns.keeps fun b o e => Heap.get?_push_of_some _ e) ⟨_, _, _, Heap.get?_push_size _ rfl, rfl, rfl, rfl⟩
local macro_rules | `(tactic| walk_at "call builtin:len") => `(tactic| (k_here; (with_reducible show wpAny _ _ (call (Value.builtin "len") [Value.ref _]) _ _ _); (rename News _ _ _ _ => nX); k_dflt (refine len_S (pre := []) nX (by assumption) (by assumption) ?_); intro t' tk'))
local macro_rules | `(tactic| walk_at "call builtin:isinstance") => `(tactic| (k_here; (with_reducible show wpAny _ _ (call _ [Value.ref _, Value.type _]) _ _ _); k_dflt (refine' kia_one kitx_tuple ?X ?c ?ee ?nb ?_; (case c => exact kitAt_B (by assumption) (by assumption)); (case X => walk_at "MINE X"); (case ee => kit_is); (case nb => kit_nb); k_whole; intro _)))
local macro_rules | `(tactic| walk_at "call builtin:list.append") => `(tactic| (k_here; (with_reducible show wpAny _ _ (call _ [Value.ref _, _]) _ _ _); (rename Fr _ _ _ _ => fX); (rename News _ _ _ _ => nX); k_dflt (refine append_S (pre := []) fX nX (fun _ hp => nomatch hp) (by assumption) (by assumption) ?_); (intro h' F' N'); (try dsimp only [List.nil_append, List.cons_append] at N'); (try k_sweep)))
local macro_rules | `(tactic| walk_at "call builtin:list.pop") => `(tactic| (k_here; (with_reducible show wpAny _ _ (call _ [Value.ref _]) _ _ _); (rename Fr _ _ _ _ => fX); (rename News _ _ _ _ => nX); k_dflt (refine pop_S (pre := []) fX nX (fun _ hp => nomatch hp) (by assumption) (by assumption) (by assumption) ?_); (intro y' h' F' N'); (try dsimp only [List.nil_append, List.cons_append] at N'); (try k_sweep)))
local macro_rules | `(tactic| walk_at "call ref") => `(tactic| (k_here; (with_reducible show wpAny _ _ (call (Value.ref 583) _) _ _ _); k_dflt ((refine wpAny_call ?_); (refine' t_group ?sX ?sT ?sd ?su ?sh ?s1 ?s2 ?_; (case sX => walk_at "MINE X"); (case sT => walk_at "MINE T"); (case sd => k_room); (case su => k_units); (case sh => walk_at "MINE obj"); (case s1 => walk_at "MINE obj"); (case s2 => walk_at "MINE lst"); (intro h' k' hk' t'); (have F' := Fr.keeps (by assumption) hk'); (have N' := News.grown (by assumption) hk')))))
local macro_rules | `(tactic| walk_at "call ref") => `(tactic| (k_here; (with_reducible show wpAny _ _ (call (Value.ref 577) _) _ _ _); k_dflt ((refine wpAny_call ?_); (refine' t_end ?sX ?sT ?sd ?su ?h0 ?hp ?sh ?s1 ?s2 ?_; (case sX => walk_at "MINE X"); (case sT => walk_at "MINE T"); (case sd => k_room); (case su => k_units); (case sh => walk_at "MINE obj"); (case s1 => walk_at "MINE obj"); (case s2 => walk_at "MINE lst"); (case h0 => exact Int.natCast_nonneg _); (case hp => exact posLe (by assumption) (by assumption)); (intro h' k' hk' t'); (have F' := Fr.keeps (by assumption) hk'); (have N' := News.grown (by assumption) hk')))))
local macro_rules | `(tactic| walk_at "callWith ref") => `(tactic| (k_here; k_dflt (refine' callWith_Mb ?k1 ?k2 ?k3 ?k4 ?_; (case k1 => k_asm); (case k2 => k_asm); (case k3 => assumption); (case k4 => k_is))))
local macro_rules | `(tactic| walk_at "And") => `(tactic| ((with_reducible show MethP _ _ _ _ _ ∧ _); k_here; k_dflt (refine ⟨methPb (by assumption) (by assumption) (by walk_at "MINE X"), ?_⟩); try dsimp only [List.nil_append, List.cons_append]))
theorem gen_call {h₀ : Heap} {x dx tab : Addr} {TT : Tab} {text : Str} {R : Result → Shared → Prop}
  {a1 a2 a3 a4 a5 a6 a7 a8 a9 : Int} {t1 b1 b2 b3 b4 b5 b6 b7 b8 b9 : Nat} {v1 v2 v3 v4 v5 v6 v7 v8 : Value}
  (hd9 : d < 490) (hu9 : u < 900)
  (X₀ : (Mine.hd2.heap_39 w.params).In h₀) (T₀ : Top p loose mean mg mb h₀)
  (hx : h₀.get? x = some (instObj 634 dx)) 
  (hd : h₀.get? dx = some (dictOf [⟨a1, .str "options" b1, v1⟩, ⟨a2, .str "stripnl" b2, v2⟩, ⟨a3, .str "stripall" b3, v3⟩, ⟨a4, .str "ensurenl" b4, v4⟩, ⟨a5, .str "filters" b5, v5⟩, ⟨a6, .str "tables" b6, v6⟩, ⟨a7, .str "_all_tokens" b7, v7⟩, ⟨a8, .str "_tmpname" b8, v8⟩, ⟨a9, .str "_tokens" b9, .ref tab⟩] 9))
  (hT : TableAt PG w 66 613 610 449 h₀ tab TT) (htl : text.length ≤ 1000)
  (hpl : ∀ nm rows, TT nm = some rows → ∀ r ∈ rows, r.pat ≠ none)
  {fuel : Nat} (hfu : fuel ≤ 5000) {all : List LTok} (hlex : lex TT fuel [Str.ofString "root"] text.cps.toList 0 = some all)
  (X : (Mine.hd2.heap_39 w.params).In s.heap) (T : Top p loose mean mg mb s.heap) (hk0 : Keeps h₀ s.heap) (hsz : h₀.objs.size ≤ s.heap.objs.size)
  (hR : ∀ (Lg ga : Addr) (c : Code) (h' : Heap) (k : Nat), Lg = s.heap.objs.size → Keeps s.heap h' → h'.IsGen ga s.gens.size → OwnS Lg h' none →
     (∀ (d u : Nat) (outer : List Env) (gd : Option (List Code)) (sx : Shared), d < 490 → u < 900 → (∀ o, h'.get? Lg = some o → sx.heap.get? Lg = some o) → Keeps h₀ sx.heap →
      Seg (model PG w) ⟨none, d, some outer, gd, u⟩ (genR Lg) (genY 66 h₀ Lg all) all.length sx c ((model PG w).den c) [] sx) →
     R (.ok (.ret (.ref ga))) { s with heap := h', toks := k, gens := s.gens.push (.fresh c) }) :
  codeAny (model PG w) ⟨none, d, some outer, gd, u⟩ (.call (.ref 542) ⟨[.ref x, .str text t1], []⟩) R s := by
  refine' gen_enter X T ?k6 ?k7 ?k8 ?k9 ?kB ?c2 ?c3 ?c4 ?c5 ?_
  case k6 => k_is
  case k7 => k_is
  case k8 => k_room
  case k9 => exact binds_K X rfl (by k_is) rfl rfl rfl
  case kB => exact locs rfl
  case c2 => exact rfl
  case c3 => exact rfl
  case c4 => exact rfl
  case c5 => decide
  intro Lg h' ga k hLg hkp hns hgen
  refine hR Lg ga _ h' k hLg hkp hgen ⟨_, hns, rfl⟩ ?_
  clear hR
  intro d u outer gd sx hd9 hu9 hL hk
  have F : Fr h₀ Lg sx.heap _ := ⟨hns.at' hL, hk, by omega⟩
  obtain ⟨rest, N, _, hcov⟩ := cover_exists h₀ sx.heap Lg none hk
  have own0 : OwnS Lg sx.heap none := ⟨_, F.ns, rfl⟩
  have hroot : IsTup h₀ 534 [Value.str (Str.ofString "root") 933].toArray := tupK X₀ (by k_is)
  have hws : KindAt 66 h₀ 76 wsNames := ⟨75, _, _, 77, [.str _ _, .str _ _], X₀ 76 _ (by k_is), X₀ 75 _ (by k_is), tupK X₀ (by k_is), .cons _ _ (.cons _ _ .nil)⟩
  have herr : KindAt 66 h₀ 80 errNames := ⟨79, _, _, 81, [.str _ _], X₀ 80 _ (by k_is), X₀ 79 _ (by k_is), tupK X₀ (by k_is), .cons _ _ .nil⟩
  clear hns hgen hkp hL hk X T
  obtain ⟨f, hm, hf⟩ := hT
  obtain ⟨kf, rows, rfl, htop⟩ := lex_top hlex
  obtain ⟨l, vs, hfl, hll, hrows⟩ := hf _ _ htop
  have hfl : f (Str.ofString "root") = some (.ref l) := hfl
  refine seg_func ?_
  refine sgo_plain (A' := ⟨none, d+1, some (_ :: outer), gd, u+3⟩) rfl ?_
  k_steps
  refine sgo_plain (A' := ⟨none, d+1, some (_ :: outer), gd, u+3⟩) rfl ?_
  k_steps
  refine sgo_plain (A' := ⟨none, d+1, some (_ :: outer), gd, u+3⟩) rfl ?_
  k_steps
  refine sgo_plain (A' := ⟨none, d+1, some (_ :: outer), gd, u+3⟩) rfl ?_
  k_steps
  refine seg_execs_cons ?_
  refine seg_While (fun pp => ?_)
  rename Fr _ _ _ _ => F1
  rename News _ _ _ _ => N1
  rename (∀ p ∈ rest, p.1 < _) => l1
  refine loop_intro (k := kf + 1) (tab := tab) (TT := TT) (text := text) (CP := 613) (fM := 610) (fN := 449) [Str.ofString "root"] hlex (by show 1 + 100 * (kf + 1) ≤ 1000000; omega) ⟨rfl, rfl⟩ ?gi ?step
  case gi => exact ⟨_, _, [.str (Str.ofString "root") 933], _, l, vs, rows, _, _, none, rest, F1, N1, ne_of_allL l1, .cons _ _ .nil, rfl, rfl, rfl, rfl, rfl, hll, hrows, htop, ⟨Nat.zero_le _, by simp⟩, own0, hcov, .inl rfl, .inr ((hcov.fresh (h := sx.heap) (N1 _ (.head _)).2.1 (N1 _ (.head _)).2.2 (ne_of_allL l1)).elim (fun z => nomatch z) id)⟩
  case step =>
    clear N1 F1 l1 hcov own0
    intro k IH st pos toks s₀ s hlex hle hall hst hgo hG
    obtain ⟨m, S, items, ne, l, vs, rows, t, t1, S₀, rest, F, N, hoff, hitems, mtext, mtab, mstk, mtoks, mpos, hll, hrows, htop, ⟨hpos, hstne⟩, hown, hcov, hSS, hSf⟩ := hG
    replace F := Fr.re (m' := fun y => if y = Str.ofString "text" then some (.str text t1) else if y = Str.ofString "tokendefs" then some (.ref tab) else if y = Str.ofString "statestack" then some (.ref S) else if y = Str.ofString "statetokens" then some (.ref l) else if y = Str.ofString "pos" then some (.int (pos : Int) t) else m y) F (by
      intro y
      split
      · rename_i e; rw [e, mtext]
      split
      · rename_i e; rw [e, mtab]
      split
      · rename_i e; rw [e, mstk]
      split
      · rename_i e; rw [e, mtoks]
      split
      · rename_i e; rw [e, mpos]
      rfl)
    clear mtext mtab mstk mtoks mpos
    refine sgo_whileLoop (A' := ⟨none, d+1, some (_ :: outer), gd, u+3⟩) rfl _ rfl ?_
    k_steps
    refine seg_execs_cons ?_
    refine sgo_For (A' := ⟨none, d+1, some (_ :: outer), gd, u+3⟩) rfl ?_
    k_steps
    refine it_start hll F N ?_
    intro I it h' tk hit hlt F1 N1 pq
    clear F N
    refine rows_intro (A' := ⟨none, d+1, some (_ :: outer), gd, u+3⟩) (txt := text.cps.toList.drop pos) rfl rfl _ rfl (fun m' => m' (Str.ofString "text") = some (.str text t1) ∧ m' (Str.ofString "tokendefs") = some (.ref tab) ∧ m' (Str.ofString "statestack") = some (.ref S) ∧ m' (Str.ofString "pos") = some (.int (pos : Int) t) ∧ m' (Str.ofString "statetokens") = some (.ref l)) hgo ⟨rfl, rfl, rfl, rfl, rfl⟩ hll hrows F1 hit N1 (ne_of_allL hlt) ?hend ?hturn
    case hend =>
      clear F1 N1 hit hlt
      clear it h' tk
      intro m' s' hgo hP F N hfind
      replace F := Fr.re (m' := fun y => if y = Str.ofString "text" then some (.str text t1) else if y = Str.ofString "tokendefs" then some (.ref tab) else if y = Str.ofString "statestack" then some (.ref S) else if y = Str.ofString "pos" then some (.int (pos : Int) t) else if y = Str.ofString "statetokens" then some (.ref l) else m' y) F (by
        intro y
        split
        · rename_i e; rw [e, hP.1]
        split
        · rename_i e; rw [e, hP.2.1]
        split
        · rename_i e; rw [e, hP.2.2.1]
        split
        · rename_i e; rw [e, hP.2.2.2.1]
        split
        · rename_i e; rw [e, hP.2.2.2.2]
        rfl)
      clear hP
      refine sg_block _ rfl ?_
      (refine seg_execs_cons ?_; refine sgo_If (A' := ⟨none, d+1, some (_ :: outer), gd, u+3⟩) rfl ?_)
      k_steps
      cases hb : decide ((text.length : Int) ≤ (pos : Int)) with
      | true =>
        have hge : text.length ≤ pos := by simpa using hb
        have hdr0 : text.cps.toList.drop pos = [] := List.drop_eq_nil_of_le (by simpa [Str.length] using hge)
        rw [hdr0] at hlex hfind
        have htn := lex_end hlex htop hfind
        subst htn
        refine seg_execs_cons ?_
        refine sg_Break ?_
        refine seg_leaf (.ok .brk) ?_
        refine seg_leaf (.ok .next) ?_
        rename Fr _ _ _ _ => F9
        rename News _ _ _ _ => N9
        refine seg_end (.ok (.ret .none)) ?_
        exact ⟨rfl, rfl, hgo, S₀, hown, hcov.since F9 N9 (fun p hp => .tail _ hp)⟩
      | false =>
        have hlt : pos < text.length := by simpa using hb
        have hcp : ∃ c, text.cps[pos]? = some c := ⟨_, Array.getElem?_eq_getElem hlt⟩
        obtain ⟨c, heq⟩ := hcp
        have hdr := drop_at heq
        rw [hdr] at hlex hfind
        dsimp only [cond]
        refine seg_execs_nil ?_
        (refine seg_execs_cons ?_; refine sgo_If (A' := ⟨none, d+1, some (_ :: outer), gd, u+3⟩) rfl ?_)
        k_steps
        rw [txt_item heq]
        by_cases hc : c = 10
        · subst hc
          rw [show ((⟨#[10]⟩ : Str) == Str.ofString "\n") = true from by decide +kernel]
          dsimp only [cond]
          obtain ⟨toks', rfl, hlex'⟩ := lex_line hlex htop hfind
          obtain ⟨k', rows', rfl, htop'⟩ := lex_top hlex'
          obtain ⟨l', vs', hfl', hll', hrows'⟩ := hf _ _ htop'
          have hfl' : f (Str.ofString "root") = some (.ref l') := hfl'
          clear hlex
          refine sgo_plain (A' := ⟨none, d+1, some (_ :: outer), gd, u+3⟩) rfl ?_
          k_steps
          rename Addr => D1
          rename (_ < _ ∧ AllLt _ rest) => hl1
          refine sgo_plain (A' := ⟨none, d+1, some (_ :: outer), gd, u+3⟩) rfl ?_
          k_steps
          refine seg_execs_cons ?_
          refine sgo_Yield (A' := ⟨none, d+1, some (_ :: outer), gd, u+3⟩) rfl rfl rfl rfl rfl rfl ?_
          k_steps
          rename_i kap' hkap'
          rename Fr _ _ _ _ => F9
          rename News _ _ _ _ => N9
          rw [nl_is] at N9
          refine yield_go (tok := ⟨pos, wsNames, 10⟩) hle hall hown F9 rfl rfl N9 (rest := rest) (fun p hp => .tail _ (.tail _ (.tail _ hp))) hcov (hcov.fresh (h := h₀) (N9 _ (.tail _ (.head _))).2.1 (N9 _ (.tail _ (.head _))).2.2 (ne_of_allLt hl1.2)) (tokAt_mk F9 (News.isTup N9 (.head _)) hws) hgo ⟨_, by k_mem⟩ ?_
          intro s2 k1 k2 k3 k4
          obtain ⟨rest2, F2, N2, hoff2, hown2, hcov2⟩ := resume (S := D1) (keepL := []) (hs := s₀.heap) F9 N9 (fun p hp => by
            rcases List.mem_cons.mp hp with rfl | hp
            · exact .tail _ (.head _)
            · cases hp) rfl (fun p hp => nomatch hp) k1 k2 k3 k4
          refine hkap' .none s2 ?_
          clear k1 k2 k3 k4 hkap' hcov hown hSS hSf hoff F9 N9
          dsimp only [List.nil_append] at N2
          k_sweep
          refine sgo_plain (A' := ⟨none, d+1, some (_ :: outer), gd, u+3⟩) rfl ?_
          k_steps
          refine seg_execs_cons ?_
          refine sg_Continue ?_
          refine seg_leaf (.ok .cont) ?_
          refine seg_again rfl ?_
          rename Fr _ _ _ _ => F9
          rename News _ _ _ _ => N9
          exact IH [Str.ofString "root"] (pos + 1) toks' s2 _ hlex' (by simp at hle; omega) (all_drop hle hall) (by simp; omega) ⟨rfl, rfl⟩ ⟨_, D1, [.str (Str.ofString "root") _], 0, l', vs', rows', _, t1, some D1, _, F9, N9, hoff2, .cons _ _ .nil, rfl, rfl, rfl, rfl, rfl, hll', hrows', htop', ⟨lt_at heq, by simp⟩, hown2, hcov2, .inr rfl, .inl rfl⟩
        · rw [show ((⟨#[c]⟩ : Str) == Str.ofString "\n") = false from (beq_eq_false_iff_ne.mpr fun e => hc (one_is e))]
          dsimp only [cond]
          obtain ⟨toks', rfl, hlex'⟩ := lex_err hlex htop hfind hc
          refine seg_execs_nil ?_
          dsimp only
          refine seg_execs_cons ?_
          refine sgo_Yield (A' := ⟨none, d+1, some (_ :: outer), gd, u+3⟩) rfl rfl rfl rfl rfl rfl ?_
          k_steps
          rename_i kap' hkap'
          rename Fr _ _ _ _ => F9
          rename News _ _ _ _ => N9
          rw [txt_item heq] at N9
          refine yield_go (tok := ⟨pos, errNames, c⟩) hle hall hown F9 rfl rfl N9 (rest := rest) (fun p hp => .tail _ (.tail _ hp)) hcov hSf (tokAt_mk F9 (News.isTup N9 (.head _)) herr) hgo ⟨_, by k_mem⟩ ?_
          intro s2 k1 k2 k3 k4
          obtain ⟨rest2, F2, N2, hoff2, hown2, hcov2⟩ := resume (S := S) (keepL := []) (hs := s₀.heap) F9 N9 (fun p hp => by
            rcases List.mem_cons.mp hp with rfl | hp
            · exact .tail _ (.head _)
            · cases hp) rfl (fun p hp => nomatch hp) k1 k2 k3 k4
          refine hkap' .none s2 ?_
          clear k1 k2 k3 k4 hkap' hcov hown hSS hSf hoff F9 N9
          dsimp only [List.nil_append] at N2
          k_sweep
          refine sgo_plain (A' := ⟨none, d+1, some (_ :: outer), gd, u+3⟩) rfl ?_
          k_steps
          refine seg_execs_nil ?_
          refine seg_leaf (.ok .next) ?_
          refine seg_again rfl ?_
          rename Fr _ _ _ _ => F9
          rename News _ _ _ _ => N9
          exact IH st (pos + 1) toks' s2 _ hlex' (by simp at hle; omega) (all_drop hle hall) (by omega) ⟨rfl, rfl⟩ ⟨_, S, items, ne, l, vs, rows, _, t1, some S, _, F9, N9, hoff2, hitems, rfl, rfl, rfl, rfl, rfl, hll, hrows, htop, ⟨lt_at heq, hstne⟩, hown2, hcov2, .inr rfl, .inl rfl⟩
    case hturn =>
      clear F1 N1 hit hlt
      clear it h' tk
      intro tt r m' it s' hra hgo hP F N hfound hskip
      replace F := Fr.re (m' := fun y => if y = Str.ofString "text" then some (.str text t1) else if y = Str.ofString "tokendefs" then some (.ref tab) else if y = Str.ofString "statestack" then some (.ref S) else if y = Str.ofString "pos" then some (.int (pos : Int) t) else if y = Str.ofString "statetokens" then some (.ref l) else m' y) F (by
        intro y
        split
        · rename_i e; rw [e, hP.1]
        split
        · rename_i e; rw [e, hP.2.1]
        split
        · rename_i e; rw [e, hP.2.2.1]
        split
        · rename_i e; rw [e, hP.2.2.2.1]
        split
        · rename_i e; rw [e, hP.2.2.2.2]
        rfl)
      clear hP
      obtain ⟨_, x, y, z, e, htup, hact, hpat⟩ := hra
      cases e
      cases hp : r.pat with
      | none => exact absurd hp (hpl _ _ htop r (List.mem_of_find?_eq_some (hfound (by unfold Row.meets; rw [hp]))))
      | some c =>
        rw [hp] at hpat
        obtain ⟨q, kd, rfl, rfl, ⟨px, pdx, phs, ptk, pr, pr1, ptk2, hq, hpx, hpd, hpr, hpr1⟩, hkind⟩ := hpat
        obtain ⟨dk, khsh, ktk, knt, kvs, hk1, hk2, hkt, hks⟩ := id hkind
        replace htup : IsTup h₀ tt [Value.ref q, .ref kd, z].toArray := htup
        k_steps
        refine sgo_plain (A' := ⟨none, d+1, some (_ :: outer), gd, u+3⟩) rfl ?_
        k_steps
        refine call_mb (by assumption) hq ?_
        refine' t_match ?sX ?sT ?sd ?su ?sh ?s1 ?s2 ?s3 ?h0 ?hp ?ht ?hno ?hok
        case sX => walk_at "MINE X"
        case sT => walk_at "MINE T"
        case sd => k_room
        case su => k_units
        case sh => walk_at "MINE obj"
        case s1 => walk_at "MINE obj"
        case s2 => walk_at "MINE lst"
        case s3 => walk_at "MINE lst"
        case h0 => exact Int.natCast_nonneg pos
        case hp => exact Int.ofNat_le.mpr hpos
        case ht => exact htl
        case hno =>
          intro hne h' k' hk'
          have F1 := Fr.keeps (by assumption) hk'
          have N1 := News.grown (by assumption) hk'
          k_sweep
          k_steps
          (refine seg_execs_cons ?_; refine sgo_If (A' := ⟨none, d+1, some (_ :: outer), gd, u+3⟩) rfl ?_)
          k_steps
          dsimp only [cond]
          refine seg_execs_nil ?_
          dsimp only
          refine seg_execs_nil ?_
          refine seg_again rfl ?_
          rename Fr _ _ _ _ => F9
          rename News _ _ _ _ => N9
          refine hskip (by rw [meets_at hp]; simpa using hne) _ _ hgo ⟨rfl, rfl, rfl, rfl, rfl⟩ F9 ?_
          exact N9
        case hok =>
          intro heq h' k' mq mdq ms1 ms2 mt1 mt2 mt3 hk' hmq hmdq
          obtain ⟨F1, N1, hoff1, hoq, hodq⟩ := newsTwo (by assumption) (by assumption) hk' hmq hmdq hoff
          have fq := freshQ hcov hSS N1 (.tail _ (.head _)) hoq
          have fdq := freshQ hcov hSS N1 (.tail _ (.tail _ (.head _))) hodq
          clear hmq hmdq hoq hodq
          have heq : text.cps[pos]? = some c := heq
          have hdr := drop_at heq
          have hmt : r.meets (text.cps.toList.drop pos) = true := by rw [meets_at hp, heq]; simp
          have hfd := hfound hmt
          obtain ⟨toks', rfl, hlex'⟩ := lex_hit hlex htop hfd hp hdr
          clear hskip hfound hmt hlex
          k_sweep
          k_steps
          (refine seg_execs_cons ?_; refine sgo_If (A' := ⟨none, d+1, some (_ :: outer), gd, u+3⟩) rfl ?_)
          k_steps
          (refine seg_execs_cons ?_; refine sgo_If (A' := ⟨none, d+1, some (_ :: outer), gd, u+3⟩) rfl ?_)
          k_steps
          (refine seg_execs_cons ?_; refine sgo_If (A' := ⟨none, d+1, some (_ :: outer), gd, u+3⟩) rfl ?_)
          k_steps
          refine seg_execs_cons ?_
          refine sgo_Yield (A' := ⟨none, d+1, some (_ :: outer), gd, u+3⟩) rfl rfl rfl rfl rfl rfl ?_
          k_steps
          rename_i D' kap' hkap'
          refine yield_go (tok := ⟨pos, r.kind, c⟩) hle hall hown (by assumption) rfl rfl (by assumption) (rest := rest) (fun p hp => .tail _ (.tail _ (.tail _ (.tail _ hp)))) hcov hSf (tokAt_mk (by assumption) (News.isTup (by assumption) (.head _)) hkind) hgo ⟨_, by k_mem⟩ ?_
          intro s2 k1 k2 k3 k4
          obtain ⟨rest2, F2, N2, hoff2, hown2, hcov2⟩ := resume (S := S) (ol := lstN items ne) (keepL := [(mq, instObj 586 mdq), (mdq, dictOf [⟨ms1, .str (Str.ofString "place") mt1, .int (pos : Int) mt2⟩, ⟨ms2, .str (Str.ofString "pieces") mt3, .ref pr1⟩] 2)]) (hs := s₀.heap) (by assumption) (by assumption) (fun p hp => by
            rcases List.mem_cons.mp hp with rfl | hp
            · k_mem
            rcases List.mem_cons.mp hp with rfl | hp
            · k_mem
            rcases List.mem_cons.mp hp with rfl | hp
            · k_mem
            · cases hp) rfl (fun p hp => by
            rcases List.mem_cons.mp hp with rfl | hp
            · exact ⟨fq, hoff1 _ (.head _)⟩
            rcases List.mem_cons.mp hp with rfl | hp
            · exact ⟨fdq, hoff1 _ (.tail _ (.head _))⟩
            · cases hp) k1 k2 k3 k4
          refine hkap' .none s2 ?_
          replace N2 : News h₀ Lg s2.heap ((S, lstN items ne) :: (mq, instObj 586 mdq) :: (mdq, dictOf [⟨ms1, .str (Str.ofString "place") mt1, .int (pos : Int) mt2⟩, ⟨ms2, .str (Str.ofString "pieces") mt3, .ref pr1⟩] 2) :: rest2) := N2
          clear k1 k2 k3 k4 hkap' hcov hown hSS hSf fq fdq hoff1 hoff
          k_sweep
          refine sgo_plain (A' := ⟨none, d+1, some (_ :: outer), gd, u+3⟩) rfl ?_
          k_steps
          rename Fr _ _ _ _ => F8
          rename News _ _ _ _ => N8
          obtain ⟨m8, tp8, F9⟩ := fr_forget (text := text) (t1 := t1) (tab := tab) (S := S) (pos := (pos : Int) + 1) (z := z) (l := l) F8 rfl rfl rfl ⟨_, rfl⟩ rfl rfl
          obtain ⟨rest3, N9, hoff3, hcov3⟩ := nw_forget N8 hoff2 hcov2
          clear F8 N8 hoff2 hcov2
          (try clear hq); (try clear hpx); (try clear hpd); (try clear hpr); (try clear hpr1); (try clear hk1); (try clear hk2); (try clear hkt); (try clear hks); (try clear hkind); (try clear hfd); (try clear htup)
          k_sweep
          obtain ⟨k', rows', rfl, htop'⟩ := lex_top hlex'
          obtain ⟨l', vs', hfl', hll', hrows'⟩ := hf _ _ htop'
          cases ha : r.act with
          | none =>
            rw [ha] at hact hlex' htop' hfl'
            replace hact : z = .none := hact
            subst hact
            refine sgo_plain (A' := ⟨none, d+1, some (_ :: outer), gd, u+3⟩) rfl ?_
            k_steps
            (refine seg_execs_cons ?_; refine sg_Break ?_; refine seg_leaf (.ok .next) ?_; refine seg_again rfl ?_; rename Fr _ _ _ _ => F9; rename News _ _ _ _ => N9)
            exact IH st (pos + 1) toks' s2 _ hlex' (by simp at hle; omega) (all_drop hle hall) (by omega) ⟨rfl, rfl⟩ ⟨_, S, items, ne, l, vs, rows, _, t1, some S, _, F9, N9, hoff3, hitems, rfl, rfl, rfl, rfl, rfl, hll, hrows, htop, ⟨lt_at heq, hstne⟩, hown2, hcov3, .inr rfl, .inl rfl⟩
          | pop j =>
            rw [ha] at hact hlex' htop' hfl'
            obtain ⟨hj1, hj2, zt, rfl⟩ := hact
            refine sgo_plain (A' := ⟨none, d+1, some (_ :: outer), gd, u+3⟩) rfl ?_
            k_steps
            · rename_i hcmp
              rename StrsAre items st => hitems
              have hge : j ≥ st.length := by
                revert hcmp; split <;> omega
              have hdo : doAct st (.pop j) = st.take 1 := if_pos hge
              have hne' := doAct_ne (a := .pop j) hstne
              rw [hdo] at hfl' htop' hlex' hne'
              have hit' := strs_take hitems 1
              obtain ⟨ltk, hlast⟩ := strs_last hit' hne'
              refine del_new (j := 1) rfl (by assumption) (by assumption) hoff3 (by rw [strs_len hitems]; omega) (by rw [strs_len hitems]; have := List.length_pos_iff.mpr hstne; omega) ?_
              intro h5 n5 F5 N5
              k_sweep
              k_steps
              (refine seg_execs_cons ?_; refine sg_Break ?_; refine seg_leaf (.ok .next) ?_; refine seg_again rfl ?_; rename Fr _ _ _ _ => F9; rename News _ _ _ _ => N9)
              exact IH (st.take 1) (pos + 1) toks' s2 _ hlex' (by simp at hle; omega) (all_drop hle hall) (by simp; omega) ⟨rfl, rfl⟩ ⟨_, S, _, _, l', vs', rows', _, t1, some S, _, F9, N9, hoff3, hit', rfl, rfl, rfl, rfl, rfl, hll', hrows', htop', ⟨lt_at heq, hne'⟩, hown2, hcov3, .inr rfl, .inl rfl⟩
            · rename_i hcmp
              rename StrsAre items st => hitems
              have hlt : j < st.length := by
                revert hcmp; split <;> omega
              have hdo : doAct st (.pop j) = st.take (st.length - j) := if_neg (by omega)
              have hne' := doAct_ne (a := .pop j) hstne
              rw [hdo] at hfl' htop' hlex' hne'
              have hit' := strs_take hitems (st.length - j)
              obtain ⟨ltk, hlast⟩ := strs_last hit' hne'
              refine del_new (j := st.length - j) rfl (by assumption) (by assumption) hoff3 (by rw [strs_len hitems]; omega) (by rw [strs_len hitems, if_pos (by omega)]; omega) ?_
              intro h5 n5 F5 N5
              k_sweep
              k_steps
              (refine seg_execs_cons ?_; refine sg_Break ?_; refine seg_leaf (.ok .next) ?_; refine seg_again rfl ?_; rename Fr _ _ _ _ => F9; rename News _ _ _ _ => N9)
              exact IH (st.take (st.length - j)) (pos + 1) toks' s2 _ hlex' (by simp at hle; omega) (all_drop hle hall) (by simp; omega) ⟨rfl, rfl⟩ ⟨_, S, _, _, l', vs', rows', _, t1, some S, _, F9, N9, hoff3, hit', rfl, rfl, rfl, rfl, rfl, hll', hrows', htop', ⟨lt_at heq, hne'⟩, hown2, hcov3, .inr rfl, .inl rfl⟩
          | push =>
            rw [ha] at hact hlex' htop' hfl'
            obtain ⟨zt, rfl⟩ := hact
            obtain ⟨ltk, hlast⟩ := strs_last hitems hstne
            have hne' := doAct_ne (a := .push) hstne
            have hit' : StrsAre (items ++ [.str (st.getLastD (Str.ofString "")) ltk]) (doAct st .push) := strs_app hitems (.cons _ _ .nil)
            obtain ⟨ltk', hlast'⟩ := strs_last hit' hne'
            have hilen : items.length ≤ 1100000 := by rw [strs_len hitems]; omega
            refine sgo_plain (A' := ⟨none, d+1, some (_ :: outer), gd, u+3⟩) rfl ?_
            k_steps
            (refine seg_execs_cons ?_; refine sg_Break ?_; refine seg_leaf (.ok .next) ?_; refine seg_again rfl ?_; rename Fr _ _ _ _ => F9; rename News _ _ _ _ => N9)
            exact IH (doAct st .push) (pos + 1) toks' s2 _ hlex' (by simp at hle; omega) (all_drop hle hall) (by show (st ++ [_]).length + _ ≤ _; simp; omega) ⟨rfl, rfl⟩ ⟨_, S, _, _, l', vs', rows', _, t1, some S, _, F9, N9, hoff3, hit', rfl, rfl, rfl, rfl, rfl, hll', hrows', htop', ⟨lt_at heq, hne'⟩, hown2, hcov3, .inr rfl, .inl rfl⟩
          | go ts =>
            rw [ha] at hact hlex' htop' hfl'
            obtain ⟨za, zvs, rfl, htup2, hstrs, hlen⟩ := hact
            have hne' := doAct_ne (a := .go ts) hstne
            have hall_ne : ∀ i, (ts.take i).foldl goOne st ≠ [] := fun i => goAll_ne _ hstne
            have hall_len : ∀ i, ((ts.take i).foldl goOne st).length ≤ 1000100 := fun i => by
              have := goAll_len (ts.take i) st
              have : (ts.take i).length ≤ ts.length := by simp; omega
              omega
            refine sgo_plain (A' := ⟨none, d+1, some (_ :: outer), gd, u+3⟩) rfl ?_
            k_steps
            (with_unfolding_all refine' For_invVF (by assumption) ?k1 ?k2 ?_)
            case k1 => exact rfl
            case k2 => exact rfl
            k_steps
            rename Fr _ _ _ _ => F5
            rename News _ _ _ _ => N5
            refine iter_T2 (fun i m₁ news₁ => ∃ items₁ ne₁, news₁ = (S, lstN items₁ ne₁) :: rest3 ∧ StrsAre items₁ ((ts.take i).foldl goOne st) ∧
              m₁ (Str.ofString "text") = some (.str text t1) ∧ m₁ (Str.ofString "tokendefs") = some (.ref tab) ∧ m₁ (Str.ofString "statestack") = some (.ref S) ∧ ∃ tp, m₁ (Str.ofString "pos") = some (.int ((pos : Int) + 1) tp)) rfl htup2 F5 N5 ⟨items, ne, rfl, hitems, rfl, rfl, rfl, _, rfl⟩ ?turn ?done
            case turn =>
              clear N5 F5
              intro i v m₁ news₁ I5 it5 s5 hv ⟨items₁, ne₁, hn₁, hs₁, q1, q2, q3, tp, q4⟩ ho5 F5 N5 P5 E5 hP5
              (try clear IH); (try clear hf); (try clear hcov3); (try clear hown2); (try clear hlex'); (try clear hall); (try clear hle); (try clear hrows); (try clear hrows'); (try clear htop); (try clear htop'); (try clear hll); (try clear hll'); (try clear hfl'); (try clear hkind); (try clear hfd); (try clear hT); (try clear hlex); (try clear step); (try clear htop)
              subst hn₁
              obtain ⟨tt5, ttk5, hget, rfl⟩ := strs_get hstrs hv
              have hstep := goAll_step (st := st) hget
              have hne₁ := hall_ne i
              have hlenI := hall_len i
              generalize hstI : (ts.take i).foldl goOne st = stI at hs₁ hstep hne₁ hlenI
              have hIS : I5 ≠ S := fun e => ho5 _ (.head _) e.symm
              have hlen₁ : items₁.length ≤ 1100000 := by rw [strs_len hs₁]; omega
              have hine : items₁ ≠ [] := fun e => by
                have := strs_len hs₁
                rw [e] at this
                exact hne₁ (List.length_eq_zero_iff.mp this.symm)
              obtain ⟨ltk5, hlast5⟩ := strs_last hs₁ hne₁
              replace N5 : News h₀ Lg s5.heap _ := nw_swap N5
              have hoff5 : ∀ p ∈ (I5, it5) :: rest3, p.1 ≠ S := List.forall_mem_cons.mpr ⟨hIS, hoff3⟩
              replace F5 : Fr h₀ Lg s5.heap _ := F5
              replace F5 := Fr.re (m' := fun y => if y = Str.ofString "state" then some (.str tt5 ttk5) else if y = Str.ofString "text" then some (.str text t1) else if y = Str.ofString "tokendefs" then some (.ref tab) else if y = Str.ofString "statestack" then some (.ref S) else if y = Str.ofString "pos" then some (.int ((pos : Int) + 1) tp) else m₁ y) F5 (by
                intro y
                split
                · rfl
                split
                · rename_i e; rw [e, q1]
                split
                · rename_i e; rw [e, q2]
                split
                · rename_i e; rw [e, q3]
                split
                · rename_i e; rw [e, q4]
                rfl)
              clear q1 q2 q3 q4
              k_steps
              all_goals
                rename Fr _ _ _ _ => F9
                rename News _ _ _ _ => N9
                refine hP5 _ (UnrEnd.intro (s₁ := s5) F9 N9 _ (fun p hp => swap_mem hp) ?_ ⟨_, _, rfl, ?_, rfl, rfl, rfl, _, rfl⟩)
                · intro p hp
                  rcases List.mem_cons.mp hp with rfl | hp
                  · exact hIS.symm
                  · exact ho5 p (.tail _ hp)
                · rw [hstep]
                  first
                  | (rw [go_pop1 (by assumption) (by omega)]; exact strs_drop (by assumption))
                  | (rw [go_pop0 (by assumption) (by omega)]; assumption)
                  | (rw [go_push (by assumption) (by assumption)]; exact strs_app (by assumption) (.cons _ _ .nil))
                  | (rw [go_else (by assumption) (by assumption)]; exact strs_app (by assumption) (.cons _ _ .nil))
            case done =>
              clear N5 F5
              intro m₁ news₁ h5 tk5 ⟨items₁, ne₁, hn₁, hs₁, q1, q2, q3, tp, q4⟩ F5 N5
              subst hn₁
              rw [strs_len hstrs, List.take_length] at hs₁
              replace hs₁ : StrsAre items₁ (doAct st (.go ts)) := hs₁
              obtain ⟨ltk, hlast⟩ := strs_last hs₁ hne'
              replace N5 : News h₀ Lg h5 _ := N5
              replace F5 : Fr h₀ Lg h5 _ := F5
              replace F5 := Fr.re (m' := fun y => if y = Str.ofString "text" then some (.str text t1) else if y = Str.ofString "tokendefs" then some (.ref tab) else if y = Str.ofString "statestack" then some (.ref S) else if y = Str.ofString "pos" then some (.int ((pos : Int) + 1) tp) else m₁ y) F5 (by
                intro y
                split
                · rename_i e; rw [e, q1]
                split
                · rename_i e; rw [e, q2]
                split
                · rename_i e; rw [e, q3]
                split
                · rename_i e; rw [e, q4]
                rfl)
              clear q1 q2 q3 q4
              k_steps
              (refine seg_execs_cons ?_; refine sg_Break ?_; refine seg_leaf (.ok .next) ?_; refine seg_again rfl ?_; rename Fr _ _ _ _ => F9; rename News _ _ _ _ => N9)
              exact IH (doAct st (.go ts)) (pos + 1) toks' s2 _ hlex' (by simp at hle; omega) (all_drop hle hall) (by have h9 := goAll_len ts st; show (ts.foldl goOne st).length + _ ≤ _; omega) ⟨rfl, rfl⟩ ⟨_, S, _, _, l', vs', rows', _, t1, some S, _, F9, N9, hoff3, hs₁, rfl, rfl, rfl, rfl, rfl, hll', hrows', htop', ⟨lt_at heq, hne'⟩, hown2, hcov3, .inr rfl, .inl rfl⟩
end
end Mine
end
section
open PySem PySem.W PyProof.Rows PySem.Calls
set_option Elab.async false
set_option maxRecDepth 100000
set_option maxHeartbeats 8000000
namespace Mine
/-- the body of a def that stands in the base, and what a for in it holds -/
def fnBody (K : Frag) (f : Addr) : List Stmt := match K.lookup f with
  | some o => (match o.data with
    | .func fd => (match fd.body with
      | .stmts b => b
      | _ => [])
    | _ => [])
  | none => []
def nthFor (b : List Stmt) (n : Nat) : List Stmt := match b[n]? with
  | some (.For _ _ fb _ _) => fb
  | _ => []
def fnEnv (K : Frag) (f L : Addr) : Env := match K.lookup f with
  | some o => (match o.data with
    | .func ⟨_, q, _, _, sc, _, _, _, _, _, _, _, cd, _, _⟩ => envOf q sc L f cd
    | _ => default)
  | none => default
theorem strC {j : Nat} (hj : j < 3) : 1 ≤ (Str.ofString "C" ++ Str.ofString (toString (1 + (j : Int)))).length ∧ (Str.ofString "C" ++ Str.ofString (toString (1 + (j : Int)))).length ≤ 1000 ∧ Txt.isupper (Txt.item (Str.ofString "C" ++ Str.ofString (toString (1 + (j : Int)))) 0) = true ∧ (Str.ofString "C" ++ Str.ofString (toString (1 + (j : Int)))) ≠ Str.ofString "Token" ∧ (Str.ofString "C" ++ Str.ofString (toString (1 + (j : Int)))) ≠ Str.ofString "String" ∧ (Str.ofString "C" ++ Str.ofString (toString (1 + (j : Int)))) ≠ Str.ofString "Number" := by
  have hC : ∀ j : Nat, j < 3 → 1 ≤ (Str.ofString "C" ++ Str.ofString (toString (1 + (j : Int)))).length ∧ (Str.ofString "C" ++ Str.ofString (toString (1 + (j : Int)))).length ≤ 1000 ∧ Txt.isupper (Txt.item (Str.ofString "C" ++ Str.ofString (toString (1 + (j : Int)))) 0) = true ∧ (Str.ofString "C" ++ Str.ofString (toString (1 + (j : Int)))) ≠ Str.ofString "Token" ∧ (Str.ofString "C" ++ Str.ofString (toString (1 + (j : Int)))) ≠ Str.ofString "String" ∧ (Str.ofString "C" ++ Str.ofString (toString (1 + (j : Int)))) ≠ Str.ofString "Number" := by decide +kernel
  exact hC j hj
theorem strD {k : Nat} (hk : k < 2) : 1 ≤ (Str.ofString "D" ++ Str.ofString (toString (0 + (k : Int)))).length ∧ (Str.ofString "D" ++ Str.ofString (toString (0 + (k : Int)))).length ≤ 1000 ∧ Txt.isupper (Txt.item (Str.ofString "D" ++ Str.ofString (toString (0 + (k : Int)))) 0) = true := by
  have hD : ∀ k : Nat, k < 2 → 1 ≤ (Str.ofString "D" ++ Str.ofString (toString (0 + (k : Int)))).length ∧ (Str.ofString "D" ++ Str.ofString (toString (0 + (k : Int)))).length ≤ 1000 ∧ Txt.isupper (Txt.item (Str.ofString "D" ++ Str.ofString (toString (0 + (k : Int)))) 0) = true := by decide +kernel
  exact hD k hk
theorem strA {i : Nat} (hi : i < 4) : 1 ≤ (Str.ofString "A" ++ Str.ofString (toString (0 + (i : Int)))).length ∧ (Str.ofString "A" ++ Str.ofString (toString (0 + (i : Int)))).length ≤ 1000 ∧ Txt.isupper (Txt.item (Str.ofString "A" ++ Str.ofString (toString (0 + (i : Int)))) 0) = true := by
  have hA : ∀ i : Nat, i < 4 → 1 ≤ (Str.ofString "A" ++ Str.ofString (toString (0 + (i : Int)))).length ∧ (Str.ofString "A" ++ Str.ofString (toString (0 + (i : Int)))).length ≤ 1000 ∧ Txt.isupper (Txt.item (Str.ofString "A" ++ Str.ofString (toString (0 + (i : Int)))) 0) = true := by decide +kernel
  exact hA i hi
section
variable {w : World} {s : Shared}
def RowJ (B : Heap) (table I5 I6 rl q : Addr) (it5 it6 : Obj) (j k : Nat) (kvs : List (Str × Value)) (o₁ : Obj) (tkc tks : Tok) (a : Nat) (m₁ : Str → Option Value) (news₁ : List (Addr × Obj)) : Prop :=
  ∃ its ne rest gv, news₁ = (rl, lstN its ne) :: (I6, it6) :: (I5, it5) :: (table, o₁) :: rest ∧ its.length = a + 1 ∧ (∀ p ∈ rest, p.1 ≠ rl ∧ p.1 ≠ table ∧ p.1 ≠ I5 ∧ p.1 ≠ I6) ∧ BearsG B rest gv ∧ KindAt 66 gv q (stKind j k) ∧ RawsAt 66 613 gv its ((List.range (a + 1)).map (stRaw j k)) ∧ TabR gv kvs (stTab (2 * j + k)) ∧
    m₁ (Str.ofString "table") = some (.ref table) ∧ m₁ (Str.ofString "child") = some (.int (1 + (j : Int)) tkc) ∧ m₁ (Str.ofString "side") = some (.int (0 + (k : Int)) tks) ∧ m₁ (Str.ofString "kind") = some (.ref q) ∧ m₁ (Str.ofString "rows") = some (.ref rl)
theorem ch_bcd {a : Nat} (ha : a < 3) : Txt.item (Str.ofString "abcd") (1 + (a : Int)) = ⟨#[98 + a]⟩ := by
  have : ∀ i : Nat, i < 3 → Txt.item (Str.ofString "abcd") (1 + (i : Int)) = ⟨#[98 + i]⟩ := by decide +kernel
  exact this a ha
theorem aw_len (z : Int) : ∀ n : Nat, (awNames z n).length = n
  | 0 => rfl
  | n + 1 => by show (awNames z n).length + 1 = _; rw [aw_len z n]
theorem row_fin {h₀ h9 gv : Heap} {L table I5 I6 I7 rl q D : Addr} {m9 : Str → Option Value} {it5 it6 it7 o₁ : Obj} (new : List (Addr × Obj)) {rest : List (Addr × Obj)} {kvs : List (Str × Value)} {its : List Value} {j k a ne tk' : Nat} {tk tk2 : Tok}
    (F9 : Fr h₀ L h9 m9) (N : News h₀ L h9 (new ++ (I7, it7) :: (rl, lstN (its ++ [.ref D]) (ne + 1)) :: (I6, it6) :: (I5, it5) :: (table, o₁) :: rest))
    (offN : ∀ p ∈ new, p.1 ≠ rl ∧ p.1 ≠ I7 ∧ p.1 ≠ table ∧ p.1 ≠ I5 ∧ p.1 ≠ I6)
    (ho7 : ∀ p ∈ (rl, lstN its ne) :: (I6, it6) :: (I5, it5) :: (table, o₁) :: rest, p.1 ≠ I7) (hoff : ∀ p ∈ rest, p.1 ≠ rl ∧ p.1 ≠ table ∧ p.1 ≠ I5 ∧ p.1 ≠ I6) (hlen : its.length = a + 1)
    (hb : BearsG h₀ rest gv) (hkind : KindAt 66 gv q (stKind j k)) (hraw : RawsAt 66 613 gv its ((List.range (a + 1)).map (stRaw j k))) (htab : TabR gv kvs (stTab (2 * j + k)))
    (hrow : ∀ g', (∀ p ∈ new, g'.get? p.1 = some p.2) → KindAt 66 g' q (stKind j k) → RawAt 66 613 g' (.ref D) (stRaw j k (a + 1)))
    (m1 : m9 (Str.ofString "table") = some (.ref table)) (m2 : m9 (Str.ofString "child") = some (.int (1 + (j : Int)) tk)) (m3 : m9 (Str.ofString "side") = some (.int (0 + (k : Int)) tk2)) (m4 : m9 (Str.ofString "kind") = some (.ref q)) (m5 : m9 (Str.ofString "rows") = some (.ref rl)) :
    UnrEnd h₀ L s I7 it7 (RowJ h₀ table I5 I6 rl q it5 it6 j k kvs o₁ tk tk2 (a + 1)) { s with heap := h9, toks := tk' } := by
  obtain ⟨gv', hb', k1, hnew⟩ := grow (new := new) (fun b o e => F9.keep b o e) (fun p hp => by
    rcases List.mem_append.mp hp with hp | hp
    · exact (N p (List.mem_append_left _ hp)).1
    · exact (N p (List.mem_append_right _ (.tail _ (.tail _ (.tail _ (.tail _ (.tail _ hp))))))).1) hb
  refine UnrEnd.intro (s₁ := s) F9 N ((rl, lstN (its ++ [.ref D]) (ne + 1)) :: (I6, it6) :: (I5, it5) :: (table, o₁) :: (new ++ rest)) ?_ ?_ ⟨its ++ [.ref D], ne + 1, _, gv', rfl, by simp [hlen], ?_, hb', hkind.kp k1, ?_, htab.kp k1, m1, m2, m3, m4, m5⟩
  · intro p hp
    rcases List.mem_cons.mp hp with rfl | hp
    · exact List.mem_append_right _ (.head _)
    rcases List.mem_cons.mp hp with rfl | hp
    · exact List.mem_append_right _ (.tail _ (.head _))
    rcases List.mem_cons.mp hp with rfl | hp
    · exact List.mem_append_right _ (.tail _ (.tail _ (.head _)))
    rcases List.mem_cons.mp hp with rfl | hp
    · exact List.mem_append_right _ (.tail _ (.tail _ (.tail _ (.head _))))
    rcases List.mem_cons.mp hp with rfl | hp
    · exact List.mem_append_right _ (.tail _ (.tail _ (.tail _ (.tail _ (.head _)))))
    rcases List.mem_append.mp hp with hp | hp
    · exact List.mem_append_left _ hp
    · exact List.mem_append_right _ (.tail _ (.tail _ (.tail _ (.tail _ (.tail _ hp)))))
  · intro p hp
    rcases List.mem_cons.mp hp with rfl | hp
    · exact ho7 (rl, lstN its ne) (.head _)
    rcases List.mem_cons.mp hp with rfl | hp
    · exact ho7 _ (.tail _ (.head _))
    rcases List.mem_cons.mp hp with rfl | hp
    · exact ho7 _ (.tail _ (.tail _ (.head _)))
    rcases List.mem_cons.mp hp with rfl | hp
    · exact ho7 _ (.tail _ (.tail _ (.tail _ (.head _))))
    rcases List.mem_append.mp hp with hp | hp
    · exact (offN p hp).2.1
    · exact ho7 _ (.tail _ (.tail _ (.tail _ (.tail _ hp))))
  · intro p hp
    rcases List.mem_append.mp hp with hp | hp
    · exact ⟨(offN p hp).1, (offN p hp).2.2⟩
    · exact hoff p hp
  · rw [List.range_succ, List.map_append, List.map_singleton]
    exact (hraw.kp k1).snoc (hrow gv' hnew (hkind.kp k1))
/-- the rows' list is begun: all else joins what is known -/
theorem row_start {h₀ h9 gv : Heap} {L table I5 I6 rl q D : Addr} {m9 : Str → Option Value} {it5 it6 o₁ : Obj} (new : List (Addr × Obj)) {rest : List (Addr × Obj)} {kvs : List (Str × Value)} {j k ne : Nat} {tk tk2 : Tok}
    (F9 : Fr h₀ L h9 m9) (N : News h₀ L h9 ((rl, lstN [.ref D] ne) :: new ++ (I6, it6) :: (I5, it5) :: (table, o₁) :: rest))
    (offN : ∀ p ∈ new, p.1 ≠ rl ∧ p.1 ≠ table ∧ p.1 ≠ I5 ∧ p.1 ≠ I6) (hoff : ∀ p ∈ rest, p.1 ≠ rl ∧ p.1 ≠ table ∧ p.1 ≠ I5 ∧ p.1 ≠ I6)
    (hb : BearsG h₀ rest gv) (htab : TabR gv kvs (stTab (2 * j + k)))
    (hkind : ∀ g', (∀ p ∈ new, g'.get? p.1 = some p.2) → KindAt 66 g' q (stKind j k))
    (hrow : ∀ g', (∀ p ∈ new, g'.get? p.1 = some p.2) → KindAt 66 g' q (stKind j k) → RawAt 66 613 g' (.ref D) (stRaw j k 0))
    (m1 : m9 (Str.ofString "table") = some (.ref table)) (m2 : m9 (Str.ofString "child") = some (.int (1 + (j : Int)) tk)) (m3 : m9 (Str.ofString "side") = some (.int (0 + (k : Int)) tk2)) (m4 : m9 (Str.ofString "kind") = some (.ref q)) (m5 : m9 (Str.ofString "rows") = some (.ref rl)) :
    News h₀ L h9 ((rl, lstN [.ref D] ne) :: (I6, it6) :: (I5, it5) :: (table, o₁) :: (new ++ rest)) ∧
    RowJ h₀ table I5 I6 rl q it5 it6 j k kvs o₁ tk tk2 0 m9 ((rl, lstN [.ref D] ne) :: (I6, it6) :: (I5, it5) :: (table, o₁) :: (new ++ rest)) := by
  obtain ⟨gv', hb', k1, hnew⟩ := grow (new := new) (fun b o e => F9.keep b o e) (fun p hp => by
    rcases List.mem_append.mp hp with hp | hp
    · exact (N p (List.mem_append_left _ (.tail _ hp))).1
    · exact (N p (List.mem_append_right _ (.tail _ (.tail _ (.tail _ hp))))).1) hb
  have hk := hkind gv' hnew
  refine ⟨fun p hp => ?_, [.ref D], ne, _, gv', rfl, rfl, fun p hp => ?_, hb', hk, .cons (hrow gv' hnew hk) .nil, htab.kp k1, m1, m2, m3, m4, m5⟩
  · rcases List.mem_cons.mp hp with rfl | hp
    · exact N _ (.head _)
    rcases List.mem_cons.mp hp with rfl | hp
    · exact N _ (List.mem_append_right _ (.head _))
    rcases List.mem_cons.mp hp with rfl | hp
    · exact N _ (List.mem_append_right _ (.tail _ (.head _)))
    rcases List.mem_cons.mp hp with rfl | hp
    · exact N _ (List.mem_append_right _ (.tail _ (.tail _ (.head _))))
    rcases List.mem_append.mp hp with hp | hp
    · exact N _ (List.mem_append_left _ (.tail _ hp))
    · exact N _ (List.mem_append_right _ (.tail _ (.tail _ (.tail _ hp))))
  · rcases List.mem_append.mp hp with hp | hp
    · exact offN p hp
    · exact hoff p hp
theorem st_at {j k : Nat} (hk : k < 2) : stName ((2 * j + k) / 2) ((2 * j + k) % 2) = stName j k ∧ stRaws ((2 * j + k) / 2) ((2 * j + k) % 2) = stRaws j k := by
  have e1 : (2 * j + k) / 2 = j := by omega
  have e2 : (2 * j + k) % 2 = k := by omega
  rw [e1, e2]
  exact ⟨rfl, rfl⟩
theorem st_new {g : Heap} {kvs : List (Str × Value)} {j k : Nat} (hj : j < 3) (hk : k < 2) (htab : TabR g kvs (stTab (2 * j + k))) : valueAt kvs (stName j k) = none := by
  refine valueAt_no ?_
  rw [htab.keys, ← (st_at (j := j) hk).1]
  exact stName_new _ (by omega)
theorem side_fin {h₀ h9 gv : Heap} {L table I5 I6 rl : Addr} {m9 : Str → Option Value} {it5 it6 o' : Obj} {rest : List (Addr × Obj)} {kvs : List (Str × Value)} {its : List Value} {j k ne tk' : Nat} {tk : Tok}
    (F : Fr h₀ L h9 m9) (N : News h₀ L h9 ((rl, lstN its ne) :: (I6, it6) :: (I5, it5) :: (table, o') :: rest)) (hk : k < 2) (hmu : rl ≠ I6 ∧ rl ≠ I5 ∧ rl ≠ table) (h56 : I5 ≠ I6) (ht6 : table ≠ I6)
    (hoff : ∀ p ∈ rest, p.1 ≠ rl ∧ p.1 ≠ table ∧ p.1 ≠ I5 ∧ p.1 ≠ I6) (hlen : its.length = 4) (hd' : o'.IsDictOf (PySem.strKind PG w) (kvs ++ [(stName j k, .ref rl)]))
    (hb : BearsG h₀ rest gv) (hraw : RawsAt 66 613 gv its ((List.range 4).map (stRaw j k))) (htab : TabR gv kvs (stTab (2 * j + k)))
    (m1 : m9 (Str.ofString "table") = some (.ref table)) (m2 : m9 (Str.ofString "child") = some (.int (1 + (j : Int)) tk)) :
    UnrEnd h₀ L s I6 it6 (fun m₁ n₁ => TabJ w h₀ table [(I5, it5)] (2 * j + (k + 1)) m₁ n₁ ∧ m₁ (Str.ofString "child") = some (.int (1 + (j : Int)) tk)) { s with heap := h9, toks := tk' } := by
  obtain ⟨gv', hb', k1, hnew⟩ := grow (new := [(rl, lstN its ne)]) (fun b o e => F.keep b o e) (List.forall_mem_cons.mpr ⟨(N _ (.head _)).1, fun p hp => (N p (.tail _ (.tail _ (.tail _ (.tail _ hp))))).1⟩) hb
  refine UnrEnd.intro (s₁ := s) F N ((I5, it5) :: (table, o') :: (rl, lstN its ne) :: rest) ?_ ?_ ⟨⟨o', _, (rl, lstN its ne) :: rest, gv', rfl, ?_, ?_, hd', hb', ?_, m1⟩, m2⟩
  · intro p hp
    rcases List.mem_cons.mp hp with rfl | hp
    · exact .tail _ (.head _)
    rcases List.mem_cons.mp hp with rfl | hp
    · exact .tail _ (.tail _ (.head _))
    rcases List.mem_cons.mp hp with rfl | hp
    · exact .tail _ (.tail _ (.tail _ (.head _)))
    rcases List.mem_cons.mp hp with rfl | hp
    · exact .head _
    · exact .tail _ (.tail _ (.tail _ (.tail _ hp)))
  · exact List.forall_mem_cons.mpr ⟨h56, List.forall_mem_cons.mpr ⟨ht6, List.forall_mem_cons.mpr ⟨hmu.1, fun p hp => (hoff p hp).2.2.2⟩⟩⟩
  · exact List.forall_mem_cons.mpr ⟨hmu.2.2, fun p hp => (hoff p hp).2.1⟩
  · refine List.forall_mem_cons.mpr ⟨fun q hq => ?_, fun p hp q hq => ?_⟩
    · rw [List.mem_singleton.mp hq]; exact hmu.2.1
    · rw [List.mem_singleton.mp hq]; exact (hoff p hp).2.2.1
  · have e : 2 * j + (k + 1) = (2 * j + k) + 1 := by omega
    rw [e, stTab_succ, (st_at (j := j) hk).1, (st_at (j := j) hk).2]
    exact (htab.kp k1).snoc ⟨_, hnew _ (.head _), rfl, _, rfl⟩ (hraw.kp k1) (by omega)
end
end Mine
end
section
namespace Mine
section
variable {w : World} {d u : Nat} {gd : Option (List Code)} {base : Heap} {outer : List Env} {s : Shared} {p : Program} {loose : List Str} {mean : ExcName → Option Value} {mg mb : Str → Option Value}
local macro_rules | `(tactic| k_inst) => `(tactic| exact inst_base (by k_asm) (by assumption) (by assumption))
local macro_rules | `(tactic| k_room) => `(tactic| ((try simp only [depth_under_make, depth_under_kw, depth_in1, depth_deeper, depth_caller, depth_mk, Around.in1_depth, rl_is]); omega))
local macro_rules | `(tactic| k_units) => `(tactic| ((try simp only [Around.in1_units, Around.deeper_units, Around.mark_units, units_mk, cl_is]); omega))
local macro_rules | `(tactic| walk_at "truthy str") => `(tactic| (k_here; (with_reducible refine truthy_ch ?_); intro _))
local macro_rules | `(tactic| walk_at "call builtin:str.join") => `(tactic| (k_here; (refine join_one (by is_list) ?_); intro _ _))
local macro_rules | `(tactic| walk_at "MINE enter") => `(tactic| (refine' enter ?mX ?mT ?k6 ?k7 ?k8 ?k9 ?kB ?_ ?c2 ?c3 ?c4 ?c5; (case mX => assumption); (case mT => assumption); (case k6 => k_is); (case k7 => k_is); (case k8 => k_room); (case k9 => first | exact BindsTo.of_eq rfl | exact binds_K (by assumption) rfl (by k_is) rfl rfl rfl); (case c5 => decide); (case kB => exact locs rfl); (case c2 => exact rfl); (case c3 => exact rfl); (case c4 => exact rfl); intro L' h' F' N'; (try dsimp only)))
local macro_rules | `(tactic| walk_at "BRest") => `(tactic| (with_unfolding_all first | (refine BRest.succ (fun I' it' h' tk' hit' off' F' N' => ?_)) | (refine BRest.zero (fun h' tk' F' N' => ?_))))
local macro_rules | `(tactic| walk_at "MINE obj") => `(tactic| first | assumption | exact Fr.keep (by assumption) _ _ (by assumption) | exact News.get (by assumption) (by k_mem))
local macro_rules | `(tactic| walk_at "MINE lst") => `(tactic| first | assumption | exact Heap.IsList.at (by assumption) (fun o e => Fr.keep (by assumption) _ o e) | is_list)
local macro_rules | `(tactic| walk_at "MINE X") => `(tactic| first | assumption | exact Frag.In.keeps (by assumption) (Fr.keep (by assumption)))
local macro_rules | `(tactic| walk_at "MINE T") => `(tactic| first | assumption | exact Top.keeps (by assumption) (Fr.keep (by assumption)))
local macro_rules | `(tactic| walk_at "MINE B") => `(tactic| first | assumption | exact Below.push (by assumption) (by assumption))
local macro_rules | `(tactic| k_enter) => `(tactic| (refine' code_def0 ?k2 ?k3 ?k4 ?k5 ?k6 ?k7 ?k8 ?k9 ?kB ?_ ?c2 ?c3 ?c4 ?c5; (case k2 => k_asm); (case k3 => k_asm); (case k4 => k_asm); (case k5 => k_asm); (case k6 => k_is); (case k7 => k_is); (case k8 => k_room); (case k9 => first | exact BindsTo.of_eq rfl | exact binds_K (by k_in) rfl (by k_is) rfl rfl rfl | fail "k_enter: no rule for these arguments"); (case c5 => decide); (case kB => exact locs rfl); (case c2 => exact rfl); (case c3 => exact rfl); (case c4 => exact rfl); k_whole; intro g' L' h' FG' F' N' X' T'; (try dsimp only); (try k_fold)))
local macro_rules | `(tactic| walk_at "subscriptTail") => `(tactic| (k_here; (with_reducible show wpAny _ _ (subscriptTail _ _ (Value.ref _) (Value.str _ _)) _ _ _); k_dflt (refine tab_item (by k_asm) (by assumption) (by assumption) ?_)))
local macro_rules | `(tactic| walk_at "subscriptTail") => `(tactic| (k_here; (with_reducible show wpAny _ _ (subscriptTail _ _ (Value.ref _) (Value.int _ _)) _ _ _); k_dflt (refine stk_last (by is_list) (by assumption) ?_)))
local macro_rules | `(tactic| k_all) => `(tactic| first | assumption | exact ne_of_allL (by assumption) | exact ne_of_allLt (by assumption) | exact ne_of_allLt (And.right (by assumption)) | exact ne_of_allLt (And.right (And.right (by assumption))) | exact ne_of_allLt (And.right (And.right (And.right (by assumption)))))
local macro_rules | `(tactic| k_enter) => `(tactic| (kp_kind "rest"; (refine' code_rest0 ?k2 ?k3 ?k4 ?k5 ?k6 ?k7 ?k8 ?kV ?kP ?kG ?kB ?_ ?c2 ?c3 ?c4 ?c5; (case k2 => k_asm); (case k3 => k_asm); (case k4 => k_asm); (case k5 => k_asm); (case k6 => k_is); (case k7 => k_is); (case k8 => k_room); (case kV => exact rfl); (case kP => exact rfl); (case kG => exact fun _ => rfl); (case kB => exact fun _ => locs rfl); (case c5 => decide); (case c2 => exact rfl); (case c3 => exact rfl); (case c4 => exact rfl); k_whole; intro D' g' L' h' l1 FG' F' N' X' T'; (try k_lt l1); (try dsimp only); (try k_fold))))
local macro_rules | `(tactic| k_enter) => `(tactic| (kp_kind "more"; (refine' code_more0 ?k2 ?k3 ?k4 ?k5 ?k6 ?k7 ?k8 ?kP ?kK ?kB ?_ ?c2 ?c3 ?c4 ?c5; (case k2 => k_asm); (case k3 => k_asm); (case k4 => k_asm); (case k5 => k_asm); (case k6 => k_is); (case k7 => k_is); (case k8 => k_room); (case kP => exact rfl); (case kK => exact fun _ => rfl); (case kB => exact fun _ => locs rfl); (case c5 => decide); (case c2 => exact rfl); (case c3 => exact rfl); (case c4 => exact rfl); k_whole; intro D' o' g' L' h' tk' l1 lo' hd' fs' FG' F' N' X' T'; (try k_lt l1); (try dsimp only); (try k_fold))))
local macro_rules | `(tactic| k_enter) => `(tactic| (kp_kind "both"; (refine' code_both0 ?k2 ?k3 ?k4 ?k5 ?k6 ?k7 ?k8 ?kV ?kP ?kQ ?kK ?kB ?_ ?c2 ?c3 ?c4 ?c5; (case k2 => k_asm); (case k3 => k_asm); (case k4 => k_asm); (case k5 => k_asm); (case k6 => k_is); (case k7 => k_is); (case k8 => k_room); (case kV => exact rfl); (case kP => exact rfl); (case kQ => exact fun _ => rfl); (case kK => exact fun _ _ => rfl); (case kB => exact fun _ _ => locs rfl); (case c5 => decide); (case c2 => exact rfl); (case c3 => exact rfl); (case c4 => exact rfl); k_whole; intro C' D' g' L' h' tk' l1 l2 l3 FG' F' N' X' T'; (try k_lt l1); (try k_lt l3); (try dsimp only); (try k_fold))))
local macro_rules | `(tactic| walk_at "subscriptTail Name UnaryOp ref int") => `(tactic| (k_here; (with_reducible show wpAny _ _ (subscriptTail _ _ (Value.ref _) (Value.int _ _)) _ _ _); k_dflt (refine stk_last (by is_list) (by assumption) ?_)))
local macro_rules | `(tactic| walk_at "truthy ref") => `(tactic| (k_here; (with_reducible show wpAny _ _ (truthy (Value.ref _)) _ _ _); k_dflt (first | refine truthy_tup (b := false) (by assumption) (by assumption) (by first | exact Nat.le_of_ble_eq_true rfl | omega) rfl ?_ | refine truthy_tup (b := true) (by assumption) (by assumption) (by first | exact Nat.le_of_ble_eq_true rfl | omega) rfl ?_); intro _))
local macro_rules | `(tactic| walk_at "truthy str") => `(tactic| (k_here; (with_reducible show wpAny _ _ (truthy (Value.str _ _)) _ _ _); k_dflt (refine KXt.truthy_pos (K := 1000) (by omega) (by omega) (by omega) ?_); intro _))
local macro_rules | `(tactic| walk_at "StarOf ref") => `(tactic| (k_here; k_dflt (refine star_tup (by assumption) (by assumption) (by assumption) (by first | exact Nat.le_of_ble_eq_true rfl | omega) ?_); intro h' F' N'; (try dsimp only [List.nil_append, List.cons_append]); (try k_sweep)))
local macro_rules | `(tactic| walk_at "callWith ref") => `(tactic| (k_here; (with_reducible show wpAny _ _ (callWith _ (Value.ref _) _ (backTo _ (starEach (Expr.Starred _ _ :: _ :: _) _)) []) _ _ _); k_dflt (refine' callWith_S3 ?k1 ?k2 ?_; (case k1 => k_asm); (case k2 => k_is); k_whole)))
local macro_rules | `(tactic| walk_at "call type:str") => `(tactic| (k_here; (with_reducible show wpAny _ _ (call (Value.type "str") [Value.int _ _]) _ _ _); k_dflt (refine str_int9 (by omega) (by omega) ?_); intro _ _))
local macro_rules | `(tactic| walk_at "MINE enterC") => `(tactic| (refine' enterC ?mX ?mT ?k6 ?k7 ?k8 ?k9 ?kB ?kD ?_ ?c2 ?c3 ?c4; (case mX => assumption); (case mT => assumption); (case k6 => k_is); (case k7 => k_is); (case k8 => k_room); (case k9 => first | exact BindsTo.of_eq rfl | exact binds_K (by assumption) rfl (by k_is) rfl rfl rfl); (case kB => exact rfl); (case kD => decide +kernel); (case c2 => exact rfl); (case c3 => exact rfl); (case c4 => exact rfl); intro L' h' tk' cells' F' N' Y'; k_cells Y'; (try simp only [List.cons_append, List.nil_append] at N'); (try dsimp only)))
local macro_rules | `(tactic| walk_at "compareOp In str ref") => `(tactic| (k_here; (with_reducible show wpAny _ _ (compareOp _ (Value.str _ _) (Value.ref _)) _ _ _); k_dflt (refine in_map (by assumption) (by assumption) (by assumption) (by assumption) ?_); intro _))
local macro_rules | `(tactic| walk_at "call builtin:isinstance") => `(tactic| (k_here; (with_reducible show wpAny _ _ (call _ [Value.ref _, Value.type _]) _ _ _); k_dflt (refine' kia_one kitx_tuple ?X ?c ?ee ?nb ?_; (case c => exact kitAt_B (by assumption) (by assumption)); (case X => walk_at "MINE X"); (case ee => kit_is); (case nb => kit_nb); k_whole; intro _)))
local macro_rules | `(tactic| walk_at "call builtin:isinstance") => `(tactic| (k_here; (with_reducible show wpAny _ _ (call _ [Value.ref _, Value.ref _]) _ _ _); k_dflt (refine' kia_one kitx_tuple ?X ?c ?ee ?nb ?_; (case c => exact kitAt_B (by assumption) (by assumption)); (case X => walk_at "MINE X"); (case ee => kit_is); (case nb => kit_nb); k_whole; intro _)))
local macro_rules | `(tactic| walk_at "call type:type") => `(tactic| (k_here; (with_reducible show wpAny _ _ (call (Value.type "type") [Value.ref _]) _ _ _); k_dflt (refine kto_cont (T := "tuple") (kitAt_B (by assumption) (by assumption)) (by decide +kernel) ?_)))
theorem t_aw {side z : Int} {n : Nat} {t1 t2 : Tok} {R : Result → Shared → Prop} (hn : 1 ≤ n ∧ n ≤ 3) (hz : z = (n : Int))
  (X : (Mine.hd2.heap_39 w.params).In s.heap) (T : Top p loose mean mg mb s.heap)
  (hd9 : d < 500) (hu9 : u < 900) (hs : 0 ≤ side) (hs1 : side ≤ 1)
  (hR : ∀ h' k D nn vs, Keeps s.heap h' → (h'.get? D = some { cls := .type "tuple", data := .seq vs.toArray nn } ∧ s.heap.get? D = none) → StrsAre vs (awNames side n) → R (.ok (.ret (.ref D))) {s with heap := h', toks := k}) :
  codeAny (model PG w) ⟨none, d, some outer, gd, u⟩ (.call (.ref 641) ⟨[.int side t1, .int z t2], []⟩) R s := by
  subst hz
  have h3 : n = 1 ∨ n = 2 ∨ n = 3 := by omega
  rcases h3 with rfl | rfl | rfl
  · exact t_awaited1 X T hd9 hu9 hs hs1 hR
  · exact t_awaited2 X T hd9 hu9 hs hs1 hR
  · exact t_awaited3 X T hd9 hu9 hs hs1 hR
theorem tup_add {prog : Program} {A : Around} {E : Value → Shared → Prop} {h₀ : Heap} {L t b : Addr} {m : Str → Option Value} {vs ws : List Value} {n1 n2 : Nat} {news : List (Addr × Obj)} {Q : Value → Shared → Prop} (F : Fr h₀ L s.heap m) (N : News h₀ L s.heap news)
    (ht : (t, ({ cls := .type "tuple", data := .seq vs.toArray n1 } : Obj)) ∈ news) (hb : (b, ({ cls := .type "tuple", data := .seq ws.toArray n2 } : Obj)) ∈ news) (hv : vs ≠ []) (hw : ws ≠ []) (hz : vs.length + ws.length ≤ 10000)
    (h : ∀ D h', Fr h₀ L h' m → News h₀ L h' ((D, ({ cls := .type "tuple", data := .seq (vs ++ ws).toArray } : Obj)) :: news) → (∀ p ∈ news, p.1 < D) → Q (.ref D) { s with heap := h' }) : wpAny (model prog w) A (binaryOp .Add (.ref t) (.ref b)) Q E s := by
  refine add_tuples F N ⟨_, (N _ ht).1, rfl, _, rfl⟩ ⟨_, (N _ hb).1, rfl, _, rfl⟩ (fun q => absurd q hv) (fun _ q => absurd q hw) (fun _ _ h' F' N' => ?_) (by rw [sizeLine_eq]; omega)
  exact h _ h' F' N' fun p hp => Heap.lt_size (N p hp).1
end
end Mine
end
section
namespace Mine
section
variable {w : World} {d u : Nat} {gd : Option (List Code)} {base : Heap} {outer : List Env} {s : Shared} {p : Program} {loose : List Str} {mean : ExcName → Option Value} {mg mb : Str → Option Value}
local macro_rules | `(tactic| k_inst) => `(tactic| exact inst_base (by k_asm) (by assumption) (by assumption))
local macro_rules | `(tactic| k_room) => `(tactic| ((try simp only [depth_under_make, depth_under_kw, depth_in1, depth_deeper, depth_caller, depth_mk, Around.in1_depth, rl_is]); omega))
local macro_rules | `(tactic| k_units) => `(tactic| ((try simp only [Around.in1_units, Around.deeper_units, Around.mark_units, units_mk, cl_is]); omega))
local macro_rules | `(tactic| walk_at "truthy str") => `(tactic| (k_here; (with_reducible refine truthy_ch ?_); intro _))
local macro_rules | `(tactic| walk_at "call builtin:str.join") => `(tactic| (k_here; (refine join_one (by is_list) ?_); intro _ _))
local macro_rules | `(tactic| walk_at "MINE enter") => `(tactic| (refine' enter ?mX ?mT ?k6 ?k7 ?k8 ?k9 ?kB ?_ ?c2 ?c3 ?c4 ?c5; (case mX => assumption); (case mT => assumption); (case k6 => k_is); (case k7 => k_is); (case k8 => k_room); (case k9 => first | exact BindsTo.of_eq rfl | exact binds_K (by assumption) rfl (by k_is) rfl rfl rfl); (case c5 => decide); (case kB => exact locs rfl); (case c2 => exact rfl); (case c3 => exact rfl); (case c4 => exact rfl); intro L' h' F' N'; (try dsimp only)))
local macro_rules | `(tactic| walk_at "BRest") => `(tactic| (with_unfolding_all first | (refine BRest.succ (fun I' it' h' tk' hit' off' F' N' => ?_)) | (refine BRest.zero (fun h' tk' F' N' => ?_))))
local macro_rules | `(tactic| walk_at "MINE obj") => `(tactic| first | assumption | exact Fr.keep (by assumption) _ _ (by assumption) | exact News.get (by assumption) (by k_mem))
local macro_rules | `(tactic| walk_at "MINE lst") => `(tactic| first | assumption | exact Heap.IsList.at (by assumption) (fun o e => Fr.keep (by assumption) _ o e) | is_list)
local macro_rules | `(tactic| walk_at "MINE X") => `(tactic| first | assumption | exact Frag.In.keeps (by assumption) (Fr.keep (by assumption)))
local macro_rules | `(tactic| walk_at "MINE T") => `(tactic| first | assumption | exact Top.keeps (by assumption) (Fr.keep (by assumption)))
local macro_rules | `(tactic| walk_at "MINE B") => `(tactic| first | assumption | exact Below.push (by assumption) (by assumption))
local macro_rules | `(tactic| k_enter) => `(tactic| (refine' code_def0 ?k2 ?k3 ?k4 ?k5 ?k6 ?k7 ?k8 ?k9 ?kB ?_ ?c2 ?c3 ?c4 ?c5; (case k2 => k_asm); (case k3 => k_asm); (case k4 => k_asm); (case k5 => k_asm); (case k6 => k_is); (case k7 => k_is); (case k8 => k_room); (case k9 => first | exact BindsTo.of_eq rfl | exact binds_K (by k_in) rfl (by k_is) rfl rfl rfl | fail "k_enter: no rule for these arguments"); (case c5 => decide); (case kB => exact locs rfl); (case c2 => exact rfl); (case c3 => exact rfl); (case c4 => exact rfl); k_whole; intro g' L' h' FG' F' N' X' T'; (try dsimp only); (try k_fold)))
local macro_rules | `(tactic| walk_at "subscriptTail") => `(tactic| (k_here; (with_reducible show wpAny _ _ (subscriptTail _ _ (Value.ref _) (Value.str _ _)) _ _ _); k_dflt (refine tab_item (by k_asm) (by assumption) (by assumption) ?_)))
local macro_rules | `(tactic| walk_at "subscriptTail") => `(tactic| (k_here; (with_reducible show wpAny _ _ (subscriptTail _ _ (Value.ref _) (Value.int _ _)) _ _ _); k_dflt (refine stk_last (by is_list) (by assumption) ?_)))
local macro_rules | `(tactic| k_all) => `(tactic| first | assumption | exact ne_of_allL (by assumption) | exact ne_of_allLt (by assumption) | exact ne_of_allLt (And.right (by assumption)) | exact ne_of_allLt (And.right (And.right (by assumption))) | exact ne_of_allLt (And.right (And.right (And.right (by assumption)))))
local macro_rules | `(tactic| k_enter) => `(tactic| (kp_kind "rest"; (refine' code_rest0 ?k2 ?k3 ?k4 ?k5 ?k6 ?k7 ?k8 ?kV ?kP ?kG ?kB ?_ ?c2 ?c3 ?c4 ?c5; (case k2 => k_asm); (case k3 => k_asm); (case k4 => k_asm); (case k5 => k_asm); (case k6 => k_is); (case k7 => k_is); (case k8 => k_room); (case kV => exact rfl); (case kP => exact rfl); (case kG => exact fun _ => rfl); (case kB => exact fun _ => locs rfl); (case c5 => decide); (case c2 => exact rfl); (case c3 => exact rfl); (case c4 => exact rfl); k_whole; intro D' g' L' h' l1 FG' F' N' X' T'; (try k_lt l1); (try dsimp only); (try k_fold))))
local macro_rules | `(tactic| k_enter) => `(tactic| (kp_kind "more"; (refine' code_more0 ?k2 ?k3 ?k4 ?k5 ?k6 ?k7 ?k8 ?kP ?kK ?kB ?_ ?c2 ?c3 ?c4 ?c5; (case k2 => k_asm); (case k3 => k_asm); (case k4 => k_asm); (case k5 => k_asm); (case k6 => k_is); (case k7 => k_is); (case k8 => k_room); (case kP => exact rfl); (case kK => exact fun _ => rfl); (case kB => exact fun _ => locs rfl); (case c5 => decide); (case c2 => exact rfl); (case c3 => exact rfl); (case c4 => exact rfl); k_whole; intro D' o' g' L' h' tk' l1 lo' hd' fs' FG' F' N' X' T'; (try k_lt l1); (try dsimp only); (try k_fold))))
local macro_rules | `(tactic| k_enter) => `(tactic| (kp_kind "both"; (refine' code_both0 ?k2 ?k3 ?k4 ?k5 ?k6 ?k7 ?k8 ?kV ?kP ?kQ ?kK ?kB ?_ ?c2 ?c3 ?c4 ?c5; (case k2 => k_asm); (case k3 => k_asm); (case k4 => k_asm); (case k5 => k_asm); (case k6 => k_is); (case k7 => k_is); (case k8 => k_room); (case kV => exact rfl); (case kP => exact rfl); (case kQ => exact fun _ => rfl); (case kK => exact fun _ _ => rfl); (case kB => exact fun _ _ => locs rfl); (case c5 => decide); (case c2 => exact rfl); (case c3 => exact rfl); (case c4 => exact rfl); k_whole; intro C' D' g' L' h' tk' l1 l2 l3 FG' F' N' X' T'; (try k_lt l1); (try k_lt l3); (try dsimp only); (try k_fold))))
local macro_rules | `(tactic| walk_at "subscriptTail Name UnaryOp ref int") => `(tactic| (k_here; (with_reducible show wpAny _ _ (subscriptTail _ _ (Value.ref _) (Value.int _ _)) _ _ _); k_dflt (refine stk_last (by is_list) (by assumption) ?_)))
local macro_rules | `(tactic| walk_at "truthy ref") => `(tactic| (k_here; (with_reducible show wpAny _ _ (truthy (Value.ref _)) _ _ _); k_dflt (first | refine truthy_tup (b := false) (by assumption) (by assumption) (by first | exact Nat.le_of_ble_eq_true rfl | omega) rfl ?_ | refine truthy_tup (b := true) (by assumption) (by assumption) (by first | exact Nat.le_of_ble_eq_true rfl | omega) rfl ?_); intro _))
local macro_rules | `(tactic| walk_at "truthy str") => `(tactic| (k_here; (with_reducible show wpAny _ _ (truthy (Value.str _ _)) _ _ _); k_dflt (refine KXt.truthy_pos (K := 1000) (by omega) (by omega) (by omega) ?_); intro _))
local macro_rules | `(tactic| walk_at "StarOf ref") => `(tactic| (k_here; k_dflt (refine star_tup (by assumption) (by assumption) (by assumption) (by first | exact Nat.le_of_ble_eq_true rfl | omega) ?_); intro h' F' N'; (try dsimp only [List.nil_append, List.cons_append]); (try k_sweep)))
local macro_rules | `(tactic| walk_at "callWith ref") => `(tactic| (k_here; (with_reducible show wpAny _ _ (callWith _ (Value.ref _) _ (backTo _ (starEach (Expr.Starred _ _ :: _ :: _) _)) []) _ _ _); k_dflt (refine' callWith_S3 ?k1 ?k2 ?_; (case k1 => k_asm); (case k2 => k_is); k_whole)))
local macro_rules | `(tactic| walk_at "call type:str") => `(tactic| (k_here; (with_reducible show wpAny _ _ (call (Value.type "str") [Value.int _ _]) _ _ _); k_dflt (refine str_int9 (by omega) (by omega) ?_); intro _ _))
local macro_rules | `(tactic| walk_at "MINE enterC") => `(tactic| (refine' enterC ?mX ?mT ?k6 ?k7 ?k8 ?k9 ?kB ?kD ?_ ?c2 ?c3 ?c4; (case mX => assumption); (case mT => assumption); (case k6 => k_is); (case k7 => k_is); (case k8 => k_room); (case k9 => first | exact BindsTo.of_eq rfl | exact binds_K (by assumption) rfl (by k_is) rfl rfl rfl); (case kB => exact rfl); (case kD => decide +kernel); (case c2 => exact rfl); (case c3 => exact rfl); (case c4 => exact rfl); intro L' h' tk' cells' F' N' Y'; k_cells Y'; (try simp only [List.cons_append, List.nil_append] at N'); (try dsimp only)))
local macro_rules | `(tactic| walk_at "compareOp In str ref") => `(tactic| (k_here; (with_reducible show wpAny _ _ (compareOp _ (Value.str _ _) (Value.ref _)) _ _ _); k_dflt (refine in_map (by assumption) (by assumption) (by assumption) (by assumption) ?_); intro _))
local macro_rules | `(tactic| walk_at "call builtin:isinstance") => `(tactic| (k_here; (with_reducible show wpAny _ _ (call _ [Value.ref _, Value.type _]) _ _ _); k_dflt (refine' kia_one kitx_tuple ?X ?c ?ee ?nb ?_; (case c => exact kitAt_B (by assumption) (by assumption)); (case X => walk_at "MINE X"); (case ee => kit_is); (case nb => kit_nb); k_whole; intro _)))
local macro_rules | `(tactic| walk_at "call builtin:isinstance") => `(tactic| (k_here; (with_reducible show wpAny _ _ (call _ [Value.ref _, Value.ref _]) _ _ _); k_dflt (refine' kia_one kitx_tuple ?X ?c ?ee ?nb ?_; (case c => exact kitAt_B (by assumption) (by assumption)); (case X => walk_at "MINE X"); (case ee => kit_is); (case nb => kit_nb); k_whole; intro _)))
local macro_rules | `(tactic| walk_at "call type:type") => `(tactic| (k_here; (with_reducible show wpAny _ _ (call (Value.type "type") [Value.ref _]) _ _ _); k_dflt (refine kto_cont (T := "tuple") (kitAt_B (by assumption) (by assumption)) (by decide +kernel) ?_)))
local macro_rules | `(tactic| walk_at "pyIter ref") => `(tactic| (k_here; (with_reducible show wpAny _ _ (pyIter (Value.ref _)) (fun it s₂ => LoopAtV _ _ _ _ _ _ _ _ _ it s₂) _ _); refine park ?_))
local macro_rules | `(tactic| walk_at "exec For Name Call cons nil") => `(tactic| (k_here; (with_unfolding_all refine' For_invVF (by assumption) ?k1 ?k2 ?_); (case k1 => exact rfl); (case k2 => exact rfl)))
local macro_rules | `(tactic| walk_at "call ref") => `(tactic| (k_here; (with_reducible show wpAny _ _ (call (Value.ref 641) _) _ _ _); refine park ?_))
local macro_rules | `(tactic| walk_at "call ref") => `(tactic| (k_here; (with_reducible show wpAny _ _ (call (Value.ref 56) [Value.ref _, _]) _ _ _); k_dflt ((refine wpAny_call ?_); (refine' t_child1 ?sX ?sT ?sd ?su ?h0 ?h1 ?up ?sx ?sd2 ?st ?_; (case sX => walk_at "MINE X"); (case sT => walk_at "MINE T"); (case sd => k_room); (case su => k_units); (case h0 => exact (strD (by assumption)).1); (case h1 => exact (strD (by assumption)).2.1); (case up => exact (strD (by assumption)).2.2); (case sx => exact News.get (by assumption) (by k_mem)); (case sd2 => exact News.get (by assumption) (by k_mem)); (case st => exact tup_get (News.get (by assumption) (by k_mem))); (intro h' k' q' dq' hs' tk' nt' yt' vt' n' hk' hq1' hq2' hq3'); (obtain ⟨F', N', hka', hkb', hkc'⟩ := news_kid (by assumption) (by assumption) hk' hq1' hq2' hq3'); (try k_sweep)))))
local macro_rules | `(tactic| walk_at "call ref") => `(tactic| (k_here; (with_reducible show wpAny _ _ (call (Value.ref 56) [Value.ref 72, _]) _ _ _); k_dflt ((refine wpAny_call ?_); (refine' t_child0 ?tX ?tT ?td ?tu ?t0 ?t1 ?a1 ?a2 ?a3 ?tup ?_; (case tX => walk_at "MINE X"); (case tT => walk_at "MINE T"); (case td => k_room); (case tu => k_units); (case t0 => exact (strC (by assumption)).1); (case t1 => exact (strC (by assumption)).2.1); (case a1 => exact (strC (by assumption)).2.2.2.1); (case a2 => exact (strC (by assumption)).2.2.2.2.1); (case a3 => exact (strC (by assumption)).2.2.2.2.2); (case tup => exact (strC (by assumption)).2.2.1); (intro h' k' q' dq' hs' tk' nt' vt' n' hk' hq1' hq2' hq3'); (obtain ⟨F', N', hka', hkb', hkc'⟩ := news_kid (by assumption) (by assumption) hk' hq1' hq2' hq3'); (try k_sweep)))))
local macro_rules | `(tactic| walk_at "call builtin:list.append") => `(tactic| (k_here; (with_reducible show wpAny _ _ (call _ [Value.ref _, _]) _ _ _); refine park ?_))
local macro_rules | `(tactic| walk_at "MINE ne") => `(tactic| (dsimp only; first | exact off_of (by assumption) (by k_mem) | (refine neN ?_; omega)))
theorem t_row {h₀ gv : Heap} {L table I5 I6 I7 rl q : Addr} {it5 it6 it7 o₁ : Obj} {env : Env} {j k a ne : Nat} {its : List Value} {kvs : List (Str × Value)} {rest : List (Addr × Obj)} {m : Str → Option Value} {tk tk2 tk3 : Tok} {P : Flow → Shared → Prop}
  (henv : env = fnEnv (Mine.hd2.heap_39 w.params) 648 L)
  (X : (Mine.hd2.heap_39 w.params).In h₀) (T : Top p loose mean mg mb h₀)
  (hd9 : d < 450) (hu9 : u < 800) (hk : k < 2) (ha : a < 3)
  (F : Fr h₀ L s.heap m) (m1 : m (Str.ofString "table") = some (.ref table)) (m2 : m (Str.ofString "child") = some (.int (1 + (j : Int)) tk)) (m3 : m (Str.ofString "side") = some (.int (0 + (k : Int)) tk2)) (m4 : m (Str.ofString "kind") = some (.ref q)) (m5 : m (Str.ofString "rows") = some (.ref rl)) (m6 : m (Str.ofString "arity") = some (.int (1 + (a : Int)) tk3))
  (N : News h₀ L s.heap ((I7, it7) :: (rl, lstN its ne) :: (I6, it6) :: (I5, it5) :: (table, o₁) :: rest)) (ho7 : ∀ p ∈ (rl, lstN its ne) :: (I6, it6) :: (I5, it5) :: (table, o₁) :: rest, p.1 ≠ I7)
  (hoff : ∀ p ∈ rest, p.1 ≠ rl ∧ p.1 ≠ table ∧ p.1 ≠ I5 ∧ p.1 ≠ I6) (hlen : its.length = a + 1) (hmu : rl ≠ I6 ∧ rl ≠ I5 ∧ rl ≠ table)
  (hb : BearsG h₀ rest gv) (hkind : KindAt 66 gv q (stKind j k)) (hraw : RawsAt 66 613 gv its ((List.range (a + 1)).map (stRaw j k))) (htab : TabR gv kvs (stTab (2 * j + k)))
  (hP : ∀ s', UnrEnd h₀ L s I7 it7 (RowJ h₀ table I5 I6 rl q it5 it6 j k kvs o₁ tk tk2 (a + 1)) s' → P .next s') :
  wpAny (model PG w) ((⟨none, d, some outer, gd, u⟩ : Around).deeper env) (execs (nthFor (nthFor (nthFor (fnBody (Mine.hd2.heap_39 w.params) 648) 2) 0) 2) env) P (fun _ _ => False) s := by
  have henv' : env = envOf _ _ L 648 _ := henv
  with_unfolding_all (show wpAny _ _ (execs (_ :: _) _) _ _ _)
  clear henv
  subst henv'
  replace F := Fr.re (m' := fun y => if y = Str.ofString "arity" then some (.int (1 + (a : Int)) tk3) else if y = Str.ofString "rows" then some (.ref rl) else if y = Str.ofString "kind" then some (.ref q) else if y = Str.ofString "side" then some (.int (0 + (k : Int)) tk2) else if y = Str.ofString "child" then some (.int (1 + (j : Int)) tk) else if y = Str.ofString "table" then some (.ref table) else m y) F (by
    intro y
    split
    · rename_i e; rw [e, m6]
    split
    · rename_i e; rw [e, m5]
    split
    · rename_i e; rw [e, m4]
    split
    · rename_i e; rw [e, m3]
    split
    · rename_i e; rw [e, m2]
    split
    · rename_i e; rw [e, m1]
    rfl)
  clear m1 m2 m3 m4 m5 m6
  k_steps
  refine unpark ?_
  rename Fr _ _ _ _ => F9
  rename News _ _ _ _ => N9
  refine wpAny_call ?_
  refine t_aw (n := a + 1) (by omega) (by omega) (by walk_at "MINE X") (by walk_at "MINE T") (by k_room) (by k_units) (by omega) (by omega) ?_
  intro h6 k6 aw na avs hk6 haw hstrs
  obtain ⟨F7, N7, hoa⟩ := news_add F9 N9 hk6 haw
  show wpAny _ _ (binaryOp _ (Value.ref _) (Value.ref _)) _ _ _
  have hal : avs.length = a + 1 := by
    have z : ∀ n : Nat, (awNames (1 - (0 + (k : Int))) n).length = n := by
      intro n
      induction n with
      | zero => rfl
      | succ n ih => show (awNames _ n).length + 1 = _; rw [ih]
    rw [strs_len hstrs, z]
  refine tup_add (vs := [_]) F7 N7 (by k_mem) (.head _) (by simp) (by rintro rfl; simp at hal) (by simp; omega) ?_
  intro G8 h8 F8 N8 hG
  k_sweep
  k_steps
  refine unpark ?_
  rename Fr _ _ _ _ => FB
  rename News _ _ _ _ => NB
  have hG2 := ne_of_allL hG
  obtain ⟨hrl1, hrl2, hrl3⟩ := hmu
  refine append_S (pre := [_, _, _, _, _, _, _, _, _]) FB NB ?off1 ?off2 (by omega) ?_
  case off1 =>
    repeat (first | exact fun _ h => (List.not_mem_nil h).elim | refine List.forall_mem_cons.mpr ⟨by walk_at "MINE ne", ?_⟩)
  case off2 =>
    refine List.forall_mem_cons.mpr ⟨hrl1.symm, List.forall_mem_cons.mpr ⟨hrl2.symm, List.forall_mem_cons.mpr ⟨hrl3.symm, fun p hp => (hoff p hp).1⟩⟩⟩
  intro h' F' N'
  k_sweep
  k_steps
  rename Fr _ _ _ _ => FA
  rename News _ _ _ _ => NA
  refine hP _ (row_fin (s := s) [_, _, _, _, _, _, _, _] FA NA ?offN ho7 hoff hlen hb hkind hraw htab ?hrow rfl rfl rfl rfl rfl)
  case offN =>
    repeat (first | exact fun _ h => (List.not_mem_nil h).elim | refine List.forall_mem_cons.mpr ⟨⟨by walk_at "MINE ne", by walk_at "MINE ne", by walk_at "MINE ne", by walk_at "MINE ne", by walk_at "MINE ne"⟩, ?_⟩)
  case hrow =>
    intro g' hg hkq
    rw [Int.zero_add] at hstrs
    have e1 := hg _ (.head _)
    have e2 := hg _ (.tail _ (.head _))
    have e5 := hg _ (.tail _ (.tail _ (.tail _ (.tail _ (.head _)))))
    have e6 := hg _ (.tail _ (.tail _ (.tail _ (.tail _ (.tail _ (.head _))))))
    have e7 := hg _ (.tail _ (.tail _ (.tail _ (.tail _ (.tail _ (.tail _ (.head _)))))))
    have e8 := hg _ (.tail _ (.tail _ (.tail _ (.tail _ (.tail _ (.tail _ (.tail _ (.head _))))))))
    rw [ch_bcd ha] at e8
    refine ⟨_, _, _, rfl, ⟨_, _, _, _, _, _, e5, e6, ⟨_, e7, rfl, _, rfl⟩, ⟨_, e8, rfl, _, rfl⟩⟩, hkq, ?_⟩
    exact ⟨_, _, ⟨_, e1, rfl, _, rfl⟩, ⟨_, e2, rfl, _, rfl⟩, .cons _ _ hstrs, by show (Str.ofString "#pop" :: awNames _ (a + 1)).length ≤ 100; rw [List.length_cons, aw_len]; omega⟩
end
end Mine
end
section
namespace Mine
section
variable {w : World} {d u : Nat} {gd : Option (List Code)} {base : Heap} {outer : List Env} {s : Shared} {p : Program} {loose : List Str} {mean : ExcName → Option Value} {mg mb : Str → Option Value}
local macro_rules | `(tactic| k_inst) => `(tactic| exact inst_base (by k_asm) (by assumption) (by assumption))
local macro_rules | `(tactic| k_room) => `(tactic| ((try simp only [depth_under_make, depth_under_kw, depth_in1, depth_deeper, depth_caller, depth_mk, Around.in1_depth, rl_is]); omega))
local macro_rules | `(tactic| k_units) => `(tactic| ((try simp only [Around.in1_units, Around.deeper_units, Around.mark_units, units_mk, cl_is]); omega))
local macro_rules | `(tactic| walk_at "truthy str") => `(tactic| (k_here; (with_reducible refine truthy_ch ?_); intro _))
local macro_rules | `(tactic| walk_at "call builtin:str.join") => `(tactic| (k_here; (refine join_one (by is_list) ?_); intro _ _))
local macro_rules | `(tactic| walk_at "MINE enter") => `(tactic| (refine' enter ?mX ?mT ?k6 ?k7 ?k8 ?k9 ?kB ?_ ?c2 ?c3 ?c4 ?c5; (case mX => assumption); (case mT => assumption); (case k6 => k_is); (case k7 => k_is); (case k8 => k_room); (case k9 => first | exact BindsTo.of_eq rfl | exact binds_K (by assumption) rfl (by k_is) rfl rfl rfl); (case c5 => decide); (case kB => exact locs rfl); (case c2 => exact rfl); (case c3 => exact rfl); (case c4 => exact rfl); intro L' h' F' N'; (try dsimp only)))
local macro_rules | `(tactic| walk_at "BRest") => `(tactic| (with_unfolding_all first | (refine BRest.succ (fun I' it' h' tk' hit' off' F' N' => ?_)) | (refine BRest.zero (fun h' tk' F' N' => ?_))))
local macro_rules | `(tactic| walk_at "MINE obj") => `(tactic| first | assumption | exact Fr.keep (by assumption) _ _ (by assumption) | exact News.get (by assumption) (by k_mem))
local macro_rules | `(tactic| walk_at "MINE lst") => `(tactic| first | assumption | exact Heap.IsList.at (by assumption) (fun o e => Fr.keep (by assumption) _ o e) | is_list)
local macro_rules | `(tactic| walk_at "MINE X") => `(tactic| first | assumption | exact Frag.In.keeps (by assumption) (Fr.keep (by assumption)))
local macro_rules | `(tactic| walk_at "MINE T") => `(tactic| first | assumption | exact Top.keeps (by assumption) (Fr.keep (by assumption)))
local macro_rules | `(tactic| walk_at "MINE B") => `(tactic| first | assumption | exact Below.push (by assumption) (by assumption))
local macro_rules | `(tactic| k_enter) => `(tactic| (refine' code_def0 ?k2 ?k3 ?k4 ?k5 ?k6 ?k7 ?k8 ?k9 ?kB ?_ ?c2 ?c3 ?c4 ?c5; (case k2 => k_asm); (case k3 => k_asm); (case k4 => k_asm); (case k5 => k_asm); (case k6 => k_is); (case k7 => k_is); (case k8 => k_room); (case k9 => first | exact BindsTo.of_eq rfl | exact binds_K (by k_in) rfl (by k_is) rfl rfl rfl | fail "k_enter: no rule for these arguments"); (case c5 => decide); (case kB => exact locs rfl); (case c2 => exact rfl); (case c3 => exact rfl); (case c4 => exact rfl); k_whole; intro g' L' h' FG' F' N' X' T'; (try dsimp only); (try k_fold)))
local macro_rules | `(tactic| walk_at "subscriptTail") => `(tactic| (k_here; (with_reducible show wpAny _ _ (subscriptTail _ _ (Value.ref _) (Value.str _ _)) _ _ _); k_dflt (refine tab_item (by k_asm) (by assumption) (by assumption) ?_)))
local macro_rules | `(tactic| walk_at "subscriptTail") => `(tactic| (k_here; (with_reducible show wpAny _ _ (subscriptTail _ _ (Value.ref _) (Value.int _ _)) _ _ _); k_dflt (refine stk_last (by is_list) (by assumption) ?_)))
local macro_rules | `(tactic| k_all) => `(tactic| first | assumption | exact ne_of_allL (by assumption) | exact ne_of_allLt (by assumption) | exact ne_of_allLt (And.right (by assumption)) | exact ne_of_allLt (And.right (And.right (by assumption))) | exact ne_of_allLt (And.right (And.right (And.right (by assumption)))))
local macro_rules | `(tactic| k_enter) => `(tactic| (kp_kind "rest"; (refine' code_rest0 ?k2 ?k3 ?k4 ?k5 ?k6 ?k7 ?k8 ?kV ?kP ?kG ?kB ?_ ?c2 ?c3 ?c4 ?c5; (case k2 => k_asm); (case k3 => k_asm); (case k4 => k_asm); (case k5 => k_asm); (case k6 => k_is); (case k7 => k_is); (case k8 => k_room); (case kV => exact rfl); (case kP => exact rfl); (case kG => exact fun _ => rfl); (case kB => exact fun _ => locs rfl); (case c5 => decide); (case c2 => exact rfl); (case c3 => exact rfl); (case c4 => exact rfl); k_whole; intro D' g' L' h' l1 FG' F' N' X' T'; (try k_lt l1); (try dsimp only); (try k_fold))))
local macro_rules | `(tactic| k_enter) => `(tactic| (kp_kind "more"; (refine' code_more0 ?k2 ?k3 ?k4 ?k5 ?k6 ?k7 ?k8 ?kP ?kK ?kB ?_ ?c2 ?c3 ?c4 ?c5; (case k2 => k_asm); (case k3 => k_asm); (case k4 => k_asm); (case k5 => k_asm); (case k6 => k_is); (case k7 => k_is); (case k8 => k_room); (case kP => exact rfl); (case kK => exact fun _ => rfl); (case kB => exact fun _ => locs rfl); (case c5 => decide); (case c2 => exact rfl); (case c3 => exact rfl); (case c4 => exact rfl); k_whole; intro D' o' g' L' h' tk' l1 lo' hd' fs' FG' F' N' X' T'; (try k_lt l1); (try dsimp only); (try k_fold))))
local macro_rules | `(tactic| k_enter) => `(tactic| (kp_kind "both"; (refine' code_both0 ?k2 ?k3 ?k4 ?k5 ?k6 ?k7 ?k8 ?kV ?kP ?kQ ?kK ?kB ?_ ?c2 ?c3 ?c4 ?c5; (case k2 => k_asm); (case k3 => k_asm); (case k4 => k_asm); (case k5 => k_asm); (case k6 => k_is); (case k7 => k_is); (case k8 => k_room); (case kV => exact rfl); (case kP => exact rfl); (case kQ => exact fun _ => rfl); (case kK => exact fun _ _ => rfl); (case kB => exact fun _ _ => locs rfl); (case c5 => decide); (case c2 => exact rfl); (case c3 => exact rfl); (case c4 => exact rfl); k_whole; intro C' D' g' L' h' tk' l1 l2 l3 FG' F' N' X' T'; (try k_lt l1); (try k_lt l3); (try dsimp only); (try k_fold))))
local macro_rules | `(tactic| walk_at "subscriptTail Name UnaryOp ref int") => `(tactic| (k_here; (with_reducible show wpAny _ _ (subscriptTail _ _ (Value.ref _) (Value.int _ _)) _ _ _); k_dflt (refine stk_last (by is_list) (by assumption) ?_)))
local macro_rules | `(tactic| walk_at "truthy ref") => `(tactic| (k_here; (with_reducible show wpAny _ _ (truthy (Value.ref _)) _ _ _); k_dflt (first | refine truthy_tup (b := false) (by assumption) (by assumption) (by first | exact Nat.le_of_ble_eq_true rfl | omega) rfl ?_ | refine truthy_tup (b := true) (by assumption) (by assumption) (by first | exact Nat.le_of_ble_eq_true rfl | omega) rfl ?_); intro _))
local macro_rules | `(tactic| walk_at "truthy str") => `(tactic| (k_here; (with_reducible show wpAny _ _ (truthy (Value.str _ _)) _ _ _); k_dflt (refine KXt.truthy_pos (K := 1000) (by omega) (by omega) (by omega) ?_); intro _))
local macro_rules | `(tactic| walk_at "StarOf ref") => `(tactic| (k_here; k_dflt (refine star_tup (by assumption) (by assumption) (by assumption) (by first | exact Nat.le_of_ble_eq_true rfl | omega) ?_); intro h' F' N'; (try dsimp only [List.nil_append, List.cons_append]); (try k_sweep)))
local macro_rules | `(tactic| walk_at "callWith ref") => `(tactic| (k_here; (with_reducible show wpAny _ _ (callWith _ (Value.ref _) _ (backTo _ (starEach (Expr.Starred _ _ :: _ :: _) _)) []) _ _ _); k_dflt (refine' callWith_S3 ?k1 ?k2 ?_; (case k1 => k_asm); (case k2 => k_is); k_whole)))
local macro_rules | `(tactic| walk_at "call type:str") => `(tactic| (k_here; (with_reducible show wpAny _ _ (call (Value.type "str") [Value.int _ _]) _ _ _); k_dflt (refine str_int9 (by omega) (by omega) ?_); intro _ _))
local macro_rules | `(tactic| walk_at "MINE enterC") => `(tactic| (refine' enterC ?mX ?mT ?k6 ?k7 ?k8 ?k9 ?kB ?kD ?_ ?c2 ?c3 ?c4; (case mX => assumption); (case mT => assumption); (case k6 => k_is); (case k7 => k_is); (case k8 => k_room); (case k9 => first | exact BindsTo.of_eq rfl | exact binds_K (by assumption) rfl (by k_is) rfl rfl rfl); (case kB => exact rfl); (case kD => decide +kernel); (case c2 => exact rfl); (case c3 => exact rfl); (case c4 => exact rfl); intro L' h' tk' cells' F' N' Y'; k_cells Y'; (try simp only [List.cons_append, List.nil_append] at N'); (try dsimp only)))
local macro_rules | `(tactic| walk_at "compareOp In str ref") => `(tactic| (k_here; (with_reducible show wpAny _ _ (compareOp _ (Value.str _ _) (Value.ref _)) _ _ _); k_dflt (refine in_map (by assumption) (by assumption) (by assumption) (by assumption) ?_); intro _))
local macro_rules | `(tactic| walk_at "call builtin:isinstance") => `(tactic| (k_here; (with_reducible show wpAny _ _ (call _ [Value.ref _, Value.type _]) _ _ _); k_dflt (refine' kia_one kitx_tuple ?X ?c ?ee ?nb ?_; (case c => exact kitAt_B (by assumption) (by assumption)); (case X => walk_at "MINE X"); (case ee => kit_is); (case nb => kit_nb); k_whole; intro _)))
local macro_rules | `(tactic| walk_at "call builtin:isinstance") => `(tactic| (k_here; (with_reducible show wpAny _ _ (call _ [Value.ref _, Value.ref _]) _ _ _); k_dflt (refine' kia_one kitx_tuple ?X ?c ?ee ?nb ?_; (case c => exact kitAt_B (by assumption) (by assumption)); (case X => walk_at "MINE X"); (case ee => kit_is); (case nb => kit_nb); k_whole; intro _)))
local macro_rules | `(tactic| walk_at "call type:type") => `(tactic| (k_here; (with_reducible show wpAny _ _ (call (Value.type "type") [Value.ref _]) _ _ _); k_dflt (refine kto_cont (T := "tuple") (kitAt_B (by assumption) (by assumption)) (by decide +kernel) ?_)))
local macro_rules | `(tactic| walk_at "pyIter ref") => `(tactic| (k_here; (with_reducible show wpAny _ _ (pyIter (Value.ref _)) (fun it s₂ => LoopAtV _ _ _ _ _ _ _ _ _ it s₂) _ _); refine park ?_))
local macro_rules | `(tactic| walk_at "exec For Name Call cons nil") => `(tactic| (k_here; (with_unfolding_all refine' For_invVF (by assumption) ?k1 ?k2 ?_); (case k1 => exact rfl); (case k2 => exact rfl)))
local macro_rules | `(tactic| walk_at "call ref") => `(tactic| (k_here; (with_reducible show wpAny _ _ (call (Value.ref 641) _) _ _ _); refine park ?_))
local macro_rules | `(tactic| walk_at "call ref") => `(tactic| (k_here; (with_reducible show wpAny _ _ (call (Value.ref 56) [Value.ref _, _]) _ _ _); k_dflt ((refine wpAny_call ?_); (refine' t_child1 ?sX ?sT ?sd ?su ?h0 ?h1 ?up ?sx ?sd2 ?st ?_; (case sX => walk_at "MINE X"); (case sT => walk_at "MINE T"); (case sd => k_room); (case su => k_units); (case h0 => exact (strA (by assumption)).1); (case h1 => exact (strA (by assumption)).2.1); (case up => exact (strA (by assumption)).2.2); (case sx => exact News.get (by assumption) (by k_mem)); (case sd2 => exact News.get (by assumption) (by k_mem)); (case st => exact tup_get (News.get (by assumption) (by k_mem))); (intro h' k' q' dq' hs' tk' nt' yt' vt' n' hk' hq1' hq2' hq3'); (obtain ⟨F', N', hka', hkb', hkc'⟩ := news_kid (by assumption) (by assumption) hk' hq1' hq2' hq3'); (try k_sweep)))))
local macro_rules | `(tactic| walk_at "call ref") => `(tactic| (k_here; (with_reducible show wpAny _ _ (call (Value.ref 56) [Value.ref 72, _]) _ _ _); k_dflt ((refine wpAny_call ?_); (refine' t_child0 ?tX ?tT ?td ?tu ?t0 ?t1 ?a1 ?a2 ?a3 ?tup ?_; (case tX => walk_at "MINE X"); (case tT => walk_at "MINE T"); (case td => k_room); (case tu => k_units); (case t0 => decide +kernel); (case t1 => decide +kernel); (case a1 => decide +kernel); (case a2 => decide +kernel); (case a3 => decide +kernel); (case tup => decide +kernel); (intro h' k' q' dq' hs' tk' nt' vt' n' hk' hq1' hq2' hq3'); (obtain ⟨F', N', hka', hkb', hkc'⟩ := news_kid (by assumption) (by assumption) hk' hq1' hq2' hq3'); (try k_sweep)))))
local macro_rules | `(tactic| walk_at "call builtin:list.append") => `(tactic| (k_here; (with_reducible show wpAny _ _ (call _ [Value.ref _, _]) _ _ _); refine park ?_))
local macro_rules | `(tactic| walk_at "MINE ne") => `(tactic| (dsimp only; first | exact off_of (by assumption) (by k_mem) | (refine neN ?_; omega)))
local macro_rules | `(tactic| walk_at "setItem ref str ref") => `(tactic| (k_here; refine park ?_))
local macro_rules | `(tactic| walk_at "setItem ref str") => `(tactic| (k_here; refine park ?_))
theorem t_root {h₀ gv : Heap} {L table I5 rl : Addr} {it5 ot : Obj} {env : Env} {i ne : Nat} {its : List Value} {rest : List (Addr × Obj)} {m : Str → Option Value} {tk : Tok} {P : Flow → Shared → Prop}
  (henv : env = fnEnv (Mine.hd2.heap_39 w.params) 648 L)
  (X : (Mine.hd2.heap_39 w.params).In h₀) (T : Top p loose mean mg mb h₀)
  (hd9 : d < 450) (hu9 : u < 800) (hi : i < 4) (hts : (table == sysModules) = false) (hdo : ot.IsDictOf (PySem.strKind PG w) [(Str.ofString "root", .ref rl)])
  (F : Fr h₀ L s.heap m) (m1 : m (Str.ofString "table") = some (.ref table)) (m2 : m (Str.ofString "arity") = some (.int (0 + (i : Int)) tk))
  (N : News h₀ L s.heap ((rl, lstN its ne) :: (I5, it5) :: (table, ot) :: rest)) (hlt2 : @LT.lt Nat _ table rl) (hrI : rl ≠ I5) (htI : table ≠ I5)
  (hoffl : ∀ p ∈ rest, p.1 ≠ rl) (hofft : ∀ p ∈ rest, p.1 ≠ table) (hoffI : ∀ p ∈ rest, p.1 ≠ I5) (hlen5 : its.length = i)
  (hb : BearsG h₀ rest gv) (hraw : RawsAt 66 613 gv its ((List.range i).map rootRaw))
  (hP : ∀ s', UnrEnd h₀ L s I5 it5 (RootJ h₀ table rl ot (i + 1)) s' → P .next s') :
  wpAny (model PG w) ((⟨none, d, some outer, gd, u⟩ : Around).deeper env) (execs (nthFor (fnBody (Mine.hd2.heap_39 w.params) 648) 1) env) P (fun _ _ => False) s := by
  have henv' : env = envOf _ _ L 648 _ := henv
  with_unfolding_all (show wpAny _ _ (execs (_ :: _) _) _ _ _)
  clear henv
  subst henv'
  replace F := Fr.re (m' := fun y => if y = Str.ofString "arity" then some (.int (0 + (i : Int)) tk) else if y = Str.ofString "table" then some (.ref table) else m y) F (by
    intro y
    split
    · rename_i e; rw [e, m2]
    split
    · rename_i e; rw [e, m1]
    rfl)
  clear m1 m2
  have hlen7 : its.length ≤ 1100000 := by omega
  have hi8 : (0 : Int) ≤ 0 + (i : Int) := by omega
  have hi9 : (0 + (i : Int)) ≤ 1000000 := by omega
  k_steps
  rotate_left
  · refine unpark ?_
    rename Fr _ _ _ _ => F9
    rename News _ _ _ _ => N9
    have hi0 : i = 0 := by omega
    rw [ch_abcd hi, Int.zero_add] at N9
    refine append_S (pre := []) F9 (reorder0 N9) (fun _ hp => nomatch hp) ?off hlen7 ?_
    case off =>
      refine List.forall_mem_cons.mpr ⟨hrI.symm, List.forall_mem_cons.mpr ⟨Nat.ne_of_lt hlt2, ?_⟩⟩
      repeat (first | exact hoffl | refine List.forall_mem_cons.mpr ⟨by walk_at "MINE ne", ?_⟩)
    intro h' F' N'
    k_sweep
    k_steps
    rename Fr _ _ _ _ => FA
    rename News _ _ _ _ => NA
    refine hP _ (RootJ.turn (s5 := s) FA NA ?offN hrI htI hoffl hofft hoffI hlen5 hb hraw (.cons _ _ (.cons _ _ .nil)) (act := .stay) (by unfold rootRaw; rw [if_pos hi0]) (fun _ _ => rfl) rfl)
    repeat (first | exact fun _ h => (List.not_mem_nil h).elim | refine List.forall_mem_cons.mpr ⟨⟨by walk_at "MINE ne", by walk_at "MINE ne", by walk_at "MINE ne"⟩, ?_⟩)
  · refine unpark ?_
    rename Fr _ _ _ _ => F9
    rename News _ _ _ _ => N9
    refine wpAny_call ?_
    refine t_aw (n := i) (by omega) (by omega) (by walk_at "MINE X") (by walk_at "MINE T") (by k_room) (by k_units) (by decide) (by decide) ?_
    intro h6 k6 aw na avs hk6 haw hstrs
    obtain ⟨F7, N7, hoa⟩ := news_add F9 N9 hk6 haw
    k_sweep
    k_steps
    refine unpark ?_
    rename Fr _ _ _ _ => FB
    rename News _ _ _ _ => NB
    rw [ch_abcd hi, Int.zero_add] at NB
    refine append_S (pre := []) FB (reorder1 NB) (fun _ hp => nomatch hp) ?off1 hlen7 ?_
    case off1 =>
      refine List.forall_mem_cons.mpr ⟨hrI.symm, List.forall_mem_cons.mpr ⟨Nat.ne_of_lt hlt2, ?_⟩⟩
      repeat (first | exact hoffl | refine List.forall_mem_cons.mpr ⟨by walk_at "MINE ne", ?_⟩)
    intro h' F' N'
    k_sweep
    k_steps
    rename Fr _ _ _ _ => FA
    rename News _ _ _ _ => NA
    refine hP _ (RootJ.turn (s5 := s) FA NA ?offN1 hrI htI hoffl hofft hoffI hlen5 hb hraw (.cons _ _ (.cons _ _ .nil)) (act := .goT (awNames 1 i)) (by unfold rootRaw; rw [if_neg (by omega)]) (fun g' hg => ⟨aw, avs, rfl, ⟨_, hg (aw, _) (.tail _ (.head _)), rfl, _, rfl⟩, hstrs, by rw [aw_len]; omega⟩) rfl)
    repeat (first | exact fun _ h => (List.not_mem_nil h).elim | refine List.forall_mem_cons.mpr ⟨⟨by walk_at "MINE ne", by walk_at "MINE ne", by walk_at "MINE ne"⟩, ?_⟩)
end
end Mine
end
section
namespace Mine
section
variable {w : World} {d u : Nat} {gd : Option (List Code)} {base : Heap} {outer : List Env} {s : Shared} {p : Program} {loose : List Str} {mean : ExcName → Option Value} {mg mb : Str → Option Value}
local macro_rules | `(tactic| k_inst) => `(tactic| exact inst_base (by k_asm) (by assumption) (by assumption))
local macro_rules | `(tactic| k_room) => `(tactic| ((try simp only [depth_under_make, depth_under_kw, depth_in1, depth_deeper, depth_caller, depth_mk, Around.in1_depth, rl_is]); omega))
local macro_rules | `(tactic| k_units) => `(tactic| ((try simp only [Around.in1_units, Around.deeper_units, Around.mark_units, units_mk, cl_is]); omega))
local macro_rules | `(tactic| walk_at "truthy str") => `(tactic| (k_here; (with_reducible refine truthy_ch ?_); intro _))
local macro_rules | `(tactic| walk_at "call builtin:str.join") => `(tactic| (k_here; (refine join_one (by is_list) ?_); intro _ _))
local macro_rules | `(tactic| walk_at "MINE enter") => `(tactic| (refine' enter ?mX ?mT ?k6 ?k7 ?k8 ?k9 ?kB ?_ ?c2 ?c3 ?c4 ?c5; (case mX => assumption); (case mT => assumption); (case k6 => k_is); (case k7 => k_is); (case k8 => k_room); (case k9 => first | exact BindsTo.of_eq rfl | exact binds_K (by assumption) rfl (by k_is) rfl rfl rfl); (case c5 => decide); (case kB => exact locs rfl); (case c2 => exact rfl); (case c3 => exact rfl); (case c4 => exact rfl); intro L' h' F' N'; (try dsimp only)))
local macro_rules | `(tactic| walk_at "BRest") => `(tactic| (with_unfolding_all first | (refine BRest.succ (fun I' it' h' tk' hit' off' F' N' => ?_)) | (refine BRest.zero (fun h' tk' F' N' => ?_))))
local macro_rules | `(tactic| walk_at "MINE obj") => `(tactic| first | assumption | exact Fr.keep (by assumption) _ _ (by assumption) | exact News.get (by assumption) (by k_mem))
local macro_rules | `(tactic| walk_at "MINE lst") => `(tactic| first | assumption | exact Heap.IsList.at (by assumption) (fun o e => Fr.keep (by assumption) _ o e) | is_list)
local macro_rules | `(tactic| walk_at "MINE X") => `(tactic| first | assumption | exact Frag.In.keeps (by assumption) (Fr.keep (by assumption)))
local macro_rules | `(tactic| walk_at "MINE T") => `(tactic| first | assumption | exact Top.keeps (by assumption) (Fr.keep (by assumption)))
local macro_rules | `(tactic| walk_at "MINE B") => `(tactic| first | assumption | exact Below.push (by assumption) (by assumption))
local macro_rules | `(tactic| k_enter) => `(tactic| (refine' code_def0 ?k2 ?k3 ?k4 ?k5 ?k6 ?k7 ?k8 ?k9 ?kB ?_ ?c2 ?c3 ?c4 ?c5; (case k2 => k_asm); (case k3 => k_asm); (case k4 => k_asm); (case k5 => k_asm); (case k6 => k_is); (case k7 => k_is); (case k8 => k_room); (case k9 => first | exact BindsTo.of_eq rfl | exact binds_K (by k_in) rfl (by k_is) rfl rfl rfl | fail "k_enter: no rule for these arguments"); (case c5 => decide); (case kB => exact locs rfl); (case c2 => exact rfl); (case c3 => exact rfl); (case c4 => exact rfl); k_whole; intro g' L' h' FG' F' N' X' T'; (try dsimp only); (try k_fold)))
local macro_rules | `(tactic| walk_at "subscriptTail") => `(tactic| (k_here; (with_reducible show wpAny _ _ (subscriptTail _ _ (Value.ref _) (Value.str _ _)) _ _ _); k_dflt (refine tab_item (by k_asm) (by assumption) (by assumption) ?_)))
local macro_rules | `(tactic| walk_at "subscriptTail") => `(tactic| (k_here; (with_reducible show wpAny _ _ (subscriptTail _ _ (Value.ref _) (Value.int _ _)) _ _ _); k_dflt (refine stk_last (by is_list) (by assumption) ?_)))
local macro_rules | `(tactic| k_all) => `(tactic| first | assumption | exact ne_of_allL (by assumption) | exact ne_of_allLt (by assumption) | exact ne_of_allLt (And.right (by assumption)) | exact ne_of_allLt (And.right (And.right (by assumption))) | exact ne_of_allLt (And.right (And.right (And.right (by assumption)))))
local macro_rules | `(tactic| k_enter) => `(tactic| (kp_kind "rest"; (refine' code_rest0 ?k2 ?k3 ?k4 ?k5 ?k6 ?k7 ?k8 ?kV ?kP ?kG ?kB ?_ ?c2 ?c3 ?c4 ?c5; (case k2 => k_asm); (case k3 => k_asm); (case k4 => k_asm); (case k5 => k_asm); (case k6 => k_is); (case k7 => k_is); (case k8 => k_room); (case kV => exact rfl); (case kP => exact rfl); (case kG => exact fun _ => rfl); (case kB => exact fun _ => locs rfl); (case c5 => decide); (case c2 => exact rfl); (case c3 => exact rfl); (case c4 => exact rfl); k_whole; intro D' g' L' h' l1 FG' F' N' X' T'; (try k_lt l1); (try dsimp only); (try k_fold))))
local macro_rules | `(tactic| k_enter) => `(tactic| (kp_kind "more"; (refine' code_more0 ?k2 ?k3 ?k4 ?k5 ?k6 ?k7 ?k8 ?kP ?kK ?kB ?_ ?c2 ?c3 ?c4 ?c5; (case k2 => k_asm); (case k3 => k_asm); (case k4 => k_asm); (case k5 => k_asm); (case k6 => k_is); (case k7 => k_is); (case k8 => k_room); (case kP => exact rfl); (case kK => exact fun _ => rfl); (case kB => exact fun _ => locs rfl); (case c5 => decide); (case c2 => exact rfl); (case c3 => exact rfl); (case c4 => exact rfl); k_whole; intro D' o' g' L' h' tk' l1 lo' hd' fs' FG' F' N' X' T'; (try k_lt l1); (try dsimp only); (try k_fold))))
local macro_rules | `(tactic| k_enter) => `(tactic| (kp_kind "both"; (refine' code_both0 ?k2 ?k3 ?k4 ?k5 ?k6 ?k7 ?k8 ?kV ?kP ?kQ ?kK ?kB ?_ ?c2 ?c3 ?c4 ?c5; (case k2 => k_asm); (case k3 => k_asm); (case k4 => k_asm); (case k5 => k_asm); (case k6 => k_is); (case k7 => k_is); (case k8 => k_room); (case kV => exact rfl); (case kP => exact rfl); (case kQ => exact fun _ => rfl); (case kK => exact fun _ _ => rfl); (case kB => exact fun _ _ => locs rfl); (case c5 => decide); (case c2 => exact rfl); (case c3 => exact rfl); (case c4 => exact rfl); k_whole; intro C' D' g' L' h' tk' l1 l2 l3 FG' F' N' X' T'; (try k_lt l1); (try k_lt l3); (try dsimp only); (try k_fold))))
local macro_rules | `(tactic| walk_at "subscriptTail Name UnaryOp ref int") => `(tactic| (k_here; (with_reducible show wpAny _ _ (subscriptTail _ _ (Value.ref _) (Value.int _ _)) _ _ _); k_dflt (refine stk_last (by is_list) (by assumption) ?_)))
local macro_rules | `(tactic| walk_at "truthy ref") => `(tactic| (k_here; (with_reducible show wpAny _ _ (truthy (Value.ref _)) _ _ _); k_dflt (first | refine truthy_tup (b := false) (by assumption) (by assumption) (by first | exact Nat.le_of_ble_eq_true rfl | omega) rfl ?_ | refine truthy_tup (b := true) (by assumption) (by assumption) (by first | exact Nat.le_of_ble_eq_true rfl | omega) rfl ?_); intro _))
local macro_rules | `(tactic| walk_at "truthy str") => `(tactic| (k_here; (with_reducible show wpAny _ _ (truthy (Value.str _ _)) _ _ _); k_dflt (refine KXt.truthy_pos (K := 1000) (by omega) (by omega) (by omega) ?_); intro _))
local macro_rules | `(tactic| walk_at "StarOf ref") => `(tactic| (k_here; k_dflt (refine star_tup (by assumption) (by assumption) (by assumption) (by first | exact Nat.le_of_ble_eq_true rfl | omega) ?_); intro h' F' N'; (try dsimp only [List.nil_append, List.cons_append]); (try k_sweep)))
local macro_rules | `(tactic| walk_at "callWith ref") => `(tactic| (k_here; (with_reducible show wpAny _ _ (callWith _ (Value.ref _) _ (backTo _ (starEach (Expr.Starred _ _ :: _ :: _) _)) []) _ _ _); k_dflt (refine' callWith_S3 ?k1 ?k2 ?_; (case k1 => k_asm); (case k2 => k_is); k_whole)))
local macro_rules | `(tactic| walk_at "call type:str") => `(tactic| (k_here; (with_reducible show wpAny _ _ (call (Value.type "str") [Value.int _ _]) _ _ _); k_dflt (refine str_int9 (by omega) (by omega) ?_); intro _ _))
local macro_rules | `(tactic| walk_at "MINE enterC") => `(tactic| (refine' enterC ?mX ?mT ?k6 ?k7 ?k8 ?k9 ?kB ?kD ?_ ?c2 ?c3 ?c4; (case mX => assumption); (case mT => assumption); (case k6 => k_is); (case k7 => k_is); (case k8 => k_room); (case k9 => first | exact BindsTo.of_eq rfl | exact binds_K (by assumption) rfl (by k_is) rfl rfl rfl); (case kB => exact rfl); (case kD => decide +kernel); (case c2 => exact rfl); (case c3 => exact rfl); (case c4 => exact rfl); intro L' h' tk' cells' F' N' Y'; k_cells Y'; (try simp only [List.cons_append, List.nil_append] at N'); (try dsimp only)))
local macro_rules | `(tactic| walk_at "compareOp In str ref") => `(tactic| (k_here; (with_reducible show wpAny _ _ (compareOp _ (Value.str _ _) (Value.ref _)) _ _ _); k_dflt (refine in_map (by assumption) (by assumption) (by assumption) (by assumption) ?_); intro _))
local macro_rules | `(tactic| walk_at "call builtin:isinstance") => `(tactic| (k_here; (with_reducible show wpAny _ _ (call _ [Value.ref _, Value.type _]) _ _ _); k_dflt (refine' kia_one kitx_tuple ?X ?c ?ee ?nb ?_; (case c => exact kitAt_B (by assumption) (by assumption)); (case X => walk_at "MINE X"); (case ee => kit_is); (case nb => kit_nb); k_whole; intro _)))
local macro_rules | `(tactic| walk_at "call builtin:isinstance") => `(tactic| (k_here; (with_reducible show wpAny _ _ (call _ [Value.ref _, Value.ref _]) _ _ _); k_dflt (refine' kia_one kitx_tuple ?X ?c ?ee ?nb ?_; (case c => exact kitAt_B (by assumption) (by assumption)); (case X => walk_at "MINE X"); (case ee => kit_is); (case nb => kit_nb); k_whole; intro _)))
local macro_rules | `(tactic| walk_at "call type:type") => `(tactic| (k_here; (with_reducible show wpAny _ _ (call (Value.type "type") [Value.ref _]) _ _ _); k_dflt (refine kto_cont (T := "tuple") (kitAt_B (by assumption) (by assumption)) (by decide +kernel) ?_)))
local macro_rules | `(tactic| walk_at "MINE zz") => `(tactic| skip)
local macro_rules | `(tactic| walk_at "pyIter ref") => `(tactic| (k_here; (with_reducible show wpAny _ _ (pyIter (Value.ref _)) (fun it s₂ => LoopAtV _ _ _ _ _ _ _ _ _ it s₂) _ _); refine park ?_))
local macro_rules | `(tactic| walk_at "exec For Name Call cons nil") => `(tactic| (k_here; (with_unfolding_all refine' For_invVF (by assumption) ?k1 ?k2 ?_); (case k1 => exact rfl); (case k2 => exact rfl)))
local macro_rules | `(tactic| walk_at "call ref") => `(tactic| (k_here; (with_reducible show wpAny _ _ (call (Value.ref 641) _) _ _ _); refine park ?_))
local macro_rules | `(tactic| walk_at "call ref") => `(tactic| (k_here; (with_reducible show wpAny _ _ (call (Value.ref 56) [Value.ref _, _]) _ _ _); k_dflt ((refine wpAny_call ?_); (refine' t_child1 ?sX ?sT ?sd ?su ?h0 ?h1 ?up ?sx ?sd2 ?st ?_; (case sX => walk_at "MINE X"); (case sT => walk_at "MINE T"); (case sd => k_room); (case su => k_units); (case h0 => exact (strD (by assumption)).1); (case h1 => exact (strD (by assumption)).2.1); (case up => exact (strD (by assumption)).2.2); (case sx => exact News.get (by assumption) (by k_mem)); (case sd2 => exact News.get (by assumption) (by k_mem)); (case st => exact tup_get (News.get (by assumption) (by k_mem))); (intro h' k' q' dq' hs' tk' nt' yt' vt' n' hk' hq1' hq2' hq3'); (obtain ⟨F', N', hka', hkb', hkc'⟩ := news_kid (by assumption) (by assumption) hk' hq1' hq2' hq3'); (try k_sweep)))))
local macro_rules | `(tactic| walk_at "call ref") => `(tactic| (k_here; (with_reducible show wpAny _ _ (call (Value.ref 56) [Value.ref 72, _]) _ _ _); k_dflt ((refine wpAny_call ?_); (refine' t_child0 ?tX ?tT ?td ?tu ?t0 ?t1 ?a1 ?a2 ?a3 ?tup ?_; (case tX => walk_at "MINE X"); (case tT => walk_at "MINE T"); (case td => k_room); (case tu => k_units); (case t0 => exact (strC (by assumption)).1); (case t1 => exact (strC (by assumption)).2.1); (case a1 => exact (strC (by assumption)).2.2.2.1); (case a2 => exact (strC (by assumption)).2.2.2.2.1); (case a3 => exact (strC (by assumption)).2.2.2.2.2); (case tup => exact (strC (by assumption)).2.2.1); (intro h' k' q' dq' hs' tk' nt' vt' n' hk' hq1' hq2' hq3'); (obtain ⟨F', N', hka', hkb', hkc'⟩ := news_kid (by assumption) (by assumption) hk' hq1' hq2' hq3'); (try k_sweep)))))
local macro_rules | `(tactic| walk_at "call builtin:list.append") => `(tactic| (k_here; (with_reducible show wpAny _ _ (call _ [Value.ref _, _]) _ _ _); refine park ?_))
local macro_rules | `(tactic| walk_at "MINE ne") => `(tactic| (dsimp only; first | exact off_of (by assumption) (by k_mem) | (refine neN ?_; omega)))
local macro_rules | `(tactic| walk_at "setItem ref str ref") => `(tactic| (k_here; refine park ?_))
local macro_rules | `(tactic| walk_at "setItem ref str") => `(tactic| (k_here; refine park ?_))
theorem t_side {h₀ gv : Heap} {L table I5 I6 : Addr} {it5 it6 o₁ : Obj} {env : Env} {j k : Nat} {kvs : List (Str × Value)} {rest : List (Addr × Obj)} {m : Str → Option Value} {tk tk2 : Tok} {P : Flow → Shared → Prop}
  (henv : env = fnEnv (Mine.hd2.heap_39 w.params) 648 L)
  (X : (Mine.hd2.heap_39 w.params).In h₀) (T : Top p loose mean mg mb h₀)
  (hd9 : d < 450) (hu9 : u < 800) (hts : (table == sysModules) = false) (hj : j < 3) (hk : k < 2)
  (F : Fr h₀ L s.heap m) (m1 : m (Str.ofString "table") = some (.ref table)) (m2 : m (Str.ofString "child") = some (.int (1 + (j : Int)) tk)) (m3 : m (Str.ofString "side") = some (.int (0 + (k : Int)) tk2))
  (N : News h₀ L s.heap ((I6, it6) :: (I5, it5) :: (table, o₁) :: rest)) (ho6 : ∀ p ∈ (I5, it5) :: (table, o₁) :: rest, p.1 ≠ I6) (ho5 : ∀ p ∈ (table, o₁) :: rest, p.1 ≠ I5) (hofft : ∀ p ∈ rest, p.1 ≠ table)
  (hdk : o₁.IsDictOf (PySem.strKind PG w) kvs) (hb : BearsG h₀ rest gv) (htab : TabR gv kvs (stTab (2 * j + k)))
  (hP : ∀ s', UnrEnd h₀ L s I6 it6 (fun m₁ n₁ => TabJ w h₀ table [(I5, it5)] (2 * j + (k + 1)) m₁ n₁ ∧ m₁ (Str.ofString "child") = some (.int (1 + (j : Int)) tk)) s' → P .next s') :
  wpAny (model PG w) ((⟨none, d, some outer, gd, u⟩ : Around).deeper env) (execs (nthFor (nthFor (fnBody (Mine.hd2.heap_39 w.params) 648) 2) 0) env) P (fun _ _ => False) s := by
  have henv' : env = envOf _ _ L 648 _ := henv
  with_unfolding_all (show wpAny _ _ (execs (_ :: _) _) _ _ _)
  clear henv
  subst henv'
  replace F := Fr.re (m' := fun y => if y = Str.ofString "side" then some (.int (0 + (k : Int)) tk2) else if y = Str.ofString "child" then some (.int (1 + (j : Int)) tk) else if y = Str.ofString "table" then some (.ref table) else m y) F (by
    intro y
    split
    · rename_i e; rw [e, m3]
    split
    · rename_i e; rw [e, m2]
    split
    · rename_i e; rw [e, m1]
    rfl)
  clear m1 m2 m3
  have hj8 : (0 : Int) ≤ 1 + (j : Int) := by omega
  have hj9 : (1 + (j : Int)) ≤ 1000000 := by omega
  have hk8 : (0 : Int) ≤ 0 + (k : Int) := by omega
  have hk9 : (0 + (k : Int)) ≤ 1000000 := by omega
  k_steps
  refine unpark ?_
  rename Fr _ _ _ _ => F9
  rename News _ _ _ _ => N9
  rename (_ < _ ∧ _) => hl9
  have hrl9 := hl9.2.2.2.2.2.2.2.2.2.2.2.2.2.2
  have hmu9 := And.intro (Nat.ne_of_gt hl9.2.2.2.2.2.2.2.2.2.2.2.1) (And.intro (Nat.ne_of_gt hl9.2.2.2.2.2.2.2.2.2.2.2.2.1) (Nat.ne_of_gt hl9.2.2.2.2.2.2.2.2.2.2.2.2.2.1))
  have hst := row_start (q := _) (o₁ := o₁) (it5 := it5) (it6 := it6) (j := j) (k := k) (tk := _) (tk2 := _) [_, _, _, _, _, _, _, _, _, _, _] F9 N9 ?offN (fun p hp => ⟨ne_of_allLt hrl9 p hp, hofft p hp, ho5 p (.tail _ hp), ho6 p (.tail _ (.tail _ hp))⟩) hb htab ?hkind ?hrow rfl rfl rfl rfl rfl
  rotate_left
  case offN =>
    repeat (first | exact fun _ h => (List.not_mem_nil h).elim | refine List.forall_mem_cons.mpr ⟨⟨by walk_at "MINE ne", by walk_at "MINE ne", by walk_at "MINE ne", by walk_at "MINE ne"⟩, ?_⟩)
  case hkind =>
    intro g' hg
    have e5 := hg _ (.tail _ (.tail _ (.tail _ (.tail _ (.tail _ (.head _))))))
    have e6 := hg _ (.tail _ (.tail _ (.tail _ (.tail _ (.tail _ (.tail _ (.head _)))))))
    have e7 := hg _ (.tail _ (.tail _ (.tail _ (.tail _ (.tail _ (.tail _ (.tail _ (.head _))))))))
    exact ⟨_, _, _, _, [_, _], e5, e6, ⟨_, e7, rfl, _, rfl⟩, .cons _ _ (.cons _ _ .nil)⟩
  case hrow =>
    intro g' hg hkq
    have e0 := hg _ (.head _)
    have e1 := hg _ (.tail _ (.head _))
    have e2 := hg _ (.tail _ (.tail _ (.head _)))
    have e3 := hg _ (.tail _ (.tail _ (.tail _ (.head _))))
    have e4 := hg _ (.tail _ (.tail _ (.tail _ (.tail _ (.head _)))))
    rw [show Str.ofString "a" = ⟨#[97]⟩ from by decide +kernel] at e4
    exact ⟨_, _, _, rfl, ⟨_, _, _, _, _, _, e1, e2, ⟨_, e3, rfl, _, rfl⟩, ⟨_, e4, rfl, _, rfl⟩⟩, hkq, ⟨_, ⟨_, e0, rfl, _, rfl⟩⟩⟩
  obtain ⟨N10, hJ⟩ := hst
  refine iter_R (n := 3) _ rfl (by assumption) (by rfl) (by rfl) F9 N10 hJ ?turn ?done
  case turn =>
    clear N9 F9 N10 hJ
    intro a tk3 m₁ news₁ I7 it7 s7 ha ⟨its, ne, rest, gv, hn₁, hlen, hoff, hb, hkind, hraw, htab, q1, q2, q3, q4, q5⟩ ho7 F7 N7 P7 E7 hP7
    subst hn₁
    refine wpAny_mono (t_row (s := s7) rfl X T hd9 hu9 hk ha F7 ?m1 ?m2 ?m3 ?m4 ?m5 rfl N7 ho7 hoff hlen hmu9 hb hkind hraw htab hP7) (fun _ _ x => x) (fun _ _ x => x.elim)
    case m1 => exact q1
    case m2 => exact q2
    case m3 => exact q3
    case m4 => exact q4
    case m5 => exact q5
  case done =>
    clear N9 F9 N10 hJ
    intro m₁ news₁ h5 tk5 ⟨its, ne, rest, gv, hn₁, hlen, hoff, hb, hkind, hraw, htab, q1, q2, q3, q4, q5⟩ F5 N5
    subst hn₁
    replace F5 := Fr.re (m' := fun y => if y = Str.ofString "rows" then some (.ref _) else if y = Str.ofString "side" then some (.int (0 + (k : Int)) _) else if y = Str.ofString "child" then some (.int (1 + (j : Int)) _) else if y = Str.ofString "table" then some (.ref table) else m₁ y) F5 (by
      intro y
      split
      · rename_i e; rw [e, q5]
      split
      · rename_i e; rw [e, q3]
      split
      · rename_i e; rw [e, q2]
      split
      · rename_i e; rw [e, q1]
      rfl)
    clear q1 q2 q3 q4 q5
    k_steps
    refine unpark ?_
    rename Fr _ _ _ _ => F8
    rename News _ _ _ _ => N8
    refine set_dict (pre := [_, _, _]) F8 N8 ?off1 (fun p hp => (hoff p hp).2.1) hdk (st_new hj hk htab) ?hsz ?_
    case off1 => exact List.forall_mem_cons.mpr ⟨hmu9.2.2, List.forall_mem_cons.mpr ⟨(ho6 _ (.tail _ (.head _))).symm, List.forall_mem_cons.mpr ⟨(ho5 _ (.head _)).symm, fun _ h => (List.not_mem_nil h).elim⟩⟩⟩
    case hsz =>
      have z := congrArg List.length htab.keys
      simp only [List.length_map] at z
      rw [z]
      show ((List.range _).map _).length + 1 ≤ _
      simp
      omega
    intro h' o' kk F' N' hd'
    k_sweep
    k_steps
    rename Fr _ _ _ _ => FA
    rename News _ _ _ _ => NA
    exact hP _ (side_fin (s := s) FA NA hk hmu9 (ho6 _ (.head _)) (ho6 _ (.tail _ (.head _))) hoff hlen hd' hb hraw htab rfl rfl)
end
end Mine
end
section
namespace Mine
section
variable {w : World} {d u : Nat} {gd : Option (List Code)} {base : Heap} {outer : List Env} {s : Shared} {p : Program} {loose : List Str} {mean : ExcName → Option Value} {mg mb : Str → Option Value}
local macro_rules | `(tactic| k_inst) => `(tactic| exact inst_base (by k_asm) (by assumption) (by assumption))
local macro_rules | `(tactic| k_room) => `(tactic| ((try simp only [depth_under_make, depth_under_kw, depth_in1, depth_deeper, depth_caller, depth_mk, Around.in1_depth, rl_is]); omega))
local macro_rules | `(tactic| k_units) => `(tactic| ((try simp only [Around.in1_units, Around.deeper_units, Around.mark_units, units_mk, cl_is]); omega))
local macro_rules | `(tactic| walk_at "truthy str") => `(tactic| (k_here; (with_reducible refine truthy_ch ?_); intro _))
local macro_rules | `(tactic| walk_at "call builtin:str.join") => `(tactic| (k_here; (refine join_one (by is_list) ?_); intro _ _))
local macro_rules | `(tactic| walk_at "MINE enter") => `(tactic| (refine' enter ?mX ?mT ?k6 ?k7 ?k8 ?k9 ?kB ?_ ?c2 ?c3 ?c4 ?c5; (case mX => assumption); (case mT => assumption); (case k6 => k_is); (case k7 => k_is); (case k8 => k_room); (case k9 => first | exact BindsTo.of_eq rfl | exact binds_K (by assumption) rfl (by k_is) rfl rfl rfl); (case c5 => decide); (case kB => exact locs rfl); (case c2 => exact rfl); (case c3 => exact rfl); (case c4 => exact rfl); intro L' h' F' N'; (try dsimp only)))
local macro_rules | `(tactic| walk_at "BRest") => `(tactic| (with_unfolding_all first | (refine BRest.succ (fun I' it' h' tk' hit' off' F' N' => ?_)) | (refine BRest.zero (fun h' tk' F' N' => ?_))))
local macro_rules | `(tactic| walk_at "MINE obj") => `(tactic| first | assumption | exact Fr.keep (by assumption) _ _ (by assumption) | exact News.get (by assumption) (by k_mem))
local macro_rules | `(tactic| walk_at "MINE lst") => `(tactic| first | assumption | exact Heap.IsList.at (by assumption) (fun o e => Fr.keep (by assumption) _ o e) | is_list)
local macro_rules | `(tactic| walk_at "MINE X") => `(tactic| first | assumption | exact Frag.In.keeps (by assumption) (Fr.keep (by assumption)))
local macro_rules | `(tactic| walk_at "MINE T") => `(tactic| first | assumption | exact Top.keeps (by assumption) (Fr.keep (by assumption)))
local macro_rules | `(tactic| walk_at "MINE B") => `(tactic| first | assumption | exact Below.push (by assumption) (by assumption))
local macro_rules | `(tactic| k_enter) => `(tactic| (refine' code_def0 ?k2 ?k3 ?k4 ?k5 ?k6 ?k7 ?k8 ?k9 ?kB ?_ ?c2 ?c3 ?c4 ?c5; (case k2 => k_asm); (case k3 => k_asm); (case k4 => k_asm); (case k5 => k_asm); (case k6 => k_is); (case k7 => k_is); (case k8 => k_room); (case k9 => first | exact BindsTo.of_eq rfl | exact binds_K (by k_in) rfl (by k_is) rfl rfl rfl | fail "k_enter: no rule for these arguments"); (case c5 => decide); (case kB => exact locs rfl); (case c2 => exact rfl); (case c3 => exact rfl); (case c4 => exact rfl); k_whole; intro g' L' h' FG' F' N' X' T'; (try dsimp only); (try k_fold)))
local macro_rules | `(tactic| walk_at "subscriptTail") => `(tactic| (k_here; (with_reducible show wpAny _ _ (subscriptTail _ _ (Value.ref _) (Value.str _ _)) _ _ _); k_dflt (refine tab_item (by k_asm) (by assumption) (by assumption) ?_)))
local macro_rules | `(tactic| walk_at "subscriptTail") => `(tactic| (k_here; (with_reducible show wpAny _ _ (subscriptTail _ _ (Value.ref _) (Value.int _ _)) _ _ _); k_dflt (refine stk_last (by is_list) (by assumption) ?_)))
local macro_rules | `(tactic| k_all) => `(tactic| first | assumption | exact ne_of_allL (by assumption) | exact ne_of_allLt (by assumption) | exact ne_of_allLt (And.right (by assumption)) | exact ne_of_allLt (And.right (And.right (by assumption))) | exact ne_of_allLt (And.right (And.right (And.right (by assumption)))))
local macro_rules | `(tactic| k_enter) => `(tactic| (kp_kind "rest"; (refine' code_rest0 ?k2 ?k3 ?k4 ?k5 ?k6 ?k7 ?k8 ?kV ?kP ?kG ?kB ?_ ?c2 ?c3 ?c4 ?c5; (case k2 => k_asm); (case k3 => k_asm); (case k4 => k_asm); (case k5 => k_asm); (case k6 => k_is); (case k7 => k_is); (case k8 => k_room); (case kV => exact rfl); (case kP => exact rfl); (case kG => exact fun _ => rfl); (case kB => exact fun _ => locs rfl); (case c5 => decide); (case c2 => exact rfl); (case c3 => exact rfl); (case c4 => exact rfl); k_whole; intro D' g' L' h' l1 FG' F' N' X' T'; (try k_lt l1); (try dsimp only); (try k_fold))))
local macro_rules | `(tactic| k_enter) => `(tactic| (kp_kind "more"; (refine' code_more0 ?k2 ?k3 ?k4 ?k5 ?k6 ?k7 ?k8 ?kP ?kK ?kB ?_ ?c2 ?c3 ?c4 ?c5; (case k2 => k_asm); (case k3 => k_asm); (case k4 => k_asm); (case k5 => k_asm); (case k6 => k_is); (case k7 => k_is); (case k8 => k_room); (case kP => exact rfl); (case kK => exact fun _ => rfl); (case kB => exact fun _ => locs rfl); (case c5 => decide); (case c2 => exact rfl); (case c3 => exact rfl); (case c4 => exact rfl); k_whole; intro D' o' g' L' h' tk' l1 lo' hd' fs' FG' F' N' X' T'; (try k_lt l1); (try dsimp only); (try k_fold))))
local macro_rules | `(tactic| k_enter) => `(tactic| (kp_kind "both"; (refine' code_both0 ?k2 ?k3 ?k4 ?k5 ?k6 ?k7 ?k8 ?kV ?kP ?kQ ?kK ?kB ?_ ?c2 ?c3 ?c4 ?c5; (case k2 => k_asm); (case k3 => k_asm); (case k4 => k_asm); (case k5 => k_asm); (case k6 => k_is); (case k7 => k_is); (case k8 => k_room); (case kV => exact rfl); (case kP => exact rfl); (case kQ => exact fun _ => rfl); (case kK => exact fun _ _ => rfl); (case kB => exact fun _ _ => locs rfl); (case c5 => decide); (case c2 => exact rfl); (case c3 => exact rfl); (case c4 => exact rfl); k_whole; intro C' D' g' L' h' tk' l1 l2 l3 FG' F' N' X' T'; (try k_lt l1); (try k_lt l3); (try dsimp only); (try k_fold))))
local macro_rules | `(tactic| walk_at "subscriptTail Name UnaryOp ref int") => `(tactic| (k_here; (with_reducible show wpAny _ _ (subscriptTail _ _ (Value.ref _) (Value.int _ _)) _ _ _); k_dflt (refine stk_last (by is_list) (by assumption) ?_)))
local macro_rules | `(tactic| walk_at "truthy ref") => `(tactic| (k_here; (with_reducible show wpAny _ _ (truthy (Value.ref _)) _ _ _); k_dflt (first | refine truthy_tup (b := false) (by assumption) (by assumption) (by first | exact Nat.le_of_ble_eq_true rfl | omega) rfl ?_ | refine truthy_tup (b := true) (by assumption) (by assumption) (by first | exact Nat.le_of_ble_eq_true rfl | omega) rfl ?_); intro _))
local macro_rules | `(tactic| walk_at "truthy str") => `(tactic| (k_here; (with_reducible show wpAny _ _ (truthy (Value.str _ _)) _ _ _); k_dflt (refine KXt.truthy_pos (K := 1000) (by omega) (by omega) (by omega) ?_); intro _))
local macro_rules | `(tactic| walk_at "StarOf ref") => `(tactic| (k_here; k_dflt (refine star_tup (by assumption) (by assumption) (by assumption) (by first | exact Nat.le_of_ble_eq_true rfl | omega) ?_); intro h' F' N'; (try dsimp only [List.nil_append, List.cons_append]); (try k_sweep)))
local macro_rules | `(tactic| walk_at "callWith ref") => `(tactic| (k_here; (with_reducible show wpAny _ _ (callWith _ (Value.ref _) _ (backTo _ (starEach (Expr.Starred _ _ :: _ :: _) _)) []) _ _ _); k_dflt (refine' callWith_S3 ?k1 ?k2 ?_; (case k1 => k_asm); (case k2 => k_is); k_whole)))
local macro_rules | `(tactic| walk_at "call type:str") => `(tactic| (k_here; (with_reducible show wpAny _ _ (call (Value.type "str") [Value.int _ _]) _ _ _); k_dflt (refine str_int9 (by omega) (by omega) ?_); intro _ _))
local macro_rules | `(tactic| walk_at "MINE enterC") => `(tactic| (refine' enterC ?mX ?mT ?k6 ?k7 ?k8 ?k9 ?kB ?kD ?_ ?c2 ?c3 ?c4; (case mX => assumption); (case mT => assumption); (case k6 => k_is); (case k7 => k_is); (case k8 => k_room); (case k9 => first | exact BindsTo.of_eq rfl | exact binds_K (by assumption) rfl (by k_is) rfl rfl rfl); (case kB => exact rfl); (case kD => decide +kernel); (case c2 => exact rfl); (case c3 => exact rfl); (case c4 => exact rfl); intro L' h' tk' cells' F' N' Y'; k_cells Y'; (try simp only [List.cons_append, List.nil_append] at N'); (try dsimp only)))
local macro_rules | `(tactic| walk_at "compareOp In str ref") => `(tactic| (k_here; (with_reducible show wpAny _ _ (compareOp _ (Value.str _ _) (Value.ref _)) _ _ _); k_dflt (refine in_map (by assumption) (by assumption) (by assumption) (by assumption) ?_); intro _))
local macro_rules | `(tactic| walk_at "call builtin:isinstance") => `(tactic| (k_here; (with_reducible show wpAny _ _ (call _ [Value.ref _, Value.type _]) _ _ _); k_dflt (refine' kia_one kitx_tuple ?X ?c ?ee ?nb ?_; (case c => exact kitAt_B (by assumption) (by assumption)); (case X => walk_at "MINE X"); (case ee => kit_is); (case nb => kit_nb); k_whole; intro _)))
local macro_rules | `(tactic| walk_at "call builtin:isinstance") => `(tactic| (k_here; (with_reducible show wpAny _ _ (call _ [Value.ref _, Value.ref _]) _ _ _); k_dflt (refine' kia_one kitx_tuple ?X ?c ?ee ?nb ?_; (case c => exact kitAt_B (by assumption) (by assumption)); (case X => walk_at "MINE X"); (case ee => kit_is); (case nb => kit_nb); k_whole; intro _)))
local macro_rules | `(tactic| walk_at "call type:type") => `(tactic| (k_here; (with_reducible show wpAny _ _ (call (Value.type "type") [Value.ref _]) _ _ _); k_dflt (refine kto_cont (T := "tuple") (kitAt_B (by assumption) (by assumption)) (by decide +kernel) ?_)))
local macro_rules | `(tactic| walk_at "pyIter ref") => `(tactic| (k_here; (with_reducible show wpAny _ _ (pyIter (Value.ref _)) (fun it s₂ => LoopAtV _ _ _ _ _ _ _ _ _ it s₂) _ _); refine park ?_))
local macro_rules | `(tactic| walk_at "exec For Name Call cons nil") => `(tactic| (k_here; (with_unfolding_all refine' For_invVF (by assumption) ?k1 ?k2 ?_); (case k1 => exact rfl); (case k2 => exact rfl)))
local macro_rules | `(tactic| walk_at "call ref") => `(tactic| (k_here; (with_reducible show wpAny _ _ (call (Value.ref 641) _) _ _ _); refine park ?_))
local macro_rules | `(tactic| walk_at "call ref") => `(tactic| (k_here; (with_reducible show wpAny _ _ (call (Value.ref 56) [Value.ref _, _]) _ _ _); k_dflt ((refine wpAny_call ?_); (refine' t_child1 ?sX ?sT ?sd ?su ?h0 ?h1 ?up ?sx ?sd2 ?st ?_; (case sX => walk_at "MINE X"); (case sT => walk_at "MINE T"); (case sd => k_room); (case su => k_units); (case h0 => assumption); (case h1 => assumption); (case up => assumption); (case sx => exact News.get (by assumption) (by k_mem)); (case sd2 => exact News.get (by assumption) (by k_mem)); (case st => exact tup_get (News.get (by assumption) (by k_mem))); (intro h' k' q' dq' hs' tk' nt' yt' vt' n' hk' hq1' hq2' hq3'); (obtain ⟨F', N', hka', hkb', hkc'⟩ := news_kid (by assumption) (by assumption) hk' hq1' hq2' hq3'); (try k_sweep)))))
local macro_rules | `(tactic| walk_at "call ref") => `(tactic| (k_here; (with_reducible show wpAny _ _ (call (Value.ref 56) [Value.ref 72, _]) _ _ _); k_dflt ((refine wpAny_call ?_); (refine' t_child0 ?sX ?sT ?sd ?su ?h0 ?h1 ?a1 ?a2 ?a3 ?up ?_; (case sX => walk_at "MINE X"); (case sT => walk_at "MINE T"); (case sd => k_room); (case su => k_units); (case h0 => first | assumption | decide +kernel); (case h1 => first | assumption | decide +kernel); (case a1 => first | assumption | decide +kernel); (case a2 => first | assumption | decide +kernel); (case a3 => first | assumption | decide +kernel); (case up => first | assumption | decide +kernel); (intro h' k' q' dq' hs' tk' nt' vt' n' hk' hq1' hq2' hq3'); (obtain ⟨F', N', hka', hkb', hkc'⟩ := news_kid (by assumption) (by assumption) hk' hq1' hq2' hq3'); (try k_sweep)))))
local macro_rules | `(tactic| walk_at "call builtin:list.append") => `(tactic| (k_here; (with_reducible show wpAny _ _ (call _ [Value.ref _, _]) _ _ _); refine park ?_))
local macro_rules | `(tactic| walk_at "MINE ne") => `(tactic| (dsimp only; first | exact off_of (by assumption) (by k_mem) | (refine neN ?_; omega)))
local macro_rules | `(tactic| k_enter) => `(tactic| ((with_reducible show codeAny _ _ (Code.call (Value.ref 533) _) _ _); refine park ?_))
theorem t_reader {R : Result → Shared → Prop}
  (X : (Mine.hd2.heap_39 w.params).In s.heap) (T : Top p loose mean mg mb s.heap)
  (hd9 : d < 450) (hu9 : u < 800)
  (hR : ∀ h' k x dx pr g3 kvo (a1 a2 a3 a4 a5 a6 a7 a8 a9 : Int) (b1 b2 b3 b4 b5 b6 b7 b8 b9 : Nat) (v1 v2 v3 v4 v5 v6 v7 v8 : Value), Keeps s.heap h' → (h'.get? x = some (instObj 634 dx) ∧ s.heap.get? x = none) → (h'.get? dx = some (dictOf [⟨a1, .str "options" b1, v1⟩, ⟨a2, .str "stripnl" b2, v2⟩, ⟨a3, .str "stripall" b3, v3⟩, ⟨a4, .str "ensurenl" b4, v4⟩, ⟨a5, .str "filters" b5, v5⟩, ⟨a6, .str "tables" b6, v6⟩, ⟨a7, .str "_all_tokens" b7, v7⟩, ⟨a8, .str "_tmpname" b8, v8⟩, ⟨a9, .str "_tokens" b9, .ref pr⟩] 9) ∧ s.heap.get? dx = none) → Keeps g3 h' → g3.DictOf (PySem.strKind PG w) pr kvo → TabO g3 kvo (stTab 6) → R (.ok (.ret (.ref x))) {s with heap := h', toks := k}) :
  codeAny (model PG w) ⟨none, d, some outer, gd, u⟩ (.call (.ref 648) ⟨[], []⟩) R s := by
  walk_at "MINE enter"
  k_steps
  refine unpark ?_
  rename Fr _ _ _ _ => F5
  rename News _ _ _ _ => N5
  rename Obj.IsDictOf _ _ (strPairs _) => hdo
  replace hdo : Obj.IsDictOf (PySem.strKind PG w) _ [(Str.ofString "root", _)] := hdo
  rename (_ < _) => L1
  obtain ⟨rl, erl, hlt⟩ := name_lt L1
  subst erl
  obtain ⟨table, etb, hlt2⟩ := name_gt hlt
  subst etb
  clear hlt L1
  have hts : (table == sysModules) = false := by assumption
  refine iter_R (n := 4) (RootJ s.heap table rl _) rfl (by assumption) (by rfl) (by rfl) F5 N5 ⟨[], 0, [], s.heap, rfl, rfl, (fun _ hp => nomatch hp), (fun _ hp => nomatch hp), BearsG.start _ _, .nil, rfl⟩ ?turn ?done
  case turn =>
    clear N5 F5 hR
    intro i tk m₁ news₁ I5 it5 s5 hi ⟨its, ne, rest, gv, hn₁, hlen5, hoffl, hofft, hb, hraw, q1⟩ ho5 F5 N5 P5 E5 hP5
    subst hn₁
    exact wpAny_mono (t_root (s := s5) rfl X T hd9 hu9 hi hts hdo F5 (by show m₁ (Str.ofString "table") = _; exact q1) rfl (nw_swp N5) hlt2 (ho5 _ (.head _)) (ho5 _ (.tail _ (.head _))) hoffl hofft (fun p hp => ho5 p (.tail _ (.tail _ hp))) hlen5 hb hraw hP5) (fun _ _ x => x) (fun _ _ x => x.elim)
  case done =>
    clear N5 F5
    intro m₁ news₁ h5 tk5 ⟨its, ne, rest, gv, hn₁, hlen5, hoffl, hofft, hb, hraw, q1⟩ F5 N5
    subst hn₁
    replace F5 := Fr.re (m' := fun y => if y = Str.ofString "table" then some (.ref table) else m₁ y) F5 (by
      intro y
      split
      · rename_i e; rw [e, q1]
      rfl)
    clear q1
    k_steps
    refine unpark ?_
    rename Fr _ _ _ _ => F6
    rename News _ _ _ _ => N6
    have hrt : rl ≠ table := Nat.ne_of_gt hlt2
    obtain ⟨N7, hJ⟩ := tabJ_start F6 N6 hrt hofft hdo hb hraw hlen5 rfl
    refine iter_R (n := 3) (fun j => TabJ w s.heap table [] (2 * j)) rfl (by assumption) (by rfl) (by rfl) F6 N7 hJ ?turn2 ?done2
    case turn2 =>
      clear N6 F6 N7 hJ
      clear hR
      intro j tk m₁ news₁ I5 it5 s5 hj ⟨o₁, kvs, rest, gv, hn₁, hofft, _, hdk, hb, htab, q1⟩ ho5 F5 N5 P5 E5 hP5
      subst hn₁
      have ht5 : table ≠ I5 := ho5 (table, o₁) (List.Mem.head _)
      replace F5 := Fr.re (m' := fun y => if y = Str.ofString "child" then some (.int (1 + (j : Int)) tk) else if y = Str.ofString "table" then some (.ref table) else m₁ y) F5 (by
        intro y
        split
        · rfl
        split
        · rename_i e; rw [e, q1]
        rfl)
      clear q1
      refine wpAny_mono (E := fun _ _ => False) ?_ (fun _ _ x => x) (fun _ _ x => x.elim)
      k_steps
      refine unpark ?_
      rename Fr _ _ _ _ => F6
      rename News _ _ _ _ => N6
      refine iter_R (n := 2) (fun k m₁ n₁ => TabJ w s.heap table [(I5, it5)] (2 * j + k) m₁ n₁ ∧ m₁ (Str.ofString "child") = some (.int (1 + (j : Int)) tk)) rfl (by assumption) (by rfl) (by rfl) F6 N6 ⟨⟨o₁, kvs, rest, gv, rfl, hofft, (fun p hp q hq => by rw [List.mem_singleton.mp hq]; exact ho5 p (.tail _ hp)), hdk, hb, htab, rfl⟩, rfl⟩ ?turn3 ?done3
      case turn3 =>
        clear N6 F6
        intro k tk2 m₁ news₁ I6 it6 s6 hk ⟨⟨o₁, kvs, rest, gv, hn₁, hofft, hoffI, hdk, hb, htab, q1⟩, q2⟩ ho6 F6 N6 P6 E6 hP6
        subst hn₁
        exact wpAny_mono (t_side (s := s6) rfl X T hd9 hu9 hts hj hk F6 (by show m₁ (Str.ofString "table") = _; exact q1) (by show m₁ (Str.ofString "child") = _; exact q2) rfl N6 ho6 (List.forall_mem_cons.mpr ⟨ht5, fun p hp => hoffI p hp _ (.head _)⟩) hofft hdk hb htab hP6) (fun _ _ x => x) (fun _ _ x => x.elim)
      case done3 =>
        clear N6 F6 hb htab hdk hofft
        intro m₁ news₁ h5 tk5 ⟨⟨o₁, kvs, rest, gv, hn₁, hofft, hoffI, hdk, hb, htab, q1⟩, q2⟩ F5 N5
        subst hn₁
        k_steps
        rename Fr _ _ _ _ => F8
        rename News _ _ _ _ => N8
        refine hP5 _ (UnrEnd.intro (s₁ := s5) F8 N8 ((table, o₁) :: rest) (fun p hp => hp) ?o3 ⟨o₁, kvs, rest, gv, rfl, hofft, fun _ _ _ h => (List.not_mem_nil h).elim, hdk, hb, ?t3, q1⟩)
        case o3 => exact List.forall_mem_cons.mpr ⟨ht5, fun p hp => hoffI p hp _ (.head _)⟩
        case t3 => exact htab
    case done2 =>
      clear N6 F6 N7 hJ
      intro m₁ news₁ h5 tk5 ⟨o₁, kvs, rest, gv, hn₁, hofft, _, hdk, hb, htab, q1⟩ F5 N5
      subst hn₁
      replace F5 := Fr.re (m' := fun y => if y = Str.ofString "table" then some (.ref table) else m₁ y) F5 (by
        intro y
        split
        · rename_i e; rw [e, q1]
        rfl)
      clear q1
      k_steps
      rename Fr _ _ _ _ => F8
      rename News _ _ _ _ => N8
      refine unpark ?_
      dsimp only [List.nil_append] at N8
      rename ∀ p ∈ [] ++ (table, o₁) :: rest, _ => hl1
      rename (_ < _) => hl2
      have hT : TabR gv kvs (stTab 6) := htab
      rw [stTab6] at hT
      have h6 := hT
      obtain ⟨l0, kv0, rfl, h60⟩ := h6.inv2
      obtain ⟨l1, kv1, rfl, h61⟩ := h60.inv2
      obtain ⟨l2, kv2, rfl, h62⟩ := h61.inv2
      obtain ⟨l3, kv3, rfl, h63⟩ := h62.inv2
      obtain ⟨l4, kv4, rfl, h64⟩ := h63.inv2
      obtain ⟨l5, kv5, rfl, h65⟩ := h64.inv2
      obtain ⟨l6, kv6, rfl, h66⟩ := h65.inv2
      cases h66
      have hlt3 := hl1 (table, o₁) (.head _)
      refine t_rinit (by show d + 1 + 1 < 460; omega) (by show u + 3 + 1 < 840; omega) F8 X T N8 hts hdk hb hT hl2 hlt3 (fun p hp => Nat.ne_of_lt (hl1 p (.tail _ hp))) (fun p hp => Nat.ne_of_lt (Nat.lt_trans (hl1 p (.tail _ hp)) hl2)) hofft nm6 (by decide) go6 ?_
      intro h7 k7 pr g3 kvo rest3 a1 a2 a3 a4 a5 a6 a7 a8 a9 b1 b2 b3 b4 b5 b6 b7 b8 b9 w1 w2 w3 w4 w5 w6 w7 w8 F9 N9 off1 off2 hb3 hdo3 hto3
      refine ⟨rfl, ?_⟩
      have kg3 : Keeps g3 h7 := fun b o e => by
        rcases hb3.2 b o e with q | q
        · exact F9.keep _ _ q
        · exact (N9 (b, o) (by repeat (first | exact q | refine List.Mem.tail _ ?_))).1
      rw [← stTab6] at hto3
      exact hR _ _ _ _ pr g3 kvo _ _ _ _ _ _ _ _ _ _ _ _ _ _ _ _ _ _ _ _ _ _ _ _ _ _ F9.keep ⟨(N9 _ (.tail _ (.head _))).1, (N9 _ (.tail _ (.head _))).2.2⟩ ⟨(N9 _ (.head _)).1, (N9 _ (.head _)).2.2⟩ kg3 hdo3 hto3
end
end Mine
end
section
open PySem PySem.W PyProof.Rows PySem.Calls
set_option Elab.async false
set_option maxRecDepth 100000
set_option maxHeartbeats 4000000
namespace Mine
/-- the law's own reckoning of a line: one more than the nearest earlier place that is not higher -/
def par (hs : List Int) (H : Int) : Nat → Nat
  | 0 => 0
  | n + 1 => if hs.getD n 0 ≤ H then n + 1 else par hs H n
structure Fam where
  hs : List Int
  as : List Int
  ds : List Int
  H : Int
def Fam.init : Fam := ⟨[], [], [], 0⟩
def Fam.q (f : Fam) : Nat := par f.hs f.H f.hs.length
def Fam.dep (f : Fam) : Int := if f.q = 0 then 0 else f.ds.getD (f.q - 1) 0 + 1
def Fam.kid (f : Fam) : Int := f.hs.getD (f.q - 1) 0 + f.as.getD (f.q - 1) 0 - f.H
def Fam.name (f : Fam) (a : Int) : List Str :=
  if f.q = 0 then [Str.ofString "Root", Str.ofString "A" ++ Str.ofString (toString a)] else [Str.ofString "C" ++ Str.ofString (toString f.kid), Str.ofString "D" ++ Str.ofString (toString (f.dep % 2))]
def Fam.next (f : Fam) (a : Int) : Fam := ⟨f.hs ++ [f.H], f.as ++ [a], f.ds ++ [f.dep], f.H + (a - 1)⟩
def arOf (c : Nat) : Int := (c : Int) - 97
def fam : Fam → List Nat → List (List Str)
  | _, [] => []
  | f, c :: r => f.name (arOf c) :: fam (f.next (arOf c)) r
def out : Fam → List Nat → Nat → List LTok
  | _, [], _ => []
  | f, c :: r, pos => if c = 10 then ⟨pos, wsNames, 10⟩ :: out Fam.init r (pos + 1) else ⟨pos, f.name (arOf c), c⟩ :: out (f.next (arOf c)) r (pos + 1)
def linesOf : List Nat → List (List Nat)
  | [] => [[]]
  | c :: r => if c = 10 then [] :: linesOf r else match linesOf r with
    | [] => [[c]]
    | h :: t => (c :: h) :: t
theorem linesOf_ne : ∀ l, linesOf l ≠ []
  | [] => by simp [linesOf]
  | c :: r => by
    unfold linesOf
    split
    · simp
    · cases q : linesOf r <;> simp
def famL (l : List Nat) : List (List Str) := fam Fam.init l ++ [wsNames]
theorem out_names (l : List Nat) : ∀ (f : Fam) (pos : Nat) (h : List Nat) (t : List (List Nat)), linesOf l = h :: t → (out f l pos).map (·.names) = (fam f h ++ [wsNames] ++ t.flatMap famL).dropLast := by
  induction l with
  | nil =>
    intro f pos h t e
    simp [linesOf] at e
    obtain ⟨rfl, rfl⟩ := e
    simp [out, fam]
  | cons c r ih =>
    intro f pos h t e
    unfold linesOf at e
    obtain ⟨h', t', e'⟩ : ∃ h' t', linesOf r = h' :: t' := by
      cases q : linesOf r with
      | nil => exact absurd q (linesOf_ne r)
      | cons a b => exact ⟨a, b, rfl⟩
    rw [e'] at e
    unfold out
    by_cases hc : c = 10
    · rw [if_pos hc] at e
      cases e
      rw [if_pos hc, List.map_cons, ih Fam.init (pos + 1) h' t' e']
      show wsNames :: _ = ([] ++ [wsNames] ++ (h' :: t').flatMap famL).dropLast
      rw [List.nil_append, List.flatMap_cons]
      show _ = (wsNames :: (famL h' ++ t'.flatMap famL)).dropLast
      rw [List.dropLast_cons_of_ne_nil (by simp [famL])]
      rfl
    · rw [if_neg hc] at e
      cases e
      rw [if_neg hc, List.map_cons, ih _ (pos + 1) h' _ e']
      show f.name (arOf c) :: _ = ((f.name (arOf c) :: fam (f.next (arOf c)) h') ++ [wsNames] ++ _).dropLast
      rw [List.cons_append, List.cons_append, List.dropLast_cons_of_ne_nil (by simp)]
theorem out_want (l : List Nat) : (out Fam.init l 0).map (·.names) = ((linesOf l).flatMap famL).dropLast := by
  obtain ⟨h', t', e'⟩ : ∃ h' t', linesOf l = h' :: t' := by
    cases q : linesOf l with
    | nil => exact absurd q (linesOf_ne l)
    | cons a b => exact ⟨a, b, rfl⟩
  rw [out_names l _ _ _ _ e', e', List.flatMap_cons]
  rfl
theorem out_len : ∀ (l : List Nat) (f : Fam) (pos : Nat), (out f l pos).length = l.length
  | [], _, _ => rfl
  | c :: r, f, pos => by
    unfold out
    split
    · simp [out_len r]
    · simp [out_len r]
theorem out_get : ∀ (l : List Nat) (f : Fam) (pos i : Nat) (t : LTok), (out f l pos)[i]? = some t → t.pos = pos + i ∧ l[i]? = some t.val
  | [], _, _, i, t, h => by simp [out] at h
  | c :: r, f, pos, i, t, h => by
    unfold out at h
    by_cases hc : c = 10
    · rw [if_pos hc] at h
      cases i with
      | zero => simp at h; subst h; simp [hc]
      | succ i =>
        have := out_get r _ (pos + 1) i t (by simpa using h)
        exact ⟨by omega, by simpa using this.2⟩
    · rw [if_neg hc] at h
      cases i with
      | zero => simp at h; subst h; simp
      | succ i =>
        have := out_get r _ (pos + 1) i t (by simpa using h)
        exact ⟨by omega, by simpa using this.2⟩
/-- what the stack awaits: top first; e: the height at which the next is read -/
def AwOk (f : Fam) : Int → List (Int × Int) → Prop
  | e, [] => par f.hs e f.hs.length = 0
  | e, x :: r => par f.hs e f.hs.length ≠ 0 ∧ x.1 = f.hs.getD (par f.hs e f.hs.length - 1) 0 + f.as.getD (par f.hs e f.hs.length - 1) 0 - e ∧ x.2 = (f.ds.getD (par f.hs e f.hs.length - 1) 0 + 1) % 2 ∧ AwOk f (e - 1) r
theorem par_le (hs : List Int) (e : Int) : ∀ n, par hs e n ≤ n
  | 0 => Nat.le_refl _
  | n + 1 => by
    unfold par
    split
    · exact Nat.le_refl _
    · have := par_le hs e n; omega
theorem par_mono {hs : List Int} {e e' : Int} (he : e' ≤ e) : ∀ n, par hs e n = 0 → par hs e' n = 0
  | 0, _ => rfl
  | n + 1, h => by
    unfold par at h ⊢
    split at h
    · cases h
    · rename_i hn
      rw [if_neg (by omega)]
      exact par_mono he n h
theorem par_app (hs x : List Int) (e : Int) : ∀ n, n ≤ hs.length → par (hs ++ x) e n = par hs e n
  | 0, _ => rfl
  | n + 1, h => by
    unfold par
    rw [par_app hs x e n (by omega)]
    have : (hs ++ x).getD n 0 = hs.getD n 0 := by simp [List.getD, List.getElem?_append_left (show n < hs.length by omega)]
    rw [this]
theorem par_snoc (hs : List Int) (H e : Int) : par (hs ++ [H]) e (hs ++ [H]).length = if H ≤ e then hs.length + 1 else par hs e hs.length := by
  rw [List.length_append, List.length_singleton]
  show (if (hs ++ [H]).getD hs.length 0 ≤ e then _ else _) = _
  have : (hs ++ [H]).getD hs.length 0 = H := by simp [List.getD]
  rw [this, par_app _ _ _ _ (Nat.le_refl _)]
theorem getD_app {hs : List Int} {x : List Int} {i : Nat} (h : i < hs.length) : (hs ++ x).getD i 0 = hs.getD i 0 := by simp [List.getD, List.getElem?_append_left h]
structure Fam.Ok (f : Fam) : Prop where
  a : f.as.length = f.hs.length
  d : f.ds.length = f.hs.length
theorem AwOk.keep {f : Fam} {a : Int} (ok : f.Ok) : ∀ {L : List (Int × Int)} {e : Int}, e < f.H → AwOk f e L → AwOk (f.next a) e L
  | [], e, he, h => by
    show par (f.hs ++ [f.H]) e (f.hs ++ [f.H]).length = 0
    rw [par_snoc, if_neg (by omega)]
    exact h
  | x :: r, e, he, h => by
    obtain ⟨h1, h2, h3, h4⟩ := h
    have hq := par_le f.hs e f.hs.length
    have hlt : par f.hs e f.hs.length - 1 < f.hs.length := by omega
    show par (f.hs ++ [f.H]) e (f.hs ++ [f.H]).length ≠ 0 ∧ x.1 = (f.hs ++ [f.H]).getD (par (f.hs ++ [f.H]) e (f.hs ++ [f.H]).length - 1) 0 + (f.as ++ [a]).getD (par (f.hs ++ [f.H]) e (f.hs ++ [f.H]).length - 1) 0 - e ∧ x.2 = ((f.ds ++ [f.dep]).getD (par (f.hs ++ [f.H]) e (f.hs ++ [f.H]).length - 1) 0 + 1) % 2 ∧ AwOk (f.next a) (e - 1) r
    rw [par_snoc, if_neg (by omega), getD_app hlt, getD_app (by rw [ok.a]; exact hlt), getD_app (by rw [ok.d]; exact hlt)]
    exact ⟨h1, h2, h3, AwOk.keep ok (by omega) h4⟩
def kids (s : Int) (a : Nat) : List (Int × Int) := (List.range a).map fun (i : Nat) => ((i : Int) + 1, s)
theorem kids_ok {f : Fam} {a : Nat} {r : List (Int × Int)} (ok : f.Ok) (hr : AwOk (f.next a) (f.H - 1) r) : ∀ k j : Nat, j + k = a → AwOk (f.next a) (f.H + (a : Int) - 1 - (j : Int)) (((List.range' j k).map fun (i : Nat) => ((i : Int) + 1, (f.dep + 1) % 2)) ++ r)
  | 0, j, h => by
    have e : f.H + (a : Int) - 1 - (j : Int) = f.H - 1 := by omega
    rw [e]
    exact hr
  | k + 1, j, h => by
    rw [List.range'_succ, List.map_cons, List.cons_append]
    show par (f.hs ++ [f.H]) _ (f.hs ++ [f.H]).length ≠ 0 ∧ _ = (f.hs ++ [f.H]).getD (par (f.hs ++ [f.H]) _ (f.hs ++ [f.H]).length - 1) 0 + (f.as ++ [(a : Int)]).getD (par (f.hs ++ [f.H]) _ (f.hs ++ [f.H]).length - 1) 0 - _ ∧ _ = ((f.ds ++ [f.dep]).getD (par (f.hs ++ [f.H]) _ (f.hs ++ [f.H]).length - 1) 0 + 1) % 2 ∧ AwOk (f.next a) _ _
    rw [par_snoc, if_pos (by omega), Nat.add_sub_cancel]
    have e1 : (f.hs ++ [f.H]).getD f.hs.length 0 = f.H := by simp [List.getD]
    have e2 : (f.as ++ [(a : Int)]).getD f.hs.length 0 = (a : Int) := by rw [← ok.a]; simp [List.getD]
    have e3 : (f.ds ++ [f.dep]).getD f.hs.length 0 = f.dep := by rw [← ok.d]; simp [List.getD]
    rw [e1, e2, e3]
    refine ⟨by omega, by show (j : Int) + 1 = _; omega, rfl, ?_⟩
    have ih := kids_ok ok hr k (j + 1) (by omega)
    have e4 : f.H + (a : Int) - 1 - (j : Int) - 1 = f.H + (a : Int) - 1 - ((j + 1 : Nat) : Int) := by omega
    rw [e4]
    exact ih
theorem next_ok {f : Fam} {a : Nat} {r : List (Int × Int)} (ok : f.Ok) (hr : AwOk f (f.H - 1) r) : AwOk (f.next a) (f.next a).H (kids ((f.dep + 1) % 2) a ++ r) := by
  have := kids_ok (a := a) ok (hr.keep ok (by omega)) a 0 (by omega)
  have e : (f.next a).H = f.H + (a : Int) - 1 - ((0 : Nat) : Int) := by show f.H + ((a : Int) - 1) = _; omega
  rw [e]
  unfold kids
  rw [List.range_eq_range']
  exact this
theorem Fam.Ok.next {f : Fam} (ok : f.Ok) (a : Int) : (f.next a).Ok := ⟨by show (f.as ++ [a]).length = (f.hs ++ [f.H]).length; simp [ok.a], by show (f.ds ++ [f.dep]).length = (f.hs ++ [f.H]).length; simp [ok.d]⟩
/-- the stack's names -/
def stkOf (L : List (Int × Int)) : List Str := Str.ofString "root" :: (L.map fun x => cname x.1 x.2).reverse
theorem aw_kids (s : Int) : ∀ a : Nat, awNames s a = ((kids s a).map fun x => cname x.1 x.2).reverse
  | 0 => rfl
  | a + 1 => by
    show cname ((a : Int) + 1) s :: awNames s a = _
    rw [aw_kids s a]
    unfold kids
    rw [List.range_succ]
    simp
theorem stk_push (L : List (Int × Int)) (s : Int) (a : Nat) : stkOf L ++ awNames s a = stkOf (kids s a ++ L) := by
  rw [aw_kids]
  unfold stkOf
  simp
def T2 : Tab := fun nm => ((stTab 6).lookup nm).map (List.map Raw.row)
theorem T2_root : T2 (Str.ofString "root") = some (((List.range 4).map rootRaw).map Raw.row) := by
  unfold T2
  rw [stTab6, List.lookup_cons, show (Str.ofString "root" == Str.ofString "root") = true from by decide +kernel]
  rfl
theorem T2_st {c d : Nat} (hc : c < 3) (hd : d < 2) : T2 (cname ((c : Int) + 1) (d : Int)) = some ((stRaws c d).map Raw.row) := by
  have e : ∀ c : Nat, c < 3 → ∀ d : Nat, d < 2 → cname ((c : Int) + 1) (d : Int) = [[Str.ofString "C1D0", Str.ofString "C1D1"], [Str.ofString "C2D0", Str.ofString "C2D1"], [Str.ofString "C3D0", Str.ofString "C3D1"]][c]!.getD d (Str.ofString "") := by decide +kernel
  rw [e c hc d hd]
  unfold T2
  rw [stTab6]
  have hne : ∀ i j : Nat, i < 7 → j < 7 → ([Str.ofString "root", Str.ofString "C1D0", Str.ofString "C1D1", Str.ofString "C2D0", Str.ofString "C2D1", Str.ofString "C3D0", Str.ofString "C3D1"][i]! == [Str.ofString "root", Str.ofString "C1D0", Str.ofString "C1D1", Str.ofString "C2D0", Str.ofString "C2D1", Str.ofString "C3D0", Str.ofString "C3D1"][j]!) = decide (i = j) := by
    have : ∀ i, i < 7 → ∀ j, j < 7 → ([Str.ofString "root", Str.ofString "C1D0", Str.ofString "C1D1", Str.ofString "C2D0", Str.ofString "C2D1", Str.ofString "C3D0", Str.ofString "C3D1"][i]! == [Str.ofString "root", Str.ofString "C1D0", Str.ofString "C1D1", Str.ofString "C2D0", Str.ofString "C2D1", Str.ofString "C3D0", Str.ofString "C3D1"][j]!) = decide (i = j) := by decide +kernel
    exact fun i j hi hj => this i hi j hj
  have h0 : ∀ j, j < 7 → _ := fun j hj => hne j 0 hj (by omega)
  have h1 : ∀ j, j < 7 → _ := fun j hj => hne j 1 hj (by omega)
  have h2 : ∀ j, j < 7 → _ := fun j hj => hne j 2 hj (by omega)
  have h3 : ∀ j, j < 7 → _ := fun j hj => hne j 3 hj (by omega)
  have h4 : ∀ j, j < 7 → _ := fun j hj => hne j 4 hj (by omega)
  have h5 : ∀ j, j < 7 → _ := fun j hj => hne j 5 hj (by omega)
  have h6 : ∀ j, j < 7 → _ := fun j hj => hne j 6 hj (by omega)
  have key : ∀ (j : Nat) (hj : j < 7) (v : Fin 7 → List Raw), ([(Str.ofString "root", v 0), (Str.ofString "C1D0", v 1), (Str.ofString "C1D1", v 2), (Str.ofString "C2D0", v 3), (Str.ofString "C2D1", v 4), (Str.ofString "C3D0", v 5), (Str.ofString "C3D1", v 6)]).lookup ([Str.ofString "root", Str.ofString "C1D0", Str.ofString "C1D1", Str.ofString "C2D0", Str.ofString "C2D1", Str.ofString "C3D0", Str.ofString "C3D1"][j]!) = some (v ⟨j, hj⟩) := by
    intro j hj v
    have g0 : (_ == Str.ofString "root") = _ := h0 j hj
    have g1 : (_ == Str.ofString "C1D0") = _ := h1 j hj
    have g2 : (_ == Str.ofString "C1D1") = _ := h2 j hj
    have g3 : (_ == Str.ofString "C2D0") = _ := h3 j hj
    have g4 : (_ == Str.ofString "C2D1") = _ := h4 j hj
    have g5 : (_ == Str.ofString "C3D0") = _ := h5 j hj
    have g6 : (_ == Str.ofString "C3D1") = _ := h6 j hj
    rw [List.lookup_cons, g0, List.lookup_cons, g1, List.lookup_cons, g2, List.lookup_cons, g3, List.lookup_cons, g4, List.lookup_cons, g5, List.lookup_cons, g6]
    have : j = 0 ∨ j = 1 ∨ j = 2 ∨ j = 3 ∨ j = 4 ∨ j = 5 ∨ j = 6 := by omega
    rcases this with rfl | rfl | rfl | rfl | rfl | rfl | rfl <;> rfl
  have hcc : c = 0 ∨ c = 1 ∨ c = 2 := by omega
  have hdd : d = 0 ∨ d = 1 := by omega
  let v : Fin 7 → List Raw := fun i => match i with
    | 0 => (List.range 4).map rootRaw
    | 1 => stRaws 0 0
    | 2 => stRaws 0 1
    | 3 => stRaws 1 0
    | 4 => stRaws 1 1
    | 5 => stRaws 2 0
    | 6 => stRaws 2 1
  rcases hcc with rfl | rfl | rfl <;> rcases hdd with rfl | rfl
  · exact congrArg _ (key 1 (by omega) v)
  · exact congrArg _ (key 2 (by omega) v)
  · exact congrArg _ (key 3 (by omega) v)
  · exact congrArg _ (key 4 (by omega) v)
  · exact congrArg _ (key 5 (by omega) v)
  · exact congrArg _ (key 6 (by omega) v)
theorem last_stk (x : Int × Int) (L : List (Int × Int)) : (stkOf (x :: L)).getLastD (Str.ofString "") = cname x.1 x.2 := by
  unfold stkOf
  rw [List.map_cons, List.reverse_cons, ← List.cons_append]
  first | exact List.dropLast_concat | (rw [List.getLastD_eq_getLast?, List.getLast?_concat]; rfl)
theorem drop_stk (x : Int × Int) (L : List (Int × Int)) : (stkOf (x :: L)).dropLast = stkOf L := by
  unfold stkOf
  rw [List.map_cons, List.reverse_cons, ← List.cons_append]
  first | exact List.dropLast_concat | (rw [List.getLastD_eq_getLast?, List.getLast?_concat]; rfl)
theorem stk_len (x : Int × Int) (L : List (Int × Int)) : 1 < (stkOf (x :: L)).length := by
  unfold stkOf
  simp
theorem aw_go (s : Int) (hs : s = 0 ∨ s = 1) (st : List Str) : ∀ a : Nat, a ≤ 3 → (awNames s a).foldl goOne st = st ++ awNames s a := by
  have one : ∀ c : Int, c = 1 ∨ c = 2 ∨ c = 3 → ∀ st, goOne st (cname c s) = st ++ [cname c s] := by
    intro c hc st
    refine go_else ?_ ?_
    · rcases hc with rfl | rfl | rfl <;> rcases hs with rfl | rfl <;> decide +kernel
    · rcases hc with rfl | rfl | rfl <;> rcases hs with rfl | rfl <;> decide +kernel
  intro a ha
  have hh : a = 0 ∨ a = 1 ∨ a = 2 ∨ a = 3 := by omega
  rcases hh with rfl | rfl | rfl | rfl
  · simp [awNames]
  · simp only [awNames, List.foldl_cons, List.foldl_nil]
    rw [one _ (by simp)]
  · simp only [awNames, List.foldl_cons, List.foldl_nil]
    rw [one _ (by simp), one _ (by simp)]
    simp
  · simp only [awNames, List.foldl_cons, List.foldl_nil]
    rw [one _ (by simp), one _ (by simp), one _ (by simp)]
    simp
theorem lex_row {T : Tab} {fuel : Nat} {st : List Str} {ch : Nat} {rest : List Nat} {pos : Nat} {rows : List Row} {r : Row} {c : Nat} (h1 : T (st.getLastD (Str.ofString "")) = some rows) (h2 : rows.find? (·.meets (ch :: rest)) = some r) (h3 : r.pat = some c) :
    lex T (fuel + 1) st (ch :: rest) pos = (lex T fuel (doAct st r.act) rest (pos + 1)).map (⟨pos, r.kind, c⟩ :: ·) := by
  rw [lex, h1]
  dsimp only
  rw [h2]
  dsimp only
  rw [h3]
theorem lex_nl0 {T : Tab} {fuel : Nat} {st : List Str} {rest : List Nat} {pos : Nat} {rows : List Row} (h1 : T (st.getLastD (Str.ofString "")) = some rows) (h2 : rows.find? (·.meets (10 :: rest)) = none) :
    lex T (fuel + 1) st (10 :: rest) pos = (lex T fuel [Str.ofString "root"] rest (pos + 1)).map (⟨pos, wsNames, 10⟩ :: ·) := by
  rw [lex, h1]
  dsimp only
  rw [h2]
  rfl
theorem lex_fin0 {T : Tab} {fuel : Nat} {st : List Str} {pos : Nat} {rows : List Row} (h1 : T (st.getLastD (Str.ofString "")) = some rows) (h2 : rows.find? (·.meets []) = none) :
    lex T (fuel + 1) st [] pos = some [] := by
  rw [lex, h1]
  dsimp only
  rw [h2]
def Oks (L : List (Int × Int)) : Prop := ∀ x ∈ L, (x.1 = 1 ∨ x.1 = 2 ∨ x.1 = 3) ∧ (x.2 = 0 ∨ x.2 = 1)
theorem kids_oks {s : Int} {a : Nat} (ha : a ≤ 3) (hs : s = 0 ∨ s = 1) {L : List (Int × Int)} (h : Oks L) : Oks (kids s a ++ L) := by
  intro x hx
  rcases List.mem_append.mp hx with hx | hx
  · obtain ⟨i, hi, rfl⟩ := List.mem_map.mp hx
    have hi := List.mem_range.mp hi
    exact ⟨by show (i : Int) + 1 = 1 ∨ (i : Int) + 1 = 2 ∨ (i : Int) + 1 = 3; omega, hs⟩
  · exact h x hx
theorem mod2 (a : Int) : (a % 2 = 0 ∨ a % 2 = 1) := by omega
/-- one letter -/
theorem lex_step {fuel : Nat} {f : Fam} {L : List (Int × Int)} {a : Nat} {rest : List Nat} {pos : Nat} (ha : a ≤ 3) (ok : f.Ok) (hL : AwOk f f.H L) (hO : Oks L) :
    ∃ L', AwOk (f.next a) (f.next a).H L' ∧ Oks L' ∧ lex T2 (fuel + 1) (stkOf L) ((97 + a) :: rest) pos = (lex T2 fuel (stkOf L') rest (pos + 1)).map (⟨pos, f.name a, 97 + a⟩ :: ·) := by
  cases L with
  | nil =>
    have hq : f.q = 0 := hL
    have hd : f.dep = 0 := by unfold Fam.dep; rw [if_pos hq]
    refine ⟨kids ((f.dep + 1) % 2) a ++ [], next_ok ok (par_mono (by omega) _ hL), kids_oks ha (mod2 _) (fun _ h => nomatch h), ?_⟩
    have e0 : (stkOf []).getLastD (Str.ofString "") = Str.ofString "root" := rfl
    have hn : f.name a = [Str.ofString "Root", Str.ofString "A" ++ Str.ofString (toString ((a : Nat) : Int))] := by unfold Fam.name; rw [if_pos hq]
    rw [← stk_push, hd, hn]
    have hf : ((List.range 4).map rootRaw |>.map Raw.row).find? (·.meets ((97 + a) :: rest)) = some (rootRaw a).row := by
      have hh : a = 0 ∨ a = 1 ∨ a = 2 ∨ a = 3 := by omega
      rcases hh with rfl | rfl | rfl | rfl <;> rfl
    have hdo : doAct (stkOf []) (rootRaw a).row.act = stkOf [] ++ awNames 1 a := by
      unfold rootRaw
      by_cases h0 : a = 0
      · subst h0; simp [Raw.row, RAct.act, doAct, awNames]
      · show doAct (stkOf []) (RAct.act (if a = 0 then .stay else .goT (awNames 1 a))) = _
        rw [if_neg h0]
        exact aw_go 1 (.inr rfl) _ a ha
    rw [show ((0 + 1) % 2 : Int) = 1 from rfl, ← hdo]
    rw [lex_row (T := T2) (by rw [e0]; exact T2_root) hf rfl]
    rfl
  | cons x L =>
    obtain ⟨h1, h2, h3, h4⟩ := id hL
    have hq : f.q ≠ 0 := h1
    obtain ⟨hx1, hx2⟩ := hO x (.head _)
    have hkid : f.kid = x.1 := h2.symm
    have hdep : f.dep % 2 = x.2 := by
      unfold Fam.dep; rw [if_neg hq]; exact h3.symm
    have hside : (f.dep + 1) % 2 = 1 - x.2 := by omega
    refine ⟨kids ((f.dep + 1) % 2) a ++ L, next_ok ok h4, kids_oks ha (mod2 _) (fun y hy => hO y (.tail _ hy)), ?_⟩
    have hn : f.name a = [Str.ofString "C" ++ Str.ofString (toString x.1), Str.ofString "D" ++ Str.ofString (toString x.2)] := by unfold Fam.name; rw [if_neg hq, hkid, hdep]
    rw [← stk_push, hside, hn]
    obtain ⟨c, hc, hc'⟩ : ∃ c : Nat, c < 3 ∧ x.1 = (c : Int) + 1 := ⟨(x.1 - 1).toNat, by omega, by omega⟩
    obtain ⟨d, hd, hd'⟩ : ∃ d : Nat, d < 2 ∧ x.2 = (d : Int) := ⟨x.2.toNat, by omega, by omega⟩
    have hf : ((stRaws c d).map Raw.row).find? (·.meets ((97 + a) :: rest)) = some (stRaw c d a).row := by
      have hh : a = 0 ∨ a = 1 ∨ a = 2 ∨ a = 3 := by omega
      rcases hh with rfl | rfl | rfl | rfl <;> rfl
    have hdo : doAct (stkOf (x :: L)) (stRaw c d a).row.act = stkOf L ++ awNames (1 - x.2) a := by
      cases a with
      | zero =>
        show (if 1 ≥ (stkOf (x :: L)).length then _ else (stkOf (x :: L)).take ((stkOf (x :: L)).length - 1)) = _
        have := stk_len x L
        rw [if_neg (by omega), ← List.dropLast_eq_take, drop_stk]
        simp [awNames]
      | succ a =>
        show (Str.ofString "#pop" :: awNames (1 - (d : Int)) (a + 1)).foldl goOne (stkOf (x :: L)) = _
        rw [List.foldl_cons, go_pop1 (by decide +kernel) (stk_len x L), drop_stk, aw_go _ (by omega) _ _ ha, hd']
    have hk : (stRaw c d a).row.kind = [Str.ofString "C" ++ Str.ofString (toString x.1), Str.ofString "D" ++ Str.ofString (toString x.2)] := by
      have e : stKind c d = [Str.ofString "C" ++ Str.ofString (toString x.1), Str.ofString "D" ++ Str.ofString (toString x.2)] := by
        unfold stKind
        rw [hc', hd', Int.add_comm 1 (c : Int), Int.zero_add]
      cases a with
      | zero => exact e
      | succ a => exact e
    have hp : (stRaw c d a).row.pat = some (97 + a) := by
      cases a with
      | zero => rfl
      | succ a => show some (98 + a) = _; congr 1; omega
    rw [← hdo, ← hk]
    exact lex_row (T := T2) (by rw [last_stk, hc', hd']; exact T2_st hc hd) hf hp
theorem lex_nl {fuel : Nat} {L : List (Int × Int)} {rest : List Nat} {pos : Nat} (hO : Oks L) :
    lex T2 (fuel + 1) (stkOf L) (10 :: rest) pos = (lex T2 fuel (stkOf []) rest (pos + 1)).map (⟨pos, wsNames, 10⟩ :: ·) := by
  cases L with
  | nil =>
    exact lex_nl0 (T := T2) T2_root rfl
  | cons x L =>
    obtain ⟨hx1, hx2⟩ := hO x (.head _)
    obtain ⟨c, hc, hc'⟩ : ∃ c : Nat, c < 3 ∧ x.1 = (c : Int) + 1 := ⟨(x.1 - 1).toNat, by omega, by omega⟩
    obtain ⟨d, hd, hd'⟩ : ∃ d : Nat, d < 2 ∧ x.2 = (d : Int) := ⟨x.2.toNat, by omega, by omega⟩
    exact lex_nl0 (T := T2) (by rw [last_stk, hc', hd']; exact T2_st hc hd) rfl
theorem lex_fin {fuel : Nat} {L : List (Int × Int)} {pos : Nat} (hO : Oks L) : lex T2 (fuel + 1) (stkOf L) [] pos = some [] := by
  cases L with
  | nil =>
    exact lex_fin0 (T := T2) T2_root rfl
  | cons x L =>
    obtain ⟨hx1, hx2⟩ := hO x (.head _)
    obtain ⟨c, hc, hc'⟩ : ∃ c : Nat, c < 3 ∧ x.1 = (c : Int) + 1 := ⟨(x.1 - 1).toNat, by omega, by omega⟩
    obtain ⟨d, hd, hd'⟩ : ∃ d : Nat, d < 2 ∧ x.2 = (d : Int) := ⟨x.2.toNat, by omega, by omega⟩
    exact lex_fin0 (T := T2) (by rw [last_stk, hc', hd']; exact T2_st hc hd) rfl
theorem lex_all : ∀ (l : List Nat) (fuel : Nat) (f : Fam) (L : List (Int × Int)) (pos : Nat), (∀ c ∈ l, c = 10 ∨ (97 ≤ c ∧ c ≤ 100)) → l.length < fuel → f.Ok → AwOk f f.H L → Oks L → lex T2 fuel (stkOf L) l pos = some (out f l pos)
  | [], fuel, f, L, pos, _, hf, ok, hL, hO => by
    obtain ⟨k, rfl⟩ : ∃ k, fuel = k + 1 := ⟨fuel - 1, by simp at hf; omega⟩
    exact lex_fin hO
  | c :: r, fuel, f, L, pos, hc, hf, ok, hL, hO => by
    obtain ⟨k, rfl⟩ : ∃ k, fuel = k + 1 := ⟨fuel - 1, by simp at hf; omega⟩
    have hr : ∀ c ∈ r, c = 10 ∨ (97 ≤ c ∧ c ≤ 100) := fun x hx => hc x (.tail _ hx)
    have hk : r.length < k := by simp at hf; omega
    unfold out
    rcases hc c (.head _) with rfl | ⟨h1, h2⟩
    · rw [if_pos rfl, lex_nl hO, lex_all r k Fam.init [] (pos + 1) hr hk ⟨rfl, rfl⟩ rfl (fun _ h => nomatch h)]
      rfl
    · rw [if_neg (by omega)]
      obtain ⟨a, rfl⟩ : ∃ a, c = 97 + a := ⟨c - 97, by omega⟩
      obtain ⟨L', h3, h4, h5⟩ := lex_step (fuel := k) (rest := r) (pos := pos) (a := a) (by omega) ok hL hO
      have ea : arOf (97 + a) = (a : Int) := by unfold arOf; omega
      rw [h5, ea, lex_all r k (f.next a) L' (pos + 1) hr hk (ok.next a) h3 h4]
      rfl
theorem lex_law {l : List Nat} (h : ∀ c ∈ l, c = 10 ∨ (97 ≤ c ∧ c ≤ 100)) : lex T2 (l.length + 1) [Str.ofString "root"] l 0 = some (out Fam.init l 0) :=
  lex_all l _ Fam.init [] 0 h (Nat.lt_succ_self _) ⟨rfl, rfl⟩ rfl (fun _ h => nomatch h)
theorem T2_pats : ∀ nm rows, T2 nm = some rows → ∀ r ∈ rows, r.pat ≠ none := by
  intro nm rows h r hr
  unfold T2 at h
  cases q : (stTab 6).lookup nm with
  | none => rw [q] at h; cases h
  | some rs =>
    rw [q] at h
    cases h
    obtain ⟨x, _, rfl⟩ := List.mem_map.mp hr
    exact fun z => nomatch z
end Mine
end
section
open PySem PySem.W PyProof.Rows PySem.Calls
set_option Elab.async false
set_option maxRecDepth 100000
set_option maxHeartbeats 4000000
namespace Mine
def joinL : List (List Nat) → List Nat
  | [] => []
  | [x] => x
  | x :: y :: r => x ++ 10 :: joinL (y :: r)
theorem lines_free : ∀ (x r : List Nat), 10 ∉ x → linesOf (x ++ 10 :: r) = x :: linesOf r
  | [], r, _ => by simp [linesOf]
  | c :: x, r, h => by
    have ih := lines_free x r (fun z => h (.tail _ z))
    have hc : c ≠ 10 := fun e => h (e ▸ .head _)
    show (if c = 10 then [] :: linesOf (x ++ 10 :: r) else match linesOf (x ++ 10 :: r) with
      | [] => [[c]]
      | h :: t => (c :: h) :: t) = _
    rw [if_neg hc, ih]
theorem lines_one : ∀ (x : List Nat), 10 ∉ x → linesOf x = [x]
  | [], _ => by simp [linesOf]
  | c :: x, h => by
    have ih := lines_one x (fun z => h (.tail _ z))
    have hc : c ≠ 10 := fun e => h (e ▸ .head _)
    unfold linesOf
    rw [if_neg hc, ih]
theorem lines_join : ∀ (ps : List (List Nat)), ps ≠ [] → (∀ p ∈ ps, 10 ∉ p) → linesOf (joinL ps) = ps
  | [], h, _ => absurd rfl h
  | [x], _, h => lines_one x (h x (.head _))
  | x :: y :: r, _, h => by
    show linesOf (x ++ 10 :: joinL (y :: r)) = _
    rw [lines_free x _ (h x (.head _)), lines_join (y :: r) (by simp) (fun p hp => h p (.tail _ hp))]
theorem join_toList : ∀ ps : List Str, (Str.join ⟨#[10]⟩ ps).cps.toList = joinL (ps.map fun p => p.cps.toList)
  | [] => rfl
  | [x] => rfl
  | x :: y :: r => by
    show (x ++ ⟨#[10]⟩ ++ Str.join ⟨#[10]⟩ (y :: r)).cps.toList = x.cps.toList ++ 10 :: joinL ((y :: r).map fun p => p.cps.toList)
    rw [← join_toList (y :: r), Str.cps_append, Str.cps_append]
    simp
theorem split_ne (x y : Str) : Txt.split x y ≠ [] := by
  unfold Txt.split
  split
  · simp
  · split
    · simp
    · rw [StrLaws.partsBetween_eq]
      obtain ⟨p, r, e⟩ := StrLaws.partsFrom_ne x y.length 0 (Builtin.Str.occurrences x y 0 x.length (x.length + 1))
      rw [e]
      simp
theorem split_lines (x : Str) : (Txt.split x ⟨#[10]⟩).map (fun p => p.cps.toList) = linesOf x.cps.toList := by
  have h := StrLaws.join_split x ⟨#[10]⟩
  have h2 : joinL ((Txt.split x ⟨#[10]⟩).map fun p => p.cps.toList) = x.cps.toList := by rw [← join_toList, h]
  rw [← h2, lines_join]
  · intro e
    exact split_ne x ⟨#[10]⟩ (List.map_eq_nil_iff.mp e)
  · intro p hp
    obtain ⟨q, hq, rfl⟩ := List.mem_map.mp hp
    exact StrLaws.split_free x 10 q hq
theorem out_split (x : Str) : (out Fam.init x.cps.toList 0).map (·.names) = ((Txt.split x ⟨#[10]⟩).flatMap fun p => famL p.cps.toList).dropLast := by
  rw [out_want, ← split_lines]
  simp [List.flatMap_map]
end Mine
end
section
open PySem PySem.W PyProof.Rows PySem.Calls
set_option Elab.async false
set_option maxRecDepth 100000
set_option maxHeartbeats 8000000
namespace Mine
def E0 : Heap := { objs := #[] }
theorem E0_none (a : Addr) : E0.get? a = none := by
  cases q : E0.get? a with
  | none => rfl
  | some o => have := Heap.lt_size q; exact absurd this (by show ¬ (a < 0); exact Nat.not_lt_zero _)
theorem E0_keeps (h : Heap) : Keeps E0 h := fun a o e => by rw [E0_none] at e; cases e
/-- a tuple of strs -/
def NameAt (h : Heap) (v : Value) (ns : List Str) : Prop := ∃ a vs, v = .ref a ∧ IsTup h a vs.toArray ∧ StrsAre vs ns ∧ ns.length = 2
inductive NamesAre (h : Heap) : List Value → List (List Str) → Prop
  | nil : NamesAre h [] []
  | cons {v ns vs nss} : NameAt h v ns → NamesAre h vs nss → NamesAre h (v :: vs) (ns :: nss)
theorem NameAt.kp {h h' : Heap} {v : Value} {ns : List Str} (k : Keeps h h') (x : NameAt h v ns) : NameAt h' v ns := let ⟨a, vs, e, t, r⟩ := x; ⟨a, vs, e, IsTup.kp k t, r⟩
theorem NamesAre.kp {h h' : Heap} {vs : List Value} {nss : List (List Str)} (k : Keeps h h') (x : NamesAre h vs nss) : NamesAre h' vs nss := by
  induction x with
  | nil => exact .nil
  | cons a _ ih => exact .cons (a.kp k) ih
theorem NamesAre.snoc {h : Heap} {vs : List Value} {nss : List (List Str)} {v : Value} {ns : List Str} (x : NamesAre h vs nss) (y : NameAt h v ns) : NamesAre h (vs ++ [v]) (nss ++ [ns]) := by
  induction x with
  | nil => exact .cons y .nil
  | cons a _ ih => exact .cons a ih
theorem NamesAre.app {h : Heap} {vs ws : List Value} {nss mss : List (List Str)} (x : NamesAre h vs nss) (y : NamesAre h ws mss) : NamesAre h (vs ++ ws) (nss ++ mss) := by
  induction x with
  | nil => exact y
  | cons a _ ih => exact .cons a ih
theorem NamesAre.len {h : Heap} {vs : List Value} {nss : List (List Str)} (x : NamesAre h vs nss) : vs.length = nss.length := by
  induction x with
  | nil => rfl
  | cons a _ ih => simp [ih]
theorem NamesAre.get {h : Heap} {vs : List Value} {nss : List (List Str)} (x : NamesAre h vs nss) : ∀ {i : Nat} {v : Value}, vs[i]? = some v → ∃ ns, nss[i]? = some ns ∧ NameAt h v ns := by
  induction x with
  | nil => intro i v e; simp at e
  | cons a _ ih =>
    intro i v e
    cases i with
    | zero => simp at e; subst e; exact ⟨_, rfl, a⟩
    | succ i => simpa using ih (by simpa using e)
theorem NamesAre.dropL {h : Heap} {vs : List Value} {nss : List (List Str)} (x : NamesAre h vs nss) : NamesAre h vs.dropLast nss.dropLast := by
  induction x with
  | nil => exact .nil
  | @cons v ns vs nss a r ih =>
    cases r with
    | nil => exact .nil
    | cons b r' => exact .cons a ih
section
variable {prog : Program} {w : World} {A : Around} {E : Value → Shared → Prop} {s : Shared} {h₀ : Heap} {L : Addr} {m : Str → Option Value}
theorem iter_S0 {env : Env} {x : Str} {body : List Stmt} {Q : Flow → Shared → Prop} {txt : Str} {m₀ : Str → Option Value} {news : List (Addr × Obj)}
    (J : Nat → (Str → Option Value) → List (Addr × Obj) → Prop)
    {oI : Obj} {St : Nat → Heap → Prop} (W : Walks prog w A s.heap.objs.size [s.heap.objs.size] [s.heap.objs.size] txt.cps.size (SignAt txt) St) (hIo : ∀ i h, St i h → ∃ o, h.get? s.heap.objs.size = some o) (hst0 : St 0 (s.heap.push oI)) (F : Fr h₀ env.locals s.heap m₀) (N : News h₀ env.locals s.heap news) (hj : J 0 m₀ news)
    (turn : ∀ i c tk m₁ news₁ I it s₁, txt.cps[i]? = some c → J i m₁ news₁ → (∀ p ∈ news₁, p.1 ≠ I) →
      Fr h₀ env.locals s₁.heap (fun y => if y = x then some (.str ⟨#[c]⟩ tk) else m₁ y) → News h₀ env.locals s₁.heap ((I, it) :: news₁) → ∀ (P : Flow → Shared → Prop) (E' : Value → Shared → Prop),
      (∀ s', UnrEnd h₀ env.locals s₁ I it (J (i + 1)) s' → P .next s') → wpAny (model prog w) A (execs body env) P E' s₁)
    (done : ∀ m₁ news₁ h tk, J txt.length m₁ news₁ → Fr h₀ env.locals h m₁ → News h₀ env.locals h news₁ → Q .next { s with heap := h, toks := tk }) :
    LoopAtV prog w A h₀ env x body Q E (.ref s.heap.objs.size) { s with heap := s.heap.push oI } := by
  have hnew := next_is_new F
  refine ⟨_, _, _, txt.cps.size, _, _, m₀, news, J, rfl, W, ?_, ?_, ?_, hst0, F.push _, (fun p hp => ⟨Heap.get?_push_of_some _ (N p hp).1, (N p hp).2⟩), hj, ?_, ?_⟩
  · intro hmm
    exact absurd F.ns.lt ((List.mem_singleton.mp hmm) ▸ Nat.lt_irrefl _)
  · intro b hb
    rw [List.mem_singleton.mp hb]
    exact hnew
  · intro p hp hI
    exact absurd (Heap.lt_size (N p hp).1) ((List.mem_singleton.mp hI) ▸ Nat.lt_irrefl _)
  · rintro i v m₁ news₁ s₁ own ⟨hh', tk', rfl⟩ hin hP hJ hoff hown hget hall hst F₁ N₁
    obtain ⟨c, tk, hc, rfl⟩ := hP
    have hoffI : ∀ p ∈ news₁, p.1 ≠ s.heap.objs.size := fun p hp e => hoff p hp (e ▸ List.mem_singleton.mpr rfl)
    obtain ⟨itO, hit⟩ := hIo _ _ hst
    have hmemI := hall s.heap.objs.size (List.mem_cons_self ..) hnew _ hit
    have N₂ : News h₀ env.locals hh' ((s.heap.objs.size, itO) :: news₁) := fun p hp => by
      rcases List.mem_cons.mp hp with rfl | hp
      · exact N₁ _ (List.mem_append_left _ hmemI)
      · exact N₁ _ (List.mem_append_right _ hp)
    refine turn i c tk m₁ news₁ _ _ { s with heap := hh', toks := tk' } hc hJ hoffI F₁ N₂ _ _ fun s₂ z => ?_
    obtain ⟨h', tk, m', news', e, F', N', ho, hmm⟩ := z
    refine ⟨rfl, h', tk, m', news', e, F', fun p hp => ?_, fun p hp hI => ho p hp (List.mem_singleton.mp hI), hmm⟩
    rcases List.mem_append.mp hp with hp | hp
    · have h2 : hh'.get? p.1 = some p.2 := hget p hp
      have h1 : p.1 = s.heap.objs.size := List.mem_singleton.mp (hown p hp)
      have h3 : p = (s.heap.objs.size, itO) := by
        rw [h1, hit] at h2
        exact Prod.ext h1 (Option.some.inj h2).symm
      rw [h3]; exact N' _ (List.mem_cons_self ..)
    · exact N' _ (List.mem_cons_of_mem _ hp)
  · rintro h' tk m' news' F' N' _ hJ
    exact done m' news' h' tk hJ F' N'
theorem iter_S {env : Env} {x : Str} {body : List Stmt} {Q : Flow → Shared → Prop} {txt : Str} {tt : Tok} {m₀ : Str → Option Value} {news : List (Addr × Obj)}
    (J : Nat → (Str → Option Value) → List (Addr × Obj) → Prop)
    (hh : A.handled = none) (F : Fr h₀ env.locals s.heap m₀) (N : News h₀ env.locals s.heap news) (hj : J 0 m₀ news)
    (turn : ∀ i c tk m₁ news₁ I it s₁, txt.cps[i]? = some c → J i m₁ news₁ → (∀ p ∈ news₁, p.1 ≠ I) →
      Fr h₀ env.locals s₁.heap (fun y => if y = x then some (.str ⟨#[c]⟩ tk) else m₁ y) → News h₀ env.locals s₁.heap ((I, it) :: news₁) → ∀ (P : Flow → Shared → Prop) (E' : Value → Shared → Prop),
      (∀ s', UnrEnd h₀ env.locals s₁ I it (J (i + 1)) s' → P .next s') → wpAny (model prog w) A (execs body env) P E' s₁)
    (done : ∀ m₁ news₁ h tk, J txt.length m₁ news₁ → Fr h₀ env.locals h m₁ → News h₀ env.locals h news₁ → Q .next { s with heap := h, toks := tk }) :
    wpAny (model prog w) A (pyIter (.str txt tt)) (fun it s₂ => LoopAtV prog w A h₀ env x body Q E it s₂) E s := by
  cases ha : txt.cps.all (· < 128)
  · exact wpAny_pyIter_wide ha (iter_S0 J (Walks.strWide hh _ txt tt) (fun i h st => let ⟨o, ho, _⟩ := st; ⟨o, ho⟩) ⟨_, Heap.get?_push_size _ rfl, rfl, rfl⟩ F N hj turn done)
  · exact wpAny_pyIter_ascii ha (iter_S0 J (Walks.strAscii hh _ txt tt) (fun i h st => let ⟨o, ho, _⟩ := st; ⟨o, ho⟩) ⟨_, Heap.get?_push_size _ rfl, rfl, rfl⟩ F N hj turn done)
theorem item_S {value slice : Expr} {S : Addr} {n : Nat} {items : List Value} {ns : List Int} {k : Int} {u : Tok} {news : List (Addr × Obj)} {Q : Value → Shared → Prop} (N : News h₀ L s.heap news) (hm : (S, lstN items n) ∈ news) (hi : IntsAre items ns) (h0 : 0 ≤ k) (h1 : k < (ns.length : Int)) (hsz : ns.length ≤ 1000)
    (h : ∀ t, Q (.int (ns.getD k.toNat 0) t) s)
    (hs : subscripted slice false (.ref S) (.int k u) = operate [.ref S, .int k u] (getItem (.ref S) (.int k u)) := by with_unfolding_all rfl) :
    wpAny (model prog w) A (subscriptTail value slice (.ref S) (.int k u)) Q E s := by
  have hl : s.heap.IsList S items.toArray := ⟨_, (N _ hm).1, rfl, _, rfl⟩
  have hlen := hi.length
  have hlt : k.toNat < items.length := by omega
  obtain ⟨t, e⟩ := hi.int_at k.toNat _ (List.getElem?_eq_getElem hlt)
  refine tail_any hl.typeIs slot_list_getitem.lookup (wpAny_getItem_list hl h0 (by omega) (x := .int (ns.getD k.toNat 0) t) ?_ (h t)) hs
  rw [List.getElem?_toArray, List.getElem?_eq_getElem hlt, e]
theorem len_I {S : Addr} {n : Nat} {items : List Value} {ns : List Int} {news : List (Addr × Obj)} {Q : Value → Shared → Prop} (N : News h₀ L s.heap news) (hm : (S, lstN items n) ∈ news) (hi : IntsAre items ns) (hsz : ns.length ≤ 1000)
    (h : ∀ t tk, Q (.int (ns.length : Int) t) { s with toks := tk }) : wpAny (model prog w) A (call (.builtin "len") [.ref S]) Q E s := by
  have hl : s.heap.IsList S items.toArray := ⟨_, (N _ hm).1, rfl, _, rfl⟩
  have hlen := hi.length
  refine len_list hl (by simp; omega) ?_
  have e : (items.toArray.size : Int) = (ns.length : Int) := by simp [hlen]
  rw [e]
  exact h _ _
theorem str_intZ {a : Int} {t : Tok} {Q : Value → Shared → Prop} (h0 : -1000000 ≤ a) (h1 : a ≤ 1000000) (h : ∀ t' k, Q (.str (Str.ofString (toString a)) t') { s with toks := k }) : wpAny (model prog w) A (call (.type "str") [.int a t]) Q E s :=
  P.str_of_int (shown (N := 2000000) (by omega) (by omega) (by decide +kernel)) (h _ _)
theorem index_abcd {a : Nat} (ha : a ≤ 3) {t u : Tok} {Q : Value → Shared → Prop} (hA : A.handled = none) (h : ∀ t' k, Q (.int (a : Int) t') { s with toks := k }) : wpAny (model prog w) A (call (.builtin "str.index") [.str (Str.ofString "abcd") t, .str ⟨#[97 + a]⟩ u]) Q E s := by
  have hf : ∀ a : Nat, a < 4 → Txt.find (Str.ofString "abcd") ⟨#[97 + a]⟩ = (a : Int) := by decide +kernel
  have e := hf a (by omega)
  refine index_or hA (fun q => ?_) (fun _ _ => ?_)
  · rw [e] at q; omega
  · rw [e]; exact h _ _
end
end Mine
end
section
open PySem PySem.W PyProof.Rows PySem.Calls
set_option Elab.async false
set_option maxRecDepth 100000
set_option maxHeartbeats 8000000
namespace Mine
structure Bds (f : Fam) (i : Nat) : Prop where
  lh : f.hs.length = i
  la : f.as.length = i
  ld : f.ds.length = i
  H : -(3 * (i : Int)) ≤ f.H ∧ f.H ≤ 3 * (i : Int)
  hs : ∀ k, k < i → -(3 * (i : Int)) ≤ f.hs.getD k 0 ∧ f.hs.getD k 0 ≤ 3 * (i : Int)
  as : ∀ k, k < i → 0 ≤ f.as.getD k 0 ∧ f.as.getD k 0 ≤ 3
  ds : ∀ k, k < i → 0 ≤ f.ds.getD k 0 ∧ f.ds.getD k 0 ≤ (i : Int)
theorem Bds.init : Bds Fam.init 0 := ⟨rfl, rfl, rfl, ⟨by decide, by decide⟩, fun k h => absurd h (Nat.not_lt_zero _), fun k h => absurd h (Nat.not_lt_zero _), fun k h => absurd h (Nat.not_lt_zero _)⟩
theorem getD_last {l : List Int} {x : Int} {i : Nat} (h : l.length = i) : (l ++ [x]).getD i 0 = x := by subst h; simp [List.getD]
theorem Bds.q_le {f : Fam} {i : Nat} (b : Bds f i) : f.q ≤ i := by
  have := par_le f.hs f.H f.hs.length
  rw [b.lh] at this
  unfold Fam.q
  rw [b.lh]; exact this
theorem Bds.dep {f : Fam} {i : Nat} (b : Bds f i) : 0 ≤ f.dep ∧ f.dep ≤ (i : Int) + 1 := by
  unfold Fam.dep
  split
  · omega
  · have := b.ds (f.q - 1) (by have := b.q_le; omega)
    omega
theorem Bds.next {f : Fam} {i : Nat} (b : Bds f i) {a : Nat} (ha : a ≤ 3) : Bds (f.next a) (i + 1) := by
  have hd := b.dep
  have hH := b.H
  refine ⟨by show (f.hs ++ [f.H]).length = _; simp [b.lh], by show (f.as ++ [(a : Int)]).length = _; simp [b.la], by show (f.ds ++ [f.dep]).length = _; simp [b.ld], ?_, fun k hk => ?_, fun k hk => ?_, fun k hk => ?_⟩
  · show -(3 * ((i + 1 : Nat) : Int)) ≤ f.H + ((a : Int) - 1) ∧ f.H + ((a : Int) - 1) ≤ 3 * ((i + 1 : Nat) : Int)
    omega
  · show -(3 * ((i + 1 : Nat) : Int)) ≤ (f.hs ++ [f.H]).getD k 0 ∧ (f.hs ++ [f.H]).getD k 0 ≤ 3 * ((i + 1 : Nat) : Int)
    by_cases e : k = i
    · subst e; rw [getD_last b.lh]; omega
    · have hk' : k < i := by omega
      rw [getD_app (by rw [b.lh]; exact hk')]
      have := b.hs k hk'
      omega
  · show 0 ≤ (f.as ++ [(a : Int)]).getD k 0 ∧ (f.as ++ [(a : Int)]).getD k 0 ≤ 3
    by_cases e : k = i
    · subst e; rw [getD_last b.la]; omega
    · have hk' : k < i := by omega
      rw [getD_app (by rw [b.la]; exact hk')]
      exact b.as k hk'
  · show 0 ≤ (f.ds ++ [f.dep]).getD k 0 ∧ (f.ds ++ [f.dep]).getD k 0 ≤ ((i + 1 : Nat) : Int)
    by_cases e : k = i
    · subst e; rw [getD_last b.ld]; omega
    · have hk' : k < i := by omega
      rw [getD_app (by rw [b.ld]; exact hk')]
      have := b.ds k hk'
      omega
theorem par_stop {hs : List Int} {H : Int} {n : Nat} (h : n = 0 ∨ hs.getD (n - 1) 0 ≤ H) : par hs H n = n := by
  cases n with
  | zero => rfl
  | succ n =>
    rcases h with h | h
    · cases h
    · unfold par; rw [if_pos (by simpa using h)]
theorem par_go {hs : List Int} {H : Int} {n : Nat} (h0 : 0 < n) (h : H < hs.getD (n - 1) 0) : par hs H n = par hs H (n - 1) := by
  obtain ⟨k, rfl⟩ : ∃ k, n = k + 1 := ⟨n - 1, by omega⟩
  rw [Nat.add_sub_cancel] at h ⊢
  show (if hs.getD k 0 ≤ H then k + 1 else par hs H k) = _
  rw [if_neg (by omega)]
section
variable {prog : Program} {w : World} {A : Around} {E : Value → Shared → Prop} {s : Shared} {h₀ : Heap} {L S : Addr} {m : Str → Option Value}
theorem append_M {items : List Value} {n : Nat} {x : Value} {all all' : List (Addr × Obj)} {Q : Value → Shared → Prop} (F : Fr h₀ L s.heap m) (N : News h₀ L s.heap all) (U : Upd S (lstN items n) (lstN (items ++ [x]) (n + 1)) all all') (hsz : items.length ≤ 1100000)
    (h : ∀ h', Fr h₀ L h' m → News h₀ L h' all' → Q .none { s with heap := h' }) : wpAny (model prog w) A (call (.builtin "list.append") [.ref S, x]) Q E s := by
  obtain ⟨pre, post, rfl, rfl, a, c⟩ := U.split
  exact append_S (pre := pre) F N a c hsz h
theorem item_last {value slice : Expr} {items : List Value} {v : Value} {n : Nat} {t : Tok} {news : List (Addr × Obj)} {Q : Value → Shared → Prop} (N : News h₀ L s.heap news) (hm : (S, lstN (items ++ [v]) n) ∈ news) (h : Q v s)
    (hs : subscripted slice false (.ref S) (.int (-1) t) = operate [.ref S, .int (-1) t] (getItem (.ref S) (.int (-1) t)) := by with_unfolding_all rfl) :
    wpAny (model prog w) A (subscriptTail value slice (.ref S) (.int (-1) t)) Q E s :=
  stk_last (items := items ++ [v]) ⟨_, (N _ hm).1, rfl, _, rfl⟩ (by simp) h hs
end
/-- between the letters of a line -/
def FamJ (nl hl al dl : Addr) (f : Fam) (nss : List (List Str)) (m₁ : Str → Option Value) (news₁ : List (Addr × Obj)) : Prop :=
  ∃ nits nn hits hn aits an dits dn rest gv t, news₁ = (dl, lstN dits dn) :: (al, lstN aits an) :: (hl, lstN hits hn) :: (nl, lstN nits nn) :: rest ∧ (∀ p ∈ rest, p.1 ≠ dl ∧ p.1 ≠ al ∧ p.1 ≠ hl ∧ p.1 ≠ nl) ∧
    IntsAre hits f.hs ∧ IntsAre aits f.as ∧ IntsAre dits f.ds ∧ BearsG E0 rest gv ∧ NamesAre gv nits nss ∧
    m₁ (Str.ofString "names") = some (.ref nl) ∧ m₁ (Str.ofString "heights") = some (.ref hl) ∧ m₁ (Str.ofString "arities") = some (.ref al) ∧ m₁ (Str.ofString "depths") = some (.ref dl) ∧ m₁ (Str.ofString "height") = some (.int f.H t)
theorem ints_snoc {vs : List Value} {ns : List Int} {x : Int} {t : Tok} (h : IntsAre vs ns) : IntsAre (vs ++ [.int x t]) (ns ++ [x]) := h.append (.cons _ _ .nil)
theorem lst_push (vs : List Value) (x : Value) (n : Nat) : W.listOf (vs.toArray.push x) n = lstN (vs ++ [x]) n := by
  show ({ cls := .type "list", data := .seq (vs.toArray.push x) n } : Obj) = _
  rw [List.push_toArray]
theorem fam_fin {s : Shared} {h₀ h9 gv : Heap} {L I D nl hl al dl : Addr} {it : Obj} {f : Fam} {a n0 nn hn an dn tk' : Nat} {nits hits aits dits : List Value} {nss : List (List Str)} {rest : List (Addr × Obj)} {m9 : Str → Option Value} {t t1 t2 td ta th : Tok} {dep a' H' : Int} {x1 x2 : Str}
    (F : Fr h₀ L h9 m9) (N : News h₀ L h9 ((D, { cls := .type "tuple", data := .seq #[.str x1 t1, .str x2 t2] n0 }) :: (I, it) :: (dl, W.listOf (dits.toArray.push (.int dep td)) dn) :: (al, W.listOf (aits.toArray.push (.int a' ta)) an) :: (hl, W.listOf (hits.toArray.push (.int f.H th)) hn) :: (nl, W.listOf (nits.toArray.push (.ref D)) nn) :: rest))
    (hD : @Ne Nat D I ∧ @Ne Nat D dl ∧ @Ne Nat D al ∧ @Ne Nat D hl ∧ @Ne Nat D nl) (hI : @Ne Nat dl I ∧ @Ne Nat al I ∧ @Ne Nat hl I ∧ @Ne Nat nl I) (hoI : ∀ p ∈ rest, p.1 ≠ I)
    (hoff : ∀ p ∈ rest, p.1 ≠ dl ∧ p.1 ≠ al ∧ p.1 ≠ hl ∧ p.1 ≠ nl) (ih : IntsAre hits f.hs) (ia : IntsAre aits f.as) (id : IntsAre dits f.ds) (hb : BearsG E0 rest gv) (hN : NamesAre gv nits nss)
    (ed : dep = f.dep) (ea : a' = (a : Int)) (en : f.name a = [x1, x2])
    (m1 : m9 (Str.ofString "names") = some (.ref nl)) (m2 : m9 (Str.ofString "heights") = some (.ref hl)) (m3 : m9 (Str.ofString "arities") = some (.ref al)) (m4 : m9 (Str.ofString "depths") = some (.ref dl)) (m5 : m9 (Str.ofString "height") = some (.int H' t)) (eH : H' = f.H + ((a : Int) - 1)) :
    UnrEnd h₀ L s I it (FamJ nl hl al dl (f.next a) (nss ++ [f.name a])) { s with heap := h9, toks := tk' } := by
  subst ed ea eH
  rw [lst_push, lst_push, lst_push, lst_push] at N
  obtain ⟨gv', hb', k1, hnew⟩ := grow (new := [(D, ({ cls := .type "tuple", data := .seq #[.str x1 t1, .str x2 t2] n0 } : Obj))]) (E0_keeps h9) (List.forall_mem_cons.mpr ⟨(N _ (.head _)).1, fun p hp => (N p (.tail _ (.tail _ (.tail _ (.tail _ (.tail _ (.tail _ hp))))))).1⟩) hb
  refine UnrEnd.intro (s₁ := s) F N ((dl, lstN (dits ++ [.int f.dep td]) dn) :: (al, lstN (aits ++ [.int (a : Int) ta]) an) :: (hl, lstN (hits ++ [.int f.H th]) hn) :: (nl, lstN (nits ++ [.ref D]) nn) :: (D, { cls := .type "tuple", data := .seq #[.str x1 t1, .str x2 t2] n0 }) :: rest) ?_ ?_ ⟨_, _, _, _, _, _, _, _, _, gv', _, rfl, ?_, ints_snoc ih, ints_snoc ia, ints_snoc id, hb', (hN.kp k1).snoc ?_, m1, m2, m3, m4, m5⟩
  · intro p hp
    rcases List.mem_cons.mp hp with rfl | hp
    · exact .tail _ (.head _)
    rcases List.mem_cons.mp hp with rfl | hp
    · exact .tail _ (.tail _ (.head _))
    rcases List.mem_cons.mp hp with rfl | hp
    · exact .tail _ (.tail _ (.tail _ (.head _)))
    rcases List.mem_cons.mp hp with rfl | hp
    · exact .tail _ (.tail _ (.tail _ (.tail _ (.head _))))
    rcases List.mem_cons.mp hp with rfl | hp
    · exact .tail _ (.tail _ (.tail _ (.tail _ (.tail _ (.head _)))))
    rcases List.mem_cons.mp hp with rfl | hp
    · exact .head _
    · exact .tail _ (.tail _ (.tail _ (.tail _ (.tail _ (.tail _ hp)))))
  · exact List.forall_mem_cons.mpr ⟨hI.1, List.forall_mem_cons.mpr ⟨hI.2.1, List.forall_mem_cons.mpr ⟨hI.2.2.1, List.forall_mem_cons.mpr ⟨hI.2.2.2, List.forall_mem_cons.mpr ⟨hD.1, hoI⟩⟩⟩⟩⟩
  · exact List.forall_mem_cons.mpr ⟨hD.2, hoff⟩
  · rw [en]
    exact ⟨D, [_, _], rfl, ⟨_, hnew _ (.head _), rfl, _, rfl⟩, .cons _ _ (.cons _ _ .nil), rfl⟩
def famAt (l : List Nat) (i : Nat) : Fam := (l.take i).foldl (fun f c => f.next (arOf c)) Fam.init
theorem famAt_succ {l : List Nat} {i c : Nat} (h : l[i]? = some c) : famAt l (i + 1) = (famAt l i).next (arOf c) := by
  unfold famAt
  rw [List.take_add_one, h]
  simp
theorem fam_len : ∀ (l : List Nat) (f : Fam), (fam f l).length = l.length
  | [], _ => rfl
  | c :: r, f => by show (fam _ r).length + 1 = _; rw [fam_len r]; rfl
theorem fam_getF : ∀ (l : List Nat) (f : Fam) (i c : Nat), l[i]? = some c → (fam f l)[i]? = some (((l.take i).foldl (fun f c => f.next (arOf c)) f).name (arOf c))
  | [], f, i, c, h => by simp at h
  | x :: r, f, 0, c, h => by
    have h : x = c := by simpa using h
    subst h; rfl
  | x :: r, f, i + 1, c, h => by
    have ih := fam_getF r (f.next (arOf x)) i c (by simpa using h)
    simpa [fam] using ih
theorem fam_take {l : List Nat} {i c : Nat} (h : l[i]? = some c) : (fam Fam.init l).take (i + 1) = (fam Fam.init l).take i ++ [(famAt l i).name (arOf c)] := by
  rw [List.take_add_one, fam_getF l Fam.init i c h]
  rfl
theorem Bds.at {l : List Nat} (hl : ∀ c ∈ l, 97 ≤ c ∧ c ≤ 100) : ∀ i, i ≤ l.length → Bds (famAt l i) i
  | 0, _ => Bds.init
  | i + 1, h => by
    have hlt : i < l.length := h
    have hg : l[i]? = some l[i] := List.getElem?_eq_getElem hlt
    have hc := hl _ (List.mem_of_getElem? hg)
    have ih := Bds.at hl i (by omega)
    rw [famAt_succ hg]
    have e : arOf l[i] = ((l[i] - 97 : Nat) : Int) := by unfold arOf; omega
    rw [e]
    exact ih.next (by omega)
theorem fam_start {h₀ h : Heap} {L nl hl al dl : Addr} {n1 n2 n3 n4 : Nat} {m : Str → Option Value} {t : Tok} (zF : Fr h₀ L h m) (zN : News h₀ L h [(dl, W.listOf #[] n1), (al, W.listOf #[] n2), (hl, W.listOf #[] n3), (nl, W.listOf #[] n4)])
    (m1 : m (Str.ofString "names") = some (.ref nl)) (m2 : m (Str.ofString "heights") = some (.ref hl)) (m3 : m (Str.ofString "arities") = some (.ref al)) (m4 : m (Str.ofString "depths") = some (.ref dl)) (m5 : m (Str.ofString "height") = some (.int 0 t)) :
    FamJ nl hl al dl Fam.init [] m [(dl, W.listOf #[] n1), (al, W.listOf #[] n2), (hl, W.listOf #[] n3), (nl, W.listOf #[] n4)] :=
  ⟨[], n4, [], n3, [], n2, [], n1, [], E0, t, rfl, (fun _ hp => nomatch hp), .nil, .nil, .nil, BearsG.start _ _, .nil, m1, m2, m3, m4, m5⟩
theorem fam_done {h₀ h : Heap} {L nl hl al dl : Addr} {n1 n2 n3 nn : Nat} {nits hits aits dits : List Value} {gv : Heap} {rest : List (Addr × Obj)} (N : News h₀ L h ((dl, lstN dits n1) :: (al, lstN aits n2) :: (hl, lstN hits n3) :: (nl, lstN nits nn) :: rest)) (hoff : ∀ p ∈ rest, p.1 ≠ dl ∧ p.1 ≠ al ∧ p.1 ≠ hl ∧ p.1 ≠ nl) (hb : BearsG E0 rest gv) :
    (h.get? nl = some (lstN nits nn) ∧ h₀.get? nl = none) ∧ Keeps gv h ∧ (∀ b o, gv.get? b = some o → h₀.get? b = none ∧ b ≠ nl) := by
  have z : ∀ b o, gv.get? b = some o → (b, o) ∈ rest := fun b o e => by
    rcases hb.2 b o e with q | q
    · rw [E0_none] at q; cases q
    · exact q
  have hn := N (nl, lstN nits nn) (.tail _ (.tail _ (.tail _ (.head _))))
  exact ⟨⟨hn.1, hn.2.2⟩, fun b o e => (N (b, o) (.tail _ (.tail _ (.tail _ (.tail _ (z b o e)))))).1, fun b o e => ⟨(N (b, o) (.tail _ (.tail _ (.tail _ (.tail _ (z b o e)))))).2.2, (hoff _ (z b o e)).2.2.2⟩⟩
end Mine
end
section
namespace Mine
section
variable {w : World} {d u : Nat} {gd : Option (List Code)} {base : Heap} {outer : List Env} {s : Shared} {p : Program} {loose : List Str} {mean : ExcName → Option Value} {mg mb : Str → Option Value}
local macro_rules | `(tactic| k_inst) => `(tactic| exact inst_base (by k_asm) (by assumption) (by assumption))
local macro_rules | `(tactic| k_room) => `(tactic| ((try simp only [depth_under_make, depth_under_kw, depth_in1, depth_deeper, depth_caller, depth_mk, Around.in1_depth, rl_is]); omega))
local macro_rules | `(tactic| k_units) => `(tactic| ((try simp only [Around.in1_units, Around.deeper_units, Around.mark_units, units_mk, cl_is]); omega))
local macro_rules | `(tactic| walk_at "truthy str") => `(tactic| (k_here; (with_reducible refine truthy_ch ?_); intro _))
local macro_rules | `(tactic| walk_at "call builtin:str.join") => `(tactic| (k_here; (refine join_one (by is_list) ?_); intro _ _))
local macro_rules | `(tactic| walk_at "MINE enter") => `(tactic| (refine' enter ?mX ?mT ?k6 ?k7 ?k8 ?k9 ?kB ?_ ?c2 ?c3 ?c4 ?c5; (case mX => assumption); (case mT => assumption); (case k6 => k_is); (case k7 => k_is); (case k8 => k_room); (case k9 => first | exact BindsTo.of_eq rfl | exact binds_K (by assumption) rfl (by k_is) rfl rfl rfl); (case c5 => decide); (case kB => exact locs rfl); (case c2 => exact rfl); (case c3 => exact rfl); (case c4 => exact rfl); intro L' h' F' N'; (try dsimp only)))
local macro_rules | `(tactic| walk_at "BRest") => `(tactic| (with_unfolding_all first | (refine BRest.succ (fun I' it' h' tk' hit' off' F' N' => ?_)) | (refine BRest.zero (fun h' tk' F' N' => ?_))))
local macro_rules | `(tactic| walk_at "MINE obj") => `(tactic| first | assumption | exact Fr.keep (by assumption) _ _ (by assumption) | exact News.get (by assumption) (by k_mem))
local macro_rules | `(tactic| walk_at "MINE lst") => `(tactic| first | assumption | exact Heap.IsList.at (by assumption) (fun o e => Fr.keep (by assumption) _ o e) | is_list)
local macro_rules | `(tactic| walk_at "MINE X") => `(tactic| first | assumption | exact Frag.In.keeps (by assumption) (Fr.keep (by assumption)))
local macro_rules | `(tactic| walk_at "MINE T") => `(tactic| first | assumption | exact Top.keeps (by assumption) (Fr.keep (by assumption)))
local macro_rules | `(tactic| walk_at "MINE B") => `(tactic| first | assumption | exact Below.push (by assumption) (by assumption))
local macro_rules | `(tactic| k_enter) => `(tactic| (refine' code_def0 ?k2 ?k3 ?k4 ?k5 ?k6 ?k7 ?k8 ?k9 ?kB ?_ ?c2 ?c3 ?c4 ?c5; (case k2 => k_asm); (case k3 => k_asm); (case k4 => k_asm); (case k5 => k_asm); (case k6 => k_is); (case k7 => k_is); (case k8 => k_room); (case k9 => first | exact BindsTo.of_eq rfl | exact binds_K (by k_in) rfl (by k_is) rfl rfl rfl | fail "k_enter: no rule for these arguments"); (case c5 => decide); (case kB => exact locs rfl); (case c2 => exact rfl); (case c3 => exact rfl); (case c4 => exact rfl); k_whole; intro g' L' h' FG' F' N' X' T'; (try dsimp only); (try k_fold)))
local macro_rules | `(tactic| walk_at "subscriptTail") => `(tactic| (k_here; (with_reducible show wpAny _ _ (subscriptTail _ _ (Value.ref _) (Value.str _ _)) _ _ _); k_dflt (refine tab_item (by k_asm) (by assumption) (by assumption) ?_)))
local macro_rules | `(tactic| walk_at "subscriptTail") => `(tactic| (k_here; (with_reducible show wpAny _ _ (subscriptTail _ _ (Value.ref _) (Value.int _ _)) _ _ _); k_dflt (refine stk_last (by is_list) (by assumption) ?_)))
local macro_rules | `(tactic| k_all) => `(tactic| first | assumption | exact ne_of_allL (by assumption) | exact ne_of_allLt (by assumption) | exact ne_of_allLt (And.right (by assumption)) | exact ne_of_allLt (And.right (And.right (by assumption))) | exact ne_of_allLt (And.right (And.right (And.right (by assumption)))))
local macro_rules | `(tactic| k_enter) => `(tactic| (kp_kind "rest"; (refine' code_rest0 ?k2 ?k3 ?k4 ?k5 ?k6 ?k7 ?k8 ?kV ?kP ?kG ?kB ?_ ?c2 ?c3 ?c4 ?c5; (case k2 => k_asm); (case k3 => k_asm); (case k4 => k_asm); (case k5 => k_asm); (case k6 => k_is); (case k7 => k_is); (case k8 => k_room); (case kV => exact rfl); (case kP => exact rfl); (case kG => exact fun _ => rfl); (case kB => exact fun _ => locs rfl); (case c5 => decide); (case c2 => exact rfl); (case c3 => exact rfl); (case c4 => exact rfl); k_whole; intro D' g' L' h' l1 FG' F' N' X' T'; (try k_lt l1); (try dsimp only); (try k_fold))))
local macro_rules | `(tactic| k_enter) => `(tactic| (kp_kind "more"; (refine' code_more0 ?k2 ?k3 ?k4 ?k5 ?k6 ?k7 ?k8 ?kP ?kK ?kB ?_ ?c2 ?c3 ?c4 ?c5; (case k2 => k_asm); (case k3 => k_asm); (case k4 => k_asm); (case k5 => k_asm); (case k6 => k_is); (case k7 => k_is); (case k8 => k_room); (case kP => exact rfl); (case kK => exact fun _ => rfl); (case kB => exact fun _ => locs rfl); (case c5 => decide); (case c2 => exact rfl); (case c3 => exact rfl); (case c4 => exact rfl); k_whole; intro D' o' g' L' h' tk' l1 lo' hd' fs' FG' F' N' X' T'; (try k_lt l1); (try dsimp only); (try k_fold))))
local macro_rules | `(tactic| k_enter) => `(tactic| (kp_kind "both"; (refine' code_both0 ?k2 ?k3 ?k4 ?k5 ?k6 ?k7 ?k8 ?kV ?kP ?kQ ?kK ?kB ?_ ?c2 ?c3 ?c4 ?c5; (case k2 => k_asm); (case k3 => k_asm); (case k4 => k_asm); (case k5 => k_asm); (case k6 => k_is); (case k7 => k_is); (case k8 => k_room); (case kV => exact rfl); (case kP => exact rfl); (case kQ => exact fun _ => rfl); (case kK => exact fun _ _ => rfl); (case kB => exact fun _ _ => locs rfl); (case c5 => decide); (case c2 => exact rfl); (case c3 => exact rfl); (case c4 => exact rfl); k_whole; intro C' D' g' L' h' tk' l1 l2 l3 FG' F' N' X' T'; (try k_lt l1); (try k_lt l3); (try dsimp only); (try k_fold))))
local macro_rules | `(tactic| walk_at "subscriptTail Name UnaryOp ref int") => `(tactic| (k_here; (with_reducible show wpAny _ _ (subscriptTail _ _ (Value.ref _) (Value.int _ _)) _ _ _); k_dflt (refine stk_last (by is_list) (by assumption) ?_)))
local macro_rules | `(tactic| walk_at "truthy ref") => `(tactic| (k_here; (with_reducible show wpAny _ _ (truthy (Value.ref _)) _ _ _); k_dflt (first | refine truthy_tup (b := false) (by assumption) (by assumption) (by first | exact Nat.le_of_ble_eq_true rfl | omega) rfl ?_ | refine truthy_tup (b := true) (by assumption) (by assumption) (by first | exact Nat.le_of_ble_eq_true rfl | omega) rfl ?_); intro _))
local macro_rules | `(tactic| walk_at "truthy str") => `(tactic| (k_here; (with_reducible show wpAny _ _ (truthy (Value.str _ _)) _ _ _); k_dflt (refine KXt.truthy_pos (K := 1000) (by omega) (by omega) (by omega) ?_); intro _))
local macro_rules | `(tactic| walk_at "StarOf ref") => `(tactic| (k_here; k_dflt (refine star_tup (by assumption) (by assumption) (by assumption) (by first | exact Nat.le_of_ble_eq_true rfl | omega) ?_); intro h' F' N'; (try dsimp only [List.nil_append, List.cons_append]); (try k_sweep)))
local macro_rules | `(tactic| walk_at "callWith ref") => `(tactic| (k_here; (with_reducible show wpAny _ _ (callWith _ (Value.ref _) _ (backTo _ (starEach (Expr.Starred _ _ :: _ :: _) _)) []) _ _ _); k_dflt (refine' callWith_S3 ?k1 ?k2 ?_; (case k1 => k_asm); (case k2 => k_is); k_whole)))
local macro_rules | `(tactic| walk_at "call type:str") => `(tactic| (k_here; (with_reducible show wpAny _ _ (call (Value.type "str") [Value.int _ _]) _ _ _); k_dflt (refine str_int9 (by omega) (by omega) ?_); intro _ _))
local macro_rules | `(tactic| walk_at "MINE enterC") => `(tactic| (refine' enterC ?mX ?mT ?k6 ?k7 ?k8 ?k9 ?kB ?kD ?_ ?c2 ?c3 ?c4; (case mX => assumption); (case mT => assumption); (case k6 => k_is); (case k7 => k_is); (case k8 => k_room); (case k9 => first | exact BindsTo.of_eq rfl | exact binds_K (by assumption) rfl (by k_is) rfl rfl rfl); (case kB => exact rfl); (case kD => decide +kernel); (case c2 => exact rfl); (case c3 => exact rfl); (case c4 => exact rfl); intro L' h' tk' cells' F' N' Y'; k_cells Y'; (try simp only [List.cons_append, List.nil_append] at N'); (try dsimp only)))
local macro_rules | `(tactic| walk_at "compareOp In str ref") => `(tactic| (k_here; (with_reducible show wpAny _ _ (compareOp _ (Value.str _ _) (Value.ref _)) _ _ _); k_dflt (refine in_map (by assumption) (by assumption) (by assumption) (by assumption) ?_); intro _))
local macro_rules | `(tactic| walk_at "call builtin:isinstance") => `(tactic| (k_here; (with_reducible show wpAny _ _ (call _ [Value.ref _, Value.type _]) _ _ _); k_dflt (refine' kia_one kitx_tuple ?X ?c ?ee ?nb ?_; (case c => exact kitAt_B (by assumption) (by assumption)); (case X => walk_at "MINE X"); (case ee => kit_is); (case nb => kit_nb); k_whole; intro _)))
local macro_rules | `(tactic| walk_at "call builtin:isinstance") => `(tactic| (k_here; (with_reducible show wpAny _ _ (call _ [Value.ref _, Value.ref _]) _ _ _); k_dflt (refine' kia_one kitx_tuple ?X ?c ?ee ?nb ?_; (case c => exact kitAt_B (by assumption) (by assumption)); (case X => walk_at "MINE X"); (case ee => kit_is); (case nb => kit_nb); k_whole; intro _)))
local macro_rules | `(tactic| walk_at "call type:type") => `(tactic| (k_here; (with_reducible show wpAny _ _ (call (Value.type "type") [Value.ref _]) _ _ _); k_dflt (refine kto_cont (T := "tuple") (kitAt_B (by assumption) (by assumption)) (by decide +kernel) ?_)))
local macro_rules | `(tactic| walk_at "call builtin:str.index") => `(tactic| (k_here; (with_reducible show wpAny _ _ (call (Value.builtin _) [Value.str _ _, Value.str _ _]) _ _ _); k_dflt (refine index_abcd (by assumption) rfl ?_); intro _ _))
local macro_rules | `(tactic| walk_at "call builtin:len") => `(tactic| (k_here; (with_reducible show wpAny _ _ (call (Value.builtin _) [Value.ref _]) _ _ _); k_dflt (refine len_I (by assumption) (by k_mem) (by assumption) (by omega) ?_); intro _ _))
local macro_rules | `(tactic| walk_at "exec While BoolOp cons nil") => `(tactic| (k_here; refine park ?_))
local macro_rules | `(tactic| k_all) => `(tactic| ((repeat (refine List.forall_mem_cons.mpr ⟨(by (dsimp only); refine neN ?_; omega), ?_⟩)); assumption))
local macro_rules | `(tactic| walk_at "call builtin:list.append") => `(tactic| (k_here; (with_reducible show wpAny _ _ (call _ [Value.ref _, _]) _ _ _); k_dflt (refine' append_M ?_ ?_ ?_ ?_ ?_; (focus k_asm); (focus k_asm); (focus k_upd); (focus omega)); intro h' F' N'; (try k_sweep)))
local macro_rules | `(tactic| walk_at "subscriptTail Name UnaryOp ref int") => `(tactic| (k_here; (with_reducible show wpAny _ _ (subscriptTail _ _ (Value.ref _) (Value.int _ _)) _ _ _); k_dflt (refine item_last (by assumption) (by k_mem) ?_)))
local macro_rules | `(tactic| walk_at "call type:str") => `(tactic| (k_here; (with_reducible show wpAny _ _ (call (Value.type "str") [Value.int _ _]) _ _ _); k_dflt (refine str_intZ (by omega) (by omega) ?_); intro _ _))
local macro_rules | `(tactic| walk_at "subscriptTail Name Name ref int") => `(tactic| (k_here; (with_reducible show wpAny _ _ (subscriptTail _ _ (Value.ref _) (Value.int _ _)) _ _ _); k_dflt (refine item_S (by assumption) (by k_mem) (by assumption) (by omega) (by omega) (by omega) ?_); intro _))
theorem t_fturn {h₀ gv : Heap} {L I nl hl al dl : Addr} {it : Obj} {env : Env} {f : Fam} {i a nn hn an dn : Nat} {nits hits aits dits : List Value} {nss : List (List Str)} {rest : List (Addr × Obj)} {m : Str → Option Value} {t tl : Tok} {P : Flow → Shared → Prop}
  (henv : env = fnEnv (Mine.hd2.heap_39 w.params) 655 L)
  (X : (Mine.hd2.heap_39 w.params).In h₀) (T : Top p loose mean mg mb h₀)
  (hd9 : d < 450) (hu9 : u < 800) (ha : a ≤ 3) (hi : i ≤ 100) (hB : Bds f i)
  (F : Fr h₀ L s.heap m) (m1 : m (Str.ofString "names") = some (.ref nl)) (m2 : m (Str.ofString "heights") = some (.ref hl)) (m3 : m (Str.ofString "arities") = some (.ref al)) (m4 : m (Str.ofString "depths") = some (.ref dl)) (m5 : m (Str.ofString "height") = some (.int f.H t)) (m6 : m (Str.ofString "letter") = some (.str ⟨#[97 + a]⟩ tl))
  (N : News h₀ L s.heap ((I, it) :: (dl, lstN dits dn) :: (al, lstN aits an) :: (hl, lstN hits hn) :: (nl, lstN nits nn) :: rest)) (hoI : ∀ p ∈ (dl, lstN dits dn) :: (al, lstN aits an) :: (hl, lstN hits hn) :: (nl, lstN nits nn) :: rest, p.1 ≠ I)
  (hoff : ∀ p ∈ rest, p.1 ≠ dl ∧ p.1 ≠ al ∧ p.1 ≠ hl ∧ p.1 ≠ nl) (hmu : @Ne Nat dl al ∧ @Ne Nat dl hl ∧ @Ne Nat dl nl ∧ @Ne Nat al hl ∧ @Ne Nat al nl ∧ @Ne Nat hl nl)
  (ih : IntsAre hits f.hs) (ia : IntsAre aits f.as) (id : IntsAre dits f.ds) (hb : BearsG E0 rest gv) (hN : NamesAre gv nits nss) (hnl : nss.length = i)
  (hP : ∀ s', UnrEnd h₀ L s I it (FamJ nl hl al dl (f.next a) (nss ++ [f.name a])) s' → P .next s') :
  wpAny (model PG w) ((⟨none, d, some outer, gd, u⟩ : Around).deeper env) (execs (nthFor (fnBody (Mine.hd2.heap_39 w.params) 655) 5) env) P (fun _ _ => False) s := by
  have henv' : env = envOf _ _ L 655 _ := henv
  with_unfolding_all (show wpAny _ _ (execs (_ :: _) _) _ _ _)
  clear henv
  subst henv'
  replace F := Fr.re (m' := fun y => if y = Str.ofString "letter" then some (.str ⟨#[97 + a]⟩ tl) else if y = Str.ofString "height" then some (.int f.H t) else if y = Str.ofString "depths" then some (.ref dl) else if y = Str.ofString "arities" then some (.ref al) else if y = Str.ofString "heights" then some (.ref hl) else if y = Str.ofString "names" then some (.ref nl) else m y) F (by
    intro y
    split
    · rename_i e; rw [e, m6]
    split
    · rename_i e; rw [e, m5]
    split
    · rename_i e; rw [e, m4]
    split
    · rename_i e; rw [e, m3]
    split
    · rename_i e; rw [e, m2]
    split
    · rename_i e; rw [e, m1]
    rfl)
  clear m1 m2 m3 m4 m5 m6
  obtain rfl := hB.lh
  have la := hB.la
  have ld := hB.ld
  have hH := hB.H
  have lih := ih.length
  have lia := ia.length
  have lid := id.length
  have lin := hN.len
  have ho1 : ∀ p ∈ rest, p.1 ≠ dl := fun p hp => (hoff p hp).1
  have ho2 : ∀ p ∈ rest, p.1 ≠ al := fun p hp => (hoff p hp).2.1
  have ho3 : ∀ p ∈ rest, p.1 ≠ hl := fun p hp => (hoff p hp).2.2.1
  have ho4 : ∀ p ∈ rest, p.1 ≠ nl := fun p hp => (hoff p hp).2.2.2
  have hI1 : @Ne Nat dl I := hoI _ (.head _)
  have hI2 : @Ne Nat al I := hoI _ (.tail _ (.head _))
  have hI3 : @Ne Nat hl I := hoI _ (.tail _ (.tail _ (.head _)))
  have hI4 : @Ne Nat nl I := hoI _ (.tail _ (.tail _ (.tail _ (.head _))))
  have hds : ∀ k, k < f.hs.length → 0 ≤ f.ds.getD k 0 ∧ f.ds.getD k 0 ≤ (f.hs.length : Int) := hB.ds
  k_steps
  refine unpark ?_
  rename Fr _ _ _ _ => F9
  rename News _ _ _ _ => N9
  refine While_inv (fun n m₁ n₁ => n₁ = (I, it) :: (dl, lstN dits dn) :: (al, lstN aits an) :: (hl, lstN hits hn) :: (nl, lstN nits nn) :: rest ∧ n ≤ f.hs.length ∧ par f.hs f.H n = f.q ∧ (∃ tp, m₁ (Str.ofString "parent") = some (.int ((n : Int) - 1) tp)) ∧ m₁ (Str.ofString "names") = some (.ref nl) ∧ m₁ (Str.ofString "heights") = some (.ref hl) ∧ m₁ (Str.ofString "arities") = some (.ref al) ∧ m₁ (Str.ofString "depths") = some (.ref dl) ∧ m₁ (Str.ofString "height") = some (.int f.H t) ∧ ∃ ta, m₁ (Str.ofString "arity") = some (.int (a : Int) ta)) (n₀ := f.hs.length) F9 N9 ⟨rfl, Nat.le_refl _, rfl, ⟨_, rfl⟩, rfl, rfl, rfl, rfl, rfl, ⟨_, rfl⟩⟩ ?turn
  case turn =>
    clear F9 N9
    intro n m₁ n₁ h₁ tk₁ F1 N1 ⟨en, hn, hpar, ⟨tp, q1⟩, q2, q3, q4, q5, q6, ⟨ta, q7⟩⟩
    subst en
    replace F1 := Fr.re (m' := fun y => if y = Str.ofString "parent" then some (.int ((n : Int) - 1) tp) else if y = Str.ofString "arity" then some (.int (a : Int) ta) else if y = Str.ofString "height" then some (.int f.H t) else if y = Str.ofString "depths" then some (.ref dl) else if y = Str.ofString "arities" then some (.ref al) else if y = Str.ofString "heights" then some (.ref hl) else if y = Str.ofString "names" then some (.ref nl) else m₁ y) F1 (by
      intro y
      split
      · rename_i e; rw [e, q1]
      split
      · rename_i e; rw [e, q7]
      split
      · rename_i e; rw [e, q6]
      split
      · rename_i e; rw [e, q5]
      split
      · rename_i e; rw [e, q4]
      split
      · rename_i e; rw [e, q3]
      split
      · rename_i e; rw [e, q2]
      rfl)
    clear q1 q2 q3 q4 q5 q6 q7
    rcases Nat.eq_zero_or_pos n with rfl | hn0
    · k_steps
      rename Fr _ _ _ _ => F2
      rename News _ _ _ _ => N2
      have hq0 : f.q = 0 := hpar.symm
      refine hP _ (fam_fin (s := s) F2 N2 ?n1 ⟨hI1, hI2, hI3, hI4⟩ (fun p hp => hoI p (.tail _ (.tail _ (.tail _ (.tail _ hp))))) hoff ih ia id hb hN ?n2 ?n3 ?n4 rfl rfl rfl rfl rfl rfl)
      case n1 => exact ⟨by omega, by omega, by omega, by omega, by omega⟩
      case n2 => unfold Fam.dep; rw [if_pos hq0]
      case n3 => rfl
      case n4 => unfold Fam.name; rw [if_pos hq0]
    · have b1 := hB.hs (((n : Int) - 1).toNat) (by omega)
      have b2 := hB.as (((n : Int) - 1).toNat) (by omega)
      have b3 := hB.ds (((n : Int) - 1).toNat) (by omega)
      have en : ((n : Int) - 1).toNat = n - 1 := by omega
      k_steps
      · rename Fr _ _ _ _ => F2
        rename News _ _ _ _ => N2
        refine WhileStep.intro F2 N2 (n' := n - 1) (by omega) ⟨rfl, by omega, ?w1, (by rw [show ((n - 1 : Nat) : Int) - 1 = (n : Int) - 1 - 1 from by omega]; exact ⟨_, rfl⟩), rfl, rfl, rfl, rfl, rfl, ⟨_, rfl⟩⟩
        case w1 =>
          have hlt : f.H < f.hs.getD (n - 1) 0 := by rw [← en]; omega
          rw [← par_go hn0 hlt]; exact hpar
      · rename Fr _ _ _ _ => F2
        rename News _ _ _ _ => N2
        rw [← List.push_toArray] at N2
        have hle : f.hs.getD (n - 1) 0 ≤ f.H := by rw [← en]; omega
        have hq : f.q = n := by rw [← hpar]; exact par_stop (.inr hle)
        have hq0 : ¬ f.q = 0 := by omega
        refine hP _ (fam_fin (s := s) F2 N2 ?o1 ⟨hI1, hI2, hI3, hI4⟩ (fun p hp => hoI p (.tail _ (.tail _ (.tail _ (.tail _ hp))))) hoff ih ia id hb hN ?o2 ?o3 ?o4 rfl rfl rfl rfl rfl rfl)
        case o1 => exact ⟨by omega, by omega, by omega, by omega, by omega⟩
        case o2 => unfold Fam.dep; rw [if_neg hq0, hq, en]
        case o3 => rfl
        case o4 => unfold Fam.name Fam.kid Fam.dep; rw [if_neg hq0, if_neg hq0, hq, en, Int.fmod_eq_emod_of_nonneg _ (by decide)]
end
end Mine
end
section
namespace Mine
section
variable {w : World} {d u : Nat} {gd : Option (List Code)} {base : Heap} {outer : List Env} {s : Shared} {p : Program} {loose : List Str} {mean : ExcName → Option Value} {mg mb : Str → Option Value}
local macro_rules | `(tactic| k_inst) => `(tactic| exact inst_base (by k_asm) (by assumption) (by assumption))
local macro_rules | `(tactic| k_room) => `(tactic| ((try simp only [depth_under_make, depth_under_kw, depth_in1, depth_deeper, depth_caller, depth_mk, Around.in1_depth, rl_is]); omega))
local macro_rules | `(tactic| k_units) => `(tactic| ((try simp only [Around.in1_units, Around.deeper_units, Around.mark_units, units_mk, cl_is]); omega))
local macro_rules | `(tactic| walk_at "truthy str") => `(tactic| (k_here; (with_reducible refine truthy_ch ?_); intro _))
local macro_rules | `(tactic| walk_at "call builtin:str.join") => `(tactic| (k_here; (refine join_one (by is_list) ?_); intro _ _))
local macro_rules | `(tactic| walk_at "MINE enter") => `(tactic| (refine' enter ?mX ?mT ?k6 ?k7 ?k8 ?k9 ?kB ?_ ?c2 ?c3 ?c4 ?c5; (case mX => assumption); (case mT => assumption); (case k6 => k_is); (case k7 => k_is); (case k8 => k_room); (case k9 => first | exact BindsTo.of_eq rfl | exact binds_K (by assumption) rfl (by k_is) rfl rfl rfl); (case c5 => decide); (case kB => exact locs rfl); (case c2 => exact rfl); (case c3 => exact rfl); (case c4 => exact rfl); intro L' h' F' N'; (try dsimp only)))
local macro_rules | `(tactic| walk_at "BRest") => `(tactic| (with_unfolding_all first | (refine BRest.succ (fun I' it' h' tk' hit' off' F' N' => ?_)) | (refine BRest.zero (fun h' tk' F' N' => ?_))))
local macro_rules | `(tactic| walk_at "MINE obj") => `(tactic| first | assumption | exact Fr.keep (by assumption) _ _ (by assumption) | exact News.get (by assumption) (by k_mem))
local macro_rules | `(tactic| walk_at "MINE lst") => `(tactic| first | assumption | exact Heap.IsList.at (by assumption) (fun o e => Fr.keep (by assumption) _ o e) | is_list)
local macro_rules | `(tactic| walk_at "MINE X") => `(tactic| first | assumption | exact Frag.In.keeps (by assumption) (Fr.keep (by assumption)))
local macro_rules | `(tactic| walk_at "MINE T") => `(tactic| first | assumption | exact Top.keeps (by assumption) (Fr.keep (by assumption)))
local macro_rules | `(tactic| walk_at "MINE B") => `(tactic| first | assumption | exact Below.push (by assumption) (by assumption))
local macro_rules | `(tactic| k_enter) => `(tactic| (refine' code_def0 ?k2 ?k3 ?k4 ?k5 ?k6 ?k7 ?k8 ?k9 ?kB ?_ ?c2 ?c3 ?c4 ?c5; (case k2 => k_asm); (case k3 => k_asm); (case k4 => k_asm); (case k5 => k_asm); (case k6 => k_is); (case k7 => k_is); (case k8 => k_room); (case k9 => first | exact BindsTo.of_eq rfl | exact binds_K (by k_in) rfl (by k_is) rfl rfl rfl | fail "k_enter: no rule for these arguments"); (case c5 => decide); (case kB => exact locs rfl); (case c2 => exact rfl); (case c3 => exact rfl); (case c4 => exact rfl); k_whole; intro g' L' h' FG' F' N' X' T'; (try dsimp only); (try k_fold)))
local macro_rules | `(tactic| walk_at "subscriptTail") => `(tactic| (k_here; (with_reducible show wpAny _ _ (subscriptTail _ _ (Value.ref _) (Value.str _ _)) _ _ _); k_dflt (refine tab_item (by k_asm) (by assumption) (by assumption) ?_)))
local macro_rules | `(tactic| walk_at "subscriptTail") => `(tactic| (k_here; (with_reducible show wpAny _ _ (subscriptTail _ _ (Value.ref _) (Value.int _ _)) _ _ _); k_dflt (refine stk_last (by is_list) (by assumption) ?_)))
local macro_rules | `(tactic| k_all) => `(tactic| first | assumption | exact ne_of_allL (by assumption) | exact ne_of_allLt (by assumption) | exact ne_of_allLt (And.right (by assumption)) | exact ne_of_allLt (And.right (And.right (by assumption))) | exact ne_of_allLt (And.right (And.right (And.right (by assumption)))))
local macro_rules | `(tactic| k_enter) => `(tactic| (kp_kind "rest"; (refine' code_rest0 ?k2 ?k3 ?k4 ?k5 ?k6 ?k7 ?k8 ?kV ?kP ?kG ?kB ?_ ?c2 ?c3 ?c4 ?c5; (case k2 => k_asm); (case k3 => k_asm); (case k4 => k_asm); (case k5 => k_asm); (case k6 => k_is); (case k7 => k_is); (case k8 => k_room); (case kV => exact rfl); (case kP => exact rfl); (case kG => exact fun _ => rfl); (case kB => exact fun _ => locs rfl); (case c5 => decide); (case c2 => exact rfl); (case c3 => exact rfl); (case c4 => exact rfl); k_whole; intro D' g' L' h' l1 FG' F' N' X' T'; (try k_lt l1); (try dsimp only); (try k_fold))))
local macro_rules | `(tactic| k_enter) => `(tactic| (kp_kind "more"; (refine' code_more0 ?k2 ?k3 ?k4 ?k5 ?k6 ?k7 ?k8 ?kP ?kK ?kB ?_ ?c2 ?c3 ?c4 ?c5; (case k2 => k_asm); (case k3 => k_asm); (case k4 => k_asm); (case k5 => k_asm); (case k6 => k_is); (case k7 => k_is); (case k8 => k_room); (case kP => exact rfl); (case kK => exact fun _ => rfl); (case kB => exact fun _ => locs rfl); (case c5 => decide); (case c2 => exact rfl); (case c3 => exact rfl); (case c4 => exact rfl); k_whole; intro D' o' g' L' h' tk' l1 lo' hd' fs' FG' F' N' X' T'; (try k_lt l1); (try dsimp only); (try k_fold))))
local macro_rules | `(tactic| k_enter) => `(tactic| (kp_kind "both"; (refine' code_both0 ?k2 ?k3 ?k4 ?k5 ?k6 ?k7 ?k8 ?kV ?kP ?kQ ?kK ?kB ?_ ?c2 ?c3 ?c4 ?c5; (case k2 => k_asm); (case k3 => k_asm); (case k4 => k_asm); (case k5 => k_asm); (case k6 => k_is); (case k7 => k_is); (case k8 => k_room); (case kV => exact rfl); (case kP => exact rfl); (case kQ => exact fun _ => rfl); (case kK => exact fun _ _ => rfl); (case kB => exact fun _ _ => locs rfl); (case c5 => decide); (case c2 => exact rfl); (case c3 => exact rfl); (case c4 => exact rfl); k_whole; intro C' D' g' L' h' tk' l1 l2 l3 FG' F' N' X' T'; (try k_lt l1); (try k_lt l3); (try dsimp only); (try k_fold))))
local macro_rules | `(tactic| walk_at "subscriptTail Name UnaryOp ref int") => `(tactic| (k_here; (with_reducible show wpAny _ _ (subscriptTail _ _ (Value.ref _) (Value.int _ _)) _ _ _); k_dflt (refine stk_last (by is_list) (by assumption) ?_)))
local macro_rules | `(tactic| walk_at "truthy ref") => `(tactic| (k_here; (with_reducible show wpAny _ _ (truthy (Value.ref _)) _ _ _); k_dflt (first | refine truthy_tup (b := false) (by assumption) (by assumption) (by first | exact Nat.le_of_ble_eq_true rfl | omega) rfl ?_ | refine truthy_tup (b := true) (by assumption) (by assumption) (by first | exact Nat.le_of_ble_eq_true rfl | omega) rfl ?_); intro _))
local macro_rules | `(tactic| walk_at "truthy str") => `(tactic| (k_here; (with_reducible show wpAny _ _ (truthy (Value.str _ _)) _ _ _); k_dflt (refine KXt.truthy_pos (K := 1000) (by omega) (by omega) (by omega) ?_); intro _))
local macro_rules | `(tactic| walk_at "StarOf ref") => `(tactic| (k_here; k_dflt (refine star_tup (by assumption) (by assumption) (by assumption) (by first | exact Nat.le_of_ble_eq_true rfl | omega) ?_); intro h' F' N'; (try dsimp only [List.nil_append, List.cons_append]); (try k_sweep)))
local macro_rules | `(tactic| walk_at "callWith ref") => `(tactic| (k_here; (with_reducible show wpAny _ _ (callWith _ (Value.ref _) _ (backTo _ (starEach (Expr.Starred _ _ :: _ :: _) _)) []) _ _ _); k_dflt (refine' callWith_S3 ?k1 ?k2 ?_; (case k1 => k_asm); (case k2 => k_is); k_whole)))
local macro_rules | `(tactic| walk_at "call type:str") => `(tactic| (k_here; (with_reducible show wpAny _ _ (call (Value.type "str") [Value.int _ _]) _ _ _); k_dflt (refine str_int9 (by omega) (by omega) ?_); intro _ _))
local macro_rules | `(tactic| walk_at "MINE enterC") => `(tactic| (refine' enterC ?mX ?mT ?k6 ?k7 ?k8 ?k9 ?kB ?kD ?_ ?c2 ?c3 ?c4; (case mX => assumption); (case mT => assumption); (case k6 => k_is); (case k7 => k_is); (case k8 => k_room); (case k9 => first | exact BindsTo.of_eq rfl | exact binds_K (by assumption) rfl (by k_is) rfl rfl rfl); (case kB => exact rfl); (case kD => decide +kernel); (case c2 => exact rfl); (case c3 => exact rfl); (case c4 => exact rfl); intro L' h' tk' cells' F' N' Y'; k_cells Y'; (try simp only [List.cons_append, List.nil_append] at N'); (try dsimp only)))
local macro_rules | `(tactic| walk_at "compareOp In str ref") => `(tactic| (k_here; (with_reducible show wpAny _ _ (compareOp _ (Value.str _ _) (Value.ref _)) _ _ _); k_dflt (refine in_map (by assumption) (by assumption) (by assumption) (by assumption) ?_); intro _))
local macro_rules | `(tactic| walk_at "call builtin:isinstance") => `(tactic| (k_here; (with_reducible show wpAny _ _ (call _ [Value.ref _, Value.type _]) _ _ _); k_dflt (refine' kia_one kitx_tuple ?X ?c ?ee ?nb ?_; (case c => exact kitAt_B (by assumption) (by assumption)); (case X => walk_at "MINE X"); (case ee => kit_is); (case nb => kit_nb); k_whole; intro _)))
local macro_rules | `(tactic| walk_at "call builtin:isinstance") => `(tactic| (k_here; (with_reducible show wpAny _ _ (call _ [Value.ref _, Value.ref _]) _ _ _); k_dflt (refine' kia_one kitx_tuple ?X ?c ?ee ?nb ?_; (case c => exact kitAt_B (by assumption) (by assumption)); (case X => walk_at "MINE X"); (case ee => kit_is); (case nb => kit_nb); k_whole; intro _)))
local macro_rules | `(tactic| walk_at "call type:type") => `(tactic| (k_here; (with_reducible show wpAny _ _ (call (Value.type "type") [Value.ref _]) _ _ _); k_dflt (refine kto_cont (T := "tuple") (kitAt_B (by assumption) (by assumption)) (by decide +kernel) ?_)))
local macro_rules | `(tactic| walk_at "exec For Name Name cons nil") => `(tactic| (k_here; (with_unfolding_all refine' For_invVF (by assumption) ?_ ?_ ?_); (focus exact rfl); (focus exact rfl)))
local macro_rules | `(tactic| walk_at "pyIter str") => `(tactic| (k_here; refine park ?_))
theorem t_family {line : Str} {t : Tok} {R : Result → Shared → Prop}
  (X : (Mine.hd2.heap_39 w.params).In s.heap) (T : Top p loose mean mg mb s.heap)
  (hd9 : d < 450) (hu9 : u < 800) (hlc : ∀ c ∈ line.cps.toList, 97 ≤ c ∧ c ≤ 100) (hlen : line.length ≤ 100)
  (hR : ∀ h' k D its n g', Keeps s.heap h' → (h'.get? D = some (lstN its n) ∧ s.heap.get? D = none) → Keeps g' h' → (∀ b o, g'.get? b = some o → s.heap.get? b = none ∧ b ≠ D) → NamesAre g' its (fam Fam.init line.cps.toList) → R (.ok (.ret (.ref D))) {s with heap := h', toks := k}) :
  codeAny (model PG w) ⟨none, d, some outer, gd, u⟩ (.call (.ref 655) ⟨[.str line t], []⟩) R s := by
  walk_at "MINE enter"
  k_steps
  refine unpark ?_
  rename Fr _ _ _ _ => F9
  rename News _ _ _ _ => N9
  rename (_ < _ ∧ _ < _ ∧ _ < _) => l3
  rename (_ < _ ∧ _ < _) => l2
  rename (_ < _) => l1
  have hmu := And.intro (Nat.ne_of_gt l3.1) (And.intro (Nat.ne_of_gt l3.2.1) (And.intro (Nat.ne_of_gt l3.2.2) (And.intro (Nat.ne_of_gt l2.1) (And.intro (Nat.ne_of_gt l2.2) (Nat.ne_of_gt l1)))))
  have hJ0 := fam_start F9 N9 rfl rfl rfl rfl rfl
  refine iter_S (fun i m₁ n₁ => FamJ _ _ _ _ (famAt line.cps.toList i) ((fam Fam.init line.cps.toList).take i) m₁ n₁) rfl F9 N9 hJ0 ?turn ?done
  case turn =>
    clear N9 F9 hJ0 hR
    intro i c tk m₁ news₁ I it s₁ hc ⟨nits, nn, hits, hn, aits, an, dits, dn, rest, gv, t', hn₁, hoff, ih, ia, id, hb, hN, q1, q2, q3, q4, q5⟩ hoI F N P E' hP
    subst hn₁
    have hc' : line.cps.toList[i]? = some c := by rw [Array.getElem?_toList]; exact hc
    obtain ⟨c1, c2⟩ := hlc c (List.mem_of_getElem? hc')
    obtain ⟨a, rfl⟩ : ∃ a, c = 97 + a := ⟨c - 97, by omega⟩
    have hi : i < line.cps.toList.length := (List.getElem?_eq_some_iff.mp hc').1
    have hll : line.cps.toList.length = line.length := by simp [Str.length]
    have ea : arOf (97 + a) = (a : Int) := by unfold arOf; omega
    rw [famAt_succ hc', fam_take hc', ea] at hP
    have hlN : ((fam Fam.init line.cps.toList).take i).length = i := by rw [List.length_take, fam_len]; omega
    exact wpAny_mono (t_fturn (s := s₁) rfl X T hd9 hu9 (by omega) (by omega) (Bds.at hlc i (by omega)) F q1 q2 q3 q4 q5 rfl N hoI hoff hmu ih ia id hb hN hlN hP) (fun _ _ x => x) (fun _ _ x => x.elim)
  case done =>
    clear N9 F9 hJ0
    intro m₁ news₁ h5 tk5 ⟨nits, nn, hits, hn, aits, an, dits, dn, rest, gv, t', hn₁, hoff, ih, ia, id, hb, hN, q1, q2, q3, q4, q5⟩ F5 N5
    subst hn₁
    replace F5 := Fr.re (m' := fun y => if y = Str.ofString "names" then some (.ref _) else m₁ y) F5 (by
      intro y
      split
      · rename_i e; rw [e, q1]
      rfl)
    k_steps
    rename Fr _ _ _ _ => F8
    rename News _ _ _ _ => N8
    have hll : line.cps.toList.length = line.length := by simp [Str.length]
    rw [← hll, ← fam_len line.cps.toList Fam.init, List.take_length] at hN
    obtain ⟨z1, z2, z3⟩ := fam_done N8 hoff hb
    exact hR _ _ _ _ _ _ (Fr.keep F8) z1 z2 z3 hN
end
end Mine
end
section
open PySem PySem.W PyProof.Rows PySem.Calls
set_option Elab.async false
set_option maxRecDepth 100000
set_option maxHeartbeats 8000000
namespace Mine
def lawBody : List Stmt := match PG.main.body.getLast? with
  | some (.FunctionDef _ _ b _ _ _ _ _ _ _) => b
  | _ => []
def lawEnv (L fa : Addr) (cd : Value) : Env := match PG.main.body.getLast? with
  | some (.FunctionDef nm _ _ _ _ _ sc _ _ _) => envOfC nm sc L fa cd
  | _ => default
section
variable {prog : Program} {w : World} {A : Around} {E : Value → Shared → Prop} {s : Shared} {h₀ : Heap} {L : Addr} {m : Str → Option Value}
theorem strs_comp {env : Env} {elt : Expr} {x : Str} {scope : Scope} {cl : List (Str × Addr)} {S : List (Addr × Obj) → Prop} {Fin : List Value → List (Addr × Obj) → Prop} {news : List (Addr × Obj)} {vs : List Value} {ns : List Int} (g : Int → Str) (hi : IntsAre vs ns)
    (turn : ∀ k t I oI C oC D m₂ ys h tk (E' : Value → Shared → Prop), k ∈ ns → LCg.NsObj oC m₂ → m₂ x = some (.int k t) → Fr h₀ L h m → News h₀ L h ((I, oI) :: (C, oC) :: (D, LCg.lst ys) :: news) → LCg.Off3 I C D news → ((@Ne Nat I C) ∧ (@Ne Nat I D) ∧ (@Ne Nat C D)) →
      wpAny (model prog w) A (eval elt (compEnvC scope cl C env)) (LCg.CompEnd h₀ L m { s with heap := h, toks := tk } I oI C oC D (LCg.lst ys) S (fun y news' => KCtEl news (g k) y news')) E' { s with heap := h, toks := tk })
    (fin : ∀ ys, StrsAre ys (ns.map g) → Fin ys news) : LCg.CompRest prog w A h₀ L m env elt x scope cl s S (fun i v => vs.toArray[i]? = some v) Fin vs.toArray.size 0 [] news := by
  have hlen := hi.length
  have key : ∀ (j i : Nat) (ys : List Value), i + j = vs.toArray.size → StrsAre ys ((ns.take i).map g) → LCg.CompRest prog w A h₀ L m env elt x scope cl s S (fun i v => vs.toArray[i]? = some v) Fin j i ys news := by
    intro j
    induction j with
    | zero =>
      intro i ys hij hy
      have e : i = ns.length := by simp at hij; omega
      rw [e, List.take_length] at hy
      exact LCg.CompRest.zero (fin ys hy)
    | succ j ih =>
      intro i ys hij hy
      refine LCg.CompRest.succ ?_
      intro v I oI C oC D m₂ h tk E' hv hC hx F N off ne
      obtain ⟨k, t, hv', hk⟩ := hi.at i v (by simpa using hv)
      rw [hv'] at hx
      refine wpAny_mono (turn k t I oI C oC D m₂ ys h tk E' (List.mem_of_getElem? hk) hC hx F N off ne) (fun y s₂ hq => ?_) fun _ _ e => e
      obtain ⟨h', tk', nw, e, F', N', off', hS, hn, t', hy'⟩ := hq
      rw [hn] at N' off' hS
      refine ⟨h', tk', news, e, F', N', off', hS, ?_⟩
      rw [hy']
      refine ih (i + 1) _ (by omega) ?_
      rw [List.take_add_one, hk]
      simpa using strs_app hy (.cons _ _ .nil)
  exact key _ 0 [] (by omega) (by simp only [List.take_zero, List.map_nil]; exact .nil)
/-- a text of the law's letters -/
def Letters (x : Str) : Prop := ∀ c ∈ x.cps.toList, c = 10 ∨ (97 ≤ c ∧ c ≤ 100)
def pickL (k : Int) : Str := Txt.item (Str.ofString "aaabbcd\n") (k.fmod 8)
theorem pickL_ok (k : Int) : (pickL k).length = 1 ∧ Letters (pickL k) := by
  have h0 : 0 ≤ k.fmod 8 := Int.fmod_nonneg_of_pos k (by decide)
  have h1 : k.fmod 8 < 8 := Int.fmod_lt_of_pos k (by decide)
  have key : ∀ n : Nat, n < 8 → (Txt.item (Str.ofString "aaabbcd\n") (n : Int)).length = 1 ∧ ∀ c ∈ (Txt.item (Str.ofString "aaabbcd\n") (n : Int)).cps.toList, c = 10 ∨ (97 ≤ c ∧ c ≤ 100) := by decide +kernel
  have := key (k.fmod 8).toNat (by omega)
  have e : (((k.fmod 8).toNat : Nat) : Int) = k.fmod 8 := by omega
  rw [e] at this
  exact this
theorem letters_app {x y : Str} (hx : Letters x) (hy : Letters y) : Letters (x ++ y) := fun c hc => by
  rw [Str.cps_append, Array.toList_append] at hc
  rcases List.mem_append.mp hc with hc | hc
  · exact hx c hc
  · exact hy c hc
theorem join_letters : ∀ ns : List Int, (Txt.join (Str.ofString "") (ns.map pickL)).length = ns.length ∧ Letters (Txt.join (Str.ofString "") (ns.map pickL)) := by
  have e0 : ∀ ys : List Str, Txt.join (Str.ofString "") ys = Str.join (Str.ofString "") ys := fun ys => StrLaws.glued_eq_join _ ys
  have e1 : ∀ y : Str, ∀ ys : List Str, Str.join (Str.ofString "") (y :: ys) = y ++ Str.join (Str.ofString "") ys := by
    intro y ys
    cases ys with
    | nil => show y = y ++ Str.empty; rw [Str.append_empty]
    | cons z r =>
      show y ++ Str.ofString "" ++ Str.join (Str.ofString "") (z :: r) = _
      rw [show (Str.ofString "") = Str.empty from by decide +kernel, Str.append_empty]
  intro ns
  rw [e0]
  induction ns with
  | nil => exact ⟨by decide +kernel, fun c hc => by simp [Str.join, Str.empty] at hc⟩
  | cons k r ih =>
    rw [List.map_cons, e1]
    exact ⟨by rw [Str.length_append, (pickL_ok k).1, ih.1]; simp; omega, letters_app (pickL_ok k).2 ih.2⟩
theorem join_law {D : Addr} {its : Array Value} {ys : List Value} {ns : List Int} {t : Tok} {Q : Value → Shared → Prop} (hl : s.heap.IsList D its) (e : its = ys.toArray) (hs : StrsAre ys (ns.map pickL)) (hn : ns.length ≤ 20)
    (h : ∀ t k, Q (.str (Txt.join (Str.ofString "") (ns.map pickL)) t) { s with toks := k }) : wpAny (model prog w) A (call (.builtin "str.join") [.str (Str.ofString "") t, .ref D]) Q E s := by
  subst e
  refine join_listW hl (ys := ns.map pickL) (by simpa using hs) (by decide +kernel) ?_ h
  have e : ((ns.map pickL).map (·.length)).sum = ns.length := by
    clear hn hs h hl
    induction ns with
    | nil => rfl
    | cons k r ih => rw [List.map_cons, List.map_cons, List.sum_cons, ih, (pickL_ok k).1]; simp; omega
  rw [e, List.length_map]
  omega
theorem add_law {t u : Tok} {ns : List Int} {Q : Value → Shared → Prop} (hn : ns.length ≤ 20) (h : ∀ tx t k, tx.length ≤ 23 → Letters tx → Q (.str tx t) { s with toks := k }) :
    wpAny (model prog w) A (binaryOp .Add (.str (Str.ofString "cba") t) (.str (Txt.join (Str.ofString "") (ns.map pickL)) u)) Q E s := by
  have hj := join_letters ns
  have h3 : (Str.ofString "cba").length = 3 ∧ Letters (Str.ofString "cba") := by
    have : (Str.ofString "cba").length = 3 ∧ ∀ c ∈ (Str.ofString "cba").cps.toList, c = 10 ∨ (97 ≤ c ∧ c ≤ 100) := by decide +kernel
    exact this
  exact PyProof.Rows.add_str (fun t' k => h _ t' k (by rw [Str.length_append, h3.1, hj.1]; omega) (letters_app h3.2 hj.2)) (by rw [h3.1, hj.1, sizeLine_eq]; omega)
end
end Mine
end
section
open PySem PySem.W PyProof.Rows PySem.Calls
set_option Elab.async false
set_option maxRecDepth 100000
set_option maxHeartbeats 8000000
namespace Mine
section
variable {prog : Program} {w : World} {A : Around} {E : Value → Shared → Prop} {s : Shared}
theorem E0_mem {rest : List (Addr × Obj)} {gv : Heap} (hb : BearsG E0 rest gv) {b : Addr} {o : Obj} (e : gv.get? b = some o) : (b, o) ∈ rest := by
  rcases hb.2 b o e with q | q
  · rw [E0_none] at q; cases q
  · exact q
/-- a call has made a list and things that it holds: they join the ledger -/
theorem join_fresh {B h h' g' gv : Heap} {L D : Addr} {m : Str → Option Value} {oD : Obj} {mu rest : List (Addr × Obj)} (F : Fr B L h m) (N : News B L h (mu ++ rest)) (off : ∀ p ∈ rest, ∀ q ∈ mu, p.1 ≠ q.1) (k : Keeps h h') (hD : h'.get? D = some oD ∧ h.get? D = none) (kg : Keeps g' h') (hf : ∀ b o, g'.get? b = some o → h.get? b = none ∧ b ≠ D) (hb : BearsG E0 rest gv) :
    ∃ rest' gv', Fr B L h' m ∧ News B L h' ((D, oD) :: (mu ++ rest')) ∧ (∀ p ∈ mu ++ rest', p.1 ≠ D) ∧ (∀ p ∈ rest', ∀ q ∈ mu, p.1 ≠ q.1) ∧ BearsG E0 rest' gv' ∧ Keeps gv gv' ∧ Keeps g' gv' := by
  let new := (List.range g'.objs.size).filterMap fun a => (g'.get? a).map fun o => (a, o)
  have hnew : ∀ p ∈ new, g'.get? p.1 = some p.2 := fun p hp => by
    obtain ⟨a, ha, e⟩ := List.mem_filterMap.mp hp
    cases q : g'.get? a with
    | none => rw [q] at e; cases e
    | some o => rw [q] at e; cases e; exact q
  have hall : ∀ b o, g'.get? b = some o → (b, o) ∈ new := fun b o e => List.mem_filterMap.mpr ⟨b, List.mem_range.mpr (Heap.lt_size e), by rw [e]; rfl⟩
  have hLh : h.get? L ≠ none := fun e => by obtain ⟨oL, _, _, hL, _⟩ := F.ns; rw [e] at hL; cases hL
  have fresh : ∀ a o, h'.get? a = some o → h.get? a = none → h'.get? a = some o ∧ a ≠ L ∧ B.get? a = none := fun a o e e0 => by
    refine ⟨e, fun z => hLh (z ▸ e0), ?_⟩
    cases z : B.get? a with
    | none => rfl
    | some o' => have := F.keep _ _ z; rw [e0] at this; cases this
  have inh : ∀ p ∈ mu ++ rest, h.get? p.1 ≠ none := fun p hp e => by have := (N p hp).1; rw [e] at this; cases this
  obtain ⟨gv', hb', k1, hn⟩ := grow (new := new) (E0_keeps h') (fun p hp => by
    rcases List.mem_append.mp hp with hp | hp
    · exact kg _ _ (hnew p hp)
    · exact k _ _ (N p (List.mem_append_right _ hp)).1) hb
  refine ⟨new ++ rest, gv', F.keeps k, ?_, ?_, ?_, hb', k1, fun b o e => hn (b, o) (hall b o e)⟩
  · intro p hp
    rcases List.mem_cons.mp hp with rfl | hp
    · exact fresh _ _ hD.1 hD.2
    rcases List.mem_append.mp hp with hp | hp
    · exact (N.grown k) _ (List.mem_append_left _ hp)
    rcases List.mem_append.mp hp with hp | hp
    · exact fresh _ _ (kg _ _ (hnew p hp)) (hf _ _ (hnew p hp)).1
    · exact (N.grown k) _ (List.mem_append_right _ hp)
  · intro p hp
    rcases List.mem_append.mp hp with hp | hp
    · exact fun e => inh p (List.mem_append_left _ hp) (e ▸ hD.2)
    rcases List.mem_append.mp hp with hp | hp
    · exact (hf _ _ (hnew p hp)).2
    · exact fun e => inh p (List.mem_append_right _ hp) (e ▸ hD.2)
  · intro p hp q hq
    rcases List.mem_append.mp hp with hp | hp
    · exact fun e => inh q (List.mem_append_left _ hq) (e ▸ (hf _ _ (hnew p hp)).1)
    · exact off p hp q hq
theorem extend_M {h₀ : Heap} {L S b : Addr} {m : Str → Option Value} {its its2 : List Value} {n n2 : Nat} {pre post : List (Addr × Obj)} {Q : Value → Shared → Prop} (F : Fr h₀ L s.heap m) (N : News h₀ L s.heap (pre ++ (S, lstN its n) :: post)) (off1 : ∀ p ∈ pre, p.1 ≠ S) (off : ∀ p ∈ post, p.1 ≠ S)
    (hb : (b, lstN its2 n2) ∈ pre ++ (S, lstN its n) :: post) (hsz : its.length ≤ 10000) (hsz2 : its2.length ≤ 10000)
    (h : ∀ h' n', Fr h₀ L h' m → News h₀ L h' (pre ++ (S, lstN (its ++ its2) n') :: post) → Q .none { s with heap := h' }) : wpAny (model prog w) A (call (.builtin "list.extend") [.ref S, .ref b]) Q E s := by
  have hd : ¬(!its.toArray.isEmpty && Builtin.List.listTooLong (its.toArray.size + its2.toArray.size)) = true := extend_door (by rw [List.size_toArray, List.size_toArray, sizeLine_eq]; omega)
  have hz : its.toArray.toList.length ≤ sizeLine := by rw [sizeLine_eq]; simp; omega
  have hz2 : its.toArray.size + its2.toArray.size ≤ sizeLine + 1 := by rw [List.size_toArray, List.size_toArray, sizeLine_eq]; omega
  by_cases e : its2 = []
  · subst e
    refine kxn_extend (its := its.toArray) (its2 := #[]) F N hb rfl (updPre off1 off) hd hz hz2 fun h' F' N' => h h' n F' ?_
    rw [List.append_nil]
    exact N'
  · refine kl_extend (its := its.toArray) (its2 := its2.toArray) F N hb rfl (by simpa using e) (updPre off1 off) hd hz hz2 fun h' F' N' => h h' (n + 1) F' ?_
    have q : its.toArray.toList ++ its2.toArray.toList = its ++ its2 := by simp
    rw [q] at N'
    exact N'
/-- between the lines of the text -/
def LineJ (wl l c1 c2 : Addr) (co tb : Obj) (nss : List (List Str)) (m₁ : Str → Option Value) (news₁ : List (Addr × Obj)) : Prop :=
  ∃ its ne rest gv, news₁ = (wl, lstN its ne) :: (c1, co) :: (c2, tb) :: rest ∧ (∀ p ∈ rest, p.1 ≠ wl ∧ p.1 ≠ l ∧ p.1 ≠ c1 ∧ p.1 ≠ c2) ∧ BearsG E0 rest gv ∧ NamesAre gv its nss ∧ m₁ (Str.ofString "wanted") = some (.ref wl)
theorem line_fin {h₀ h9 gv : Heap} {L I wl l c1 c2 D Tt : Addr} {it lo co tb oD : Obj} {m9 : Str → Option Value} {its its2 : List Value} {nss nss2 : List (List Str)} {ne n0 tk' : Nat} {rest : List (Addr × Obj)} {t1 t2 : Tok}
    (F : Fr h₀ L h9 m9) (N : News h₀ L h9 ((Tt, { cls := .type "tuple", data := .seq #[.str (Str.ofString "Text") t1, .str (Str.ofString "Whitespace") t2] n0 }) :: (D, oD) :: (I, it) :: (l, lo) :: (wl, lstN (its ++ its2 ++ [.ref Tt]) ne) :: (c1, co) :: (c2, tb) :: rest))
    (hT : Tt ≠ I ∧ Tt ≠ wl ∧ Tt ≠ l ∧ Tt ≠ c1 ∧ Tt ≠ c2) (hD : D ≠ I ∧ D ≠ wl ∧ D ≠ l ∧ D ≠ c1 ∧ D ≠ c2) (hI : l ≠ I ∧ wl ≠ I ∧ c1 ≠ I ∧ c2 ≠ I) (hoI : ∀ p ∈ rest, p.1 ≠ I)
    (hoff : ∀ p ∈ rest, p.1 ≠ wl ∧ p.1 ≠ l ∧ p.1 ≠ c1 ∧ p.1 ≠ c2) (hb : BearsG E0 rest gv) (hN : NamesAre gv its nss) (hN2 : NamesAre gv its2 nss2) (m1 : m9 (Str.ofString "wanted") = some (.ref wl)) :
    UnrEnd h₀ L s I it (fun m' all => ∃ news', all = (l, lo) :: news' ∧ LineJ wl l c1 c2 co tb (nss ++ (nss2 ++ [wsNames])) m' news') { s with heap := h9, toks := tk' } := by
  obtain ⟨gv', hb', k1, hnew⟩ := grow (new := [(Tt, ({ cls := .type "tuple", data := .seq #[.str (Str.ofString "Text") t1, .str (Str.ofString "Whitespace") t2] n0 } : Obj)), (D, oD)]) (E0_keeps h9) (List.forall_mem_cons.mpr ⟨(N _ (.head _)).1, List.forall_mem_cons.mpr ⟨(N _ (.tail _ (.head _))).1, fun p hp => (N p (.tail _ (.tail _ (.tail _ (.tail _ (.tail _ (.tail _ (.tail _ hp)))))))).1⟩⟩) hb
  refine UnrEnd.intro (s₁ := s) F N ((l, lo) :: (wl, lstN (its ++ its2 ++ [.ref Tt]) ne) :: (c1, co) :: (c2, tb) :: (Tt, { cls := .type "tuple", data := .seq #[.str (Str.ofString "Text") t1, .str (Str.ofString "Whitespace") t2] n0 }) :: (D, oD) :: rest) ?_ ?_ ⟨_, rfl, its ++ its2 ++ [.ref Tt], ne, _, gv', rfl, ?_, hb', ?_, m1⟩
  · intro p hp
    rcases List.mem_cons.mp hp with rfl | hp
    · exact .tail _ (.tail _ (.head _))
    rcases List.mem_cons.mp hp with rfl | hp
    · exact .tail _ (.tail _ (.tail _ (.head _)))
    rcases List.mem_cons.mp hp with rfl | hp
    · exact .tail _ (.tail _ (.tail _ (.tail _ (.head _))))
    rcases List.mem_cons.mp hp with rfl | hp
    · exact .tail _ (.tail _ (.tail _ (.tail _ (.tail _ (.head _)))))
    rcases List.mem_cons.mp hp with rfl | hp
    · exact .tail _ (.tail _ (.tail _ (.tail _ (.tail _ (.tail _ (.head _))))))
    rcases List.mem_cons.mp hp with rfl | hp
    · exact .head _
    rcases List.mem_cons.mp hp with rfl | hp
    · exact .tail _ (.head _)
    · exact .tail _ (.tail _ (.tail _ (.tail _ (.tail _ (.tail _ (.tail _ hp))))))
  · exact List.forall_mem_cons.mpr ⟨hI.1, List.forall_mem_cons.mpr ⟨hI.2.1, List.forall_mem_cons.mpr ⟨hI.2.2.1, List.forall_mem_cons.mpr ⟨hI.2.2.2, List.forall_mem_cons.mpr ⟨hT.1, List.forall_mem_cons.mpr ⟨hD.1, hoI⟩⟩⟩⟩⟩⟩
  · exact List.forall_mem_cons.mpr ⟨hT.2, List.forall_mem_cons.mpr ⟨hD.2, hoff⟩⟩
  · rw [← List.append_assoc]
    exact ((hN.kp k1).app (hN2.kp k1)).snoc ⟨Tt, [_, _], rfl, ⟨_, hnew _ (.head _), rfl, _, rfl⟩, .cons _ _ (.cons _ _ .nil), rfl⟩
end
end Mine
end
section
namespace Mine
section
variable {w : World} {d u : Nat} {gd : Option (List Code)} {base : Heap} {outer : List Env} {s : Shared} {p : Program} {loose : List Str} {mean : ExcName → Option Value} {mg mb : Str → Option Value}
local macro_rules | `(tactic| k_inst) => `(tactic| exact inst_base (by k_asm) (by assumption) (by assumption))
local macro_rules | `(tactic| k_room) => `(tactic| ((try simp only [depth_under_make, depth_under_kw, depth_in1, depth_deeper, depth_caller, depth_mk, Around.in1_depth, rl_is]); omega))
local macro_rules | `(tactic| k_units) => `(tactic| ((try simp only [Around.in1_units, Around.deeper_units, Around.mark_units, units_mk, cl_is]); omega))
local macro_rules | `(tactic| walk_at "truthy str") => `(tactic| (k_here; (with_reducible refine truthy_ch ?_); intro _))
local macro_rules | `(tactic| walk_at "call builtin:str.join") => `(tactic| (k_here; (refine join_one (by is_list) ?_); intro _ _))
local macro_rules | `(tactic| walk_at "MINE enter") => `(tactic| (refine' enter ?mX ?mT ?k6 ?k7 ?k8 ?k9 ?kB ?_ ?c2 ?c3 ?c4 ?c5; (case mX => assumption); (case mT => assumption); (case k6 => k_is); (case k7 => k_is); (case k8 => k_room); (case k9 => first | exact BindsTo.of_eq rfl | exact binds_K (by assumption) rfl (by k_is) rfl rfl rfl); (case c5 => decide); (case kB => exact locs rfl); (case c2 => exact rfl); (case c3 => exact rfl); (case c4 => exact rfl); intro L' h' F' N'; (try dsimp only)))
local macro_rules | `(tactic| walk_at "BRest") => `(tactic| (with_unfolding_all first | (refine BRest.succ (fun I' it' h' tk' hit' off' F' N' => ?_)) | (refine BRest.zero (fun h' tk' F' N' => ?_))))
local macro_rules | `(tactic| walk_at "MINE obj") => `(tactic| first | assumption | exact Fr.keep (by assumption) _ _ (by assumption) | exact News.get (by assumption) (by k_mem))
local macro_rules | `(tactic| walk_at "MINE lst") => `(tactic| first | assumption | exact Heap.IsList.at (by assumption) (fun o e => Fr.keep (by assumption) _ o e) | is_list)
local macro_rules | `(tactic| walk_at "MINE X") => `(tactic| first | assumption | exact Frag.In.keeps (by assumption) (Fr.keep (by assumption)))
local macro_rules | `(tactic| walk_at "MINE T") => `(tactic| first | assumption | exact Top.keeps (by assumption) (Fr.keep (by assumption)))
local macro_rules | `(tactic| walk_at "MINE B") => `(tactic| first | assumption | exact Below.push (by assumption) (by assumption))
local macro_rules | `(tactic| k_enter) => `(tactic| (refine' code_def0 ?k2 ?k3 ?k4 ?k5 ?k6 ?k7 ?k8 ?k9 ?kB ?_ ?c2 ?c3 ?c4 ?c5; (case k2 => k_asm); (case k3 => k_asm); (case k4 => k_asm); (case k5 => k_asm); (case k6 => k_is); (case k7 => k_is); (case k8 => k_room); (case k9 => first | exact BindsTo.of_eq rfl | exact binds_K (by k_in) rfl (by k_is) rfl rfl rfl | fail "k_enter: no rule for these arguments"); (case c5 => decide); (case kB => exact locs rfl); (case c2 => exact rfl); (case c3 => exact rfl); (case c4 => exact rfl); k_whole; intro g' L' h' FG' F' N' X' T'; (try dsimp only); (try k_fold)))
local macro_rules | `(tactic| walk_at "subscriptTail") => `(tactic| (k_here; (with_reducible show wpAny _ _ (subscriptTail _ _ (Value.ref _) (Value.str _ _)) _ _ _); k_dflt (refine tab_item (by k_asm) (by assumption) (by assumption) ?_)))
local macro_rules | `(tactic| walk_at "subscriptTail") => `(tactic| (k_here; (with_reducible show wpAny _ _ (subscriptTail _ _ (Value.ref _) (Value.int _ _)) _ _ _); k_dflt (refine stk_last (by is_list) (by assumption) ?_)))
local macro_rules | `(tactic| k_all) => `(tactic| first | assumption | exact ne_of_allL (by assumption) | exact ne_of_allLt (by assumption) | exact ne_of_allLt (And.right (by assumption)) | exact ne_of_allLt (And.right (And.right (by assumption))) | exact ne_of_allLt (And.right (And.right (And.right (by assumption)))))
local macro_rules | `(tactic| k_enter) => `(tactic| (kp_kind "rest"; (refine' code_rest0 ?k2 ?k3 ?k4 ?k5 ?k6 ?k7 ?k8 ?kV ?kP ?kG ?kB ?_ ?c2 ?c3 ?c4 ?c5; (case k2 => k_asm); (case k3 => k_asm); (case k4 => k_asm); (case k5 => k_asm); (case k6 => k_is); (case k7 => k_is); (case k8 => k_room); (case kV => exact rfl); (case kP => exact rfl); (case kG => exact fun _ => rfl); (case kB => exact fun _ => locs rfl); (case c5 => decide); (case c2 => exact rfl); (case c3 => exact rfl); (case c4 => exact rfl); k_whole; intro D' g' L' h' l1 FG' F' N' X' T'; (try k_lt l1); (try dsimp only); (try k_fold))))
local macro_rules | `(tactic| k_enter) => `(tactic| (kp_kind "more"; (refine' code_more0 ?k2 ?k3 ?k4 ?k5 ?k6 ?k7 ?k8 ?kP ?kK ?kB ?_ ?c2 ?c3 ?c4 ?c5; (case k2 => k_asm); (case k3 => k_asm); (case k4 => k_asm); (case k5 => k_asm); (case k6 => k_is); (case k7 => k_is); (case k8 => k_room); (case kP => exact rfl); (case kK => exact fun _ => rfl); (case kB => exact fun _ => locs rfl); (case c5 => decide); (case c2 => exact rfl); (case c3 => exact rfl); (case c4 => exact rfl); k_whole; intro D' o' g' L' h' tk' l1 lo' hd' fs' FG' F' N' X' T'; (try k_lt l1); (try dsimp only); (try k_fold))))
local macro_rules | `(tactic| k_enter) => `(tactic| (kp_kind "both"; (refine' code_both0 ?k2 ?k3 ?k4 ?k5 ?k6 ?k7 ?k8 ?kV ?kP ?kQ ?kK ?kB ?_ ?c2 ?c3 ?c4 ?c5; (case k2 => k_asm); (case k3 => k_asm); (case k4 => k_asm); (case k5 => k_asm); (case k6 => k_is); (case k7 => k_is); (case k8 => k_room); (case kV => exact rfl); (case kP => exact rfl); (case kQ => exact fun _ => rfl); (case kK => exact fun _ _ => rfl); (case kB => exact fun _ _ => locs rfl); (case c5 => decide); (case c2 => exact rfl); (case c3 => exact rfl); (case c4 => exact rfl); k_whole; intro C' D' g' L' h' tk' l1 l2 l3 FG' F' N' X' T'; (try k_lt l1); (try k_lt l3); (try dsimp only); (try k_fold))))
local macro_rules | `(tactic| walk_at "subscriptTail Name UnaryOp ref int") => `(tactic| (k_here; (with_reducible show wpAny _ _ (subscriptTail _ _ (Value.ref _) (Value.int _ _)) _ _ _); k_dflt (refine stk_last (by is_list) (by assumption) ?_)))
local macro_rules | `(tactic| walk_at "truthy ref") => `(tactic| (k_here; (with_reducible show wpAny _ _ (truthy (Value.ref _)) _ _ _); k_dflt (first | refine truthy_tup (b := false) (by assumption) (by assumption) (by first | exact Nat.le_of_ble_eq_true rfl | omega) rfl ?_ | refine truthy_tup (b := true) (by assumption) (by assumption) (by first | exact Nat.le_of_ble_eq_true rfl | omega) rfl ?_); intro _))
local macro_rules | `(tactic| walk_at "truthy str") => `(tactic| (k_here; (with_reducible show wpAny _ _ (truthy (Value.str _ _)) _ _ _); k_dflt (refine KXt.truthy_pos (K := 1000) (by omega) (by omega) (by omega) ?_); intro _))
local macro_rules | `(tactic| walk_at "StarOf ref") => `(tactic| (k_here; k_dflt (refine star_tup (by assumption) (by assumption) (by assumption) (by first | exact Nat.le_of_ble_eq_true rfl | omega) ?_); intro h' F' N'; (try dsimp only [List.nil_append, List.cons_append]); (try k_sweep)))
local macro_rules | `(tactic| walk_at "callWith ref") => `(tactic| (k_here; (with_reducible show wpAny _ _ (callWith _ (Value.ref _) _ (backTo _ (starEach (Expr.Starred _ _ :: _ :: _) _)) []) _ _ _); k_dflt (refine' callWith_S3 ?k1 ?k2 ?_; (case k1 => k_asm); (case k2 => k_is); k_whole)))
local macro_rules | `(tactic| walk_at "call type:str") => `(tactic| (k_here; (with_reducible show wpAny _ _ (call (Value.type "str") [Value.int _ _]) _ _ _); k_dflt (refine str_int9 (by omega) (by omega) ?_); intro _ _))
local macro_rules | `(tactic| walk_at "MINE enterC") => `(tactic| (refine' enterC ?mX ?mT ?k6 ?k7 ?k8 ?k9 ?kB ?kD ?_ ?c2 ?c3 ?c4; (case mX => assumption); (case mT => assumption); (case k6 => k_is); (case k7 => k_is); (case k8 => k_room); (case k9 => first | exact BindsTo.of_eq rfl | exact binds_K (by assumption) rfl (by k_is) rfl rfl rfl); (case kB => exact rfl); (case kD => decide +kernel); (case c2 => exact rfl); (case c3 => exact rfl); (case c4 => exact rfl); intro L' h' tk' cells' F' N' Y'; k_cells Y'; (try simp only [List.cons_append, List.nil_append] at N'); (try dsimp only)))
local macro_rules | `(tactic| walk_at "compareOp In str ref") => `(tactic| (k_here; (with_reducible show wpAny _ _ (compareOp _ (Value.str _ _) (Value.ref _)) _ _ _); k_dflt (refine in_map (by assumption) (by assumption) (by assumption) (by assumption) ?_); intro _))
local macro_rules | `(tactic| walk_at "call builtin:isinstance") => `(tactic| (k_here; (with_reducible show wpAny _ _ (call _ [Value.ref _, Value.type _]) _ _ _); k_dflt (refine' kia_one kitx_tuple ?X ?c ?ee ?nb ?_; (case c => exact kitAt_B (by assumption) (by assumption)); (case X => walk_at "MINE X"); (case ee => kit_is); (case nb => kit_nb); k_whole; intro _)))
local macro_rules | `(tactic| walk_at "call builtin:isinstance") => `(tactic| (k_here; (with_reducible show wpAny _ _ (call _ [Value.ref _, Value.ref _]) _ _ _); k_dflt (refine' kia_one kitx_tuple ?X ?c ?ee ?nb ?_; (case c => exact kitAt_B (by assumption) (by assumption)); (case X => walk_at "MINE X"); (case ee => kit_is); (case nb => kit_nb); k_whole; intro _)))
local macro_rules | `(tactic| walk_at "call type:type") => `(tactic| (k_here; (with_reducible show wpAny _ _ (call (Value.type "type") [Value.ref _]) _ _ _); k_dflt (refine kto_cont (T := "tuple") (kitAt_B (by assumption) (by assumption)) (by decide +kernel) ?_)))
local macro_rules | `(tactic| walk_at "call ref") => `(tactic| (k_here; (with_reducible show wpAny _ _ (call (Value.ref 655) _) _ _ _); refine park ?_))
local macro_rules | `(tactic| walk_at "call builtin:list.append") => `(tactic| (k_here; (with_reducible show wpAny _ _ (call _ [Value.ref _, _]) _ _ _); refine park ?_))
local macro_rules | `(tactic| walk_at "call builtin:list.extend") => `(tactic| (k_here; (with_reducible show wpAny _ _ (call _ [Value.ref _, _]) _ _ _); refine park ?_))
theorem t_lturn {h₀ gv : Heap} {L fa I wl l c1 c2 : Addr} {cd : Value} {it lo co tb : Obj} {env : Env} {m : Str → Option Value} {line : Str} {tl : Tok} {its : List Value} {nss : List (List Str)} {ne : Nat} {rest : List (Addr × Obj)} {P : Flow → Shared → Prop}
  (henv : env = lawEnv L fa cd)
  (X : (Mine.hd2.heap_39 w.params).In h₀) (T : Top p loose mean mg mb h₀)
  (F : Fr h₀ L s.heap m) (m1 : m (Str.ofString "wanted") = some (.ref wl)) (m2 : m (Str.ofString "line") = some (.str line tl))
  (N : News h₀ L s.heap ((I, it) :: (l, lo) :: (wl, lstN its ne) :: (c1, co) :: (c2, tb) :: rest)) (hI : l ≠ I ∧ wl ≠ I ∧ c1 ≠ I ∧ c2 ≠ I) (hoI : ∀ p ∈ rest, p.1 ≠ I)
  (hmu : wl ≠ l ∧ wl ≠ c1 ∧ wl ≠ c2) (hoff : ∀ p ∈ rest, p.1 ≠ wl ∧ p.1 ≠ l ∧ p.1 ≠ c1 ∧ p.1 ≠ c2) (hb : BearsG E0 rest gv) (hN : NamesAre gv its nss) (hnl : nss.length ≤ 1000)
  (hlc : ∀ c ∈ line.cps.toList, 97 ≤ c ∧ c ≤ 100) (hlen : line.length ≤ 100)
  (hP : ∀ s', UnrEnd h₀ L s I it (fun m' all => ∃ news', all = (l, lo) :: news' ∧ LineJ wl l c1 c2 co tb (nss ++ (fam Fam.init line.cps.toList ++ [wsNames])) m' news') s' → P .next s') :
  wpAny (model PG w) (callerA.deeper env) (execs (nthFor lawBody 2) env) P (fun _ _ => False) s := by
  have henv' : env = envOfC _ _ L fa cd := henv
  with_unfolding_all (show wpAny _ _ (execs (_ :: _) _) _ _ _)
  clear henv
  subst henv'
  replace F := Fr.re (m' := fun y => if y = Str.ofString "line" then some (.str line tl) else if y = Str.ofString "wanted" then some (.ref wl) else m y) F (by
    intro y
    split
    · rename_i e; rw [e, m2]
    split
    · rename_i e; rw [e, m1]
    rfl)
  clear m1 m2
  k_steps
  refine unpark ?_
  rename Fr _ _ _ _ => F9
  rename News _ _ _ _ => N9
  refine wpAny_call ?_
  refine t_family (by walk_at "MINE X") (by walk_at "MINE T") (by k_room) (by k_units) hlc hlen ?_
  intro h' k D its2 n2 g' hk hD hkg hf hN2
  obtain ⟨rest', gv', F5, N5, oD, oR, hb5, kk1, kk2⟩ := join_fresh (mu := [_, _, _, _, _]) F9 N9 (fun p hp => List.forall_mem_cons.mpr ⟨hoI p hp, List.forall_mem_cons.mpr ⟨(hoff p hp).2.1, List.forall_mem_cons.mpr ⟨(hoff p hp).1, List.forall_mem_cons.mpr ⟨(hoff p hp).2.2.1, List.forall_mem_cons.mpr ⟨(hoff p hp).2.2.2, fun _ h => (List.not_mem_nil h).elim⟩⟩⟩⟩⟩) hk hD hkg hf hb
  clear N9 F9
  have hD5 : D ≠ I ∧ D ≠ wl ∧ D ≠ l ∧ D ≠ c1 ∧ D ≠ c2 := ⟨(oD _ (.head _)).symm, (oD _ (.tail _ (.tail _ (.head _)))).symm, (oD _ (.tail _ (.head _))).symm, (oD _ (.tail _ (.tail _ (.tail _ (.head _))))).symm, (oD _ (.tail _ (.tail _ (.tail _ (.tail _ (.head _)))))).symm⟩
  have oR' : ∀ p ∈ rest', (p.1 ≠ wl ∧ p.1 ≠ l ∧ p.1 ≠ c1 ∧ p.1 ≠ c2) ∧ p.1 ≠ I ∧ p.1 ≠ D := fun p hp => ⟨⟨oR p hp _ (.tail _ (.tail _ (.head _))), oR p hp _ (.tail _ (.head _)), oR p hp _ (.tail _ (.tail _ (.tail _ (.head _)))), oR p hp _ (.tail _ (.tail _ (.tail _ (.tail _ (.head _)))))⟩, oR p hp _ (.head _), oD p (List.mem_append_right _ hp)⟩
  clear oD oR
  dsimp only
  k_sweep
  k_steps
  refine unpark ?_
  refine extend_M (pre := [_, _, _]) F5 N5 ?e1 ?e2 (.head _) ?e3 ?e4 ?_
  case e1 => exact List.forall_mem_cons.mpr ⟨hD5.2.1, List.forall_mem_cons.mpr ⟨hI.2.1.symm, List.forall_mem_cons.mpr ⟨hmu.1.symm, fun _ h => (List.not_mem_nil h).elim⟩⟩⟩
  case e2 => exact List.forall_mem_cons.mpr ⟨hmu.2.1.symm, List.forall_mem_cons.mpr ⟨hmu.2.2.symm, fun p hp => (oR' p hp).1.1⟩⟩
  case e3 => rw [hN.len]; omega
  case e4 =>
    have hll : line.cps.toList.length = line.length := by simp [Str.length]
    rw [hN2.len, fam_len, hll]; omega
  intro h6 n6 F6 N6
  k_sweep
  k_steps
  refine unpark ?_
  rename Fr _ _ _ _ => FB
  rename News _ _ _ _ => NB
  rename ∀ (_ : Addr × Obj), _ → _ < _ => hlT
  refine append_S (pre := [_, _, _, _]) FB NB ?f1 ?f2 ?f3 ?_
  case f1 => exact List.forall_mem_cons.mpr ⟨(Nat.ne_of_lt (hlT (wl, _) (.tail _ (.tail _ (.tail _ (.head _)))))).symm, List.forall_mem_cons.mpr ⟨hD5.2.1, List.forall_mem_cons.mpr ⟨hI.2.1.symm, List.forall_mem_cons.mpr ⟨hmu.1.symm, fun _ h => (List.not_mem_nil h).elim⟩⟩⟩⟩
  case f2 => exact List.forall_mem_cons.mpr ⟨hmu.2.1.symm, List.forall_mem_cons.mpr ⟨hmu.2.2.symm, fun p hp => (oR' p hp).1.1⟩⟩
  case f3 =>
    have hll : line.cps.toList.length = line.length := by simp [Str.length]
    rw [List.length_append, hN.len, hN2.len, fam_len, hll]; omega
  intro h7 F7 N7
  k_sweep
  k_steps
  refine hP _ (line_fin (s := s) F7 N7 ⟨?g1, ?g2, ?g3, ?g4, ?g5⟩ hD5 hI (fun p hp => (oR' p hp).2.1) (fun p hp => (oR' p hp).1) hb5 (hN.kp kk1) (hN2.kp kk2) rfl)
  case g1 => exact (Nat.ne_of_lt (hlT (I, it) (.tail _ (.head _)))).symm
  case g2 => exact (Nat.ne_of_lt (hlT (wl, _) (.tail _ (.tail _ (.tail _ (.head _)))))).symm
  case g3 => exact (Nat.ne_of_lt (hlT (l, lo) (.tail _ (.tail _ (.head _))))).symm
  case g4 => exact (Nat.ne_of_lt (hlT (c1, co) (.tail _ (.tail _ (.tail _ (.tail _ (.head _))))))).symm
  case g5 => exact (Nat.ne_of_lt (hlT (c2, tb) (.tail _ (.tail _ (.tail _ (.tail _ (.tail _ (.head _)))))))).symm
end
end Mine
end
section
open PySem PySem.W PyProof.Rows PySem.Calls PyProof.Rows.LCg
set_option Elab.async false
set_option maxRecDepth 100000
set_option maxHeartbeats 8000000
namespace Mine
theorem OwnS.uniq {Lg : Addr} {h : Heap} {S S' : Option Addr} (x : OwnS Lg h S) (y : OwnS Lg h S') : S = S' := by
  obtain ⟨m, hm, a⟩ := x
  obtain ⟨m', hm', b⟩ := y
  obtain ⟨o, es, ep, ho, hd, hk, hf⟩ := hm
  obtain ⟨o', es', ep', ho', hd', hk', hf'⟩ := hm'
  rw [ho] at ho'
  cases ho'
  rw [hd] at hd'
  cases hd'
  have e : m (Str.ofString "statestack") = m' (Str.ofString "statestack") := by rw [← hf, ← hf']
  cases S with
  | none =>
    cases S' with
    | none => rfl
    | some z => dsimp only at a b; rw [e, b] at a; cases a
  | some z =>
    cases S' with
    | none => dsimp only at a b; rw [e, b] at a; cases a
    | some z' => dsimp only at a b; rw [e, b] at a; cases a; rfl
theorem OwnS.has {Lg : Addr} {h : Heap} {S : Option Addr} (x : OwnS Lg h S) : ∃ o, h.get? Lg = some o := let ⟨_, ⟨o, _, _, ho, _⟩, _⟩ := x; ⟨o, ho⟩
theorem OwnS.keep {Lg : Addr} {h h' : Heap} {S : Option Addr} (x : OwnS Lg h S) (k : ∀ o, h.get? Lg = some o → h'.get? Lg = some o) : OwnS Lg h' S := let ⟨m, hm, a⟩ := x; ⟨m, hm.at' k, a⟩
theorem gen_ne {Lg ga : Addr} {g : Nat} {h : Heap} {S : Option Addr} (x : OwnS Lg h S) (y : h.IsGen ga g) : ga ≠ Lg := by
  rintro rfl
  obtain ⟨m, ⟨o, es, ep, ho, hd, _⟩, _⟩ := x
  obtain ⟨o', nm, qn, ho', _, hd', _⟩ := y
  rw [ho] at ho'
  cases ho'
  rw [hd] at hd'
  cases hd'
/-- what the comprehension makes of a token -/
def OutAt (hB g : Heap) (v : Value) (tok : LTok) : Prop :=
  ∃ t a vs tk tk2, v = .ref t ∧ IsTup g t #[.int (tok.pos : Int) tk, .ref a, .str ⟨#[tok.val]⟩ tk2] ∧ IsTup hB a vs.toArray ∧ StrsAre vs tok.names
inductive OutsAre (hB g : Heap) : List Value → List LTok → Prop
  | nil : OutsAre hB g [] []
  | cons {v k vs ks} : OutAt hB g v k → OutsAre hB g vs ks → OutsAre hB g (v :: vs) (k :: ks)
theorem OutAt.kp {hB g g' : Heap} {v : Value} {k : LTok} (kk : Keeps g g') (x : OutAt hB g v k) : OutAt hB g' v k := let ⟨t, a, vs, tk, tk2, e, ht, r⟩ := x; ⟨t, a, vs, tk, tk2, e, IsTup.kp kk ht, r⟩
theorem OutsAre.kp {hB g g' : Heap} {vs : List Value} {ks : List LTok} (kk : Keeps g g') (x : OutsAre hB g vs ks) : OutsAre hB g' vs ks := by
  induction x with
  | nil => exact .nil
  | cons a _ ih => exact .cons (a.kp kk) ih
theorem OutsAre.snoc {hB g : Heap} {vs : List Value} {ks : List LTok} {v : Value} {k : LTok} (x : OutsAre hB g vs ks) (y : OutAt hB g v k) : OutsAre hB g (vs ++ [v]) (ks ++ [k]) := by
  induction x with
  | nil => exact .cons y .nil
  | cons a _ ih => exact .cons a ih
theorem OutsAre.len {hB g : Heap} {vs : List Value} {ks : List LTok} (x : OutsAre hB g vs ks) : vs.length = ks.length := by
  induction x with
  | nil => rfl
  | cons a _ ih => simp [ih]
section
variable {prog : Program} {w : World} {A : Around} {E : Value → Shared → Prop} {s : Shared}
theorem letOwned_gen {elts : List Expr} {x1} {pos : Pos} {ga t : Addr} {g : Nat} {Q : Unit → Shared → Prop} (hg : s.heap.IsGen ga g) (hQ : Q () s) : wpAny (model prog w) A (letOwnedTupleGo (.Tuple elts x1 pos) (.ref ga) (.ref t)) Q E s := by
  obtain ⟨o, nm, qn, ho, hc, hd, hs⟩ := hg
  unfold letOwnedTupleGo
  dsimp only
  refine wpAny_bind (wpAny_load ho ?_)
  rw [hc, hd]
  dsimp only
  first
  | exact wpAny_pure hQ
  | (rw [if_neg (by simp)]; exact wpAny_pure hQ)
  | (simp; exact wpAny_pure hQ)
theorem GenComp_set {s : Shared} {g : Nat} {x : GenState} (h : ∃ gs, s.gens[g]? = some gs) : (s.setGen g x).gens[g]? = some x := let ⟨_, e⟩ := h; setGen_self e
theorem comp_gen {elt iter : Expr} {x1 x2 x3 : Str} {p1 p2 p3 tp : Pos} {tkk : Nat} {scope : Scope} {cl : List (Str × Addr)} {pos : Pos} {env : Env} {hB : Heap} {ga Lg CT : Addr} {g : Nat} {c : Code} {all : List LTok} {RR : Value → Addr → Result → Shared → Prop}
    (hh : A.handled = none) (hl : hB.NoLimit) (hroom : A.depth < recursionLimit)
    (hcell : ∀ y ∈ scope.names, y.2 ≠ .cell) (hkind : scope.kind = .function) (hx1 : scope.names.lookup x1 = some .local) (hx2 : scope.names.lookup x2 = some .local) (hx3 : scope.names.lookup x3 = some .local) (hne : x1 ≠ x2 ∧ x1 ≠ x3 ∧ x2 ≠ x3)
    (kB : Keeps hB s.heap) (hsz : hB.objs.size ≤ s.heap.objs.size) (hLB : hB.get? Lg = none) (hg : s.heap.IsGen ga g) (hgs : s.gens[g]? = some (.fresh c)) (own : OwnS Lg s.heap none) (hall : all.length ≤ 10000)
    (hseg : ∀ sx : Shared, (∀ o, s.heap.get? Lg = some o → sx.heap.get? Lg = some o) → Keeps hB sx.heap → Seg (model prog w) A.in1 (genR Lg) (genY CT hB Lg all) all.length sx c ((model prog w).den c) [] sx)
    (helt : ∀ (s' : Shared) (C : Addr) (m₂ : Str → Option Value) (tok : LTok) (k : Addr) (t1 t3 : Tok), s'.heap.Ns C m₂ → hB.objs.size ≤ C → Keeps hB s'.heap → m₂ x1 = some (.int (tok.pos : Int) t1) → m₂ x2 = some (.ref k) → m₂ x3 = some (.str ⟨#[tok.val]⟩ t3) → KindAt CT hB k tok.names → ∀ (Q : Value → Shared → Prop) (E' : Value → Shared → Prop),
      (∀ h' tk T a vs n u1 u2, (∀ b o, b ≠ C → s'.heap.get? b = some o → h'.get? b = some o) → h'.Ns C m₂ → (h'.get? T = some { cls := .type "tuple", data := .seq #[.int (tok.pos : Int) u1, .ref a, .str ⟨#[tok.val]⟩ u2] n } ∧ s'.heap.get? T = none) → IsTup hB a vs.toArray → StrsAre vs tok.names → Q (.ref T) { s' with heap := h', toks := tk }) →
      wpAny (model prog w) A (eval elt (compEnvC scope cl C env)) Q E' s')
    (hRR : ∀ (s' : Shared) D C m' its n g', Keeps hB s'.heap → s'.heap.get? D = some (lstN its n) → hB.get? D = none → s'.heap.Ns C m' → hB.get? C = none → C ≠ D → Keeps g' s'.heap → (∀ b o, g'.get? b = some o → hB.get? b = none ∧ b ≠ D ∧ b ≠ C) → OutsAre hB g' its all → s'.os = s.os → s'.gens.size = s.gens.size → s'.gens[g]? = some .finished → RR (.ref D) C (.ok .next) s') :
    wpAny (model prog w) A (newList []) (fun acc s₃ => wpAny (model prog w) A (newFunctionEnv scope env.globals cl [] env.qual none .none (some env)) (fun cenv s₄ =>
      codeAny (model prog w) A (.compStart (.ListComp elt [⟨.Tuple [.Name x1 p1, .Name x2 p2, .Name x3 p3] tkk tp, iter, [], 0⟩] scope pos) 0 (.ref ga) acc { cenv with scope := relabel scope env }) (RR acc cenv.locals) s₄) E s₃) E s := by
  have hgaL : ga ≠ Lg := gen_ne own hg
  obtain ⟨oLg, hoLg⟩ := own.has
  refine wpAny_newObj_type (wpAny_newFunctionEnv hcell (by intro y hy; simp at hy) (fun h₁ hns₁ hsb₁ => ?_) hkind)
  dsimp only at hns₁ hsb₁ ⊢
  generalize hH2 : s.heap.push { cls := .type "list", dict := none, data := .seq ([] : List Value).toArray } = H2 at hns₁ hsb₁ ⊢
  generalize hDd : s.heap.objs.size = D at *
  generalize hCd : H2.objs.size = C at *
  have hC : C = D + 1 := by rw [← hCd, ← hH2, Heap.size_push, hDd]
  have hCD : C ≠ D := by rw [hC]; exact Nat.succ_ne_self D
  have below : ∀ b o, s.heap.get? b = some o → b ≠ C ∧ b ≠ D := fun b o e => by
    have := Heap.lt_size e
    rw [hDd] at this
    exact ⟨by rw [hC]; exact Nat.ne_of_lt (Nat.lt_succ_of_lt this), Nat.ne_of_lt this⟩
  have old : ∀ b o, s.heap.get? b = some o → h₁.get? b = some o := fun b o e => hsb₁.extBut b o (below b o e).1 (Heap.get?_push_of_some _ (by rw [← hH2]; exact Heap.get?_push_of_some _ e))
  have hacc : h₁.get? D = some (lst []) := hsb₁.extBut _ _ hCD.symm (Heap.get?_push_of_some _ (by rw [← hH2, ← hDd]; exact Heap.get?_push_size _ rfl))
  have fresh : ∀ a, D ≤ a → s.heap.get? a = none := fun a ha => by
    cases e : s.heap.get? a with
    | none => rfl
    | some o' => have := Heap.lt_size e; rw [hDd] at this; exact absurd this (Nat.not_lt.mpr ha)
  have hDs : s.heap.get? D = none := fresh D (Nat.le_refl _)
  have hCs : s.heap.get? C = none := fresh C (by rw [hC]; exact Nat.le_succ _)
  have hBn : ∀ a, s.heap.get? a = none → hB.get? a = none := fun a e => none_of kB e
  have hLC : Lg ≠ C := (below _ _ hoLg).1
  have hLD : Lg ≠ D := (below _ _ hoLg).2
  have hBC : hB.objs.size ≤ C := by rw [hC]; exact Nat.le_succ_of_le hsz
  have loop : ∀ s₃ : Shared, s₃ = { s with heap := h₁, toks := s.toks + ([] : List (Str × Value)).length } →
      codeAny (model prog w) A (.compLoop (.ListComp elt [⟨.Tuple [.Name x1 p1, .Name x2 p2, .Name x3 p3] tkk tp, iter, [], 0⟩] scope pos) 0 (.ref ga) (.ref D) (compEnvC scope cl C env)) (RR (.ref D) C) s₃ := by
    rintro s₃ rfl
    refine LCp.codeAny_compLoop_pair
      (fun n s' => ∃ i ys m' gs S₀ g', i ≤ all.length ∧ n = all.length + 1 - i ∧ ys.length = i ∧ (∀ b o, b ≠ Lg → s.heap.get? b = some o → s'.heap.get? b = some o) ∧ s'.heap.Ns C m' ∧ s'.heap.get? D = some (lst ys) ∧ s'.gens[g]? = some gs ∧
        (∀ s'' : Shared, s''.heap = s'.heap → gs.Goes (model prog w) A.in1 (genR Lg) (genY CT hB Lg all) (all.length - i) (.send .none) s'') ∧ OwnS Lg s'.heap S₀ ∧ (∀ S, S₀ = some S → s.heap.get? S = none ∧ S ≠ C ∧ S ≠ D ∧ g'.get? S = none) ∧ Keeps g' s'.heap ∧
        (∀ b o, g'.get? b = some o → s.heap.get? b = none ∧ b ≠ D ∧ b ≠ C) ∧ OutsAre hB g' ys (all.take i) ∧ s'.os = s.os ∧ s'.gens.size = s.gens.size) ?_ (all.length + 1)
      ⟨0, [], _, .fresh c, none, E0, Nat.zero_le _, rfl, rfl, fun b o _ e => old b o e, hns₁, hacc, hgs, fun s'' e => ⟨rfl, ?_⟩, own.keep (old _), fun S e => (nomatch e), E0_keeps _, fun b o e => (by rw [E0_none] at e; cases e), .nil, rfl, rfl⟩
    rotate_left
    · exact hseg s'' (fun o e' => by rw [e]; exact old _ o e') (fun b o e' => by rw [e]; exact old _ _ (kB _ _ e'))
    rintro n s' ⟨i, ys, m', gs, S₀, g', hi, rfl, hyl, KL, hns, hD, hG, hgo, hown, hS, kg, hgf, hout, hos, hgsz⟩
    have kB' : Keeps hB s'.heap := fun b o e => KL b o (fun z => by rw [z, hLB] at e; cases e) (kB _ _ e)
    have hga' : s'.heap.IsGen ga g := let ⟨o, nm, qn, ho, r⟩ := hg; ⟨o, nm, qn, KL _ _ hgaL ho, r⟩
    refine wpAny_pyNext_gen (P := genP Lg) (Y := genY CT hB Lg all) (n := all.length - i) hh (hl.keeps kB') hroom hga' hG (hgo _ rfl) (fun v s₁ gs' hY => ?_) (fun s₁ hP h' hk => ?_)
    · obtain ⟨tok, S₀', S, hidx, hle, hown0, hown1, hSS, hsince, htok, ⟨⟨hg1, hos1⟩, oS, hoS⟩, hkap⟩ := hY
      have e0 : S₀' = S₀ := hown0.uniq hown
      subst e0
      replace hsince : ∀ b o, b ≠ Lg → some b ≠ S₀' → s'.heap.get? b = some o → s₁.heap.get? b = some o := hsince
      have nS : ∀ b, (∃ o, s.heap.get? b = some o) ∨ b = C ∨ b = D ∨ (∃ o, g'.get? b = some o) → some b ≠ S₀' := by
        intro b hb e
        obtain ⟨a1, a2, a3, a4⟩ := hS b e.symm
        rcases hb with ⟨o, hb⟩ | hb | hb | ⟨o, hb⟩
        · rw [a1] at hb; cases hb
        · exact a2 hb
        · exact a3 hb
        · rw [a4] at hb; cases hb
      have KL1 : ∀ b o, b ≠ Lg → s.heap.get? b = some o → s₁.heap.get? b = some o := fun b o h1 e => hsince b o h1 (nS _ (.inl ⟨o, e⟩)) (KL b o h1 e)
      have hz : all.length - i ≠ 0 := by
        intro hz
        rw [hz] at hkap
        exact hkap s₁ (fun _ e => e) (fun _ e => e) (fun b o e => KL1 b o (fun z => by rw [z, hLB] at e; cases e) (kB _ _ e)) (fun _ _ _ e => e)
      obtain ⟨j, hj⟩ : ∃ j, all.length - i = j + 1 := ⟨all.length - i - 1, by omega⟩
      rw [hj] at hidx hkap hle
      have hi1 : i + 1 ≤ all.length := by omega
      have hidx : all[i]? = some tok := by rw [← hidx]; congr 1; omega
      have hLg' : ∀ b o, g'.get? b = some o → b ≠ Lg := fun b o e z => by
        have := (hgf b o e).1; rw [z, hoLg] at this; cases this
      have D1 : s₁.heap.get? D = some (lst ys) := hsince D _ hLD.symm (nS _ (.inr (.inr (.inl rfl)))) hD
      have N1 : s₁.heap.Ns C m' := hns.at' fun o e => hsince C o hLC.symm (nS _ (.inr (.inl rfl))) e
      have kg1 : Keeps g' s₁.heap := fun b o e => hsince b o (hLg' b o e) (nS _ (.inr (.inr (.inr ⟨o, e⟩)))) (kg b o e)
      have hSC : S ≠ C ∧ S ≠ D ∧ s.heap.get? S = none ∧ g'.get? S = none := by
        rcases hSS with e | e
        · have := hS S e; exact ⟨this.2.1, this.2.2.1, this.1, this.2.2.2⟩
        · have e : s'.heap.get? S = none := e
          refine ⟨fun z => ?_, fun z => ?_, ?_, none_of kg e⟩
          · obtain ⟨o, _, _, ho, _⟩ := hns; rw [← z, e] at ho; cases ho
          · rw [← z, e] at hD; cases hD
          · cases q : s.heap.get? S with
            | none => rfl
            | some o =>
              by_cases z : S = Lg
              · obtain ⟨oL, hoL⟩ := hown.has
                rw [← z, e] at hoL; cases hoL
              · rw [KL S o z q] at e; cases e
      obtain ⟨t, kx, tk1, tk2, rfl, htup, hkd⟩ := htok
      have hga1 : s₁.heap.IsGen ga g := let ⟨o, nm, qn, ho, r⟩ := hg; ⟨o, nm, qn, KL1 _ _ hgaL ho, r⟩
      refine letOwned_gen (s := s₁.setGen g gs') hga1 ?_
      refine assign_Tuple_tuple hh htup rfl rfl fun h₅ he => ?_
      have he' : ∀ b o, s₁.heap.get? b = some o → h₅.get? b = some o := fun b o e => he b o (Nat.ne_of_lt (Heap.lt_size e)) e
      refine assignInOrder_cons (wpAny_assign_Name (wpAny_storeName_local (lookup_relabel_local hx1) (N1.at' fun o e => he' _ o e) (fun h₆ hn₆ hs₆ => ?_) (by simp [compEnvC, relabel, hkind])))
      refine assignInOrder_cons (wpAny_assign_Name (wpAny_storeName_local (lookup_relabel_local hx2) hn₆ (fun h₇ hn₇ hs₇ => ?_) (by simp [compEnvC, relabel, hkind])))
      refine assignInOrder_cons (wpAny_assign_Name (wpAny_storeName_local (lookup_relabel_local hx3) hn₇ (fun h₃ hn₃ hs₃ => ?_) (by simp [compEnvC, relabel, hkind])))
      refine assignInOrder_nil ?_
      have old3 : ∀ b o, b ≠ C → s₁.heap.get? b = some o → h₃.get? b = some o := fun b o hb e => hs₃.extBut b o hb (hs₇.extBut b o hb (hs₆.extBut b o hb (he' b o e)))
      refine helt _ C _ tok kx tk1 tk2 hn₃ hBC (fun b o e => old3 b o (fun z => by have := kB _ _ e; rw [z, hCs] at this; cases this) (KL1 b o (fun z => by rw [z, hLB] at e; cases e) (kB _ _ e))) ?n1 ?n2 ?n3 hkd _ _ ?_
      case n1 => simp [hne.1, hne.2.1]
      case n2 => simp [hne.2.2]
      case n3 => simp
      intro h₄ tk₄ T a vs nT u1 u2 k4 hn₄ hT hta hsa
      have hT3 : h₃.get? T = none := hT.2
      have D4 : h₄.get? D = some (lst ys) := k4 _ _ hCD.symm (old3 D _ hCD.symm D1)
      refine append_at (hsz := by show ys.toArray.size ≤ sizeLine; rw [List.size_toArray, hyl, sizeLine_eq]; omega) D4 fun h₅' hs₅ hD₅ => ?_
      have keep5 : ∀ b o, b ≠ C → b ≠ D → s₁.heap.get? b = some o → h₅'.get? b = some o := fun b o h1 h2 e => hs₅.extBut b o h2 (k4 _ _ h1 (old3 b o h1 e))
      have nT1 : ∀ b o, b ≠ C → s₁.heap.get? b = some o → T ≠ b := fun b o h1 e z => by rw [z, old3 b o h1 e] at hT3; cases hT3
      have hTC : T ≠ C := fun z => by obtain ⟨o, _, _, ho, _⟩ := hn₃; have ho' : h₃.get? C = some o := ho; rw [z, ho'] at hT3; cases hT3
      have hTD : T ≠ D := nT1 D _ hCD.symm D1
      obtain ⟨g'', hb'', kk, hnew⟩ := grow (g := g') (h := h₅') (rest0 := []) (new := [(T, ({ cls := .type "tuple", data := .seq #[.int (tok.pos : Int) u1, .ref a, .str ⟨#[tok.val]⟩ u2] nT } : Obj))]) (fun b o e => keep5 b o (hgf b o e).2.2 (hgf b o e).2.1 (kg1 b o e)) (List.forall_mem_cons.mpr ⟨hs₅.extBut T _ hTD hT.1, fun _ h => (List.not_mem_nil h).elim⟩) (BearsG.start g' [])
      rw [List.append_nil] at hb''
      have g''mem : ∀ b o, g''.get? b = some o → g'.get? b = some o ∨ b = T := fun b o e => by
        rcases hb''.2 b o e with q | q
        · exact .inl q
        · right; rw [List.mem_singleton] at q; exact congrArg Prod.fst q
      have hTs : s.heap.get? T = none := by
        cases q : s.heap.get? T with
        | none => rfl
        | some o =>
          by_cases z : T = Lg
          · obtain ⟨oL, hoL⟩ := hown1.has
            exact absurd z (nT1 Lg oL hLC hoL)
          · exact absurd rfl (nT1 T o (below _ _ q).1 (KL1 T o z q))
      have hTS : T ≠ S := nT1 S oS hSC.1 hoS
      have hidx' : all.take (i + 1) = all.take i ++ [tok] := by rw [List.take_add_one, hidx]; rfl
      refine ⟨all.length + 1 - (i + 1), by omega, i + 1, ys ++ [.ref T], _, gs', some S, g'', hi1, rfl, by simp [hyl], fun b o h1 e => keep5 b o (below _ _ e).1 (below _ _ e).2 (KL1 b o h1 e), (hn₄.at' fun o e => hs₅.extBut C o hCD e), hD₅.trans (congrArg some (lst_snoc ys (.ref T))), ?gen, ?goes, hown1.keep (fun o e => keep5 Lg o hLC hLD e), ?hSn, ?kgn, ?fresh, ?outs, ?os, ?gsz⟩
      case gen =>
        refine GenComp_set (s := s₁) ?_
        rw [hg1]
        exact ⟨_, setGen_self hG⟩
      case goes =>
        intro s'' e
        have hn : all.length - (i + 1) = j := by omega
        rw [hn]
        have e' : ∀ b o, b ≠ C → b ≠ D → s₁.heap.get? b = some o → s''.heap.get? b = some o := fun b o h1 h2 e'' => by rw [e]; exact keep5 b o h1 h2 e''
        exact hkap s'' (fun o e'' => e' Lg o hLC hLD e'') (fun o e'' => e' S o hSC.1 hSC.2.1 e'') (fun b o e'' => by
          have hb := kB _ _ e''
          exact e' b o (below _ _ hb).1 (below _ _ hb).2 (KL1 b o (fun z => by rw [z, hLB] at e''; cases e'') hb)) (fun b o e1 e2 => by
          have e1 : s'.heap.get? b = none := e1
          refine e' b o (fun z => ?_) (fun z => ?_) e2
          · obtain ⟨oC, _, _, hoC, _⟩ := hns; rw [← z, e1] at hoC; cases hoC
          · rw [← z, e1] at hD; cases hD)
      case hSn =>
        intro S' eS
        cases eS
        refine ⟨hSC.2.2.1, hSC.1, hSC.2.1, ?_⟩
        cases q : g''.get? S with
        | none => rfl
        | some o =>
          rcases g''mem S o q with z | z
          · rw [hSC.2.2.2] at z; cases z
          · exact absurd z.symm hTS
      case kgn =>
        intro b o e
        rcases hb''.2 b o e with q | q
        · exact keep5 b o (hgf b o q).2.2 (hgf b o q).2.1 (kg1 b o q)
        · rw [List.mem_singleton] at q
          cases q
          exact hs₅.extBut T _ hTD hT.1
      case fresh =>
        intro b o e
        rcases g''mem b o e with q | q
        · exact hgf b o q
        · rw [q]; exact ⟨hTs, hTD, hTC⟩
      case outs =>
        rw [hidx']
        exact (hout.kp kk).snoc ⟨T, a, vs, _, _, rfl, ⟨_, hnew _ (.head _), rfl, _, rfl⟩, hta, hsa⟩
      case os => exact hos1.trans hos
      case gsz =>
        show (s₁.setGen g gs').gens.size = _
        rw [show (s₁.setGen g gs').gens.size = s₁.gens.size from by simp [Shared.setGen], hg1]
        rw [← hgsz]
        simp [Shared.setGen]
    · obtain ⟨hn0, ⟨hg1, hos1⟩, S₀', hown0, hsince⟩ := hP
      have e0 : S₀' = S₀ := hown0.uniq hown
      subst e0
      replace hsince : ∀ b o, b ≠ Lg → some b ≠ S₀' → s'.heap.get? b = some o → s₁.heap.get? b = some o := hsince
      have hii : i = all.length := by omega
      subst hii
      rw [List.take_length] at hout
      have nS : ∀ b, (∃ o, s.heap.get? b = some o) ∨ b = C ∨ b = D ∨ (∃ o, g'.get? b = some o) → some b ≠ S₀' := by
        intro b hb e
        obtain ⟨a1, a2, a3, a4⟩ := hS b e.symm
        rcases hb with ⟨o, hb⟩ | hb | hb | ⟨o, hb⟩
        · rw [a1] at hb; cases hb
        · exact a2 hb
        · exact a3 hb
        · rw [a4] at hb; cases hb
      have hLg' : ∀ b o, g'.get? b = some o → b ≠ Lg := fun b o e z => by
        have := (hgf b o e).1; rw [z, hoLg] at this; cases this
      refine hRR _ D C m' ys _ g' (fun b o e => ?k1) (hk _ _ (hsince D _ hLD.symm (nS _ (.inr (.inr (.inl rfl)))) hD)) (hBn _ hDs) ((hns.at' fun o e => hsince C o hLC.symm (nS _ (.inr (.inl rfl))) e).at' fun o e => hk _ _ e) (hBn _ hCs) hCD (fun b o e => hk _ _ (hsince b o (hLg' b o e) (nS _ (.inr (.inr (.inr ⟨o, e⟩)))) (kg b o e))) (fun b o e => ⟨hBn _ (hgf b o e).1, (hgf b o e).2⟩) hout (hos1.trans hos) ?k2 ?k3
      case k1 =>
        have hb := kB _ _ e
        have hbl : b ≠ Lg := fun z => by rw [z, hLB] at e; cases e
        exact hk _ _ (hsince b o hbl (nS _ (.inl ⟨o, hb⟩)) (KL b o hbl hb))
      case k2 =>
        show (s₁.setGen g .finished).gens.size = _
        rw [show (s₁.setGen g .finished).gens.size = s₁.gens.size from by simp [Shared.setGen], hg1, ← hgsz]
        simp [Shared.setGen]
      case k3 =>
        refine GenComp_set (s := s₁) ?_
        rw [hg1]
        exact ⟨_, setGen_self hG⟩
  exact codeAny_compStart_list (loop _ rfl) (wpAny_pyIter_gen (let ⟨o, nm, qn, ho, r⟩ := hg; ⟨o, nm, qn, old _ _ ho, r⟩) (loop _ rfl))
end
end Mine
end
section
open PySem PySem.W PyProof.Rows PySem.Calls PyProof.Rows.LCg
set_option Elab.async false
set_option maxRecDepth 100000
set_option maxHeartbeats 8000000
namespace Mine
section
variable {prog : Program} {w : World} {A : Around} {E : Value → Shared → Prop} {s : Shared}
/-- what the element of the comprehension must do -/
def EltOk (prog : Program) (w : World) (A : Around) (elt : Expr) (x1 x2 x3 : Str) (scope : Scope) (cl : List (Str × Addr)) (env : Env) (hB : Heap) (CT : Addr) : Prop :=
  ∀ (s' : Shared) (C : Addr) (m₂ : Str → Option Value) (tok : LTok) (k : Addr) (t1 t3 : Tok), s'.heap.Ns C m₂ → hB.objs.size ≤ C → Keeps hB s'.heap → m₂ x1 = some (.int (tok.pos : Int) t1) → m₂ x2 = some (.ref k) → m₂ x3 = some (.str ⟨#[tok.val]⟩ t3) → KindAt CT hB k tok.names → ∀ (Q : Value → Shared → Prop) (E' : Value → Shared → Prop),
      (∀ h' tk T a vs n u1 u2, (∀ b o, b ≠ C → s'.heap.get? b = some o → h'.get? b = some o) → h'.Ns C m₂ → (h'.get? T = some { cls := .type "tuple", data := .seq #[.int (tok.pos : Int) u1, .ref a, .str ⟨#[tok.val]⟩ u2] n } ∧ s'.heap.get? T = none) → IsTup hB a vs.toArray → StrsAre vs tok.names → Q (.ref T) { s' with heap := h', toks := tk }) →
      wpAny (model prog w) A (eval elt (compEnvC scope cl C env)) Q E' s'
def SrcG (prog : Program) (w : World) (A : Around) (elt : Expr) (x1 x2 x3 : Str) (scope : Scope) (cl : List (Str × Addr)) (env : Env) (Q : Value → Shared → Prop) (xv : Value) (s₁ : Shared) : Prop :=
  ∃ ga g c Lg CT hB all, xv = .ref ga ∧ A.handled = none ∧ hB.NoLimit ∧ A.depth < recursionLimit ∧ Keeps hB s₁.heap ∧ hB.objs.size ≤ s₁.heap.objs.size ∧ hB.get? Lg = none ∧ s₁.heap.IsGen ga g ∧ s₁.gens[g]? = some (.fresh c) ∧ OwnS Lg s₁.heap none ∧ all.length ≤ 10000 ∧
    (∀ sx : Shared, (∀ o, s₁.heap.get? Lg = some o → sx.heap.get? Lg = some o) → Keeps hB sx.heap → Seg (model prog w) A.in1 (genR Lg) (genY CT hB Lg all) all.length sx c ((model prog w).den c) [] sx) ∧
    EltOk prog w A elt x1 x2 x3 scope cl env hB CT ∧
    (∀ (s' : Shared) D its n g', Keeps hB s'.heap → (s'.heap.get? D = some (lstN its n) ∧ hB.get? D = none) → Keeps g' s'.heap → (∀ b o, g'.get? b = some o → hB.get? b = none ∧ b ≠ D) → OutsAre hB g' its all → s'.os = s₁.os → s'.gens.size = s₁.gens.size → s'.gens[g]? = some .finished → Q (.ref D) s')
theorem ListComp_G {elt iter : Expr} {x1 x2 x3 : Str} {p1 p2 p3 tp : Pos} {tkk : Nat} {scope : Scope} {cl : List (Str × Addr)} {pos : Pos} {env : Env} {Q : Value → Shared → Prop}
    (hclos : closureFor scope env = pure cl) (hcell : ∀ y ∈ scope.names, y.2 ≠ .cell) (hkind : scope.kind = .function)
    (hnames : ∀ y ∈ scope.names, y.2 = .local → scope.names.lookup y.1 = some .local) (hx1 : scope.names.lookup x1 = some .local) (hx2 : scope.names.lookup x2 = some .local) (hx3 : scope.names.lookup x3 = some .local) (hne : x1 ≠ x2 ∧ x1 ≠ x3 ∧ x2 ≠ x3)
    (h : wpAny (model prog w) A (eval iter env) (SrcG prog w A elt x1 x2 x3 scope cl env Q) E s)
    (hs : ∀ x, foldedSetIterable iter env x = pure x := by intro _; rfl) :
    wpAny (model prog w) A (eval (.ListComp elt [⟨.Tuple [.Name x1 p1, .Name x2 p2, .Name x3 p3] tkk tp, iter, [], 0⟩] scope pos) env) Q E s := by
  rw [eval_ListComp]
  refine wpAny_comprehension_free (use := none) rfl hs hclos hkind hnames (wpAny_mono h (fun xv s₁ h₁ => ?_) fun _ _ e => e)
  obtain ⟨ga, g, c, Lg, CT, hB, all, rfl, hh, hl, hroom, kB, hsz, hLB, hg, hgs, own, hall, hseg, helt, hQ⟩ := h₁
  refine wpAny_pyIter_gen hg ?_
  refine comp_gen (CT := CT) (all := all) hh hl hroom hcell hkind hx1 hx2 hx3 hne kB hsz hLB hg hgs own hall hseg helt ?_
  intro s' D C m' its n g' k1 hD hDB hns hCB hCD kg hf hout hos hgz hfin
  refine ⟨m', hns, fun h'' hs'' => ?_⟩
  exact hQ { s' with heap := h'' } D its n g' (fun b o e => hs''.extBut b o (fun z => by rw [z, hCB] at e; cases e) (k1 b o e)) ⟨hs''.extBut D _ (Ne.symm hCD) hD, hDB⟩ (fun b o e => hs''.extBut b o (hf b o e).2.2 (kg b o e)) (fun b o e => ⟨(hf b o e).1, (hf b o e).2.1⟩) hout hos hgz hfin
def lawElt : Expr := match (lawBody[4]? : Option Stmt) with
  | some (.Assign _ (.ListComp e _ _ _) _) => e
  | _ => .Constant .none 0 ⟨0, 0, 0, 0⟩
def lawScope2 : Scope := match (lawBody[4]? : Option Stmt) with
  | some (.Assign _ (.ListComp _ _ sc _) _) => sc
  | _ => default
def lawIter : Expr := match (lawBody[4]? : Option Stmt) with
  | some (.Assign _ (.ListComp _ (c :: _) _ _) _) => c.iter
  | _ => .Constant .none 0 ⟨0, 0, 0, 0⟩
theorem table_at {h g : Heap} {pr : Addr} {kvo : List (Str × Value)} (k : Keeps g h) (hd : g.DictOf (PySem.strKind PG w) pr kvo) (ht : TabO g kvo (stTab 6)) : TableAt PG w 66 613 610 449 h pr T2 := by
  refine ⟨valueAt kvo, ?_, fun name rows e => ?_⟩
  · obtain ⟨o, es, ep, ho, r⟩ := Heap.DictOf.mapOf hd
    exact ⟨o, es, ep, k _ _ ho, r⟩
  · unfold T2 at e
    cases q : (stTab 6).lookup name with
    | none => rw [q] at e; cases e
    | some rs =>
      rw [q] at e
      cases e
      obtain ⟨l, vs, h1, h2, h3⟩ := ht.lookup q
      exact ⟨l, vs, h1, h2.at fun o e => k _ o e, h3.kp k⟩
theorem bare_one {gens : Array GenState} (h1 : gens.size = 1) (h2 : gens[0]? = some .finished) : AllBare gens := by
  intro y hy
  obtain ⟨i, hi, e⟩ := Array.mem_iff_getElem.mp hy
  have : i = 0 := by omega
  subst this
  rw [Array.getElem?_eq_getElem hi] at h2
  rw [← e, Option.some.inj h2]
  rfl
end
end Mine
end
section
namespace Mine
section
variable {w : World} {d u : Nat} {gd : Option (List Code)} {base : Heap} {outer : List Env} {s : Shared} {p : Program} {loose : List Str} {mean : ExcName → Option Value} {mg mb : Str → Option Value}
local macro_rules | `(tactic| k_inst) => `(tactic| exact inst_base (by k_asm) (by assumption) (by assumption))
local macro_rules | `(tactic| k_room) => `(tactic| ((try simp only [depth_under_make, depth_under_kw, depth_in1, depth_deeper, depth_caller, depth_mk, Around.in1_depth, rl_is]); omega))
local macro_rules | `(tactic| k_units) => `(tactic| ((try simp only [Around.in1_units, Around.deeper_units, Around.mark_units, units_mk, cl_is]); omega))
local macro_rules | `(tactic| walk_at "truthy str") => `(tactic| (k_here; (with_reducible refine truthy_ch ?_); intro _))
local macro_rules | `(tactic| walk_at "call builtin:str.join") => `(tactic| (k_here; (refine join_one (by is_list) ?_); intro _ _))
local macro_rules | `(tactic| walk_at "MINE enter") => `(tactic| (refine' enter ?mX ?mT ?k6 ?k7 ?k8 ?k9 ?kB ?_ ?c2 ?c3 ?c4 ?c5; (case mX => assumption); (case mT => assumption); (case k6 => k_is); (case k7 => k_is); (case k8 => k_room); (case k9 => first | exact BindsTo.of_eq rfl | exact binds_K (by assumption) rfl (by k_is) rfl rfl rfl); (case c5 => decide); (case kB => exact locs rfl); (case c2 => exact rfl); (case c3 => exact rfl); (case c4 => exact rfl); intro L' h' F' N'; (try dsimp only)))
local macro_rules | `(tactic| walk_at "BRest") => `(tactic| (with_unfolding_all first | (refine BRest.succ (fun I' it' h' tk' hit' off' F' N' => ?_)) | (refine BRest.zero (fun h' tk' F' N' => ?_))))
local macro_rules | `(tactic| walk_at "MINE obj") => `(tactic| first | assumption | exact Fr.keep (by assumption) _ _ (by assumption) | exact News.get (by assumption) (by k_mem))
local macro_rules | `(tactic| walk_at "MINE lst") => `(tactic| first | assumption | exact Heap.IsList.at (by assumption) (fun o e => Fr.keep (by assumption) _ o e) | is_list)
local macro_rules | `(tactic| walk_at "MINE X") => `(tactic| first | assumption | exact Frag.In.keeps (by assumption) (Fr.keep (by assumption)))
local macro_rules | `(tactic| walk_at "MINE T") => `(tactic| first | assumption | exact Top.keeps (by assumption) (Fr.keep (by assumption)))
local macro_rules | `(tactic| walk_at "MINE B") => `(tactic| first | assumption | exact Below.push (by assumption) (by assumption))
local macro_rules | `(tactic| k_enter) => `(tactic| (refine' code_def0 ?k2 ?k3 ?k4 ?k5 ?k6 ?k7 ?k8 ?k9 ?kB ?_ ?c2 ?c3 ?c4 ?c5; (case k2 => k_asm); (case k3 => k_asm); (case k4 => k_asm); (case k5 => k_asm); (case k6 => k_is); (case k7 => k_is); (case k8 => k_room); (case k9 => first | exact BindsTo.of_eq rfl | exact binds_K (by k_in) rfl (by k_is) rfl rfl rfl | fail "k_enter: no rule for these arguments"); (case c5 => decide); (case kB => exact locs rfl); (case c2 => exact rfl); (case c3 => exact rfl); (case c4 => exact rfl); k_whole; intro g' L' h' FG' F' N' X' T'; (try dsimp only); (try k_fold)))
local macro_rules | `(tactic| walk_at "subscriptTail") => `(tactic| (k_here; (with_reducible show wpAny _ _ (subscriptTail _ _ (Value.ref _) (Value.str _ _)) _ _ _); k_dflt (refine tab_item (by k_asm) (by assumption) (by assumption) ?_)))
local macro_rules | `(tactic| walk_at "subscriptTail") => `(tactic| (k_here; (with_reducible show wpAny _ _ (subscriptTail _ _ (Value.ref _) (Value.int _ _)) _ _ _); k_dflt (refine stk_last (by is_list) (by assumption) ?_)))
local macro_rules | `(tactic| k_all) => `(tactic| first | assumption | exact ne_of_allL (by assumption) | exact ne_of_allLt (by assumption) | exact ne_of_allLt (And.right (by assumption)) | exact ne_of_allLt (And.right (And.right (by assumption))) | exact ne_of_allLt (And.right (And.right (And.right (by assumption)))))
local macro_rules | `(tactic| k_enter) => `(tactic| (kp_kind "rest"; (refine' code_rest0 ?k2 ?k3 ?k4 ?k5 ?k6 ?k7 ?k8 ?kV ?kP ?kG ?kB ?_ ?c2 ?c3 ?c4 ?c5; (case k2 => k_asm); (case k3 => k_asm); (case k4 => k_asm); (case k5 => k_asm); (case k6 => k_is); (case k7 => k_is); (case k8 => k_room); (case kV => exact rfl); (case kP => exact rfl); (case kG => exact fun _ => rfl); (case kB => exact fun _ => locs rfl); (case c5 => decide); (case c2 => exact rfl); (case c3 => exact rfl); (case c4 => exact rfl); k_whole; intro D' g' L' h' l1 FG' F' N' X' T'; (try k_lt l1); (try dsimp only); (try k_fold))))
local macro_rules | `(tactic| k_enter) => `(tactic| (kp_kind "more"; (refine' code_more0 ?k2 ?k3 ?k4 ?k5 ?k6 ?k7 ?k8 ?kP ?kK ?kB ?_ ?c2 ?c3 ?c4 ?c5; (case k2 => k_asm); (case k3 => k_asm); (case k4 => k_asm); (case k5 => k_asm); (case k6 => k_is); (case k7 => k_is); (case k8 => k_room); (case kP => exact rfl); (case kK => exact fun _ => rfl); (case kB => exact fun _ => locs rfl); (case c5 => decide); (case c2 => exact rfl); (case c3 => exact rfl); (case c4 => exact rfl); k_whole; intro D' o' g' L' h' tk' l1 lo' hd' fs' FG' F' N' X' T'; (try k_lt l1); (try dsimp only); (try k_fold))))
local macro_rules | `(tactic| k_enter) => `(tactic| (kp_kind "both"; (refine' code_both0 ?k2 ?k3 ?k4 ?k5 ?k6 ?k7 ?k8 ?kV ?kP ?kQ ?kK ?kB ?_ ?c2 ?c3 ?c4 ?c5; (case k2 => k_asm); (case k3 => k_asm); (case k4 => k_asm); (case k5 => k_asm); (case k6 => k_is); (case k7 => k_is); (case k8 => k_room); (case kV => exact rfl); (case kP => exact rfl); (case kQ => exact fun _ => rfl); (case kK => exact fun _ _ => rfl); (case kB => exact fun _ _ => locs rfl); (case c5 => decide); (case c2 => exact rfl); (case c3 => exact rfl); (case c4 => exact rfl); k_whole; intro C' D' g' L' h' tk' l1 l2 l3 FG' F' N' X' T'; (try k_lt l1); (try k_lt l3); (try dsimp only); (try k_fold))))
local macro_rules | `(tactic| walk_at "subscriptTail Name UnaryOp ref int") => `(tactic| (k_here; (with_reducible show wpAny _ _ (subscriptTail _ _ (Value.ref _) (Value.int _ _)) _ _ _); k_dflt (refine stk_last (by is_list) (by assumption) ?_)))
local macro_rules | `(tactic| walk_at "truthy ref") => `(tactic| (k_here; (with_reducible show wpAny _ _ (truthy (Value.ref _)) _ _ _); k_dflt (first | refine truthy_tup (b := false) (by assumption) (by assumption) (by first | exact Nat.le_of_ble_eq_true rfl | omega) rfl ?_ | refine truthy_tup (b := true) (by assumption) (by assumption) (by first | exact Nat.le_of_ble_eq_true rfl | omega) rfl ?_); intro _))
local macro_rules | `(tactic| walk_at "truthy str") => `(tactic| (k_here; (with_reducible show wpAny _ _ (truthy (Value.str _ _)) _ _ _); k_dflt (refine KXt.truthy_pos (K := 1000) (by omega) (by omega) (by omega) ?_); intro _))
local macro_rules | `(tactic| walk_at "StarOf ref") => `(tactic| (k_here; k_dflt (refine star_tup (by assumption) (by assumption) (by assumption) (by first | exact Nat.le_of_ble_eq_true rfl | omega) ?_); intro h' F' N'; (try dsimp only [List.nil_append, List.cons_append]); (try k_sweep)))
local macro_rules | `(tactic| walk_at "callWith ref") => `(tactic| (k_here; (with_reducible show wpAny _ _ (callWith _ (Value.ref _) _ (backTo _ (starEach (Expr.Starred _ _ :: _ :: _) _)) []) _ _ _); k_dflt (refine' callWith_S3 ?k1 ?k2 ?_; (case k1 => k_asm); (case k2 => k_is); k_whole)))
local macro_rules | `(tactic| walk_at "call type:str") => `(tactic| (k_here; (with_reducible show wpAny _ _ (call (Value.type "str") [Value.int _ _]) _ _ _); k_dflt (refine str_int9 (by omega) (by omega) ?_); intro _ _))
local macro_rules | `(tactic| walk_at "MINE enterC") => `(tactic| (refine' enterC ?mX ?mT ?k6 ?k7 ?k8 ?k9 ?kB ?kD ?_ ?c2 ?c3 ?c4; (case mX => assumption); (case mT => assumption); (case k6 => k_is); (case k7 => k_is); (case k8 => k_room); (case k9 => first | exact BindsTo.of_eq rfl | exact binds_K (by assumption) rfl (by k_is) rfl rfl rfl); (case kB => exact rfl); (case kD => decide +kernel); (case c2 => exact rfl); (case c3 => exact rfl); (case c4 => exact rfl); intro L' h' tk' cells' F' N' Y'; k_cells Y'; (try simp only [List.cons_append, List.nil_append] at N'); (try dsimp only)))
local macro_rules | `(tactic| walk_at "compareOp In str ref") => `(tactic| (k_here; (with_reducible show wpAny _ _ (compareOp _ (Value.str _ _) (Value.ref _)) _ _ _); k_dflt (refine in_map (by assumption) (by assumption) (by assumption) (by assumption) ?_); intro _))
local macro_rules | `(tactic| walk_at "call builtin:isinstance") => `(tactic| (k_here; (with_reducible show wpAny _ _ (call _ [Value.ref _, Value.type _]) _ _ _); k_dflt (refine' kia_one kitx_tuple ?X ?c ?ee ?nb ?_; (case c => exact kitAt_B (by assumption) (by assumption)); (case X => walk_at "MINE X"); (case ee => kit_is); (case nb => kit_nb); k_whole; intro _)))
local macro_rules | `(tactic| walk_at "call builtin:isinstance") => `(tactic| (k_here; (with_reducible show wpAny _ _ (call _ [Value.ref _, Value.ref _]) _ _ _); k_dflt (refine' kia_one kitx_tuple ?X ?c ?ee ?nb ?_; (case c => exact kitAt_B (by assumption) (by assumption)); (case X => walk_at "MINE X"); (case ee => kit_is); (case nb => kit_nb); k_whole; intro _)))
local macro_rules | `(tactic| walk_at "call type:type") => `(tactic| (k_here; (with_reducible show wpAny _ _ (call (Value.type "type") [Value.ref _]) _ _ _); k_dflt (refine kto_cont (T := "tuple") (kitAt_B (by assumption) (by assumption)) (by decide +kernel) ?_)))
theorem t_elt {hB : Heap} {L fa : Addr} {cd : Value} {env : Env} {sc : Scope}
  (henv : env = lawEnv L fa cd) (hsc : sc = lawScope2)
  (X : (Mine.hd2.heap_39 w.params).In hB) (T : Top p loose mean mg mb hB) : EltOk PG w (callerA.deeper env) lawElt (Str.ofString "index") (Str.ofString "kind") (Str.ofString "value") sc [] env hB 66 := by
  intro s' C m₂ tok k t1 t3 hns hsz kB m1 m2 m3 hkd Q E' hQ
  have henv' : env = envOfC _ _ L fa cd := henv
  with_unfolding_all (show wpAny _ _ (eval (Expr.Tuple _ _ _) _) _ _ _)
  have hsc' : sc = Scope.mk _ _ _ _ _ := hsc
  clear henv hsc
  subst henv' hsc'
  obtain ⟨dk, khsh, ktk, knt, kvs, hk1, hk2, hkt, hks⟩ := id hkd
  have F : Fr hB C s'.heap m₂ := ⟨hns, kB, hsz⟩
  obtain ⟨rest, N, _, hcov⟩ := cover_exists hB s'.heap C none kB
  replace F := Fr.re (m' := fun y => if y = Str.ofString "index" then some (.int (tok.pos : Int) t1) else if y = Str.ofString "kind" then some (.ref k) else if y = Str.ofString "value" then some (.str ⟨#[tok.val]⟩ t3) else m₂ y) F (by
    intro y
    split
    · rename_i e; rw [e, m1]
    split
    · rename_i e; rw [e, m2]
    split
    · rename_i e; rw [e, m3]
    rfl)
  have q1 := m1
  have q2 := m2
  have q3 := m3
  clear m1 m2 m3 hns
  have e0 : ∀ y, (if y = Str.ofString "index" then some (Value.int (tok.pos : Int) t1) else if y = Str.ofString "kind" then some (.ref k) else if y = Str.ofString "value" then some (.str ⟨#[tok.val]⟩ t3) else m₂ y) = m₂ y := fun y => by
    split
    · rename_i e; rw [e, q1]
    split
    · rename_i e; rw [e, q2]
    split
    · rename_i e; rw [e, q3]
    rfl
  k_steps
  all_goals try k_data
  rename Fr _ _ _ _ => F9
  rename News _ _ _ _ => N9
  have F10 := Fr.re (m' := m₂) F9 (fun y => (e0 y).symm)
  refine hQ _ _ _ knt kvs _ _ _ (fun b o hb e => ?_) F10.ns ⟨(N9 _ (.head _)).1, ?_⟩ hkt hks
  · rcases hcov b o hb (by simp) e with q | q
    · exact F9.keep _ _ q
    · exact (N9 _ (.tail _ q)).1
  · rename (∀ p ∈ rest, p.1 < _) => hl9
    have z := N9 _ (.head _)
    generalize hq : s'.heap.get? _ = q at *
    cases q with
    | none => rfl
    | some o =>
      rcases hcov _ o z.2.1 (by simp) hq with y | y
      · rw [z.2.2] at y; cases y
      · exact absurd (hl9 _ y) (Nat.lt_irrefl _)
end
end Mine
end
section
namespace Mine
section
variable {w : World} {d u : Nat} {gd : Option (List Code)} {base : Heap} {outer : List Env} {s : Shared} {p : Program} {loose : List Str} {mean : ExcName → Option Value} {mg mb : Str → Option Value}
local macro_rules | `(tactic| k_inst) => `(tactic| exact inst_base (by k_asm) (by assumption) (by assumption))
local macro_rules | `(tactic| k_room) => `(tactic| ((try simp only [depth_under_make, depth_under_kw, depth_in1, depth_deeper, depth_caller, depth_mk, Around.in1_depth, rl_is]); omega))
local macro_rules | `(tactic| k_units) => `(tactic| ((try simp only [Around.in1_units, Around.deeper_units, Around.mark_units, units_mk, cl_is]); omega))
local macro_rules | `(tactic| walk_at "truthy str") => `(tactic| (k_here; (with_reducible refine truthy_ch ?_); intro _))
local macro_rules | `(tactic| walk_at "call builtin:str.join") => `(tactic| (k_here; (refine join_one (by is_list) ?_); intro _ _))
local macro_rules | `(tactic| walk_at "MINE enter") => `(tactic| (refine' enter ?mX ?mT ?k6 ?k7 ?k8 ?k9 ?kB ?_ ?c2 ?c3 ?c4 ?c5; (case mX => assumption); (case mT => assumption); (case k6 => k_is); (case k7 => k_is); (case k8 => k_room); (case k9 => first | exact BindsTo.of_eq rfl | exact binds_K (by assumption) rfl (by k_is) rfl rfl rfl); (case c5 => decide); (case kB => exact locs rfl); (case c2 => exact rfl); (case c3 => exact rfl); (case c4 => exact rfl); intro L' h' F' N'; (try dsimp only)))
local macro_rules | `(tactic| walk_at "BRest") => `(tactic| (with_unfolding_all first | (refine BRest.succ (fun I' it' h' tk' hit' off' F' N' => ?_)) | (refine BRest.zero (fun h' tk' F' N' => ?_))))
local macro_rules | `(tactic| walk_at "MINE obj") => `(tactic| first | assumption | exact Fr.keep (by assumption) _ _ (by assumption) | exact News.get (by assumption) (by k_mem))
local macro_rules | `(tactic| walk_at "MINE lst") => `(tactic| first | assumption | exact Heap.IsList.at (by assumption) (fun o e => Fr.keep (by assumption) _ o e) | is_list)
local macro_rules | `(tactic| walk_at "MINE X") => `(tactic| first | assumption | exact Frag.In.keeps (by assumption) (Fr.keep (by assumption)))
local macro_rules | `(tactic| walk_at "MINE T") => `(tactic| first | assumption | exact Top.keeps (by assumption) (Fr.keep (by assumption)))
local macro_rules | `(tactic| walk_at "MINE B") => `(tactic| first | assumption | exact Below.push (by assumption) (by assumption))
local macro_rules | `(tactic| k_enter) => `(tactic| (refine' code_def0 ?k2 ?k3 ?k4 ?k5 ?k6 ?k7 ?k8 ?k9 ?kB ?_ ?c2 ?c3 ?c4 ?c5; (case k2 => k_asm); (case k3 => k_asm); (case k4 => k_asm); (case k5 => k_asm); (case k6 => k_is); (case k7 => k_is); (case k8 => k_room); (case k9 => first | exact BindsTo.of_eq rfl | exact binds_K (by k_in) rfl (by k_is) rfl rfl rfl | fail "k_enter: no rule for these arguments"); (case c5 => decide); (case kB => exact locs rfl); (case c2 => exact rfl); (case c3 => exact rfl); (case c4 => exact rfl); k_whole; intro g' L' h' FG' F' N' X' T'; (try dsimp only); (try k_fold)))
local macro_rules | `(tactic| walk_at "subscriptTail") => `(tactic| (k_here; (with_reducible show wpAny _ _ (subscriptTail _ _ (Value.ref _) (Value.str _ _)) _ _ _); k_dflt (refine tab_item (by k_asm) (by assumption) (by assumption) ?_)))
local macro_rules | `(tactic| walk_at "subscriptTail") => `(tactic| (k_here; (with_reducible show wpAny _ _ (subscriptTail _ _ (Value.ref _) (Value.int _ _)) _ _ _); k_dflt (refine stk_last (by is_list) (by assumption) ?_)))
local macro_rules | `(tactic| k_all) => `(tactic| first | assumption | exact ne_of_allL (by assumption) | exact ne_of_allLt (by assumption) | exact ne_of_allLt (And.right (by assumption)) | exact ne_of_allLt (And.right (And.right (by assumption))) | exact ne_of_allLt (And.right (And.right (And.right (by assumption)))))
local macro_rules | `(tactic| k_enter) => `(tactic| (kp_kind "rest"; (refine' code_rest0 ?k2 ?k3 ?k4 ?k5 ?k6 ?k7 ?k8 ?kV ?kP ?kG ?kB ?_ ?c2 ?c3 ?c4 ?c5; (case k2 => k_asm); (case k3 => k_asm); (case k4 => k_asm); (case k5 => k_asm); (case k6 => k_is); (case k7 => k_is); (case k8 => k_room); (case kV => exact rfl); (case kP => exact rfl); (case kG => exact fun _ => rfl); (case kB => exact fun _ => locs rfl); (case c5 => decide); (case c2 => exact rfl); (case c3 => exact rfl); (case c4 => exact rfl); k_whole; intro D' g' L' h' l1 FG' F' N' X' T'; (try k_lt l1); (try dsimp only); (try k_fold))))
local macro_rules | `(tactic| k_enter) => `(tactic| (kp_kind "more"; (refine' code_more0 ?k2 ?k3 ?k4 ?k5 ?k6 ?k7 ?k8 ?kP ?kK ?kB ?_ ?c2 ?c3 ?c4 ?c5; (case k2 => k_asm); (case k3 => k_asm); (case k4 => k_asm); (case k5 => k_asm); (case k6 => k_is); (case k7 => k_is); (case k8 => k_room); (case kP => exact rfl); (case kK => exact fun _ => rfl); (case kB => exact fun _ => locs rfl); (case c5 => decide); (case c2 => exact rfl); (case c3 => exact rfl); (case c4 => exact rfl); k_whole; intro D' o' g' L' h' tk' l1 lo' hd' fs' FG' F' N' X' T'; (try k_lt l1); (try dsimp only); (try k_fold))))
local macro_rules | `(tactic| k_enter) => `(tactic| (kp_kind "both"; (refine' code_both0 ?k2 ?k3 ?k4 ?k5 ?k6 ?k7 ?k8 ?kV ?kP ?kQ ?kK ?kB ?_ ?c2 ?c3 ?c4 ?c5; (case k2 => k_asm); (case k3 => k_asm); (case k4 => k_asm); (case k5 => k_asm); (case k6 => k_is); (case k7 => k_is); (case k8 => k_room); (case kV => exact rfl); (case kP => exact rfl); (case kQ => exact fun _ => rfl); (case kK => exact fun _ _ => rfl); (case kB => exact fun _ _ => locs rfl); (case c5 => decide); (case c2 => exact rfl); (case c3 => exact rfl); (case c4 => exact rfl); k_whole; intro C' D' g' L' h' tk' l1 l2 l3 FG' F' N' X' T'; (try k_lt l1); (try k_lt l3); (try dsimp only); (try k_fold))))
local macro_rules | `(tactic| walk_at "subscriptTail Name UnaryOp ref int") => `(tactic| (k_here; (with_reducible show wpAny _ _ (subscriptTail _ _ (Value.ref _) (Value.int _ _)) _ _ _); k_dflt (refine stk_last (by is_list) (by assumption) ?_)))
local macro_rules | `(tactic| walk_at "truthy ref") => `(tactic| (k_here; (with_reducible show wpAny _ _ (truthy (Value.ref _)) _ _ _); k_dflt (first | refine truthy_tup (b := false) (by assumption) (by assumption) (by first | exact Nat.le_of_ble_eq_true rfl | omega) rfl ?_ | refine truthy_tup (b := true) (by assumption) (by assumption) (by first | exact Nat.le_of_ble_eq_true rfl | omega) rfl ?_); intro _))
local macro_rules | `(tactic| walk_at "truthy str") => `(tactic| (k_here; (with_reducible show wpAny _ _ (truthy (Value.str _ _)) _ _ _); k_dflt (refine KXt.truthy_pos (K := 1000) (by omega) (by omega) (by omega) ?_); intro _))
local macro_rules | `(tactic| walk_at "StarOf ref") => `(tactic| (k_here; k_dflt (refine star_tup (by assumption) (by assumption) (by assumption) (by first | exact Nat.le_of_ble_eq_true rfl | omega) ?_); intro h' F' N'; (try dsimp only [List.nil_append, List.cons_append]); (try k_sweep)))
local macro_rules | `(tactic| walk_at "callWith ref") => `(tactic| (k_here; (with_reducible show wpAny _ _ (callWith _ (Value.ref _) _ (backTo _ (starEach (Expr.Starred _ _ :: _ :: _) _)) []) _ _ _); k_dflt (refine' callWith_S3 ?k1 ?k2 ?_; (case k1 => k_asm); (case k2 => k_is); k_whole)))
local macro_rules | `(tactic| walk_at "call type:str") => `(tactic| (k_here; (with_reducible show wpAny _ _ (call (Value.type "str") [Value.int _ _]) _ _ _); k_dflt (refine str_int9 (by omega) (by omega) ?_); intro _ _))
local macro_rules | `(tactic| walk_at "MINE enterC") => `(tactic| (refine' enterC ?mX ?mT ?k6 ?k7 ?k8 ?k9 ?kB ?kD ?_ ?c2 ?c3 ?c4; (case mX => assumption); (case mT => assumption); (case k6 => k_is); (case k7 => k_is); (case k8 => k_room); (case k9 => first | exact BindsTo.of_eq rfl | exact binds_K (by assumption) rfl (by k_is) rfl rfl rfl); (case kB => exact rfl); (case kD => decide +kernel); (case c2 => exact rfl); (case c3 => exact rfl); (case c4 => exact rfl); intro L' h' tk' cells' F' N' Y'; k_cells Y'; (try simp only [List.cons_append, List.nil_append] at N'); (try dsimp only)))
local macro_rules | `(tactic| walk_at "compareOp In str ref") => `(tactic| (k_here; (with_reducible show wpAny _ _ (compareOp _ (Value.str _ _) (Value.ref _)) _ _ _); k_dflt (refine in_map (by assumption) (by assumption) (by assumption) (by assumption) ?_); intro _))
local macro_rules | `(tactic| walk_at "call builtin:isinstance") => `(tactic| (k_here; (with_reducible show wpAny _ _ (call _ [Value.ref _, Value.type _]) _ _ _); k_dflt (refine' kia_one kitx_tuple ?X ?c ?ee ?nb ?_; (case c => exact kitAt_B (by assumption) (by assumption)); (case X => walk_at "MINE X"); (case ee => kit_is); (case nb => kit_nb); k_whole; intro _)))
local macro_rules | `(tactic| walk_at "call builtin:isinstance") => `(tactic| (k_here; (with_reducible show wpAny _ _ (call _ [Value.ref _, Value.ref _]) _ _ _); k_dflt (refine' kia_one kitx_tuple ?X ?c ?ee ?nb ?_; (case c => exact kitAt_B (by assumption) (by assumption)); (case X => walk_at "MINE X"); (case ee => kit_is); (case nb => kit_nb); k_whole; intro _)))
local macro_rules | `(tactic| walk_at "call type:type") => `(tactic| (k_here; (with_reducible show wpAny _ _ (call (Value.type "type") [Value.ref _]) _ _ _); k_dflt (refine kto_cont (T := "tuple") (kitAt_B (by assumption) (by assumption)) (by decide +kernel) ?_)))
local macro_rules | `(tactic| walk_at "call ref") => `(tactic| (k_here; (with_reducible show wpAny _ _ (call (Value.ref 648) _) _ _ _); refine park ?_))
local macro_rules | `(tactic| walk_at "call ref") => `(tactic| (k_here; (with_reducible show wpAny _ _ (call (Value.ref 542) _) _ _ _); refine park ?_))
local macro_rules | `(tactic| walk_at "SrcG") => `(tactic| (refine park ?_))
theorem t_src {h₀ : Heap} {L fa : Addr} {cd : Value} {env : Env} {sc : Scope} {m : Str → Option Value} {co : Obj} {tx : Str} {tt : Tok} {Q : Value → Shared → Prop}
  (henv : env = lawEnv L fa cd) (hsc : sc = lawScope2)
  (X : (Mine.hd2.heap_39 w.params).In h₀) (T : Top p loose mean mg mb h₀)
  (F : Fr h₀ L s.heap m) (N : News h₀ L s.heap [(L + 1, co)]) (hco : co.data = .cell (some (.str tx tt))) (htl : tx.length ≤ 23) (htx : Letters tx) (hg0 : s.gens = #[])
  (hfin : ∀ hB, Keeps s.heap hB → ∀ (s' : Shared) D its n g', Keeps hB s'.heap → (s'.heap.get? D = some (lstN its n) ∧ hB.get? D = none) → Keeps g' s'.heap → (∀ b o, g'.get? b = some o → hB.get? b = none ∧ b ≠ D) → OutsAre hB g' its (out Fam.init tx.cps.toList 0) → s'.os = s.os → AllBare s'.gens → Q (.ref D) s') :
  wpAny (model PG w) (callerA.deeper env) (eval lawIter env) (SrcG PG w (callerA.deeper env) lawElt (Str.ofString "index") (Str.ofString "kind") (Str.ofString "value") sc [] env Q) (fun _ _ => False) s := by
  have helt : ∀ hB : Heap, (Mine.hd2.heap_39 w.params).In hB → Top p loose mean mg mb hB → EltOk PG w (callerA.deeper env) lawElt (Str.ofString "index") (Str.ofString "kind") (Str.ofString "value") sc [] env hB 66 := fun hB X' T' => t_elt henv hsc X' T'
  have henv' : env = envOfC _ _ L fa cd := henv
  with_unfolding_all (show wpAny _ _ (eval (Expr.Call _ _ _ _) _) _ _ _)
  generalize hQQ : SrcG PG w (callerA.deeper env) lawElt (Str.ofString "index") (Str.ofString "kind") (Str.ofString "value") sc [] env Q = QQ
  clear henv hsc
  subst henv'
  k_steps
  refine unpark ?_
  refine wpAny_call ?_
  refine t_reader (by walk_at "MINE X") (by walk_at "MINE T") (by k_room) (by k_units) ?_
  intro h' k x dx pr g3 kvo a1 a2 a3 a4 a5 a6 a7 a8 a9 b1 b2 b3 b4 b5 b6 b7 b8 b9 v1 v2 v3 v4 v5 v6 v7 v8 hk hx hdx hk3 hd3 ht3
  have hT := table_at hk3 hd3 ht3
  obtain ⟨F1, N1, o1⟩ := news_add F N hk hx
  obtain ⟨F2, N2, o2⟩ := news_add F N hk hdx
  have N3 : News h₀ L h' ((x, instObj 634 dx) :: (dx, dictOf [⟨a1, .str "options" b1, v1⟩, ⟨a2, .str "stripnl" b2, v2⟩, ⟨a3, .str "stripall" b3, v3⟩, ⟨a4, .str "ensurenl" b4, v4⟩, ⟨a5, .str "filters" b5, v5⟩, ⟨a6, .str "tables" b6, v6⟩, ⟨a7, .str "_all_tokens" b7, v7⟩, ⟨a8, .str "_tmpname" b8, v8⟩, ⟨a9, .str "_tokens" b9, .ref pr⟩] 9) :: [(L + 1, co)]) := List.forall_mem_cons.mpr ⟨N1 _ (.head _), N2⟩
  clear N1 N2 F2 hd3 ht3 hk3
  dsimp only
  k_sweep
  k_steps
  refine unpark ?_
  refine wpAny_call ?_
  have hll : tx.cps.toList.length = tx.length := by simp [Str.length]
  refine gen_call (h₀ := h') (TT := T2) (tab := pr) (fuel := tx.cps.toList.length + 1) (by k_room) (by k_units) (X.keeps F1.keep) (T.keeps F1.keep) hx.1 hdx.1 hT (by omega) T2_pats (by omega) (lex_law htx) (X.keeps F1.keep) (T.keeps F1.keep) (fun _ _ e => e) (Nat.le_refl _) ?_
  intro Lg ga c h'' k2 hLg hk2 hgen hown hseg
  dsimp only
  rw [← hQQ]
  have hLg : Lg = h'.objs.size := hLg
  refine ⟨ga, s.gens.size, c, Lg, 66, h', out Fam.init tx.cps.toList 0, rfl, rfl, T.nolimit.keeps F1.keep, by k_room, hk2, ?q1, ?q2, hgen, by simp, hown, ?q3, fun sx h1 h2 => hseg _ _ _ _ sx ?q4 ?q5 h1 h2, helt h' (X.keeps F1.keep) (T.keeps F1.keep), ?q6⟩
  case q1 =>
    obtain ⟨o, ho⟩ := (show ∃ o, h''.get? Lg = some o from let ⟨_, ⟨o, _, _, ho, _⟩, _⟩ := hown; ⟨o, ho⟩)
    rw [← hLg]
    exact Nat.le_of_lt (Heap.lt_size ho)
  case q2 => rw [hLg]; exact Heap.get?_none_of_le (Nat.le_refl _)
  case q3 => rw [out_len]; omega
  case q4 => k_room
  case q5 => k_units
  case q6 =>
    intro s' D its n g' k1 hD kg hf hout hos hgz hfin'
    exact hfin h' hk s' D its n g' k1 hD kg hf hout hos (bare_one (by rw [hgz]; simp [hg0]) (by simpa [hg0] using hfin'))
end
end Mine
end
section
open PySem PySem.W PyProof.Rows PySem.Calls PyProof.Rows.LCg
set_option Elab.async false
set_option maxRecDepth 100000
set_option maxHeartbeats 8000000
namespace Mine
section
variable {prog : Program} {w : World} {A : Around} {E : Value → Shared → Prop} {s : Shared}
def EltE (prog : Program) (w : World) (A : Around) (elt : Expr) (x1 x2 : Str) (scope : Scope) (cl : List (Str × Addr)) (env : Env) (hB : Heap) (tx : Str) : Prop :=
  ∀ (s' : Shared) (C : Addr) (m₂ : Str → Option Value) (i c : Nat) (a : Addr) (t1 : Tok), s'.heap.Ns C m₂ → hB.objs.size ≤ C → Keeps hB s'.heap → m₂ x1 = some (.int (i : Int) t1) → m₂ x2 = some (.ref a) → tx.cps[i]? = some c → ∀ (Q : Value → Shared → Prop) (E' : Value → Shared → Prop),
      (∀ h' tk T n u1 u2, (∀ b o, b ≠ C → s'.heap.get? b = some o → h'.get? b = some o) → h'.Ns C m₂ → (h'.get? T = some { cls := .type "tuple", data := .seq #[.int (i : Int) u1, .ref a, .str ⟨#[c]⟩ u2] n } ∧ s'.heap.get? T = none) → Q (.ref T) { s' with heap := h', toks := tk }) →
      wpAny (model prog w) A (eval elt (compEnvC scope cl C env)) Q E' s'
theorem comp_enum {elt iter : Expr} {x1 x2 : Str} {p1 p2 tp : Pos} {tkk : Nat} {scope : Scope} {cl : List (Str × Addr)} {pos : Pos} {env : Env} {hB : Heap} {e it l : Addr} {items : Array Value} {all : List LTok} {tx : Str} {RR : Value → Addr → Result → Shared → Prop}
    (hh : A.handled = none) (hcell : ∀ y ∈ scope.names, y.2 ≠ .cell) (hkind : scope.kind = .function) (hx1 : scope.names.lookup x1 = some .local) (hx2 : scope.names.lookup x2 = some .local) (hne : x1 ≠ x2)
    (kB : Keeps hB s.heap) (hsz : hB.objs.size ≤ s.heap.objs.size) (hei : e ≠ it) (hle : l ≠ e) (hli : l ≠ it) (hBe : hB.get? e = none) (hBi : hB.get? it = none)
    (hst : IsEnum s.heap e it 0 .none) (hsi : s.heap.IsListIter it l 0) (hl : s.heap.IsList l items) (hn : items.size = all.length) (hall : all.length ≤ 10000)
    (hitems : ∀ (i : Nat) (v : Value), items[i]? = some v → ∃ (tok : LTok) (a : Addr) (vs : List Value), all[i]? = some tok ∧ v = .ref a ∧ IsTup hB a vs.toArray ∧ StrsAre vs tok.names ∧ tok.pos = i ∧ tx.cps[i]? = some tok.val)
    (helt : EltE prog w A elt x1 x2 scope cl env hB tx)
    (hRR : ∀ h' tk D C m' its n g', Keeps hB h' → h'.get? D = some (lstN its n) → hB.get? D = none → h'.Ns C m' → hB.get? C = none → C ≠ D → Keeps g' h' → (∀ b o, g'.get? b = some o → hB.get? b = none ∧ b ≠ D ∧ b ≠ C) → OutsAre hB g' its all → RR (.ref D) C (.ok .next) { s with heap := h', toks := tk }) :
    wpAny (model prog w) A (newList []) (fun acc s₃ => wpAny (model prog w) A (newFunctionEnv scope env.globals cl [] env.qual none .none (some env)) (fun cenv s₄ =>
      codeAny (model prog w) A (.compStart (.ListComp elt [⟨.Tuple [.Name x1 p1, .Name x2 p2] tkk tp, iter, [], 0⟩] scope pos) 0 (.ref e) acc { cenv with scope := relabel scope env }) (RR acc cenv.locals) s₄) E s₃) E s := by
  have W := WalksT.enumerate (prog := prog) (w := w) (A := A) hh e it l hei hle hli items
  have hes : e < s.heap.objs.size := Heap.lt_size hst
  refine wpAny_newObj_type (wpAny_newFunctionEnv hcell (by intro y hy; simp at hy) (fun h₁ hns₁ hsb₁ => ?_) hkind)
  dsimp only at hns₁ hsb₁ ⊢
  generalize hH2 : s.heap.push { cls := .type "list", dict := none, data := .seq ([] : List Value).toArray } = H2 at hns₁ hsb₁ ⊢
  generalize hDd : s.heap.objs.size = D at *
  generalize hCd : H2.objs.size = C at *
  have hC : C = D + 1 := by rw [← hCd, ← hH2, Heap.size_push, hDd]
  have hCD : C ≠ D := by rw [hC]; exact Nat.succ_ne_self D
  have below : ∀ b o, s.heap.get? b = some o → b ≠ C ∧ b ≠ D := fun b o e => by
    have := Heap.lt_size e
    rw [hDd] at this
    exact ⟨by rw [hC]; exact Nat.ne_of_lt (Nat.lt_succ_of_lt this), Nat.ne_of_lt this⟩
  have old : ∀ b o, s.heap.get? b = some o → h₁.get? b = some o := fun b o e => hsb₁.extBut b o (below b o e).1 (Heap.get?_push_of_some _ (by rw [← hH2]; exact Heap.get?_push_of_some _ e))
  have hacc : h₁.get? D = some (lst []) := hsb₁.extBut _ _ hCD.symm (Heap.get?_push_of_some _ (by rw [← hH2, ← hDd]; exact Heap.get?_push_size _ rfl))
  have fresh : ∀ a, D ≤ a → s.heap.get? a = none := fun a ha => by
    cases e : s.heap.get? a with
    | none => rfl
    | some o' => have := Heap.lt_size e; rw [hDd] at this; exact absurd this (Nat.not_lt.mpr ha)
  have hDs : s.heap.get? D = none := fresh D (Nat.le_refl _)
  have hCs : s.heap.get? C = none := fresh C (by rw [hC]; exact Nat.le_succ _)
  have hBn : ∀ a, s.heap.get? a = none → hB.get? a = none := fun a e => none_of kB e
  have hBC : hB.objs.size ≤ C := by rw [hC]; exact Nat.le_succ_of_le hsz
  obtain ⟨oi, hoi, _⟩ := id hsi
  obtain ⟨ol, hol, _⟩ := id hl
  have heCD := below e _ hst
  have hiCD := below it _ hoi
  have hlCD := below l _ hol
  have loop : ∀ s₃ : Shared, s₃ = { s with heap := h₁, toks := s.toks + ([] : List (Str × Value)).length } →
      codeAny (model prog w) A (.compLoop (.ListComp elt [⟨.Tuple [.Name x1 p1, .Name x2 p2] tkk tp, iter, [], 0⟩] scope pos) 0 (.ref e) (.ref D) (compEnvC scope cl C env)) (RR (.ref D) C) s₃ := by
    rintro s₃ rfl
    refine LCp.codeAny_compLoop_pair
      (fun n s' => ∃ h' tk i ys m' g', s' = { s with heap := h', toks := tk } ∧ i ≤ items.size ∧ n = items.size + 1 - i ∧ ys.length = i ∧ ((∃ old, IsEnum h' e it i old) ∧ h'.IsListIter it l i ∧ h'.IsList l items) ∧ (∀ b o, b ≠ e → b ≠ it → s.heap.get? b = some o → h'.get? b = some o) ∧ h'.Ns C m' ∧ h'.get? D = some (lst ys) ∧ Keeps g' h' ∧
        (∀ b o, g'.get? b = some o → s.heap.get? b = none ∧ b ≠ D ∧ b ≠ C) ∧ OutsAre hB g' ys (all.take i)) ?_ (items.size + 1)
      ⟨h₁, _, 0, [], _, E0, rfl, Nat.zero_le _, rfl, rfl, ⟨⟨_, old _ _ hst⟩, hsi.at fun o x => old it o x, hl.at fun o x => old l o x⟩, fun b o _ _ x => old b o x, hns₁, hacc, E0_keeps _, fun b o e => (by rw [E0_none] at e; cases e), .nil⟩
    rintro n s' ⟨h', tk, i, ys, m', g', rfl, hi, rfl, hyl, hSt, KL, hns, hD, kg, hgf, hout⟩
    have kB' : Keeps hB h' := fun b o x => KL b o (fun z => by rw [z, hBe] at x; cases x) (fun z => by rw [z, hBi] at x; cases x) (kB _ _ x)
    have hg'e : ∀ b o, g'.get? b = some o → b ≠ e ∧ b ≠ it := fun b o x => ⟨fun z => (by have := (hgf b o x).1; rw [z, show s.heap.get? e = some _ from hst] at this; cases this), fun z => (by have := (hgf b o x).1; rw [z, hoi] at this; cases this)⟩
    by_cases hlt : i < items.size
    · refine W.item i { s with heap := h', toks := tk } _ _ hlt hSt fun T vals h₂ tk₂ hPt hTs hT hMid hk₂ => ?_
      obtain ⟨t1, v, hv, rfl⟩ := hPt
      obtain ⟨tok, a, vs, htok, rfl, hta, hsa, hpos, hval⟩ := hitems i v hv
      refine W.go _ _ _ i T { s with heap := h₂, toks := tk₂ } _ _ hMid fun h₀ hSt₀ hk₀ => ?_
      have hTw : T ∉ [e, it] := W.apart i T _ hMid
      have k0 : ∀ b o, b ≠ e → b ≠ it → h'.get? b = some o → h₀.get? b = some o := fun b o n1 n2 x => hk₀ b o (by simp [n1, n2]) (hk₂ b o (by simp [n1, n2]) x)
      have htup : IsTup h₀ T #[.int (i : Int) t1, .ref a] := by
        obtain ⟨o, ho, r⟩ := hT
        exact ⟨o, hk₀ T o hTw ho, r⟩
      refine assign_Tuple_tuple hh htup rfl rfl fun h₅ he => ?_
      have he' : ∀ b o, h₀.get? b = some o → h₅.get? b = some o := fun b o x => he b o (Nat.ne_of_lt (Heap.lt_size x)) x
      have N0 : h₀.Ns C m' := hns.at' fun o x => k0 C o heCD.1.symm hiCD.1.symm x
      refine assignInOrder_cons (wpAny_assign_Name (wpAny_storeName_local (lookup_relabel_local hx1) (N0.at' fun o x => he' _ o x) (fun h₆ hn₆ hs₆ => ?_) (by simp [compEnvC, relabel, hkind])))
      refine assignInOrder_cons (wpAny_assign_Name (wpAny_storeName_local (lookup_relabel_local hx2) hn₆ (fun h₃ hn₃ hs₃ => ?_) (by simp [compEnvC, relabel, hkind])))
      refine assignInOrder_nil ?_
      have old3 : ∀ b o, b ≠ C → h₀.get? b = some o → h₃.get? b = some o := fun b o hb x => hs₃.extBut b o hb (hs₆.extBut b o hb (he' b o x))
      refine helt _ C _ i tok.val a t1 hn₃ hBC (fun b o x => old3 b o (fun z => by have := kB _ _ x; rw [z, hCs] at this; cases this) (k0 b o (fun z => by rw [z, hBe] at x; cases x) (fun z => by rw [z, hBi] at x; cases x) (kB' _ _ x))) ?n1 ?n2 hval _ _ ?_
      case n1 => simp [hne]
      case n2 => simp
      intro h₄ tk₄ T' nT u1 u2 k4 hn₄ hT'
      have hT3 : h₃.get? T' = none := hT'.2
      have D0 : h₀.get? D = some (lst ys) := k0 D _ heCD.2.symm hiCD.2.symm hD
      have D4 : h₄.get? D = some (lst ys) := k4 _ _ hCD.symm (old3 D _ hCD.symm D0)
      refine append_at (hsz := by show ys.toArray.size ≤ sizeLine; rw [List.size_toArray, hyl, sizeLine_eq]; omega) D4 fun h₅' hs₅ hD₅ => ?_
      have keep5 : ∀ b o, b ≠ C → b ≠ D → h₀.get? b = some o → h₅'.get? b = some o := fun b o h1 h2 x => hs₅.extBut b o h2 (k4 _ _ h1 (old3 b o h1 x))
      have nT1 : ∀ b o, b ≠ C → h₀.get? b = some o → T' ≠ b := fun b o h1 x z => by rw [z, old3 b o h1 x] at hT3; cases hT3
      have hTC : T' ≠ C := fun z => by obtain ⟨o, _, _, ho, _⟩ := hn₃; have ho' : h₃.get? C = some o := ho; rw [z, ho'] at hT3; cases hT3
      have hTD : T' ≠ D := nT1 D _ hCD.symm D0
      have kg0 : ∀ b o, g'.get? b = some o → h₀.get? b = some o := fun b o x => k0 b o (hg'e b o x).1 (hg'e b o x).2 (kg b o x)
      obtain ⟨g'', hb'', kk, hnew⟩ := grow (g := g') (h := h₅') (rest0 := []) (new := [(T', ({ cls := .type "tuple", data := .seq #[.int (i : Int) u1, .ref a, .str ⟨#[tok.val]⟩ u2] nT } : Obj))]) (fun b o x => keep5 b o (hgf b o x).2.2 (hgf b o x).2.1 (kg0 b o x)) (List.forall_mem_cons.mpr ⟨hs₅.extBut T' _ hTD hT'.1, fun _ h => (List.not_mem_nil h).elim⟩) (BearsG.start g' [])
      rw [List.append_nil] at hb''
      have g''mem : ∀ b o, g''.get? b = some o → g'.get? b = some o ∨ b = T' := fun b o x => by
        rcases hb''.2 b o x with q | q
        · exact .inl q
        · right; rw [List.mem_singleton] at q; exact congrArg Prod.fst q
      obtain ⟨⟨old0, he0⟩, hit0, hl0⟩ := hSt₀
      have hTs' : s.heap.get? T' = none := by
        cases q : s.heap.get? T' with
        | none => rfl
        | some o =>
          exfalso
          by_cases z1 : T' = e
          · exact nT1 e _ heCD.1 he0 z1
          · by_cases z2 : T' = it
            · obtain ⟨o2, ho2, _⟩ := id hit0
              exact nT1 it _ hiCD.1 ho2 z2
            · exact nT1 T' o hTC (k0 T' o z1 z2 (KL T' o z1 z2 q)) rfl
      have htake : all.take (i + 1) = all.take i ++ [tok] := by rw [List.take_add_one, htok]; rfl
      refine ⟨items.size + 1 - (i + 1), by omega, h₅', tk₄, i + 1, ys ++ [.ref T'], _, g'', rfl, hlt, rfl, by simp [hyl], ⟨⟨old0, keep5 e _ heCD.1 heCD.2 he0⟩, hit0.at fun o x => keep5 it o hiCD.1 hiCD.2 x, hl0.at fun o x => keep5 l o hlCD.1 hlCD.2 x⟩, fun b o n1 n2 x => keep5 b o (below _ _ x).1 (below _ _ x).2 (k0 b o n1 n2 (KL b o n1 n2 x)), hn₄.at' fun o x => hs₅.extBut C o hCD x, hD₅.trans (congrArg some (lst_snoc ys (.ref T'))), ?kgn, ?fresh, ?outs⟩
      case kgn =>
        intro b o x
        rcases hb''.2 b o x with q | q
        · exact keep5 b o (hgf b o q).2.2 (hgf b o q).2.1 (kg0 b o q)
        · rw [List.mem_singleton] at q
          cases q
          exact hs₅.extBut T' _ hTD hT'.1
      case fresh =>
        intro b o x
        rcases g''mem b o x with q | q
        · exact hgf b o q
        · rw [q]; exact ⟨hTs', hTD, hTC⟩
      case outs =>
        rw [htake]
        subst hpos
        exact (hout.kp kk).snoc ⟨T', a, vs, _, _, rfl, ⟨_, hnew _ (.head _), rfl, _, rfl⟩, hta, hsa⟩
    · obtain rfl : i = items.size := Nat.le_antisymm hi (Nat.not_lt.mp hlt)
      refine W.done { s with heap := h', toks := tk } _ _ hSt fun h₂ tk₂ hk₂ => ?_
      have k2 : ∀ b o, b ≠ e → b ≠ it → h'.get? b = some o → h₂.get? b = some o := fun b o n1 n2 x => hk₂ b o (by simp [n1, n2]) x
      rw [hn, List.take_length] at hout
      exact hRR h₂ tk₂ D C m' ys _ g' (fun b o x => k2 b o (fun z => by rw [z, hBe] at x; cases x) (fun z => by rw [z, hBi] at x; cases x) (kB' _ _ x)) (k2 D _ heCD.2.symm hiCD.2.symm hD) (hBn _ hDs) (hns.at' fun o x => k2 C o heCD.1.symm hiCD.1.symm x) (hBn _ hCs) hCD (fun b o x => k2 b o (hg'e b o x).1 (hg'e b o x).2 (kg b o x)) (fun b o x => ⟨hBn _ (hgf b o x).1, (hgf b o x).2⟩) hout
  exact codeAny_compStart_list (loop _ rfl) (wpAny_pyIter_enum (old _ _ hst) (loop _ rfl))
end
end Mine
end
section
open PySem PySem.W PyProof.Rows PySem.Calls PyProof.Rows.LCg
set_option Elab.async false
set_option maxRecDepth 100000
set_option maxHeartbeats 8000000
namespace Mine
section
variable {prog : Program} {w : World} {A : Around} {E : Value → Shared → Prop} {s : Shared}
def SrcE (prog : Program) (w : World) (A : Around) (elt : Expr) (x1 x2 : Str) (scope : Scope) (cl : List (Str × Addr)) (env : Env) (Q : Value → Shared → Prop) (xv : Value) (s₁ : Shared) : Prop :=
  ∃ e it l items hB all tx, xv = .ref e ∧ A.handled = none ∧ Keeps hB s₁.heap ∧ hB.objs.size ≤ s₁.heap.objs.size ∧ e ≠ it ∧ l ≠ e ∧ l ≠ it ∧ hB.get? e = none ∧ hB.get? it = none ∧ IsEnum s₁.heap e it 0 .none ∧ s₁.heap.IsListIter it l 0 ∧ s₁.heap.IsList l items ∧ items.size = all.length ∧ all.length ≤ 10000 ∧
    (∀ (i : Nat) (v : Value), items[i]? = some v → ∃ (tok : LTok) (a : Addr) (vs : List Value), all[i]? = some tok ∧ v = .ref a ∧ IsTup hB a vs.toArray ∧ StrsAre vs tok.names ∧ tok.pos = i ∧ tx.cps[i]? = some tok.val) ∧
    EltE prog w A elt x1 x2 scope cl env hB tx ∧
    (∀ h' tk D its n g', Keeps hB h' → (h'.get? D = some (lstN its n) ∧ hB.get? D = none) → Keeps g' h' → (∀ b o, g'.get? b = some o → hB.get? b = none ∧ b ≠ D) → OutsAre hB g' its all → Q (.ref D) { s₁ with heap := h', toks := tk })
theorem ListComp_E {elt iter : Expr} {x1 x2 : Str} {p1 p2 tp : Pos} {tkk : Nat} {scope : Scope} {cl : List (Str × Addr)} {pos : Pos} {env : Env} {Q : Value → Shared → Prop}
    (hclos : closureFor scope env = pure cl) (hcell : ∀ y ∈ scope.names, y.2 ≠ .cell) (hkind : scope.kind = .function)
    (hnames : ∀ y ∈ scope.names, y.2 = .local → scope.names.lookup y.1 = some .local) (hx1 : scope.names.lookup x1 = some .local) (hx2 : scope.names.lookup x2 = some .local) (hne : x1 ≠ x2)
    (h : wpAny (model prog w) A (eval iter env) (SrcE prog w A elt x1 x2 scope cl env Q) E s)
    (hs : ∀ x, foldedSetIterable iter env x = pure x := by intro _; rfl) :
    wpAny (model prog w) A (eval (.ListComp elt [⟨.Tuple [.Name x1 p1, .Name x2 p2] tkk tp, iter, [], 0⟩] scope pos) env) Q E s := by
  rw [eval_ListComp]
  refine wpAny_comprehension_free (use := none) rfl hs hclos hkind hnames (wpAny_mono h (fun xv s₁ h₁ => ?_) fun _ _ e => e)
  obtain ⟨e, it, l, items, hB, all, tx, rfl, hh, kB, hsz, hei, hle, hli, hBe, hBi, hst, hsi, hl, hn, hall, hitems, helt, hQ⟩ := h₁
  refine wpAny_pyIter_enum hst ?_
  refine comp_enum (tx := tx) hh hcell hkind hx1 hx2 hne kB hsz hei hle hli hBe hBi hst hsi hl hn hall hitems helt ?_
  intro h' tk D C m' its n g' k1 hD hDB hns hCB hCD kg hf hout
  refine ⟨m', hns, fun h'' hs'' => ?_⟩
  exact hQ h'' tk D its n g' (fun b o x => hs''.extBut b o (fun z => by rw [z, hCB] at x; cases x) (k1 b o x)) ⟨hs''.extBut D _ (Ne.symm hCD) hD, hDB⟩ (fun b o x => hs''.extBut b o (hf b o x).2.2 (kg b o x)) (fun b o x => ⟨(hf b o x).1, (hf b o x).2.1⟩) hout
def lawComp : Expr := match (lawBody[5]? : Option Stmt) with
  | some (.Return (some (.Compare _ _ (c :: _) _)) _) => c
  | _ => .Constant .none 0 ⟨0, 0, 0, 0⟩
def lawElt3 : Expr := match lawComp with
  | .ListComp e _ _ _ => e
  | _ => .Constant .none 0 ⟨0, 0, 0, 0⟩
def lawScope3 : Scope := match lawComp with
  | .ListComp _ _ sc _ => sc
  | _ => default
def lawIter3 : Expr := match lawComp with
  | .ListComp _ (c :: _) _ _ => c.iter
  | _ => .Constant .none 0 ⟨0, 0, 0, 0⟩
theorem tx_item {text : Str} {pos c : Nat} (h : text.cps[pos]? = some c) : Txt.item text (pos : Int) = ⟨#[c]⟩ := by
  have hl := lt_at h
  unfold Txt.item Txt.charAt
  rw [seqIndex_of (by omega) (by omega)]
  simp [h]
/-- what a token tells, as data -/
def datOf (k : LTok) : PyData := .tuple [.int (k.pos : Int), .tuple (k.names.map .str), .str ⟨#[k.val]⟩]
theorem strsRead {h : Heap} {vs : List Value} {ss : List Str} (x : StrsAre vs ss) : ReadsAll h vs (ss.map .str) [] := by
  induction x with
  | nil => exact .nil
  | cons y t _ ih => exact .cons (as := []) (.str _ _) ih
theorem OutsAre.reads {hB g h : Heap} {vs : List Value} {ks : List LTok} (x : OutsAre hB g vs ks) (k1 : Keeps hB h) (k2 : Keeps g h) : ∃ as, ReadsAll h vs (ks.map datOf) as := by
  induction x with
  | nil => exact ⟨[], .nil⟩
  | @cons v k vs' ks' a _ ih =>
    obtain ⟨as, ih⟩ := ih
    obtain ⟨t, b, vs, tk, tk2, rfl, ⟨o, ho, hc, n, hd⟩, ⟨o2, ho2, hc2, n2, hd2⟩, hs⟩ := a
    have r : ReadsAll h [Value.int (k.pos : Int) tk, .ref b, .str ⟨#[k.val]⟩ tk2] [.int (k.pos : Int), .tuple (k.names.map .str), .str ⟨#[k.val]⟩] [] := .cons (as := []) (.int _ _) (.cons (as := []) (.tuple (as := []) (k1 _ _ ho2) hc2 hd2 (by simpa using strsRead hs)) (.cons (as := []) (.str _ _) .nil))
    exact ⟨[] ++ as, .cons (as := []) (.tuple (as := []) (k2 _ _ ho) hc hd r) ih⟩
theorem strOk_ofString (x : String) : PyData.strOk (Str.ofString x) = true := by
  rw [Str.ofString_eq_toList]
  unfold PyData.strOk
  simp only [List.all_toArray, List.all_map, List.all_eq_true, Function.comp_apply, decide_eq_true_eq]
  intro c _
  have := c.valid
  show c.val.toNat < 0x110000
  rcases this with h | h
  · have h : c.val.toNat < 0xd800 := h
    omega
  · exact h.2
theorem strOk_app {x y : Str} (hx : PyData.strOk x = true) (hy : PyData.strOk y = true) : PyData.strOk (x ++ y) = true := by
  unfold PyData.strOk at *
  rw [Str.cps_append]
  simp only [Array.all_append, hx, hy, Bool.and_self]
theorem name_ok (f : Fam) (a : Int) : ∀ x ∈ f.name a, PyData.strOk x = true := by
  unfold Fam.name
  split
  · exact List.forall_mem_cons.mpr ⟨strOk_ofString _, List.forall_mem_cons.mpr ⟨strOk_app (strOk_ofString _) (strOk_ofString _), fun _ h => (List.not_mem_nil h).elim⟩⟩
  · exact List.forall_mem_cons.mpr ⟨strOk_app (strOk_ofString _) (strOk_ofString _), List.forall_mem_cons.mpr ⟨strOk_app (strOk_ofString _) (strOk_ofString _), fun _ h => (List.not_mem_nil h).elim⟩⟩
theorem out_ok : ∀ (l : List Nat) (f : Fam) (pos : Nat), (∀ c ∈ l, c = 10 ∨ (97 ≤ c ∧ c ≤ 100)) → ∀ k ∈ out f l pos, (∀ x ∈ k.names, PyData.strOk x = true) ∧ k.val < 1000
  | [], _, _, _, k, hk => by simp [out] at hk
  | c :: r, f, pos, hl, k, hk => by
    have hr : ∀ c ∈ r, c = 10 ∨ (97 ≤ c ∧ c ≤ 100) := fun x hx => hl x (.tail _ hx)
    unfold out at hk
    split at hk
    · rcases List.mem_cons.mp hk with rfl | hk
      · exact ⟨List.forall_mem_cons.mpr ⟨strOk_ofString _, List.forall_mem_cons.mpr ⟨strOk_ofString _, fun _ h => (List.not_mem_nil h).elim⟩⟩, by show 10 < 1000; omega⟩
      · exact out_ok r _ _ hr k hk
    · rcases List.mem_cons.mp hk with rfl | hk
      · exact ⟨name_ok _ _, by have := hl c (.head _); show c < 1000; omega⟩
      · exact out_ok r _ _ hr k hk
theorem canAll : ∀ xs : List PyData, (∀ d ∈ xs, d.canLay0 = true) → PyData.canLayAll0 xs = true
  | [], _ => by simp [PyData.canLayAll0]
  | x :: r, h => by simp [PyData.canLayAll0, h x (.head _), canAll r fun d hd => h d (.tail _ hd)]
theorem depAll (n : Nat) : ∀ xs : List PyData, (∀ d ∈ xs, d.depth ≤ n) → PyData.depthAll xs ≤ n
  | [], _ => by simp [PyData.depthAll]
  | x :: r, h => by
    have h1 := h x (.head _)
    have h2 := depAll n r fun d hd => h d (.tail _ hd)
    simp only [PyData.depthAll]
    omega
theorem dat_ok {k : LTok} (h : (∀ x ∈ k.names, PyData.strOk x = true) ∧ k.val < 1000) : (datOf k).canLay0 = true ∧ (datOf k).depth ≤ 10 := by
  constructor
  · unfold datOf
    simp only [PyData.canLay0]
    refine canAll _ (List.forall_mem_cons.mpr ⟨by simp [PyData.canLay0], List.forall_mem_cons.mpr ⟨?_, List.forall_mem_cons.mpr ⟨?_, fun _ h => (List.not_mem_nil h).elim⟩⟩⟩)
    · simp only [PyData.canLay0]
      refine canAll _ fun d hd => ?_
      obtain ⟨x, hx, rfl⟩ := List.mem_map.mp hd
      simpa [PyData.canLay0] using h.1 x hx
    · simp [PyData.canLay0, PyData.strOk]; have := h.2; omega
  · unfold datOf
    simp only [PyData.depth]
    have h1 : PyData.depthAll (k.names.map .str) ≤ 1 := depAll 1 _ fun d hd => by
      obtain ⟨x, hx, rfl⟩ := List.mem_map.mp hd
      simp [PyData.depth]
    simp only [PyData.depthAll, PyData.depth]
    omega
theorem shaped_all {ks : List LTok} (h : ∀ k ∈ ks, (∀ x ∈ k.names, PyData.strOk x = true) ∧ k.val < 1000) : SeqAt.shaped (.list (ks.map datOf)) = true := by
  unfold SeqAt.shaped
  have h1 : PyData.canLayAll0 (ks.map datOf) = true := canAll _ fun d hd => by
    obtain ⟨k, hk, rfl⟩ := List.mem_map.mp hd
    exact (dat_ok (h k hk)).1
  have h2 : PyData.depthAll (ks.map datOf) ≤ 10 := depAll 10 _ fun d hd => by
    obtain ⟨k, hk, rfl⟩ := List.mem_map.mp hd
    exact (dat_ok (h k hk)).2
  simp only [PyData.canLay0, PyData.depth, h1, Bool.true_and]
  exact decide_eq_true (by omega)
theorem same_told {hB g1 hB2 g2 : Heap} {D1 D2 : Addr} {its1 its2 : List Value} {n1 n2 : Nat} {ks : List LTok} {Q : Value → Shared → Prop} (hok : ∀ k ∈ ks, (∀ x ∈ k.names, PyData.strOk x = true) ∧ k.val < 1000)
    (a1 : s.heap.get? D1 = some (lstN its1 n1)) (a2 : s.heap.get? D2 = some (lstN its2 n2)) (o1 : OutsAre hB g1 its1 ks) (o2 : OutsAre hB2 g2 its2 ks) (k1 : Keeps hB s.heap) (k2 : Keeps g1 s.heap) (k3 : Keeps hB2 s.heap) (k4 : Keeps g2 s.heap) (hu : A.units + 64 < cLine)
    (h : Q (.bool true) s) : wpAny (model prog w) A (compareOp .Eq (.ref D1) (.ref D2)) Q E s := by
  obtain ⟨as, r1⟩ := o1.reads k1 k2
  obtain ⟨bs, r2⟩ := o2.reads k3 k4
  have hs := shaped_all hok
  refine SeqAt.compareEq_shaped (Reads.list a1 rfl rfl (by simpa using r1)) (Reads.list a2 rfl rfl (by simpa using r2)) hs hs hu ?_
  rw [SeqAt.eqv_refl _ (SeqAt.canLay_of_shaped hs)]
  exact h
end
end Mine
end
section
namespace Mine
section
variable {w : World} {d u : Nat} {gd : Option (List Code)} {base : Heap} {outer : List Env} {s : Shared} {p : Program} {loose : List Str} {mean : ExcName → Option Value} {mg mb : Str → Option Value}
local macro_rules | `(tactic| k_inst) => `(tactic| exact inst_base (by k_asm) (by assumption) (by assumption))
local macro_rules | `(tactic| k_room) => `(tactic| ((try simp only [depth_under_make, depth_under_kw, depth_in1, depth_deeper, depth_caller, depth_mk, Around.in1_depth, rl_is]); omega))
local macro_rules | `(tactic| k_units) => `(tactic| ((try simp only [Around.in1_units, Around.deeper_units, Around.mark_units, units_mk, cl_is]); omega))
local macro_rules | `(tactic| walk_at "truthy str") => `(tactic| (k_here; (with_reducible refine truthy_ch ?_); intro _))
local macro_rules | `(tactic| walk_at "call builtin:str.join") => `(tactic| (k_here; (refine join_one (by is_list) ?_); intro _ _))
local macro_rules | `(tactic| walk_at "MINE enter") => `(tactic| (refine' enter ?mX ?mT ?k6 ?k7 ?k8 ?k9 ?kB ?_ ?c2 ?c3 ?c4 ?c5; (case mX => assumption); (case mT => assumption); (case k6 => k_is); (case k7 => k_is); (case k8 => k_room); (case k9 => first | exact BindsTo.of_eq rfl | exact binds_K (by assumption) rfl (by k_is) rfl rfl rfl); (case c5 => decide); (case kB => exact locs rfl); (case c2 => exact rfl); (case c3 => exact rfl); (case c4 => exact rfl); intro L' h' F' N'; (try dsimp only)))
local macro_rules | `(tactic| walk_at "BRest") => `(tactic| (with_unfolding_all first | (refine BRest.succ (fun I' it' h' tk' hit' off' F' N' => ?_)) | (refine BRest.zero (fun h' tk' F' N' => ?_))))
local macro_rules | `(tactic| walk_at "MINE obj") => `(tactic| first | assumption | exact Fr.keep (by assumption) _ _ (by assumption) | exact News.get (by assumption) (by k_mem))
local macro_rules | `(tactic| walk_at "MINE lst") => `(tactic| first | assumption | exact Heap.IsList.at (by assumption) (fun o e => Fr.keep (by assumption) _ o e) | is_list)
local macro_rules | `(tactic| walk_at "MINE X") => `(tactic| first | assumption | exact Frag.In.keeps (by assumption) (Fr.keep (by assumption)))
local macro_rules | `(tactic| walk_at "MINE T") => `(tactic| first | assumption | exact Top.keeps (by assumption) (Fr.keep (by assumption)))
local macro_rules | `(tactic| walk_at "MINE B") => `(tactic| first | assumption | exact Below.push (by assumption) (by assumption))
local macro_rules | `(tactic| k_enter) => `(tactic| (refine' code_def0 ?k2 ?k3 ?k4 ?k5 ?k6 ?k7 ?k8 ?k9 ?kB ?_ ?c2 ?c3 ?c4 ?c5; (case k2 => k_asm); (case k3 => k_asm); (case k4 => k_asm); (case k5 => k_asm); (case k6 => k_is); (case k7 => k_is); (case k8 => k_room); (case k9 => first | exact BindsTo.of_eq rfl | exact binds_K (by k_in) rfl (by k_is) rfl rfl rfl | fail "k_enter: no rule for these arguments"); (case c5 => decide); (case kB => exact locs rfl); (case c2 => exact rfl); (case c3 => exact rfl); (case c4 => exact rfl); k_whole; intro g' L' h' FG' F' N' X' T'; (try dsimp only); (try k_fold)))
local macro_rules | `(tactic| walk_at "subscriptTail") => `(tactic| (k_here; (with_reducible show wpAny _ _ (subscriptTail _ _ (Value.ref _) (Value.str _ _)) _ _ _); k_dflt (refine tab_item (by k_asm) (by assumption) (by assumption) ?_)))
local macro_rules | `(tactic| walk_at "subscriptTail") => `(tactic| (k_here; (with_reducible show wpAny _ _ (subscriptTail _ _ (Value.ref _) (Value.int _ _)) _ _ _); k_dflt (refine stk_last (by is_list) (by assumption) ?_)))
local macro_rules | `(tactic| k_all) => `(tactic| first | assumption | exact ne_of_allL (by assumption) | exact ne_of_allLt (by assumption) | exact ne_of_allLt (And.right (by assumption)) | exact ne_of_allLt (And.right (And.right (by assumption))) | exact ne_of_allLt (And.right (And.right (And.right (by assumption)))))
local macro_rules | `(tactic| k_enter) => `(tactic| (kp_kind "rest"; (refine' code_rest0 ?k2 ?k3 ?k4 ?k5 ?k6 ?k7 ?k8 ?kV ?kP ?kG ?kB ?_ ?c2 ?c3 ?c4 ?c5; (case k2 => k_asm); (case k3 => k_asm); (case k4 => k_asm); (case k5 => k_asm); (case k6 => k_is); (case k7 => k_is); (case k8 => k_room); (case kV => exact rfl); (case kP => exact rfl); (case kG => exact fun _ => rfl); (case kB => exact fun _ => locs rfl); (case c5 => decide); (case c2 => exact rfl); (case c3 => exact rfl); (case c4 => exact rfl); k_whole; intro D' g' L' h' l1 FG' F' N' X' T'; (try k_lt l1); (try dsimp only); (try k_fold))))
local macro_rules | `(tactic| k_enter) => `(tactic| (kp_kind "more"; (refine' code_more0 ?k2 ?k3 ?k4 ?k5 ?k6 ?k7 ?k8 ?kP ?kK ?kB ?_ ?c2 ?c3 ?c4 ?c5; (case k2 => k_asm); (case k3 => k_asm); (case k4 => k_asm); (case k5 => k_asm); (case k6 => k_is); (case k7 => k_is); (case k8 => k_room); (case kP => exact rfl); (case kK => exact fun _ => rfl); (case kB => exact fun _ => locs rfl); (case c5 => decide); (case c2 => exact rfl); (case c3 => exact rfl); (case c4 => exact rfl); k_whole; intro D' o' g' L' h' tk' l1 lo' hd' fs' FG' F' N' X' T'; (try k_lt l1); (try dsimp only); (try k_fold))))
local macro_rules | `(tactic| k_enter) => `(tactic| (kp_kind "both"; (refine' code_both0 ?k2 ?k3 ?k4 ?k5 ?k6 ?k7 ?k8 ?kV ?kP ?kQ ?kK ?kB ?_ ?c2 ?c3 ?c4 ?c5; (case k2 => k_asm); (case k3 => k_asm); (case k4 => k_asm); (case k5 => k_asm); (case k6 => k_is); (case k7 => k_is); (case k8 => k_room); (case kV => exact rfl); (case kP => exact rfl); (case kQ => exact fun _ => rfl); (case kK => exact fun _ _ => rfl); (case kB => exact fun _ _ => locs rfl); (case c5 => decide); (case c2 => exact rfl); (case c3 => exact rfl); (case c4 => exact rfl); k_whole; intro C' D' g' L' h' tk' l1 l2 l3 FG' F' N' X' T'; (try k_lt l1); (try k_lt l3); (try dsimp only); (try k_fold))))
local macro_rules | `(tactic| walk_at "subscriptTail Name UnaryOp ref int") => `(tactic| (k_here; (with_reducible show wpAny _ _ (subscriptTail _ _ (Value.ref _) (Value.int _ _)) _ _ _); k_dflt (refine stk_last (by is_list) (by assumption) ?_)))
local macro_rules | `(tactic| walk_at "truthy ref") => `(tactic| (k_here; (with_reducible show wpAny _ _ (truthy (Value.ref _)) _ _ _); k_dflt (first | refine truthy_tup (b := false) (by assumption) (by assumption) (by first | exact Nat.le_of_ble_eq_true rfl | omega) rfl ?_ | refine truthy_tup (b := true) (by assumption) (by assumption) (by first | exact Nat.le_of_ble_eq_true rfl | omega) rfl ?_); intro _))
local macro_rules | `(tactic| walk_at "truthy str") => `(tactic| (k_here; (with_reducible show wpAny _ _ (truthy (Value.str _ _)) _ _ _); k_dflt (refine KXt.truthy_pos (K := 1000) (by omega) (by omega) (by omega) ?_); intro _))
local macro_rules | `(tactic| walk_at "StarOf ref") => `(tactic| (k_here; k_dflt (refine star_tup (by assumption) (by assumption) (by assumption) (by first | exact Nat.le_of_ble_eq_true rfl | omega) ?_); intro h' F' N'; (try dsimp only [List.nil_append, List.cons_append]); (try k_sweep)))
local macro_rules | `(tactic| walk_at "callWith ref") => `(tactic| (k_here; (with_reducible show wpAny _ _ (callWith _ (Value.ref _) _ (backTo _ (starEach (Expr.Starred _ _ :: _ :: _) _)) []) _ _ _); k_dflt (refine' callWith_S3 ?k1 ?k2 ?_; (case k1 => k_asm); (case k2 => k_is); k_whole)))
local macro_rules | `(tactic| walk_at "call type:str") => `(tactic| (k_here; (with_reducible show wpAny _ _ (call (Value.type "str") [Value.int _ _]) _ _ _); k_dflt (refine str_int9 (by omega) (by omega) ?_); intro _ _))
local macro_rules | `(tactic| walk_at "MINE enterC") => `(tactic| (refine' enterC ?mX ?mT ?k6 ?k7 ?k8 ?k9 ?kB ?kD ?_ ?c2 ?c3 ?c4; (case mX => assumption); (case mT => assumption); (case k6 => k_is); (case k7 => k_is); (case k8 => k_room); (case k9 => first | exact BindsTo.of_eq rfl | exact binds_K (by assumption) rfl (by k_is) rfl rfl rfl); (case kB => exact rfl); (case kD => decide +kernel); (case c2 => exact rfl); (case c3 => exact rfl); (case c4 => exact rfl); intro L' h' tk' cells' F' N' Y'; k_cells Y'; (try simp only [List.cons_append, List.nil_append] at N'); (try dsimp only)))
local macro_rules | `(tactic| walk_at "compareOp In str ref") => `(tactic| (k_here; (with_reducible show wpAny _ _ (compareOp _ (Value.str _ _) (Value.ref _)) _ _ _); k_dflt (refine in_map (by assumption) (by assumption) (by assumption) (by assumption) ?_); intro _))
local macro_rules | `(tactic| walk_at "call builtin:isinstance") => `(tactic| (k_here; (with_reducible show wpAny _ _ (call _ [Value.ref _, Value.type _]) _ _ _); k_dflt (refine' kia_one kitx_tuple ?X ?c ?ee ?nb ?_; (case c => exact kitAt_B (by assumption) (by assumption)); (case X => walk_at "MINE X"); (case ee => kit_is); (case nb => kit_nb); k_whole; intro _)))
local macro_rules | `(tactic| walk_at "call builtin:isinstance") => `(tactic| (k_here; (with_reducible show wpAny _ _ (call _ [Value.ref _, Value.ref _]) _ _ _); k_dflt (refine' kia_one kitx_tuple ?X ?c ?ee ?nb ?_; (case c => exact kitAt_B (by assumption) (by assumption)); (case X => walk_at "MINE X"); (case ee => kit_is); (case nb => kit_nb); k_whole; intro _)))
local macro_rules | `(tactic| walk_at "call type:type") => `(tactic| (k_here; (with_reducible show wpAny _ _ (call (Value.type "type") [Value.ref _]) _ _ _); k_dflt (refine kto_cont (T := "tuple") (kitAt_B (by assumption) (by assumption)) (by decide +kernel) ?_)))
theorem t_elt3 {h₀ hB : Heap} {L fa : Addr} {cd : Value} {env : Env} {sc : Scope} {tx : Str} {tt : Tok} {co : Obj}
  (henv : env = lawEnv L fa cd) (hsc : sc = lawScope3)
  (X : (Mine.hd2.heap_39 w.params).In h₀) (T : Top p loose mean mg mb h₀) (kh : Keeps h₀ hB) (hc0 : h₀.get? (L + 1) = none) (hc : hB.get? (L + 1) = some co) (hco : co.data = .cell (some (.str tx tt))) (htl : tx.length ≤ 23) :
  EltE PG w (callerA.deeper env) lawElt3 (Str.ofString "place") (Str.ofString "names") sc [(Str.ofString "text", L + 1)] env hB tx := by
  intro s' C m₂ i c a t1 hns hsz kB m1 m2 hval Q E' hQ
  have henv' : env = envOfC _ _ L fa cd := henv
  with_unfolding_all (show wpAny _ _ (eval (Expr.Tuple _ _ _) _) _ _ _)
  have hsc' : sc = Scope.mk _ _ _ _ _ := hsc
  clear henv hsc
  subst henv' hsc'
  have hCc : L + 1 ≠ C := fun z => by
    have := Heap.lt_size hc
    rw [z] at this
    exact absurd this (Nat.not_lt.mpr hsz)
  have kB' : Keeps (hideAll hB [L + 1]) s'.heap := fun b o e => kB _ _ (of_hideAll _ e)
  have hsz' : (hideAll hB [L + 1]).objs.size ≤ C := by rw [hideAll_size]; exact hsz
  have kh' : Keeps h₀ (hideAll hB [L + 1]) := fun b o e => hideAll_get _ (kh _ _ e) (fun q => by
    rw [List.mem_singleton.mp q, hc0] at e; cases e)
  have X' := X.keeps kh'
  have T' := T.keeps kh'
  have F : Fr (hideAll hB [L + 1]) C s'.heap m₂ := ⟨hns, kB', hsz'⟩
  obtain ⟨rest, N, _, hcov⟩ := cover_exists (hideAll hB [L + 1]) s'.heap C none kB'
  have N2 : News (hideAll hB [L + 1]) C s'.heap ((L + 1, co) :: rest) := List.forall_mem_cons.mpr ⟨⟨kB _ _ hc, hCc, hideAll_none _ (.head _)⟩, N⟩
  clear N X T
  replace F := Fr.re (m' := fun y => if y = Str.ofString "place" then some (.int (i : Int) t1) else if y = Str.ofString "names" then some (.ref a) else m₂ y) F (by
    intro y
    split
    · rename_i e; rw [e, m1]
    split
    · rename_i e; rw [e, m2]
    rfl)
  have q1 := m1
  have q2 := m2
  clear m1 m2 hns
  have e0 : ∀ y, (if y = Str.ofString "place" then some (Value.int (i : Int) t1) else if y = Str.ofString "names" then some (.ref a) else m₂ y) = m₂ y := fun y => by
    split
    · rename_i e; rw [e, q1]
    split
    · rename_i e; rw [e, q2]
    rfl
  have hlt := lt_at hval
  have hi0 : (0 : Int) ≤ (i : Int) := by omega
  have hi1 : (i : Int) < (tx.length : Int) := by omega
  clear q1 q2
  k_steps
  all_goals try k_data
  rename Fr _ _ _ _ => F9
  rename News _ _ _ _ => N9
  rw [tx_item hval] at N9
  have F10 := Fr.re (m' := m₂) F9 (fun y => (e0 y).symm)
  refine hQ _ _ _ _ _ _ (fun b o hb e => ?_) F10.ns ⟨(N9 _ (.head _)).1, ?_⟩
  · rcases hcov b o hb (by simp) e with q | q
    · exact F9.keep _ _ q
    · exact (N9 _ (.tail _ (.tail _ q))).1
  · rename (_ < _ ∧ AllLt _ rest) => hl9
    have z := N9 _ (.head _)
    generalize hq : s'.heap.get? _ = q at *
    cases q with
    | none => rfl
    | some o =>
      rcases hcov _ o z.2.1 (by simp) hq with y | y
      · rw [z.2.2] at y; cases y
      · exact absurd rfl (ne_of_allLt hl9.2 _ y)
local macro_rules | `(tactic| walk_at "call type:enumerate") => `(tactic| (k_here; refine park ?_))
theorem t_src3 {h₀ : Heap} {L fa wl : Addr} {cd : Value} {env : Env} {sc : Scope} {m : Str → Option Value} {co : Obj} {tx : Str} {tt : Tok} {gv : Heap} {its : List Value} {ne : Nat} {Q : Value → Shared → Prop}
  (henv : env = lawEnv L fa cd) (hsc : sc = lawScope3)
  (X : (Mine.hd2.heap_39 w.params).In h₀) (T : Top p loose mean mg mb h₀)
  (F : Fr h₀ L s.heap m) (m1 : m (Str.ofString "wanted") = some (.ref wl)) (N : News h₀ L s.heap [(wl, lstN its ne), (L + 1, co)]) (hco : co.data = .cell (some (.str tx tt))) (htl : tx.length ≤ 23)
  (kg : Keeps gv s.heap) (hN : NamesAre gv its ((out Fam.init tx.cps.toList 0).map (·.names)))
  (hfin : ∀ h' tk D its n g', Keeps s.heap h' → (h'.get? D = some (lstN its n) ∧ s.heap.get? D = none) → Keeps g' h' → OutsAre s.heap g' its (out Fam.init tx.cps.toList 0) → Q (.ref D) { s with heap := h', toks := tk }) :
  wpAny (model PG w) (callerA.deeper env) (eval lawIter3 env) (SrcE PG w (callerA.deeper env) lawElt3 (Str.ofString "place") (Str.ofString "names") sc [(Str.ofString "text", L + 1)] env Q) (fun _ _ => False) s := by
  have helt : EltE PG w (callerA.deeper env) lawElt3 (Str.ofString "place") (Str.ofString "names") sc [(Str.ofString "text", L + 1)] env s.heap tx := t_elt3 henv hsc X T F.keep (N _ (.tail _ (.head _))).2.2 (N _ (.tail _ (.head _))).1 hco htl
  have henv' : env = envOfC _ _ L fa cd := henv
  with_unfolding_all (show wpAny _ _ (eval (Expr.Call _ _ _ _) _) _ _ _)
  generalize hQQ : SrcE PG w (callerA.deeper env) lawElt3 (Str.ofString "place") (Str.ofString "names") sc [(Str.ofString "text", L + 1)] env Q = QQ
  clear henv hsc
  subst henv'
  replace F := Fr.re (m' := fun y => if y = Str.ofString "wanted" then some (.ref wl) else m y) F (by
    intro y
    split
    · rename_i e; rw [e, m1]
    rfl)
  clear m1
  k_steps
  refine unpark ?_
  have hlist : s.heap.IsList wl its.toArray := ⟨_, (N _ (.head _)).1, rfl, _, rfl⟩
  refine call_enumerate_list hlist fun h' he hi hsz hk => ?_
  rw [← hQQ]
  have hlt : wl < s.heap.objs.size := Heap.lt_size (N _ (.head _)).1
  have hll : tx.cps.toList.length = tx.length := by simp [Str.length]
  have hln : its.length = (out Fam.init tx.cps.toList 0).length := by rw [hN.len, List.length_map]
  refine ⟨s.heap.objs.size + 1, s.heap.objs.size, wl, its.toArray, s.heap, out Fam.init tx.cps.toList 0, tx, rfl, rfl, hk, by rw [hsz]; exact Nat.le_add_right _ _, Nat.succ_ne_self _, Nat.ne_of_lt (Nat.lt_succ_of_lt hlt), Nat.ne_of_lt hlt, Heap.get?_none_of_le (Nat.le_succ _), Heap.get?_none_of_le (Nat.le_refl _), he, hi, hlist.at fun o e => hk wl o e, by simpa using hln, by rw [out_len]; omega, ?q1, helt, ?q2⟩
  case q1 =>
    intro i v hv
    obtain ⟨ns, hns, a, vs, e, ht, hs, _⟩ := hN.get (by simpa using hv)
    rw [List.getElem?_map] at hns
    obtain ⟨tok, htok, e2⟩ := Option.map_eq_some_iff.mp hns
    obtain ⟨hp, hval⟩ := out_get _ _ _ _ _ htok
    refine ⟨tok, a, vs, htok, e, IsTup.kp kg ht, by rw [e2]; exact hs, by omega, ?_⟩
    rw [← Array.getElem?_toList]
    exact hval
  case q2 =>
    intro h' tk D its' n g' k1 hD kg' hf hout
    exact hfin h' tk D its' n g' k1 hD kg' hout
end
end Mine
end
section
open PySem PySem.W PyProof.Rows PySem.Calls PyProof.Rows.LCg
set_option Elab.async false
set_option maxRecDepth 100000
set_option maxHeartbeats 8000000
namespace Mine
/-- the told tuples, seen in the heap without the frame -/
theorem outs_at {hB g h : Heap} {L : Addr} {vs : List Value} {ks : List LTok} (x : OutsAre hB g vs ks) (hL : ∃ o es ep, hB.get? L = some o ∧ o.data = .dict es ep) (kB : Keeps hB h) (kg : Keeps g h) (hf : ∀ b o, g.get? b = some o → hB.get? b = none) : OutsAre (hideAll h [L]) (hideAll h [L]) vs ks := by
  obtain ⟨oL, es, ep, hoL, hdL⟩ := hL
  induction x with
  | nil => exact .nil
  | cons a _ ih =>
    obtain ⟨t, a, vs, tk, tk2, rfl, ⟨o, ho, hc, n, hd⟩, ⟨o2, ho2, hc2, n2, hd2⟩, hs⟩ := a
    have ht : t ≠ L := fun z => by have := hf t o ho; rw [z, hoL] at this; cases this
    have ha : a ≠ L := fun z => by rw [z, hoL] at ho2; cases ho2; rw [hdL] at hd2; cases hd2
    exact .cons ⟨t, a, vs, tk, tk2, rfl, ⟨o, hideAll_get _ (kg _ _ ho) (by simpa using ht), hc, n, hd⟩, ⟨o2, hideAll_get _ (kB _ _ ho2) (by simpa using ha), hc2, n2, hd2⟩, hs⟩ ih
theorem line_start {h₀ h : Heap} {L l wl c1 c2 : Addr} {m : Str → Option Value} {lo co tb : Obj} {n : Nat} {e1 e2 : Addr × Obj} (zF : Fr h₀ L h m) (N : News h₀ L h [(l, lo), (wl, W.listOf #[] n), e1, e2, (c1, co), (c2, tb)])
    (o1 : e1.1 ≠ wl ∧ e1.1 ≠ l ∧ e1.1 ≠ c1 ∧ e1.1 ≠ c2) (o2 : e2.1 ≠ wl ∧ e2.1 ≠ l ∧ e2.1 ≠ c1 ∧ e2.1 ≠ c2) (m1 : m (Str.ofString "wanted") = some (.ref wl)) :
    News h₀ L h ((l, lo) :: (wl, W.listOf #[] n) :: (c1, co) :: (c2, tb) :: [e1, e2]) ∧ LineJ wl l c1 c2 co tb [] m ((wl, W.listOf #[] n) :: (c1, co) :: (c2, tb) :: [e1, e2]) := by
  refine ⟨List.forall_mem_cons.mpr ⟨N _ (.head _), List.forall_mem_cons.mpr ⟨N _ (.tail _ (.head _)), List.forall_mem_cons.mpr ⟨N _ (.tail _ (.tail _ (.tail _ (.tail _ (.head _))))), List.forall_mem_cons.mpr ⟨N _ (.tail _ (.tail _ (.tail _ (.tail _ (.tail _ (.head _)))))), List.forall_mem_cons.mpr ⟨N _ (.tail _ (.tail _ (.head _))), List.forall_mem_cons.mpr ⟨N _ (.tail _ (.tail _ (.tail _ (.head _)))), fun _ h => (List.not_mem_nil h).elim⟩⟩⟩⟩⟩⟩, ?_⟩
  exact ⟨[], n, [e1, e2], E0, rfl, List.forall_mem_cons.mpr ⟨o1, List.forall_mem_cons.mpr ⟨o2, fun _ h => (List.not_mem_nil h).elim⟩⟩, BearsG.start _ _, .nil, m1⟩
theorem mem_joinL : ∀ (ps : List (List Nat)) (p : List Nat) (c : Nat), p ∈ ps → c ∈ p → c ∈ joinL ps
  | [], _, _, h, _ => absurd h List.not_mem_nil
  | [x], p, c, h, hc => by rw [List.mem_singleton.mp h] at hc; exact hc
  | x :: y :: r, p, c, h, hc => by
    show c ∈ x ++ 10 :: joinL (y :: r)
    rcases List.mem_cons.mp h with rfl | h
    · exact List.mem_append_left _ hc
    · exact List.mem_append_right _ (.tail _ (mem_joinL (y :: r) p c h hc))
theorem split_letters {tx : Str} (htx : Letters tx) : ∀ p ∈ Txt.split tx ⟨#[10]⟩, ∀ c ∈ p.cps.toList, 97 ≤ c ∧ c ≤ 100 := by
  intro p hp c hc
  have h : joinL ((Txt.split tx ⟨#[10]⟩).map fun p => p.cps.toList) = tx.cps.toList := by rw [← join_toList, StrLaws.join_split]
  have hm : c ∈ tx.cps.toList := by rw [← h]; exact mem_joinL _ _ c (List.mem_map_of_mem hp) hc
  rcases htx c hm with e | e
  · exact absurd (e ▸ hc) (StrLaws.split_free tx 10 p hp)
  · exact e
def wantOf (ps : List Str) : List (List Str) := ps.flatMap fun p => famL p.cps.toList
theorem want_snoc {ps : List Str} {i : Nat} {p : Str} (h : ps[i]? = some p) : wantOf (ps.take (i + 1)) = wantOf (ps.take i) ++ (fam Fam.init p.cps.toList ++ [wsNames]) := by
  unfold wantOf
  rw [List.take_add_one, h]
  simp [famL]
theorem want_len (tx : Str) : (wantOf (Txt.split tx ⟨#[10]⟩)).length = tx.length + 1 ∧ ∀ i, (wantOf ((Txt.split tx ⟨#[10]⟩).take i)).length ≤ tx.length + 1 := by
  have h1 := congrArg List.length (out_split tx)
  rw [List.length_map, out_len, List.length_dropLast] at h1
  have hll : tx.cps.toList.length = tx.length := by simp [Str.length]
  have hne : wantOf (Txt.split tx ⟨#[10]⟩) ≠ [] := by
    unfold wantOf
    obtain ⟨p, r, e⟩ : ∃ p r, Txt.split tx ⟨#[10]⟩ = p :: r := by
      cases q : Txt.split tx ⟨#[10]⟩ with
      | nil => exact absurd q (split_ne _ _)
      | cons p r => exact ⟨p, r, rfl⟩
    rw [e]
    simp [famL]
  have h0 : 0 < (wantOf (Txt.split tx ⟨#[10]⟩)).length := List.length_pos_iff.mpr hne
  have e : (wantOf (Txt.split tx ⟨#[10]⟩)).length = tx.length + 1 := by
    unfold wantOf at h0 ⊢
    omega
  refine ⟨e, fun i => ?_⟩
  rw [← e]
  unfold wantOf
  have : Txt.split tx ⟨#[10]⟩ = (Txt.split tx ⟨#[10]⟩).take i ++ (Txt.split tx ⟨#[10]⟩).drop i := (List.take_append_drop i _).symm
  conv => rhs; rw [this, List.flatMap_append, List.length_append]
  exact Nat.le_add_right _ _
end Mine
end
section
open PySem PySem.W PyProof.Rows PySem.Calls PyProof.Rows.LCg
set_option Elab.async false
set_option maxRecDepth 100000
set_option maxHeartbeats 8000000
namespace Mine
section
variable {prog : Program} {w : World} {A : Around} {E : Value → Shared → Prop} {s : Shared}
theorem Assign_ListComp_G {elt iter : Expr} {x1 x2 x3 y : Str} {p1 p2 p3 tp py : Pos} {tkk : Nat} {scope : Scope} {cl : List (Str × Addr)} {pos spos : Pos} {env : Env} {Q : Flow → Shared → Prop}
    (hsw : swapsWith (.ListComp elt [⟨.Tuple [.Name x1 p1, .Name x2 p2, .Name x3 p3] tkk tp, iter, [], 0⟩] scope pos) (some (.Name y py)) spos.line env = pure true)
    (hclos : closureFor scope env = pure cl) (hcell : ∀ y ∈ scope.names, y.2 ≠ .cell) (hkind : scope.kind = .function)
    (hnames : ∀ y ∈ scope.names, y.2 = .local → scope.names.lookup y.1 = some .local) (hx1 : scope.names.lookup x1 = some .local) (hx2 : scope.names.lookup x2 = some .local) (hx3 : scope.names.lookup x3 = some .local) (hne : x1 ≠ x2 ∧ x1 ≠ x3 ∧ x2 ≠ x3)
    (hy : env.kindOf y = some .local) (hp : (env.scope.kind == .class || (env.scope.kind == .module && env.locals != env.globals)) = false)
    (h : wpAny (model prog w) A (eval iter env) (SrcG prog w A elt x1 x2 x3 scope cl env (fun v s' => ∃ m, s'.heap.Ns env.locals m ∧ ∀ h'' tk, h''.Ns env.locals (fun z => if z = y then some v else m z) → (∀ b o, b ≠ env.locals → s'.heap.get? b = some o → h''.get? b = some o) → Q .next { s' with heap := h'', toks := tk })) E s)
    (hs : ∀ x, foldedSetIterable iter env x = pure x := by intro _; rfl) :
    wpAny (model prog w) A (exec (.Assign [.Name y py] (.ListComp elt [⟨.Tuple [.Name x1 p1, .Name x2 p2, .Name x3 p3] tkk tp, iter, [], 0⟩] scope pos) spos) env) Q E s := by
  rw [exec_Assign_Name_used _ _ _ _ hsw]
  refine wpAny_bind (wpAny_standAt (wpAny_bind ?_))
  show wpAny _ A (do let _ ← comprehension (.ListComp elt [⟨.Tuple [.Name x1 p1, .Name x2 p2, .Name x3 p3] tkk tp, iter, [], 0⟩] scope pos) scope env _ (newList []) false (eval iter env) (some (assign (.Name y py) env))) _ _ s
  refine wpAny_bind (wpAny_mono (wpAny_comprehension_free (use := some (assign (.Name y py) env)) (Q := fun _ s' => Q .next s') rfl hs hclos hkind hnames
    (wpAny_mono h (fun xv s₁ h₁ => ?_) fun _ _ e => e)) (fun _ s' hq => wpAny_pure (wpAny_pure hq)) fun _ _ e => e)
  obtain ⟨ga, g, c, Lg, CT, hB, all, rfl, hh, hl, hroom, kB, hsz, hLB, hg, hgs, own, hall, hseg, helt, hQ⟩ := h₁
  refine wpAny_pyIter_gen hg ?_
  refine comp_gen (CT := CT) (all := all) hh hl hroom hcell hkind hx1 hx2 hx3 hne kB hsz hLB hg hgs own hall hseg helt ?_
  intro s' D C m' its n g' k1 hD hDB hns hCB hCD kg hf hout hos hgz hfin
  have hide : ∀ b o, b ≠ C → s'.heap.get? b = some o → (hideAll s'.heap [C]).get? b = some o := fun b o hb e => hideAll_get _ e (by simpa using hb)
  obtain ⟨m, hm, hq⟩ := hQ { s' with heap := hideAll s'.heap [C] } D its n g' (fun b o e => hide b o (fun z => by rw [z, hCB] at e; cases e) (k1 b o e)) ⟨hide D _ hCD.symm hD, hDB⟩ (fun b o e => hide b o (hf b o e).2.2 (kg b o e)) (fun b o e => ⟨(hf b o e).1, (hf b o e).2.1⟩) hout hos hgz hfin
  have hLC : env.locals ≠ C := fun z => by
    obtain ⟨o, _, _, ho, _⟩ := hm
    have ho : (hideAll s'.heap [C]).get? env.locals = some o := ho
    rw [hideAll_none _ (by rw [z]; exact .head _)] at ho; cases ho
  have hmL : s'.heap.Ns env.locals m := hm.at' fun o e => of_hideAll _ e
  show wpAny _ A (assign (.Name y py) env (.ref D)) _ _ _
  refine wpAny_assign_Name (wpAny_storeName_local hy hmL (fun h₂ hn₂ hs₂ => ?_) hp)
  refine ⟨m', hns.sameBut hs₂ hLC.symm, fun h'' hs'' => ?_⟩
  refine hq h'' _ (hn₂.at' fun o e => hs''.extBut _ o hLC e) (fun b o hb e => ?_)
  have e1 : s'.heap.get? b = some o := of_hideAll _ e
  have hbC : b ≠ C := fun z => by
    have e : (hideAll s'.heap [C]).get? b = some o := e
    rw [hideAll_none _ (by rw [z]; exact .head _)] at e; cases e
  exact hs''.extBut b o hbC (hs₂.extBut b o hb e1)
end
end Mine
end
section
namespace Mine
section
variable {w : World} {d u : Nat} {gd : Option (List Code)} {base : Heap} {outer : List Env} {s : Shared} {p : Program} {loose : List Str} {mean : ExcName → Option Value} {mg mb : Str → Option Value}
local macro_rules | `(tactic| k_inst) => `(tactic| exact inst_base (by k_asm) (by assumption) (by assumption))
local macro_rules | `(tactic| k_room) => `(tactic| ((try simp only [depth_under_make, depth_under_kw, depth_in1, depth_deeper, depth_caller, depth_mk, Around.in1_depth, rl_is]); omega))
local macro_rules | `(tactic| k_units) => `(tactic| ((try simp only [Around.in1_units, Around.deeper_units, Around.mark_units, units_mk, cl_is]); omega))
local macro_rules | `(tactic| walk_at "truthy str") => `(tactic| (k_here; (with_reducible refine truthy_ch ?_); intro _))
local macro_rules | `(tactic| walk_at "call builtin:str.join") => `(tactic| (k_here; (refine join_one (by is_list) ?_); intro _ _))
local macro_rules | `(tactic| walk_at "MINE enter") => `(tactic| (refine' enter ?mX ?mT ?k6 ?k7 ?k8 ?k9 ?kB ?_ ?c2 ?c3 ?c4 ?c5; (case mX => assumption); (case mT => assumption); (case k6 => k_is); (case k7 => k_is); (case k8 => k_room); (case k9 => first | exact BindsTo.of_eq rfl | exact binds_K (by assumption) rfl (by k_is) rfl rfl rfl); (case c5 => decide); (case kB => exact locs rfl); (case c2 => exact rfl); (case c3 => exact rfl); (case c4 => exact rfl); intro L' h' F' N'; (try dsimp only)))
local macro_rules | `(tactic| walk_at "BRest") => `(tactic| (with_unfolding_all first | (refine BRest.succ (fun I' it' h' tk' hit' off' F' N' => ?_)) | (refine BRest.zero (fun h' tk' F' N' => ?_))))
local macro_rules | `(tactic| walk_at "MINE obj") => `(tactic| first | assumption | exact Fr.keep (by assumption) _ _ (by assumption) | exact News.get (by assumption) (by k_mem))
local macro_rules | `(tactic| walk_at "MINE lst") => `(tactic| first | assumption | exact Heap.IsList.at (by assumption) (fun o e => Fr.keep (by assumption) _ o e) | is_list)
local macro_rules | `(tactic| walk_at "MINE X") => `(tactic| first | assumption | exact Frag.In.keeps (by assumption) (Fr.keep (by assumption)))
local macro_rules | `(tactic| walk_at "MINE T") => `(tactic| first | assumption | exact Top.keeps (by assumption) (Fr.keep (by assumption)))
local macro_rules | `(tactic| walk_at "MINE B") => `(tactic| first | assumption | exact Below.push (by assumption) (by assumption))
local macro_rules | `(tactic| k_enter) => `(tactic| (refine' code_def0 ?k2 ?k3 ?k4 ?k5 ?k6 ?k7 ?k8 ?k9 ?kB ?_ ?c2 ?c3 ?c4 ?c5; (case k2 => k_asm); (case k3 => k_asm); (case k4 => k_asm); (case k5 => k_asm); (case k6 => k_is); (case k7 => k_is); (case k8 => k_room); (case k9 => first | exact BindsTo.of_eq rfl | exact binds_K (by k_in) rfl (by k_is) rfl rfl rfl | fail "k_enter: no rule for these arguments"); (case c5 => decide); (case kB => exact locs rfl); (case c2 => exact rfl); (case c3 => exact rfl); (case c4 => exact rfl); k_whole; intro g' L' h' FG' F' N' X' T'; (try dsimp only); (try k_fold)))
local macro_rules | `(tactic| walk_at "subscriptTail") => `(tactic| (k_here; (with_reducible show wpAny _ _ (subscriptTail _ _ (Value.ref _) (Value.str _ _)) _ _ _); k_dflt (refine tab_item (by k_asm) (by assumption) (by assumption) ?_)))
local macro_rules | `(tactic| walk_at "subscriptTail") => `(tactic| (k_here; (with_reducible show wpAny _ _ (subscriptTail _ _ (Value.ref _) (Value.int _ _)) _ _ _); k_dflt (refine stk_last (by is_list) (by assumption) ?_)))
local macro_rules | `(tactic| k_all) => `(tactic| first | assumption | exact ne_of_allL (by assumption) | exact ne_of_allLt (by assumption) | exact ne_of_allLt (And.right (by assumption)) | exact ne_of_allLt (And.right (And.right (by assumption))) | exact ne_of_allLt (And.right (And.right (And.right (by assumption)))))
local macro_rules | `(tactic| k_enter) => `(tactic| (kp_kind "rest"; (refine' code_rest0 ?k2 ?k3 ?k4 ?k5 ?k6 ?k7 ?k8 ?kV ?kP ?kG ?kB ?_ ?c2 ?c3 ?c4 ?c5; (case k2 => k_asm); (case k3 => k_asm); (case k4 => k_asm); (case k5 => k_asm); (case k6 => k_is); (case k7 => k_is); (case k8 => k_room); (case kV => exact rfl); (case kP => exact rfl); (case kG => exact fun _ => rfl); (case kB => exact fun _ => locs rfl); (case c5 => decide); (case c2 => exact rfl); (case c3 => exact rfl); (case c4 => exact rfl); k_whole; intro D' g' L' h' l1 FG' F' N' X' T'; (try k_lt l1); (try dsimp only); (try k_fold))))
local macro_rules | `(tactic| k_enter) => `(tactic| (kp_kind "more"; (refine' code_more0 ?k2 ?k3 ?k4 ?k5 ?k6 ?k7 ?k8 ?kP ?kK ?kB ?_ ?c2 ?c3 ?c4 ?c5; (case k2 => k_asm); (case k3 => k_asm); (case k4 => k_asm); (case k5 => k_asm); (case k6 => k_is); (case k7 => k_is); (case k8 => k_room); (case kP => exact rfl); (case kK => exact fun _ => rfl); (case kB => exact fun _ => locs rfl); (case c5 => decide); (case c2 => exact rfl); (case c3 => exact rfl); (case c4 => exact rfl); k_whole; intro D' o' g' L' h' tk' l1 lo' hd' fs' FG' F' N' X' T'; (try k_lt l1); (try dsimp only); (try k_fold))))
local macro_rules | `(tactic| k_enter) => `(tactic| (kp_kind "both"; (refine' code_both0 ?k2 ?k3 ?k4 ?k5 ?k6 ?k7 ?k8 ?kV ?kP ?kQ ?kK ?kB ?_ ?c2 ?c3 ?c4 ?c5; (case k2 => k_asm); (case k3 => k_asm); (case k4 => k_asm); (case k5 => k_asm); (case k6 => k_is); (case k7 => k_is); (case k8 => k_room); (case kV => exact rfl); (case kP => exact rfl); (case kQ => exact fun _ => rfl); (case kK => exact fun _ _ => rfl); (case kB => exact fun _ _ => locs rfl); (case c5 => decide); (case c2 => exact rfl); (case c3 => exact rfl); (case c4 => exact rfl); k_whole; intro C' D' g' L' h' tk' l1 l2 l3 FG' F' N' X' T'; (try k_lt l1); (try k_lt l3); (try dsimp only); (try k_fold))))
local macro_rules | `(tactic| walk_at "subscriptTail Name UnaryOp ref int") => `(tactic| (k_here; (with_reducible show wpAny _ _ (subscriptTail _ _ (Value.ref _) (Value.int _ _)) _ _ _); k_dflt (refine stk_last (by is_list) (by assumption) ?_)))
local macro_rules | `(tactic| walk_at "truthy ref") => `(tactic| (k_here; (with_reducible show wpAny _ _ (truthy (Value.ref _)) _ _ _); k_dflt (first | refine truthy_tup (b := false) (by assumption) (by assumption) (by first | exact Nat.le_of_ble_eq_true rfl | omega) rfl ?_ | refine truthy_tup (b := true) (by assumption) (by assumption) (by first | exact Nat.le_of_ble_eq_true rfl | omega) rfl ?_); intro _))
local macro_rules | `(tactic| walk_at "truthy str") => `(tactic| (k_here; (with_reducible show wpAny _ _ (truthy (Value.str _ _)) _ _ _); k_dflt (refine KXt.truthy_pos (K := 1000) (by omega) (by omega) (by omega) ?_); intro _))
local macro_rules | `(tactic| walk_at "StarOf ref") => `(tactic| (k_here; k_dflt (refine star_tup (by assumption) (by assumption) (by assumption) (by first | exact Nat.le_of_ble_eq_true rfl | omega) ?_); intro h' F' N'; (try dsimp only [List.nil_append, List.cons_append]); (try k_sweep)))
local macro_rules | `(tactic| walk_at "callWith ref") => `(tactic| (k_here; (with_reducible show wpAny _ _ (callWith _ (Value.ref _) _ (backTo _ (starEach (Expr.Starred _ _ :: _ :: _) _)) []) _ _ _); k_dflt (refine' callWith_S3 ?k1 ?k2 ?_; (case k1 => k_asm); (case k2 => k_is); k_whole)))
local macro_rules | `(tactic| walk_at "call type:str") => `(tactic| (k_here; (with_reducible show wpAny _ _ (call (Value.type "str") [Value.int _ _]) _ _ _); k_dflt (refine str_int9 (by omega) (by omega) ?_); intro _ _))
local macro_rules | `(tactic| walk_at "MINE enterC") => `(tactic| (refine' enterC ?mX ?mT ?k6 ?k7 ?k8 ?k9 ?kB ?kD ?_ ?c2 ?c3 ?c4; (case mX => assumption); (case mT => assumption); (case k6 => k_is); (case k7 => k_is); (case k8 => k_room); (case k9 => first | exact BindsTo.of_eq rfl | exact binds_K (by assumption) rfl (by k_is) rfl rfl rfl); (case kB => exact rfl); (case kD => decide +kernel); (case c2 => exact rfl); (case c3 => exact rfl); (case c4 => exact rfl); intro L' h' tk' cells' F' N' Y'; k_cells Y'; (try simp only [List.cons_append, List.nil_append] at N'); (try dsimp only)))
local macro_rules | `(tactic| walk_at "compareOp In str ref") => `(tactic| (k_here; (with_reducible show wpAny _ _ (compareOp _ (Value.str _ _) (Value.ref _)) _ _ _); k_dflt (refine in_map (by assumption) (by assumption) (by assumption) (by assumption) ?_); intro _))
local macro_rules | `(tactic| walk_at "call builtin:isinstance") => `(tactic| (k_here; (with_reducible show wpAny _ _ (call _ [Value.ref _, Value.type _]) _ _ _); k_dflt (refine' kia_one kitx_tuple ?X ?c ?ee ?nb ?_; (case c => exact kitAt_B (by assumption) (by assumption)); (case X => walk_at "MINE X"); (case ee => kit_is); (case nb => kit_nb); k_whole; intro _)))
local macro_rules | `(tactic| walk_at "call builtin:isinstance") => `(tactic| (k_here; (with_reducible show wpAny _ _ (call _ [Value.ref _, Value.ref _]) _ _ _); k_dflt (refine' kia_one kitx_tuple ?X ?c ?ee ?nb ?_; (case c => exact kitAt_B (by assumption) (by assumption)); (case X => walk_at "MINE X"); (case ee => kit_is); (case nb => kit_nb); k_whole; intro _)))
local macro_rules | `(tactic| walk_at "call type:type") => `(tactic| (k_here; (with_reducible show wpAny _ _ (call (Value.type "type") [Value.ref _]) _ _ _); k_dflt (refine kto_cont (T := "tuple") (kitAt_B (by assumption) (by assumption)) (by decide +kernel) ?_)))
local macro_rules | `(tactic| walk_at "call builtin:list.pop") => `(tactic| (k_here; (with_reducible show wpAny _ _ (call _ [Value.ref _]) _ _ _); refine park ?_))
local macro_rules | `(tactic| walk_at "eval ListComp") => `(tactic| (k_here; (with_reducible show wpAny _ _ (eval (Expr.ListComp _ _ _ _) _) _ _ _); refine park ?_))
local macro_rules | `(tactic| walk_at "exec Assign cons ListComp") => `(tactic| (refine park ?_))
local macro_rules | `(tactic| walk_at "compareOp Eq ref ref") => `(tactic| (k_here; refine park ?_))
theorem t_law2 {h₀ gv : Heap} {L fa wl : Addr} {cd : Value} {env : Env} {m : Str → Option Value} {co tb : Obj} {tx : Str} {tt : Tok} {its : List Value} {ne : Nat} {W : List (List Str)} {rest : List (Addr × Obj)} {P : Flow → Shared → Prop}
  (henv : env = lawEnv L fa cd)
  (X : (Mine.hd2.heap_39 w.params).In h₀) (T : Top p loose mean mg mb h₀)
  (F : Fr h₀ L s.heap m) (m1 : m (Str.ofString "wanted") = some (.ref wl)) (N : News h₀ L s.heap ((wl, lstN its ne) :: (L + 1, co) :: (215, tb) :: rest)) (hoff : ∀ p ∈ rest, p.1 ≠ wl) (hmu : wl ≠ L + 1 ∧ wl ≠ 215)
  (hb : BearsG E0 rest gv) (hN : NamesAre gv its W) (hW : W.dropLast = (out Fam.init tx.cps.toList 0).map (·.names)) (hW0 : 0 < W.length) (hW1 : W.length ≤ 1000)
  (hco : co.data = .cell (some (.str tx tt))) (htl : tx.length ≤ 23) (htx : Letters tx) (hg0 : s.gens = #[])
  (hP : ∀ s' m', Fr h₀ L s'.heap m' → s'.heap.get? 215 = some tb → s'.os = s.os → AllBare s'.gens → P (.ret (.bool true)) s') :
  wpAny (model PG w) (callerA.deeper env) (execs (lawBody.drop 3) env) P (fun _ _ => False) s := by
  have henv' : env = envOfC _ _ L fa cd := henv
  with_unfolding_all (show wpAny _ _ (execs (_ :: _) _) _ _ _)
  clear henv
  subst henv'
  replace F := Fr.re (m' := fun y => if y = Str.ofString "wanted" then some (.ref wl) else m y) F (by
    intro y
    split
    · rename_i e; rw [e, m1]
    rfl)
  clear m1
  k_steps
  refine unpark ?_
  refine pop_S (pre := []) F N (fun _ hp => nomatch hp) (List.forall_mem_cons.mpr ⟨hmu.1.symm, List.forall_mem_cons.mpr ⟨hmu.2.symm, hoff⟩⟩) (by rw [hN.len]; omega) (by rintro rfl; have := hN.len; simp at this; omega) ?_
  intro y1 h1 F1 N1
  have hN1 := hN.dropL
  rw [hW] at hN1
  clear F N
  k_sweep
  k_steps
  refine unpark ?_
  refine Assign_ListComp_G (cl := []) (by with_unfolding_all rfl) (by with_unfolding_all rfl) (by decide) (by rfl) (by decide) (by rfl) (by rfl) (by rfl) (by decide +kernel) (by rfl) (by rfl) ?_
  refine t_src (s := _) rfl rfl X T F1 (fun q hq => N1 q (by rw [List.mem_singleton.mp hq]; exact .tail _ (.head _))) hco htl htx hg0 ?_
  intro hB hkB s' D its2 n2 g' k1 hD kg hf hout hos hbare
  have k0 : Keeps h1 s'.heap := fun b o e => k1 _ _ (hkB _ _ e)
  have F2 := F1.keeps k0
  have N2 := N1.grown k0
  obtain ⟨oL, esL, epL, hoL, hdL, _⟩ := id F1.ns
  have houtG := outs_at (L := L) hout ⟨oL, esL, epL, hkB _ _ hoL, hdL⟩ k1 kg (fun b o e => (hf b o e).1)
  obtain ⟨rest2, NR, _, hcov⟩ := cover_exists h₀ s'.heap L none F2.keep
  have hDL : D ≠ L := fun z => by have := hkB _ _ hoL; rw [← z, hD.2] at this; cases this
  have hDh : h₀.get? D = none := none_of (fun b o e => hkB _ _ (F1.keep b o e)) hD.2
  have N3 : News h₀ L s'.heap ((D, lstN its2 n2) :: (wl, lstN its.dropLast (ne + 1)) :: (L + 1, co) :: (215, tb) :: (rest ++ rest2)) := by
    refine List.forall_mem_cons.mpr ⟨⟨hD.1, hDL, hDh⟩, List.forall_mem_cons.mpr ⟨N2 _ (.head _), List.forall_mem_cons.mpr ⟨N2 _ (.tail _ (.head _)), List.forall_mem_cons.mpr ⟨N2 _ (.tail _ (.tail _ (.head _))), fun q hq => ?_⟩⟩⟩⟩
    rcases List.mem_append.mp hq with hq | hq
    · exact N2 _ (.tail _ (.tail _ (.tail _ hq)))
    · exact NR _ hq
  refine ⟨_, F2.ns, fun h6 tk6 hn6 hk6 => ?_⟩
  have F6 : Fr h₀ L h6 (fun z => if z = Str.ofString "told" then some (.ref D) else if z = Str.ofString "wanted" then some (.ref wl) else m z) := ⟨hn6, fun b o e => hk6 b o (fun z => by
    have := Heap.get?_none_of_le F2.above; rw [show b = L from z, this] at e; cases e) (F2.keep b o e), F2.above⟩
  have N6 : News h₀ L h6 _ := fun q hq => ⟨hk6 _ _ (N3 q hq).2.1 (N3 q hq).1, (N3 q hq).2⟩
  clear F2 N3 hn6
  clear N1 F1 N2 NR
  k_steps
  refine unpark ?_
  rename Fr _ _ _ _ => F7
  rename News _ _ _ _ => N7
  have kG : Keeps (hideAll s'.heap [L]) h6 := fun b o e => hk6 b o (fun z => by rw [hideAll_none _ (by rw [show b = L from z]; exact .head _)] at e; cases e) (of_hideAll _ e)
  have kgv : Keeps gv h6 := fun b o e => (N7 (b, o) (.tail _ (.tail _ (.tail _ (.tail _ (List.mem_append_left _ (E0_mem hb e))))))).1
  clear hk6
  refine ListComp_E (cl := [(Str.ofString "text", L + 1)]) (by with_unfolding_all rfl) (by decide) (by rfl) (by decide) (by rfl) (by rfl) (by decide +kernel) ?_
  refine t_src3 (s := _) rfl rfl X T F7 rfl (List.forall_mem_cons.mpr ⟨N7 _ (.tail _ (.head _)), List.forall_mem_cons.mpr ⟨N7 _ (.tail _ (.tail _ (.head _))), fun _ h => (List.not_mem_nil h).elim⟩⟩) hco htl kgv hN1 ?_
  intro h8 tk8 D2 its3 n3 g3 k8 hD2 kg3 hout3
  have F8 := F7.keeps k8
  have N8 := N7.grown k8
  clear F7 N7
  k_steps
  refine unpark ?_
  refine same_told (out_ok _ _ _ htx) (N8 _ (.head _)).1 hD2.1 houtG hout3 (fun b o e => k8 _ _ (kG _ _ e)) (fun b o e => k8 _ _ (kG _ _ e)) k8 kg3 (by k_units) ?_
  show P (.ret (.bool true)) _
  exact hP _ _ F8 (N8 _ (.tail _ (.tail _ (.tail _ (.head _))))).1 hos hbare
end
end Mine
end
section
namespace Mine
section
variable {w : World} {d u : Nat} {gd : Option (List Code)} {base : Heap} {outer : List Env} {s : Shared} {p : Program} {loose : List Str} {mean : ExcName → Option Value} {mg mb : Str → Option Value}
local macro_rules | `(tactic| k_inst) => `(tactic| exact inst_base (by k_asm) (by assumption) (by assumption))
local macro_rules | `(tactic| k_room) => `(tactic| ((try simp only [depth_under_make, depth_under_kw, depth_in1, depth_deeper, depth_caller, depth_mk, Around.in1_depth, rl_is]); omega))
local macro_rules | `(tactic| k_units) => `(tactic| ((try simp only [Around.in1_units, Around.deeper_units, Around.mark_units, units_mk, cl_is]); omega))
local macro_rules | `(tactic| walk_at "truthy str") => `(tactic| (k_here; (with_reducible refine truthy_ch ?_); intro _))
local macro_rules | `(tactic| walk_at "call builtin:str.join") => `(tactic| (k_here; (refine join_one (by is_list) ?_); intro _ _))
local macro_rules | `(tactic| walk_at "MINE enter") => `(tactic| (refine' enter ?mX ?mT ?k6 ?k7 ?k8 ?k9 ?kB ?_ ?c2 ?c3 ?c4 ?c5; (case mX => assumption); (case mT => assumption); (case k6 => k_is); (case k7 => k_is); (case k8 => k_room); (case k9 => first | exact BindsTo.of_eq rfl | exact binds_K (by assumption) rfl (by k_is) rfl rfl rfl); (case c5 => decide); (case kB => exact locs rfl); (case c2 => exact rfl); (case c3 => exact rfl); (case c4 => exact rfl); intro L' h' F' N'; (try dsimp only)))
local macro_rules | `(tactic| walk_at "BRest") => `(tactic| (with_unfolding_all first | (refine BRest.succ (fun I' it' h' tk' hit' off' F' N' => ?_)) | (refine BRest.zero (fun h' tk' F' N' => ?_))))
local macro_rules | `(tactic| walk_at "MINE obj") => `(tactic| first | assumption | exact Fr.keep (by assumption) _ _ (by assumption) | exact News.get (by assumption) (by k_mem))
local macro_rules | `(tactic| walk_at "MINE lst") => `(tactic| first | assumption | exact Heap.IsList.at (by assumption) (fun o e => Fr.keep (by assumption) _ o e) | is_list)
local macro_rules | `(tactic| walk_at "MINE X") => `(tactic| first | assumption | exact Frag.In.keeps (by assumption) (Fr.keep (by assumption)))
local macro_rules | `(tactic| walk_at "MINE T") => `(tactic| first | assumption | exact Top.keeps (by assumption) (Fr.keep (by assumption)))
local macro_rules | `(tactic| walk_at "MINE B") => `(tactic| first | assumption | exact Below.push (by assumption) (by assumption))
local macro_rules | `(tactic| k_enter) => `(tactic| (refine' code_def0 ?k2 ?k3 ?k4 ?k5 ?k6 ?k7 ?k8 ?k9 ?kB ?_ ?c2 ?c3 ?c4 ?c5; (case k2 => k_asm); (case k3 => k_asm); (case k4 => k_asm); (case k5 => k_asm); (case k6 => k_is); (case k7 => k_is); (case k8 => k_room); (case k9 => first | exact BindsTo.of_eq rfl | exact binds_K (by k_in) rfl (by k_is) rfl rfl rfl | fail "k_enter: no rule for these arguments"); (case c5 => decide); (case kB => exact locs rfl); (case c2 => exact rfl); (case c3 => exact rfl); (case c4 => exact rfl); k_whole; intro g' L' h' FG' F' N' X' T'; (try dsimp only); (try k_fold)))
local macro_rules | `(tactic| walk_at "subscriptTail") => `(tactic| (k_here; (with_reducible show wpAny _ _ (subscriptTail _ _ (Value.ref _) (Value.str _ _)) _ _ _); k_dflt (refine tab_item (by k_asm) (by assumption) (by assumption) ?_)))
local macro_rules | `(tactic| walk_at "subscriptTail") => `(tactic| (k_here; (with_reducible show wpAny _ _ (subscriptTail _ _ (Value.ref _) (Value.int _ _)) _ _ _); k_dflt (refine stk_last (by is_list) (by assumption) ?_)))
local macro_rules | `(tactic| k_all) => `(tactic| first | assumption | exact ne_of_allL (by assumption) | exact ne_of_allLt (by assumption) | exact ne_of_allLt (And.right (by assumption)) | exact ne_of_allLt (And.right (And.right (by assumption))) | exact ne_of_allLt (And.right (And.right (And.right (by assumption)))))
local macro_rules | `(tactic| k_enter) => `(tactic| (kp_kind "rest"; (refine' code_rest0 ?k2 ?k3 ?k4 ?k5 ?k6 ?k7 ?k8 ?kV ?kP ?kG ?kB ?_ ?c2 ?c3 ?c4 ?c5; (case k2 => k_asm); (case k3 => k_asm); (case k4 => k_asm); (case k5 => k_asm); (case k6 => k_is); (case k7 => k_is); (case k8 => k_room); (case kV => exact rfl); (case kP => exact rfl); (case kG => exact fun _ => rfl); (case kB => exact fun _ => locs rfl); (case c5 => decide); (case c2 => exact rfl); (case c3 => exact rfl); (case c4 => exact rfl); k_whole; intro D' g' L' h' l1 FG' F' N' X' T'; (try k_lt l1); (try dsimp only); (try k_fold))))
local macro_rules | `(tactic| k_enter) => `(tactic| (kp_kind "more"; (refine' code_more0 ?k2 ?k3 ?k4 ?k5 ?k6 ?k7 ?k8 ?kP ?kK ?kB ?_ ?c2 ?c3 ?c4 ?c5; (case k2 => k_asm); (case k3 => k_asm); (case k4 => k_asm); (case k5 => k_asm); (case k6 => k_is); (case k7 => k_is); (case k8 => k_room); (case kP => exact rfl); (case kK => exact fun _ => rfl); (case kB => exact fun _ => locs rfl); (case c5 => decide); (case c2 => exact rfl); (case c3 => exact rfl); (case c4 => exact rfl); k_whole; intro D' o' g' L' h' tk' l1 lo' hd' fs' FG' F' N' X' T'; (try k_lt l1); (try dsimp only); (try k_fold))))
local macro_rules | `(tactic| k_enter) => `(tactic| (kp_kind "both"; (refine' code_both0 ?k2 ?k3 ?k4 ?k5 ?k6 ?k7 ?k8 ?kV ?kP ?kQ ?kK ?kB ?_ ?c2 ?c3 ?c4 ?c5; (case k2 => k_asm); (case k3 => k_asm); (case k4 => k_asm); (case k5 => k_asm); (case k6 => k_is); (case k7 => k_is); (case k8 => k_room); (case kV => exact rfl); (case kP => exact rfl); (case kQ => exact fun _ => rfl); (case kK => exact fun _ _ => rfl); (case kB => exact fun _ _ => locs rfl); (case c5 => decide); (case c2 => exact rfl); (case c3 => exact rfl); (case c4 => exact rfl); k_whole; intro C' D' g' L' h' tk' l1 l2 l3 FG' F' N' X' T'; (try k_lt l1); (try k_lt l3); (try dsimp only); (try k_fold))))
local macro_rules | `(tactic| walk_at "subscriptTail Name UnaryOp ref int") => `(tactic| (k_here; (with_reducible show wpAny _ _ (subscriptTail _ _ (Value.ref _) (Value.int _ _)) _ _ _); k_dflt (refine stk_last (by is_list) (by assumption) ?_)))
local macro_rules | `(tactic| walk_at "truthy ref") => `(tactic| (k_here; (with_reducible show wpAny _ _ (truthy (Value.ref _)) _ _ _); k_dflt (first | refine truthy_tup (b := false) (by assumption) (by assumption) (by first | exact Nat.le_of_ble_eq_true rfl | omega) rfl ?_ | refine truthy_tup (b := true) (by assumption) (by assumption) (by first | exact Nat.le_of_ble_eq_true rfl | omega) rfl ?_); intro _))
local macro_rules | `(tactic| walk_at "truthy str") => `(tactic| (k_here; (with_reducible show wpAny _ _ (truthy (Value.str _ _)) _ _ _); k_dflt (refine KXt.truthy_pos (K := 1000) (by omega) (by omega) (by omega) ?_); intro _))
local macro_rules | `(tactic| walk_at "StarOf ref") => `(tactic| (k_here; k_dflt (refine star_tup (by assumption) (by assumption) (by assumption) (by first | exact Nat.le_of_ble_eq_true rfl | omega) ?_); intro h' F' N'; (try dsimp only [List.nil_append, List.cons_append]); (try k_sweep)))
local macro_rules | `(tactic| walk_at "callWith ref") => `(tactic| (k_here; (with_reducible show wpAny _ _ (callWith _ (Value.ref _) _ (backTo _ (starEach (Expr.Starred _ _ :: _ :: _) _)) []) _ _ _); k_dflt (refine' callWith_S3 ?k1 ?k2 ?_; (case k1 => k_asm); (case k2 => k_is); k_whole)))
local macro_rules | `(tactic| walk_at "call type:str") => `(tactic| (k_here; (with_reducible show wpAny _ _ (call (Value.type "str") [Value.int _ _]) _ _ _); k_dflt (refine str_int9 (by omega) (by omega) ?_); intro _ _))
local macro_rules | `(tactic| walk_at "MINE enterC") => `(tactic| (refine' enterC ?mX ?mT ?k6 ?k7 ?k8 ?k9 ?kB ?kD ?_ ?c2 ?c3 ?c4; (case mX => assumption); (case mT => assumption); (case k6 => k_is); (case k7 => k_is); (case k8 => k_room); (case k9 => first | exact BindsTo.of_eq rfl | exact binds_K (by assumption) rfl (by k_is) rfl rfl rfl); (case kB => exact rfl); (case kD => decide +kernel); (case c2 => exact rfl); (case c3 => exact rfl); (case c4 => exact rfl); intro L' h' tk' cells' F' N' Y'; k_cells Y'; (try simp only [List.cons_append, List.nil_append] at N'); (try dsimp only)))
local macro_rules | `(tactic| walk_at "compareOp In str ref") => `(tactic| (k_here; (with_reducible show wpAny _ _ (compareOp _ (Value.str _ _) (Value.ref _)) _ _ _); k_dflt (refine in_map (by assumption) (by assumption) (by assumption) (by assumption) ?_); intro _))
local macro_rules | `(tactic| walk_at "call builtin:isinstance") => `(tactic| (k_here; (with_reducible show wpAny _ _ (call _ [Value.ref _, Value.type _]) _ _ _); k_dflt (refine' kia_one kitx_tuple ?X ?c ?ee ?nb ?_; (case c => exact kitAt_B (by assumption) (by assumption)); (case X => walk_at "MINE X"); (case ee => kit_is); (case nb => kit_nb); k_whole; intro _)))
local macro_rules | `(tactic| walk_at "call builtin:isinstance") => `(tactic| (k_here; (with_reducible show wpAny _ _ (call _ [Value.ref _, Value.ref _]) _ _ _); k_dflt (refine' kia_one kitx_tuple ?X ?c ?ee ?nb ?_; (case c => exact kitAt_B (by assumption) (by assumption)); (case X => walk_at "MINE X"); (case ee => kit_is); (case nb => kit_nb); k_whole; intro _)))
local macro_rules | `(tactic| walk_at "call type:type") => `(tactic| (k_here; (with_reducible show wpAny _ _ (call (Value.type "type") [Value.ref _]) _ _ _); k_dflt (refine kto_cont (T := "tuple") (kitAt_B (by assumption) (by assumption)) (by decide +kernel) ?_)))
local macro_rules | `(tactic| walk_at "CompSrc") => `(tactic| (k_here; (k_dflt ((refine LCg.CompSrc.ledger (by rfl) (by k_asm) (by k_asm) (by k_mem) (by rw [List.size_toArray, PySem.sizeLine_eq]; have hq9 := IntsAre.length (by assumption : IntsAre _ (List.take 20 _)); omega) ?_); intro g'; (refine strs_comp pickL (by assumption) (fun k' t' I' oI' C' oC' D' m' ys' h' tk' E' hk' hC' hx' F' N' off' ne' => ?_) ?_))); (all_goals (try (simp only [LCg.Off3, and_true] at off')))))
local macro_rules | `(tactic| walk_at "KCtEl") => `(tactic| exact ⟨rfl, _, rfl⟩)
local macro_rules | `(tactic| walk_at "call builtin:str.join") => `(tactic| (k_here; (with_reducible show wpAny _ _ (call (Value.builtin "str.join") [Value.str _ _, Value.ref _]) _ _ _); k_dflt (refine join_law (by exact News.isList (by k_asm) (by k_mem)) rfl (by assumption) (by omega) ?_); intro _ _))
local macro_rules | `(tactic| walk_at "binaryOp Add str str") => `(tactic| (k_here; k_dflt (refine add_law (by omega) ?_); intro tx _ _ htx1 htx2))
local macro_rules | `(tactic| walk_at "pyIter ref") => `(tactic| (k_here; refine park ?_))
theorem t_law {h₀ : Heap} {L fa sc : Addr} {cd : Value} {env : Env} {m : Str → Option Value} {vs : List Value} {ns : List Int} {wo tb : Obj} {P : Flow → Shared → Prop}
  (henv : env = lawEnv L fa cd)
  (X : (Mine.hd2.heap_39 w.params).In h₀) (T : Top p loose mean mg mb h₀)
  (F : Fr h₀ L s.heap m) (m1 : m (Str.ofString "script") = some (.ref sc)) (N : News h₀ L s.heap [(L + 1, wo), (215, tb)]) (hw : wo.data = .cell none) (hL : @LT.lt Nat _ 215 L)
  (hl : h₀.IsList sc vs.toArray) (hi : IntsAre vs ns) (hlen : ns.length ≤ 63) (hg0 : s.gens = #[])
  (hP : ∀ s' m', Fr h₀ L s'.heap m' → s'.heap.get? 215 = some tb → s'.os = s.os → AllBare s'.gens → P (.ret (.bool true)) s') :
  wpAny (model PG w) (callerA.deeper env) (execs lawBody env) P (fun _ _ => False) s := by
  have henv' : env = envOfC _ _ L fa cd := henv
  with_unfolding_all (show wpAny _ _ (execs (_ :: _) _) _ _ _)
  clear henv
  subst henv'
  replace F := Fr.re (m' := fun y => if y = Str.ofString "script" then some (.ref sc) else m y) F (by
    intro y
    split
    · rename_i e; rw [e, m1]
    rfl)
  clear m1
  have hvl := hi.length
  k_steps
  refine unpark ?_
  rename Fr _ _ _ _ => F9
  rename News _ _ _ _ => N9
  rename News _ _ _ [_, _, _, _, _] => N8
  rename Str => tx
  rename _ = Txt.split _ _ => hsplit
  rename StrsAre (strValues _) _ => hst
  rename _ = Data.cell (some _) => hco
  rename Letters _ => htx
  rename _ ≤ 23 => htl
  rename (_ < _ ∧ _ < _ ∧ _ < _ ∧ _ < _) => hw1
  rename (_ ≠ _ ∧ _ ≠ _ ∧ _ ≠ _) => hw2
  rename (_ < _ ∧ _ < _) => hw3
  rename ∀ (_ : Str), _ ∈ _ → _ ≤ _ => hpl
  have hz := fun q hq => Heap.lt_size (N8 q hq).1
  have z1 := hz _ (.head _)
  have z2 := hz _ (.tail _ (.head _))
  have z3 := hz _ (.tail _ (.tail _ (.head _)))
  have z4 := hz _ (.tail _ (.tail _ (.tail _ (.head _))))
  have z5 := hz _ (.tail _ (.tail _ (.tail _ (.tail _ (.head _)))))
  rw [show Str.ofString "\n" = ⟨#[10]⟩ from by decide +kernel] at hsplit
  rw [hsplit] at hst hpl
  obtain ⟨N10, hJ0⟩ := line_start F9 N9 ⟨Nat.ne_of_lt hw1.1, Nat.ne_of_lt z2, Ne.symm hw2.2.1, Ne.symm hw2.2.2⟩ ⟨Nat.ne_of_lt hw1.2.1, Nat.ne_of_lt z3, Nat.ne_of_gt hw3.1, Nat.ne_of_gt hw3.2⟩ rfl
  refine iter_JL (fun i m₁ n₁ => LineJ _ _ (L + 1) 215 _ tb (wantOf ((Txt.split tx ⟨#[10]⟩).take i)) m₁ n₁) rfl F9 N10 rfl rfl hJ0 ?turn ?done
  case turn =>
    clear N9 F9 N10 hJ0 N8 hP
    intro i v m₁ news₁ I it lo' s₁ hv ⟨its, ne, rest, gv, hn₁, hoff, hb, hN, q1⟩ hoI F N P' E' hP'
    subst hn₁
    obtain ⟨part, ptk, hpart, rfl⟩ := strs_get hst hv
    have hmem := List.mem_of_getElem? hpart
    rw [want_snoc hpart] at hP'
    exact wpAny_mono (t_lturn (s := s₁) rfl X T F q1 rfl N ⟨hoI _ (.head _), hoI _ (.tail _ (.head _)), hoI _ (.tail _ (.tail _ (.head _))), hoI _ (.tail _ (.tail _ (.tail _ (.head _))))⟩ (fun q hq => hoI q (.tail _ (.tail _ (.tail _ (.tail _ hq))))) ⟨Nat.ne_of_lt z1, Nat.ne_of_gt hw1.2.2.1, Nat.ne_of_gt hw1.2.2.2⟩ hoff hb hN (by have := (want_len tx).2 i; omega) (split_letters htx part hmem) (by have := hpl part hmem; omega) hP') (fun _ _ x => x) (fun _ _ x => x.elim)
  case done =>
    clear N9 F9 N10 hJ0 N8
    intro m₁ news₁ h5 tk5 ⟨its, ne, rest, gv, hn₁, hoff, hb, hN, q1⟩ F5 N5
    subst hn₁
    have hlp := strs_len hst
    rw [hlp, List.take_length] at hN
    refine t_law2 (s := _) rfl X T F5 q1 N5 (fun q hq => (hoff q hq).1) ⟨Nat.ne_of_gt hw1.2.2.1, Nat.ne_of_gt hw1.2.2.2⟩ hb hN (out_split tx).symm (by rw [(want_len tx).1]; omega) (by rw [(want_len tx).1]; omega) hco htl htx hg0 hP
end
end Mine
end
namespace Mine
theorem my_post {M : Model} {A : Around} {cd : Code} {s s₁ : Shared} {cw : ClaimW} {cl : Str → Option Addr} {mean : ExcName → Option Value} {args : List WData} (hT : TabsAt [(217, 215)] s₁.heap) (hr : ∀ a x, cw.raises a x = false) (hp : cw.post args (.bool true) args = true)
    (h : codeAny M A cd (fun r s' => r = .ok (.ret (.bool true)) ∧ (∀ b o, (ghostOf s₁.heap [(217, 215)]).get? b = some o → s'.heap.get? b = some o) ∧ s'.heap.get? 215 = some (tabObj #[]) ∧ s'.os = s₁.os ∧ AllBare s'.gens) s) : codeAny M A cd (GoodWG cw cl mean args s₁) s :=
  codeAny_mono h fun r s' ⟨e, k, k2, ho, hg⟩ => by
    subst e
    refine ⟨.inl ⟨_, .bool true, [], rfl, hr _, .bool true, hp, fun _ => ⟨.nil, fun _ ha => nomatch ha⟩⟩, .of_keep fun b o e => ?_, ho, hg⟩
    by_cases hb : b = 215
    · subst hb
      have := (hT (217, 215) (.head _)).2
      rw [e] at this
      rw [k2]
      exact this.symm
    · exact k b o (ghost_ne e (by simpa using hb))
end Mine
theorem PySem.Challenge.cw_ez0273_02_holds : PySem.Challenge.rw_ez0273_02.Holds := by
  refine Mine.hd2 ?_
  k_fill
  intro w s₀ s₁ mg mb G Y fa o pm cd doc dV kV ho hd hcd hD hmg hg args vals as hpre hlay hrd hwl hlo
  have KX := km_in_of Y
  km_tabs Y
  have X := (Ground.X G).1
  have V := (Ground.X G).2
  refine Ground.open G ?_
  intro T B D TE TW
  try (refine guard_noD D (by decide +kernel) ?_; clear D)
  km_lay T hmg ho hd cd
  clear hmg
  wrow_args hpre hlay hrd hwl hlo
  refine enter_call ?_
  w_top on
  refine Mine.my_post (by assumption) (fun _ _ => rfl) ?pp ?_
  rotate_left
  w_call any ho hd hcd hD T F
  clear hd
  kn_ghosts F T
  k_drop
  · rename News _ _ _ _ => N9
    rename Fr _ _ _ _ => F9
    rename Top _ _ _ _ _ _ => T9
    rename Frag.In _ _ => X9
    rename IntsAre _ _ => hI9
    rename ¬ ((63 : Nat) : Int) < _ => hlen9
    refine wpAny_mono (Mine.t_law (fa := fa) (cd := cd) rfl X9 T9 F9 rfl N9 (by assumption) (by assumption) (by assumption) hI9 (by omega) hg ?hP9) (fun _ _ x => x) (fun _ _ x => x.elim)
    case hP9 => exact fun s' m' F' h215 hos hbare => ⟨rfl, F'.keep, h215, hos, hbare⟩
  · first
    | with_unfolding_all rfl
    | kernel_rfl
    | decide
    | (simp; done)
    | skip
