import PyProof.Rows.All
import Wide.All
import OpenK.AllK
import Wide.FinOn
import Lean
import PySem.Challenge.RW_aa0019_01
open PySem PySem.W PyProof.Rows
set_option Elab.async false
set_option maxRecDepth 100000
set_option maxHeartbeats 8000000
set_option compiler.extract_closed false
section
open PySem PySem.W PyProof.Rows
set_option maxRecDepth 100000
set_option maxHeartbeats 8000000
namespace Mine
abbrev rowQ : OpenRow := PySem.Challenge.rw_aa0019_01.row
noncomputable def viewQ : Program := { PySem.Challenge.rw_aa0019_01.row.prog with main := { PySem.Challenge.rw_aa0019_01.row.prog.main with body := PySem.Challenge.rw_aa0019_01.row.prog.main.body.take 1 ++ PySem.Challenge.rw_aa0019_01.row.prog.main.body.drop 22 } }
noncomputable def looseQ : List Str := [Str.ofString "_wall", Str.ofString "TICK", Str.ofString "decode_rfc2231", Str.ofString "_buffer", Str.ofString "_truth", Str.ofString "_B64", Str.ofString "b2a_base64", Str.ofString "b64encode", Str.ofString "_twin_re_1", Str.ofString "_special_chars_map", Str.ofString "escape", Str.ofString "_translate", Str.ofString "_law_takes", Str.ofString "_law_signs", Str.ofString "_law_right"]
section
set_option hygiene false in
local macro_rules | `(tactic| o_head $H) => `(tactic| ((case hk => exact $H); exact hh))
noncomputable def hd : { _H : Hook // PySem.Challenge.rw_aa0019_01.row.Holds → True } := by
  refine ⟨?hk, fun hh => (fun (_ : PySem.Challenge.rw_aa0019_01.row.Holds) => trivial) ?main⟩
  rotate_left
  km_head
end

noncomputable def tameQ (s : Shared) : Bool := xlAt viewQ [] s && recOk (RowW.records (OpenRow.toRowW PySem.Challenge.rw_aa0019_01.row)) s
noncomputable def topF (w : World) := Option.map (fun s => (openSeen viewQ looseQ (importedModules PySem.Challenge.rw_aa0019_01.row.prog.main.body) tameQ true s, Hook.obs hd.1 s)) (openEnds treeTable PySem.Challenge.rw_aa0019_01.row.prog w 3666)
noncomputable def topG (w : World) := some (openGood viewQ looseQ, Hook.val hd.1 w)
/-- the library's own twins (PySem.W.Fast) of the machine's parts: the same things, quicker for the kernel -/
abbrev progT : Program := PySem.Challenge.rw_aa0019_01.row.prog
noncomputable def endsQ : { f : World → Option Shared // ∀ w, openEnds treeTable progT w 3666 = f w } := by
  refine ⟨?f, fun w => ?h⟩
  case h =>
    unfold openEnds fencedOpening topFrom
    rw [PySem.W.Fast.te14364793385576792824, PySem.W.Fast.te10274390034422433532, PySem.W.Fast.te1435165496053646825, PySem.W.Fast.te14289696077712309145, PySem.W.Fast.te14082659384304107361]
noncomputable def topFq (w : World) := Option.map (fun s => (PySem.W.Fast.tw4187177175401517315 viewQ looseQ (importedModules PySem.Challenge.rw_aa0019_01.row.prog.main.body) tameQ true s, Hook.obs hd.1 s)) (endsQ.1 w)
theorem topF_eq (w : World) : topF w = topFq w := by
  unfold topF topFq
  rw [show openEnds treeTable PySem.Challenge.rw_aa0019_01.row.prog w 3666 = endsQ.1 w from endsQ.2 w, ← PySem.W.Fast.te4187177175401517315]
theorem leaf1 (w : World) : topFq ((w.withFollow "special-get-raises" false).withFollow "comprehension-iter-twice" false) = topG ((w.withFollow "special-get-raises" false).withFollow "comprehension-iter-twice" false) := by kernel_rfl
theorem leaf2 (w : World) : topFq ((w.withFollow "special-get-raises" true).withFollow "comprehension-iter-twice" false) = topG ((w.withFollow "special-get-raises" true).withFollow "comprehension-iter-twice" false) := by kernel_rfl
theorem leaf3 (w : World) : topFq ((w.withFollow "special-get-raises" false).withFollow "comprehension-iter-twice" true) = topG ((w.withFollow "special-get-raises" false).withFollow "comprehension-iter-twice" true) := by kernel_rfl
theorem leaf4 (w : World) : topFq ((w.withFollow "special-get-raises" true).withFollow "comprehension-iter-twice" true) = topG ((w.withFollow "special-get-raises" true).withFollow "comprehension-iter-twice" true) := by kernel_rfl
theorem split_row (row : String) {α : Type} {f g : World → α} (hf : ∀ w : World, f (w.withFollow row false) = g (w.withFollow row false)) (ht : ∀ w : World, f (w.withFollow row true) = g (w.withFollow row true)) (w : World) : f w = g w :=
  byRow2 row (P := fun w => f w = g w) hf ht w
theorem top_left : LeftO PySem.Challenge.rw_aa0019_01.row.prog viewQ looseQ tameQ (Hook.obs hd.1) (Hook.val hd.1) 3666 := fun w => (topF_eq w).trans <|
  split_row "comprehension-iter-twice" (f := topFq) (g := topG) (split_row "special-get-raises" (f := fun w => topFq (w.withFollow "comprehension-iter-twice" false)) (g := fun w => topG (w.withFollow "comprehension-iter-twice" false)) leaf1 leaf2)
    (split_row "special-get-raises" (f := fun w => topFq (w.withFollow "comprehension-iter-twice" true)) (g := fun w => topG (w.withFollow "comprehension-iter-twice" true)) leaf3 leaf4) w
end Mine
end
section
open PySem PySem.W PyProof.Rows PySem.Spec PySem.Calls
set_option maxRecDepth 100000
namespace Mine
/-- the walk stands still here -/
noncomputable def Halt (P : Prop) : Prop := P
theorem Halt.mk {P : Prop} (h : Halt P) : P := h
theorem Halt.go {P : Prop} (h : P) : Halt P := h
section
variable {prog : Program} {w : World} {A₀ A : Around} {E : Value → Shared → Prop} {s : Shared} {base h₀ : Heap} {outer : List Env} {L : Addr} {m : Str → Option Value} {env : Env} {K : Frag}
  {p : Program} {loose : List Str} {mean : ExcName → Option Value} {mg mb : Str → Option Value} {R : Result → Shared → Prop}
  {name qual : Str} {params : Arguments} {body : List Stmt} {scope : Scope} {dV kV doc pm cdv ct oc : Value} {an od : Option Addr} {osl : Array (Option Value)} {f : Addr} {args : Args} {binds : List (Str × Value)}

/-- a call of a def with cells, over the whole heap as its ground: whatever stands keeps standing -/
theorem enter_cells (B : Below A₀ base outer h₀) (F : Fr h₀ L s.heap m) (X : K.In h₀) (T : Top p loose mean mg mb h₀)
    (hA : A.frames = some (env :: outer)) (hf : env.frame = some L) (hke : env.scope.kind = .function)
    (ho : K.lookup f = some ⟨oc, od, .func (fnOf name qual params body scope dV kV doc pm an cdv ct), osl⟩) (hcd : codeIn K cdv qual = true) (hroom : A.depth < recursionLimit)
    (hbind : BindsTo s (fnOf name qual params body scope dV kV doc pm an cdv ct) args binds)
    (hkind : (binds.all fun y => scope.names.lookup y.1 == some .local || scope.names.lookup y.1 == some .cell) = true)
    (hnd : ((cellsFrom 0 scope.names []).map (·.1)).Nodup)
    (h : ∀ L' h₁ tk cells, Fr s.heap L' h₁ (bindL (envOfC qual scope L' f cdv).kindOf binds fun _ => none) → News s.heap L' h₁ cells →
      CellsAre (bindC (envOfC qual scope L' f cdv).kindOf binds fun _ => none) (cellsFrom (L' + 1) scope.names []) cells → Below A base (env :: outer) s.heap → K.In s.heap → Top p loose mean mg mb s.heap →
      wpAny (model prog w) (A.deeper (envOfC qual scope L' f cdv)) (execs body (envOfC qual scope L' f cdv))
        (fun fl s' => LeaveK h₀ L m s.heap R (match fl with | .ret v => v | _ => .none) s')
        (fun e s' => wpAny (model prog w) (A.deeper (envOfC qual scope L' f cdv)) (leaving (envOfC qual scope L' f cdv) e) (fun _ s'' => R (.error e) s'') (fun e' s'' => R (.error e') s'') s')
        { s with heap := h₁, toks := tk })
    (hco : scope.isCoroutine = false) (hgen : scope.isGenerator = false) (hk : scope.kind = .function) : codeAny (model prog w) A (.call (.ref f) args) R s := by
  have gr := groundX (R := R) B F (News.nil (h₀ := h₀) (h := s.heap) (L := L)) hA hf hke
  have X1 : K.In s.heap := X.keeps F.keep
  have T1 := T.keeps F.keep
  have B1 : Below A base (env :: outer) s.heap := gr.2.1
  refine codeAny_call_function hroom (X1 _ _ ho) rfl hco hgen rfl (codeRec_of X1 hcd) (hbind _ _ _ _ ?_)
  refine wpAny_newFunctionEnv_cells hk (kindsX hkind _) fun env' he s' x => ?_
  subst he
  refine And.intro (T1.nolimit.keeps x.toInCall.keep) (codeAny_func ?_)
  obtain ⟨h₁, tk, rfl, _⟩ := x.done
  obtain ⟨cells, NC, Y⟩ := Cl.news (h₀ := s.heap) (Nat.le_refl _) fun n c hm => ⟨x.cell n c (lookup_of_mem_nodup (cellsFrom_names scope.names 0 (s.heap.objs.size + 1) [] [] rfl ▸ hnd) hm), x.above n c hm⟩
  have F1 : Fr s.heap s.heap.objs.size h₁ (bindL (envOfC qual scope s.heap.objs.size f cdv).kindOf binds fun _ => none) := ⟨x.toInCall.ns, x.toInCall.keep, Nat.le_refl _⟩
  exact wpAny_mono (h s.heap.objs.size h₁ tk cells F1 NC Y B1 X1 T1) (fun fl s' hl => gr.2.2.2 _ _ hl) fun _ _ y => y

theorem enter_plain (B : Below A₀ base outer h₀) (F : Fr h₀ L s.heap m) (X : K.In h₀) (T : Top p loose mean mg mb h₀)
    (hA : A.frames = some (env :: outer)) (hf : env.frame = some L) (hke : env.scope.kind = .function)
    (ho : K.lookup f = some ⟨oc, od, .func (fnOf name qual params body scope dV kV doc pm an cdv ct), osl⟩) (hcd : codeIn K cdv qual = true) (hroom : A.depth < recursionLimit)
    (hbind : BindsTo s (fnOf name qual params body scope dV kV doc pm an cdv ct) args binds) (hloc : ∀ y ∈ binds, scope.names.lookup y.1 = some .local)
    (h : ∀ L' h₁, Fr s.heap L' h₁ (fun y => binds.reverse.lookup y) → News s.heap L' h₁ [] → Below A base (env :: outer) s.heap → K.In s.heap → Top p loose mean mg mb s.heap →
      wpAny (model prog w) (A.deeper (envOf qual scope L' f cdv)) (execs body (envOf qual scope L' f cdv))
        (fun fl s' => LeaveK h₀ L m s.heap R (match fl with | .ret v => v | _ => .none) s')
        (fun e s' => wpAny (model prog w) (A.deeper (envOf qual scope L' f cdv)) (leaving (envOf qual scope L' f cdv) e) (fun _ s'' => R (.error e) s'') (fun e' s'' => R (.error e') s'') s')
        { s with heap := h₁, toks := s.toks + binds.length })
    (hco : scope.isCoroutine = false) (hgen : scope.isGenerator = false) (hk : scope.kind = .function)
    (hcell : ∀ x ∈ scope.names, x.2 ≠ .cell) : codeAny (model prog w) A (.call (.ref f) args) R s := by
  have gr := groundX (R := R) B F (News.nil (h₀ := h₀) (h := s.heap) (L := L)) hA hf hke
  have X1 : K.In s.heap := X.keeps F.keep
  have T1 := T.keeps F.keep
  refine codeAny_call_def (fd := fnOf name qual params body scope dV kV doc pm an cdv ct) (body := body) (binds := binds) hroom (X1 _ _ ho) rfl T1.nolimit (codeRec_of X1 hcd) rfl hbind hcell hloc (fun h₁ hns hk₁ => ?_) hco hgen hk
  exact wpAny_mono (h s.heap.objs.size h₁ ⟨hns, hk₁, Nat.le_refl _⟩ News.nil gr.2.1 X1 T1) (fun fl s' hl => gr.2.2.2 _ _ hl) fun _ _ y => y
end

/-- what is known of a frame's name is put ahead -/
theorem fr_know {h₀ h : Heap} {L : Addr} {m : Str → Option Value} {x : Str} {v : Value} (F : Fr h₀ L h m) (e : m x = some v) : Fr h₀ L h (fun y => if y = x then some v else m y) := by
  have q : (fun y => if y = x then some v else m y) = m := by
    funext y
    by_cases hy : y = x
    · simp [hy, e]
    · simp [hy]
  rw [q]; exact F

theorem fr_knows {h₀ h : Heap} {L : Addr} {m : Str → Option Value} {ps : List (Str × Value)} (F : Fr h₀ L h m) (e : ∀ p ∈ ps, m p.1 = some p.2) : Fr h₀ L h (kstB m ps) := by
  have q : kstB m ps = m := funext fun z => kstB_eq e fun _ => rfl
  rw [q]; exact F
theorem news_sub {h₀ h : Heap} {L : Addr} {l l' : List (Addr × Obj)} (N : News h₀ L h l) (hs : ∀ p ∈ l', p ∈ l) : News h₀ L h l' := fun p hp => N p (hs p hp)

theorem off1_of {I : Addr} : ∀ {l : List (Addr × Obj)}, (∀ p ∈ l, p.1 ≠ I) → LCg.Off1 I l
  | [], _ => trivial
  | _ :: _, h => ⟨h _ List.mem_cons_self, off1_of fun q hq => h q (List.mem_cons_of_mem _ hq)⟩
theorem of_off1 {I : Addr} : ∀ {l : List (Addr × Obj)}, LCg.Off1 I l → ∀ p ∈ l, p.1 ≠ I
  | [], _, _, h => nomatch h
  | _ :: _, x, q, h => by
    rcases List.mem_cons.mp h with rfl | h
    · exact x.1
    · exact of_off1 x.2 q h

noncomputable def MyStep (h₀ : Heap) (L I : Addr) (oI : Obj) (J : (Str → Option Value) → List (Addr × Obj) → Prop) (s₁ : Shared) (f : Flow) (s₂ : Shared) : Prop :=
  f = .next ∧ ∃ h' tk m₂ news₂, s₂ = { s₁ with heap := h', toks := tk } ∧ Fr h₀ L h' m₂ ∧ News h₀ L h' ((I, oI) :: news₂) ∧ (∀ p ∈ news₂, p.1 ≠ I) ∧ J m₂ news₂
theorem MyStep.intro {h₀ h' : Heap} {L I : Addr} {oI : Obj} {J : (Str → Option Value) → List (Addr × Obj) → Prop} {s₁ : Shared} {tk : Nat} {m₂ : Str → Option Value} {all : List (Addr × Obj)} (news₂ : List (Addr × Obj))
    (F : Fr h₀ L h' m₂) (N : News h₀ L h' all) (sub : ∀ p ∈ (I, oI) :: news₂, p ∈ all) (ha : LCg.Off1 I news₂) (hJ : J m₂ news₂) : MyStep h₀ L I oI J s₁ .next { s₁ with heap := h', toks := tk } :=
  ⟨rfl, h', tk, m₂, news₂, rfl, F, news_sub N sub, of_off1 ha, hJ⟩

section
variable {prog : Program} {w : World} {A : Around} {E : Value → Shared → Prop} {s : Shared} {env : Env} {h₀ : Heap} {target : Expr} {body : List Stmt} {Q : Flow → Shared → Prop}
theorem loop_walks {L I : Addr} {n : Nat} {P : Nat → Value → Prop} {St : Nat → Heap → Prop} {m₀ : Str → Option Value} {news : List (Addr × Obj)} (J : Nat → (Str → Option Value) → List (Addr × Obj) → Prop)
    (W : Walks prog w A I [I] [I] n P St) (hL : env.locals = L) (hIo : ∀ i h, St i h → ∃ o, h.get? I = some o) (hIL : L ≠ I) (hI₀ : h₀.get? I = none) (hnw : ∀ p ∈ news, p.1 ≠ I) (hst : St 0 s.heap)
    (F : Fr h₀ L s.heap m₀) (N : News h₀ L s.heap news) (ht : ∀ it v, letOwnedTupleGo target it v = pure ()) (hj : J 0 m₀ news)
    (turn : ∀ i v m₁ news₁ h gs ds tk os oI, i < n → P i v → J i m₁ news₁ → Fr h₀ L h m₁ → News h₀ L h ((I, oI) :: news₁) → LCg.Off1 I news₁ →
      wpAny (model prog w) A (assign target env v) (fun _ s₃ => wpAny (model prog w) A (execs body env) (MyStep h₀ L I oI (J (i + 1)) ⟨h, gs, ds, tk, os⟩) E s₃) E ⟨h, gs, ds, tk, os⟩)
    (done : ∀ m₁ news₁ h tk, J n m₁ news₁ → Fr h₀ L h m₁ → News h₀ L h news₁ → Q .next { s with heap := h, toks := tk }) :
    LoopAtT prog w A h₀ env target body Q E (.ref I) s := by
  subst hL
  refine ⟨I, [I], [I], n, P, St, m₀, news, J, rfl, W, ?_, ?_, ?_, hst, F, N, ?_, hj, ?_, ?_⟩
  · intro hm; exact hIL (List.mem_singleton.mp hm)
  · intro b hb; rw [List.mem_singleton.mp hb]; exact hI₀
  · intro q hq hm; exact hnw q hq (List.mem_singleton.mp hm)
  · intro i s' v Q' _ hQ; rw [ht]; exact wpAny_pure hQ
  · intro i v m₁ news₁ s₁ own hi hP hJ hoff hown hown2 hall hst1 F₁ N₁
    obtain ⟨h, gs, ds, tk, os⟩ := s₁
    obtain ⟨oI, hoI⟩ := hIo _ _ hst1
    have hin : (I, oI) ∈ own := hall I (List.mem_singleton.mpr rfl) hI₀ oI hoI
    have hone : ∀ q ∈ own, q = (I, oI) := fun q hq => by
      have e1 := List.mem_singleton.mp (hown q hq)
      have e2 := hown2 q hq
      rw [e1, hoI] at e2
      exact Prod.ext e1 (Option.some.inj e2).symm
    have N₂ : News h₀ env.locals h ((I, oI) :: news₁) := fun q hq => by
      rcases List.mem_cons.mp hq with rfl | hq
      · exact N₁ _ (List.mem_append_left _ hin)
      · exact N₁ _ (List.mem_append_right _ hq)
    refine wpAny_mono (turn i v m₁ news₁ h gs ds tk os oI hi hP hJ F₁ N₂ (off1_of fun q hq e => hoff q hq (List.mem_singleton.mpr e))) (fun _ s₃ h₃ => wpAny_mono h₃ (fun fl s₄ h₄ => ?_) fun _ _ e => e) fun _ _ e => e
    obtain ⟨rfl, h', tk, m₂, news₂, rfl, F₂, N₃, ha, hJ₂⟩ := h₄
    refine ⟨rfl, h', tk, m₂, news₂, rfl, F₂, fun q hq => ?_, fun q hq hm => ha q hq (List.mem_singleton.mp hm), hJ₂⟩
    rcases List.mem_append.mp hq with hq | hq
    · rw [hone q hq]; exact N₃ _ List.mem_cons_self
    · exact N₃ _ (List.mem_cons_of_mem _ hq)
  · intro h' tk m' news' F' N' _ hJ
    exact done m' news' h' tk hJ F' N'

theorem range_loop {L r : Addr} {a₀ b₀ : Int} {t₀ u₀ v₀ : Tok} {n : Nat} {m₀ : Str → Option Value} {news : List (Addr × Obj)} (J : Nat → (Str → Option Value) → List (Addr × Obj) → Prop)
    (hL : env.locals = L) (hh : A.handled = none) (hr : IsRange s.heap r a₀ b₀ 1 t₀ u₀ v₀) (hsmall : Builtin.Range.small a₀ b₀ 1 = true) (hn : Builtin.Range.rangeSize a₀ b₀ 1 = (n : Int))
    (F : Fr h₀ L s.heap m₀) (N : News h₀ L s.heap news) (ht : ∀ it v, letOwnedTupleGo target it v = pure ()) (hj : J 0 m₀ news)
    (turn : ∀ i t m₁ news₁ h gs ds tk os I oI, i < n → J i m₁ news₁ → Fr h₀ L h m₁ → News h₀ L h ((I, oI) :: news₁) → LCg.Off1 I news₁ →
      wpAny (model prog w) A (assign target env (.int (a₀ + (i : Int)) t)) (fun _ s₃ => wpAny (model prog w) A (execs body env) (MyStep h₀ L I oI (J (i + 1)) ⟨h, gs, ds, tk, os⟩) E s₃) E ⟨h, gs, ds, tk, os⟩)
    (done : ∀ m₁ news₁ h tk, J n m₁ news₁ → Fr h₀ L h m₁ → News h₀ L h news₁ → Q .next { s with heap := h, toks := tk }) :
    wpAny (model prog w) A (pyIter (.ref r)) (fun it s₂ => LoopAtT prog w A h₀ env target body Q E it s₂) E s := by
  refine wpAny_pyIter_range hr hsmall ?_
  refine loop_walks J (LCg.range_walks hh a₀ n) hL (fun i h st => ⟨_, st⟩) (Nat.ne_of_lt F.ns.lt) (next_is_new F) (fun q hq => Nat.ne_of_lt (Heap.lt_size (N q hq).1)) ?_ (F.push _) (fun q hq => ⟨Heap.get?_push_of_some _ (N q hq).1, (N q hq).2⟩) ht hj ?_ ?_
  · show IsRangeIter _ _ _ _ _
    rw [hn]; simpa using Heap.get?_push_size _ rfl
  · rintro i v m₁ news₁ h gs ds tk os oI hi ⟨t, rfl⟩ hJ F₁ N₁ ha
    exact turn i t m₁ news₁ h gs ds tk os _ oI hi hJ F₁ N₁ ha
  · exact done
end

section
variable {prog : Program} {w : World} {A : Around} {E : Value → Shared → Prop} {s : Shared} {env : Env} {h₀ : Heap} {target : Expr} {body : List Stmt} {Q : Flow → Shared → Prop}
theorem bytes_loop {L : Addr} {b : Array UInt8} {tb : Tok} {m₀ : Str → Option Value} {news : List (Addr × Obj)} (J : Nat → (Str → Option Value) → List (Addr × Obj) → Prop)
    (hL : env.locals = L) (hh : A.handled = none) (F : Fr h₀ L s.heap m₀) (N : News h₀ L s.heap news) (ht : ∀ it v, letOwnedTupleGo target it v = pure ()) (hj : J 0 m₀ news)
    (turn : ∀ (i : Nat) (c : UInt8) t m₁ news₁ h gs ds tk os I oI, b[i]? = some c → J i m₁ news₁ → Fr h₀ L h m₁ → News h₀ L h ((I, oI) :: news₁) → LCg.Off1 I news₁ →
      wpAny (model prog w) A (assign target env (.int (c.toNat : Int) t)) (fun _ s₃ => wpAny (model prog w) A (execs body env) (MyStep h₀ L I oI (J (i + 1)) ⟨h, gs, ds, tk, os⟩) E s₃) E ⟨h, gs, ds, tk, os⟩)
    (done : ∀ m₁ news₁ h tk, J b.size m₁ news₁ → Fr h₀ L h m₁ → News h₀ L h news₁ → Q .next { s with heap := h, toks := tk }) :
    wpAny (model prog w) A (pyIter (.bytes b tb)) (fun it s₂ => LoopAtT prog w A h₀ env target body Q E it s₂) E s := by
  refine KBw.pyIter_bytes ?_
  refine loop_walks J (KBw.walks hh s.heap.objs.size b tb) hL (fun i h st => ?_) (Nat.ne_of_lt F.ns.lt) (next_is_new F) (fun q hq => Nat.ne_of_lt (Heap.lt_size (N q hq).1)) ?_ (F.push _) (fun q hq => ⟨Heap.get?_push_of_some _ (N q hq).1, (N q hq).2⟩) ht hj ?_ ?_
  · obtain ⟨o, ho, _⟩ := st; exact ⟨o, ho⟩
  · exact ⟨_, Heap.get?_push_size _ rfl, rfl, rfl⟩
  · rintro i v m₁ news₁ h gs ds tk os oI hi ⟨c, u, hc, rfl⟩ hJ F₁ N₁ ha
    exact turn i c u m₁ news₁ h gs ds tk os _ oI hc hJ F₁ N₁ ha
  · exact done
end
/-- values beside what they are -/
noncomputable def Are {α : Type} (F : α → Value → Prop) : List Value → List α → Prop
  | [], [] => True
  | v :: vs, a :: as => F a v ∧ Are F vs as
  | _, _ => False
theorem Are.length {α : Type} {F : α → Value → Prop} : ∀ {vs : List Value} {as : List α}, Are F vs as → vs.length = as.length
  | [], [], _ => rfl
  | _ :: _, _ :: _, h => by simp [Are.length h.2]
theorem Are.get {α : Type} {F : α → Value → Prop} : ∀ {vs : List Value} {as : List α} (_ : Are F vs as) (i : Nat) {v : Value}, vs[i]? = some v → ∃ a, as[i]? = some a ∧ F a v
  | [], [], _, _, _, h => by simp at h
  | _ :: _, a :: _, h, 0, v, e => by simp at e; subst e; exact ⟨a, rfl, h.1⟩
  | _ :: _, _ :: _, h, i + 1, v, e => by simpa using Are.get h.2 i (by simpa using e)
theorem Are.get' {α : Type} {F : α → Value → Prop} : ∀ {vs : List Value} {as : List α} (_ : Are F vs as) (i : Nat) {a : α}, as[i]? = some a → ∃ v, vs[i]? = some v ∧ F a v
  | [], [], _, _, _, h => by simp at h
  | v :: _, _ :: _, h, 0, a, e => by simp at e; subst e; exact ⟨v, rfl, h.1⟩
  | _ :: _, _ :: _, h, i + 1, a, e => by simpa using Are.get' h.2 i (by simpa using e)
theorem Are.snoc {α : Type} {F : α → Value → Prop} {v : Value} {a : α} (hf : F a v) : ∀ {vs : List Value} {as : List α}, Are F vs as → Are F (vs ++ [v]) (as ++ [a])
  | [], [], _ => ⟨hf, trivial⟩
  | _ :: _, _ :: _, h => ⟨h.1, Are.snoc hf h.2⟩
theorem Are.imp {α : Type} {F G : α → Value → Prop} (k : ∀ a v, F a v → G a v) : ∀ {vs : List Value} {as : List α}, Are F vs as → Are G vs as
  | [], [], _ => trivial
  | _ :: _, _ :: _, h => ⟨k _ _ h.1, Are.imp k h.2⟩
theorem Are.map {α β : Type} {F : α → Value → Prop} {G : β → Value → Prop} (f : α → β) (k : ∀ a v, F a v → G (f a) v) : ∀ {vs : List Value} {as : List α}, Are F vs as → Are G vs (as.map f)
  | [], [], _ => trivial
  | _ :: _, _ :: _, h => ⟨k _ _ h.1, Are.map f k h.2⟩
noncomputable def IntIs (n : Int) (v : Value) : Prop := ∃ t, v = .int n t
theorem ints_are : ∀ {vs : List Value} {ns : List Int}, IntsAre vs ns → Are IntIs vs ns
  | _, _, .nil => trivial
  | _, _, .cons n t h => ⟨⟨t, rfl⟩, ints_are h⟩
theorem are_ints : ∀ {vs : List Value} {ns : List Int}, Are IntIs vs ns → IntsAre vs ns
  | [], [], _ => .nil
  | _ :: _, n :: _, h => by
    obtain ⟨⟨t, rfl⟩, h2⟩ := h
    exact .cons n t (are_ints h2)

section
variable {prog : Program} {w : World} {A : Around} {E : Value → Shared → Prop} {s : Shared} {h₀ : Heap} {L : Addr} {m : Str → Option Value} {env : Env}
  {ct elt : Expr} {x : Str} {scope : Scope} {cl : List (Str × Addr)} {S : List (Addr × Obj) → Prop} {P : Nat → Value → Prop} {Fin : List Value → List (Addr × Obj) → Prop} {news : List (Addr × Obj)}
open LCg LCt

/-- the end of a turn of a comprehension that leaves the ledger as it was -/
noncomputable def CEnd (h₀ : Heap) (L : Addr) (m : Str → Option Value) (s₁ : Shared) (all : List (Addr × Obj)) (G : Prop) (s₂ : Shared) : Prop :=
  ∃ h' tk, s₂ = { s₁ with heap := h', toks := tk } ∧ Fr h₀ L h' m ∧ News h₀ L h' all ∧ G
theorem CEnd.intro {s₁ : Shared} {all big : List (Addr × Obj)} {G : Prop} {h' : Heap} {tk : Nat} (F : Fr h₀ L h' m) (N : News h₀ L h' big) (sub : ∀ p ∈ all, p ∈ big) (g : G) :
    CEnd h₀ L m s₁ all G { s₁ with heap := h', toks := tk } := ⟨h', tk, rfl, F, news_sub N sub, g⟩

theorem rest_gen {α : Type} {as : List α} {F : α → Value → Prop} {n : Nat} (G : α → Value → Prop) (hn : as.length = n) (hP : ∀ i v, i < n → P i v → ∃ a, as[i]? = some a ∧ F a v) (hS : S news)
    (turn : ∀ (i : Nat) a v I oI C oC D m₂ ys h tk (E' : Value → Shared → Prop), as[i]? = some a → F a v → NsObj oC m₂ → m₂ x = some v → Fr h₀ L h m → News h₀ L h ((I, oI) :: (C, oC) :: (D, lst ys) :: news) → Off3 I C D news → ((@Ne Nat I C) ∧ (@Ne Nat I D) ∧ (@Ne Nat C D)) →
      wpAny (model prog w) A (eval elt (compEnvC scope cl C env)) (fun y => CEnd h₀ L m { s with heap := h, toks := tk } ((I, oI) :: (C, oC) :: (D, lst ys) :: news) (G a y)) E' { s with heap := h, toks := tk })
    (fin : ∀ ys, Are G ys as → Fin ys news) : CompRest prog w A h₀ L m env elt x scope cl s S P Fin n 0 [] news := by
  have key : ∀ (j i : Nat) (ys : List Value), i + j = n → Are G ys (as.take i) → CompRest prog w A h₀ L m env elt x scope cl s S P Fin j i ys news := by
    intro j
    induction j with
    | zero =>
      intro i ys hi hy
      refine CompRest.zero (fin ys ?_)
      rwa [List.take_of_length_le (by omega)] at hy
    | succ j ih =>
      intro i ys hi hy
      refine CompRest.succ ?_
      intro v I oI C oC D m₂ h tk E' hv hC hx F N off ne
      obtain ⟨a, ha, hf⟩ := hP i v (by omega) hv
      refine wpAny_mono (turn i a v I oI C oC D m₂ ys h tk E' ha hf hC hx F N off ne) (fun y s₂ hq => ?_) fun _ _ e => e
      obtain ⟨h', tk', rfl, F', N', g⟩ := hq
      refine ⟨h', tk', news, rfl, F', N', off, hS, ih (i + 1) _ (by omega) ?_⟩
      rw [List.take_add_one, ha]
      exact hy.snoc g
  exact key n 0 [] (by omega) trivial

theorem restT_gen {α : Type} {as : List α} {F : α → Value → Prop} {n : Nat} (pz : α → Bool) (G : α → Value → Prop) (hn : as.length = n) (hP : ∀ i v, i < n → P i v → ∃ a, as[i]? = some a ∧ F a v) (hS : S news)
    (turn : ∀ (i : Nat) a v I oI C oC D m₂ ys h tk (E' : Value → Shared → Prop), as[i]? = some a → F a v → NsObj oC m₂ → m₂ x = some v → Fr h₀ L h m → News h₀ L h ((I, oI) :: (C, oC) :: (D, lst ys) :: news) → Off3 I C D news → ((@Ne Nat I C) ∧ (@Ne Nat I D) ∧ (@Ne Nat C D)) →
      wpAny (model prog w) A (isTrue ct (compEnvC scope cl C env) (eval ct (compEnvC scope cl C env))) (fun ok s' => if ok = true then
          pz a = true ∧ wpAny (model prog w) A (eval elt (compEnvC scope cl C env)) (fun y => CEnd h₀ L m { s with heap := h, toks := tk } ((I, oI) :: (C, oC) :: (D, lst ys) :: news) (G a y)) E' s'
        else CEnd h₀ L m { s with heap := h, toks := tk } ((I, oI) :: (C, oC) :: (D, lst ys) :: news) (pz a = false) s') E' { s with heap := h, toks := tk })
    (fin : ∀ ys, Are G ys (as.filter pz) → Fin ys news) : CompRestT prog w A h₀ L m env ct elt x scope cl s S P Fin n 0 [] news := by
  have key : ∀ (j i : Nat) (ys : List Value), i + j = n → Are G ys ((as.take i).filter pz) → CompRestT prog w A h₀ L m env ct elt x scope cl s S P Fin j i ys news := by
    intro j
    induction j with
    | zero =>
      intro i ys hi hy
      refine CompRestT.zero (fin ys ?_)
      rwa [List.take_of_length_le (by omega)] at hy
    | succ j ih =>
      intro i ys hi hy
      refine CompRestT.succ ?_
      intro v I oI C oC D m₂ h tk E' hv hC hx F N off ne
      obtain ⟨a, ha, hf⟩ := hP i v (by omega) hv
      refine wpAny_mono (turn i a v I oI C oC D m₂ ys h tk E' ha hf hC hx F N off ne) (fun ok s₂ hq => ?_) fun _ _ e => e
      have et : (as.take (i + 1)).filter pz = (as.take i).filter pz ++ (if pz a = true then [a] else []) := by
        rw [List.take_add_one, ha, List.filter_append]
        cases hp : pz a <;> simp [hp]
      cases ok with
      | true =>
        simp only [if_true] at hq ⊢
        obtain ⟨hpz, hq⟩ := hq
        rw [hpz, if_pos rfl] at et
        refine wpAny_mono hq (fun y s₃ hy3 => ?_) fun _ _ e => e
        obtain ⟨h', tk', rfl, F', N', g⟩ := hy3
        refine ⟨h', tk', news, rfl, F', N', off, hS, ih (i + 1) _ (by omega) ?_⟩
        rw [et]
        exact hy.snoc g
      | false =>
        simp only [Bool.false_eq_true, if_false] at hq ⊢
        obtain ⟨h', tk', rfl, F', N', hpz⟩ := hq
        rw [hpz, if_neg (by decide), List.append_nil] at et
        refine ⟨h', tk', news, rfl, F', N', off, hS, ih (i + 1) _ (by omega) ?_⟩
        rw [et]
        exact hy
  exact key n 0 [] (by omega) trivial
end
end Mine
end
section
open PySem PySem.W PyProof.Rows PySem.Spec PySem.Calls
namespace Mine
noncomputable def PcIs (v : Value) (o : Option Str) : Prop := match o with
  | none => v = .none
  | some x => ∃ t, v = .str x t
noncomputable def PcsAre : List Value → List (Option Str) → Prop
  | [], [] => True
  | v :: vs, o :: os => PcIs v o ∧ PcsAre vs os
  | _, _ => False
theorem PcsAre.length : ∀ {vs : List Value} {os : List (Option Str)}, PcsAre vs os → vs.length = os.length
  | [], [], _ => rfl
  | _ :: _, _ :: _, h => by simp [PcsAre.length h.2]
theorem PcsAre.get : ∀ {vs : List Value} {os : List (Option Str)} (_ : PcsAre vs os) (i : Nat) {o : Option Str}, os[i]? = some o → ∃ v, vs[i]? = some v ∧ PcIs v o
  | [], [], _, _, _, h => by simp at h
  | v :: _, _ :: _, h, 0, o, e => by simp at e; subst e; exact ⟨v, rfl, h.1⟩
  | _ :: _, _ :: _, h, i + 1, o, e => by simpa using PcsAre.get h.2 i (by simpa using e)
noncomputable def closeJ (ps : List (Option Str)) (pl : List Int) (j : Nat) : List Int := if (j : Int) ∈ pl ∧ ((j : Int) + 1) ∉ pl ∧ ps[j]? = some none then pl ++ [(j : Int) + 1] else pl
noncomputable def closeUp (ps : List (Option Str)) (pl : List Int) : Nat → List Int
  | 0 => pl
  | j + 1 => closeJ ps (closeUp ps pl j) j
noncomputable def fitsAt (ps : List (Option Str)) (c : Nat) (j : Int) : Bool := j < ps.length && (match ps[j.toNat]? with
  | some none => true
  | some (some x) => Str.ofString "any" == x || (⟨#[c]⟩ : Str) == x
  | none => false)
noncomputable def goOn (ps : List (Option Str)) (j : Int) : Int := if ps[j.toNat]? = some none then j else j + 1
noncomputable def turnK (ps : List (Option Str)) (pl : List Int) : Option Nat → List Int
  | none => closeUp ps pl ps.length
  | some c => ((closeUp ps pl ps.length).filter (fitsAt ps c)).map (goOn ps)
noncomputable def plAt (ps : List (Option Str)) (cs : List Nat) : Nat → List Int
  | 0 => [0]
  | i + 1 => turnK ps (plAt ps cs i) cs[i]?
noncomputable def takes (ps : List (Option Str)) (cs : List Nat) : Bool := (plAt ps cs (cs.length + 1)).any fun x => x == (ps.length : Int)
theorem closeUp_len (ps : List (Option Str)) (pl : List Int) : ∀ n, (closeUp ps pl n).length ≤ pl.length + n
  | 0 => Nat.le_refl _
  | n + 1 => by
    have := closeUp_len ps pl n
    unfold closeUp closeJ
    split
    · simp; omega
    · omega
theorem closeUp_in (ps : List (Option Str)) (pl : List Int) (h : ∀ j ∈ pl, 0 ≤ j ∧ j ≤ ps.length) : ∀ n, n ≤ ps.length → ∀ j ∈ closeUp ps pl n, 0 ≤ j ∧ j ≤ ps.length
  | 0, _ => h
  | n + 1, hn => by
    have := closeUp_in ps pl h n (by omega)
    unfold closeUp closeJ
    split
    · intro j hj
      rcases List.mem_append.mp hj with hj | hj
      · exact this j hj
      · rw [List.mem_singleton.mp hj]; omega
    · exact this
theorem plAt_in (ps : List (Option Str)) (cs : List Nat) : ∀ i, ∀ j ∈ plAt ps cs i, 0 ≤ j ∧ j ≤ ps.length
  | 0 => by intro j hj; rw [List.mem_singleton.mp hj]; omega
  | i + 1 => by
    have h := closeUp_in ps _ (plAt_in ps cs i) ps.length (Nat.le_refl _)
    unfold plAt turnK
    split
    · exact h
    · intro j hj
      obtain ⟨k, hk, rfl⟩ := List.mem_map.mp hj
      obtain ⟨hk1, hk2⟩ := List.mem_filter.mp hk
      have := h k hk1
      unfold fitsAt at hk2
      simp only [Bool.and_eq_true, decide_eq_true_eq] at hk2
      unfold goOn
      split <;> omega
theorem plAt_len (ps : List (Option Str)) (cs : List Nat) : ∀ i, (plAt ps cs i).length ≤ 1 + ps.length * i
  | 0 => by simp [plAt]
  | i + 1 => by
    have h1 := plAt_len ps cs i
    have h2 := closeUp_len ps (plAt ps cs i) ps.length
    rw [Nat.mul_succ]
    unfold plAt turnK
    split
    · omega
    · rename_i c _
      rw [List.length_map]
      have := List.length_filter_le (fitsAt ps c) (closeUp ps (plAt ps cs i) ps.length)
      omega
theorem any_eq {l : List Int} {k : Int} {b : Bool} (h : (l.any fun x => x == k) = b) : (k ∈ l) ↔ b = true := by
  subst h
  simp [List.any_eq_true]
theorem closeJ_no1 {ps : List (Option Str)} {l : List Int} {j : Nat} (h : (l.any fun x => x == 0 + (j : Int)) = false) : l ++ [] = closeJ ps l j := by
  have := any_eq h
  rw [Int.zero_add] at this
  unfold closeJ
  rw [List.append_nil, if_neg]
  rintro ⟨a, _⟩
  exact Bool.noConfusion (this.mp a)
theorem closeJ_no2 {ps : List (Option Str)} {l : List Int} {j : Nat} (h : (l.any fun x => x == 0 + (j : Int) + 1) = true) : l ++ [] = closeJ ps l j := by
  have := (any_eq h).mpr rfl
  rw [Int.zero_add] at this
  unfold closeJ
  rw [List.append_nil, if_neg]
  rintro ⟨_, a, _⟩
  exact a this
theorem closeJ_no3 {ps : List (Option Str)} {l : List Int} {j : Nat} {x : Str} (h : ps[(0 + (j : Int)).toNat]? = some (some x)) : l ++ [] = closeJ ps l j := by
  have e : (0 + (j : Int)).toNat = j := by omega
  rw [e] at h
  unfold closeJ
  rw [List.append_nil, if_neg]
  rintro ⟨_, _, a⟩
  rw [h] at a
  cases a
theorem closeJ_yes {ps : List (Option Str)} {l : List Int} {j : Nat} (h1 : (l.any fun x => x == 0 + (j : Int)) = true) (h2 : (l.any fun x => x == 0 + (j : Int) + 1) = false) (h3 : ps[(0 + (j : Int)).toNat]? = some none) :
    l ++ [0 + (j : Int) + 1] = closeJ ps l j := by
  have e : (0 + (j : Int)).toNat = j := by omega
  have a1 := (any_eq h1).mpr rfl
  have a2 : ¬ (0 + (j : Int) + 1) ∈ l := fun q => Bool.noConfusion ((any_eq h2).mp q)
  rw [e] at h3
  rw [Int.zero_add] at a1 a2 ⊢
  unfold closeJ
  rw [if_pos ⟨a1, a2, h3⟩]
section
variable {prog : Program} {w : World} {A : Around} {E : Value → Shared → Prop} {s : Shared}
theorem len_pcs {l : Addr} {vs : List Value} {ps : List (Option Str)} {Q : Value → Shared → Prop} (hl : s.heap.IsList l vs.toArray) (hp : PcsAre vs ps) (hb : ps.length ≤ 8)
    (h : ∀ t k, Q (.int ps.length t) { s with toks := k }) : wpAny (model prog w) A (call (.builtin "len") [.ref l]) Q E s := by
  have e : vs.toArray.size = ps.length := by simp [hp.length]
  refine len_list hl (by rw [e]; omega) ?_
  rw [e]; exact h _ _
theorem item_pcs {value slice : Expr} {l : Addr} {vs : List Value} {ps : List (Option Str)} {k : Int} {u : Tok} {Q : Value → Shared → Prop} (hl : s.heap.IsList l vs.toArray) (hp : PcsAre vs ps) (hb : ps.length ≤ 8)
    (h0 : 0 ≤ k) (h1 : k < ps.length) (h₁ : ps[k.toNat]? = some none → Q .none s) (h₂ : ∀ x t, ps[k.toNat]? = some (some x) → Q (.str x t) s)
    (hs : subscripted slice false (.ref l) (.int k u) = operate [.ref l, .int k u] (getItem (.ref l) (.int k u)) := by with_unfolding_all rfl) (hg : ∀ r, letTemporaryGo value (.ref l) r = pure () := by intro _; with_unfolding_all rfl) :
    wpAny (model prog w) A (subscriptTail value slice (.ref l) (.int k u)) Q E s := by
  have hlt : k.toNat < ps.length := by omega
  obtain ⟨v, hv, hpc⟩ := hp.get k.toNat (List.getElem?_eq_getElem hlt)
  have ho := List.getElem?_eq_getElem hlt
  refine item_list hl h0 (by omega) (by simpa using hv) ?_ hs hg
  generalize ps[k.toNat] = o at ho hpc
  cases o with
  | none => have e : v = .none := hpc; subst e; exact h₁ ho
  | some x => obtain ⟨t, rfl⟩ := hpc; exact h₂ x t ho
end

section
variable {prog : Program} {w : World} {A : Around} {E : Value → Shared → Prop} {s : Shared}
theorem eqg_none : MeetsSeq.EqGives .none .none true := fun prog w A E s Q k => by
  unfold eqBool
  refine wpAny_holding ?_
  refine wpAny_ite_split (fun _ => wpAny_bind (wpAny_rule (wpAny_pure k))) (fun hn => absurd rfl hn)
noncomputable def noneB : Value → Bool
  | .none => true
  | _ => false
theorem in3_none {l : Addr} {a b : Str} {ta tb : Tok} {Q : Value → Shared → Prop} (hl : s.heap.IsList l #[.none, .str a ta, .str b tb]) (h : Q (.bool true) s) :
    wpAny (model prog w) A (compareOp .In .none (.ref l)) Q E s := by
  refine SeqInW.in_listW noneB (fun y hy => ?_) hl (show Q (.bool (#[Value.none, .str a ta, .str b tb].any noneB)) s from by
    rw [← Array.any_toList]; exact h)
  have hy' : y ∈ [Value.none, .str a ta, .str b tb] := by simpa using hy
  simp only [List.mem_cons, List.not_mem_nil, or_false] at hy'
  rcases hy' with rfl | rfl | rfl
  · exact eqg_none
  · exact fun prog w A E s Q k => SeqAt.EqAt.str_none _ _ prog w E Q k
  · exact fun prog w A E s Q k => SeqAt.EqAt.str_none _ _ prog w E Q k
theorem in3_str {l : Addr} {a b c : Str} {ta tb tc : Tok} {Q : Value → Shared → Prop} (hl : s.heap.IsList l #[.none, .str a ta, .str b tb]) (h : Q (.bool (a == c || b == c)) s) :
    wpAny (model prog w) A (compareOp .In (.str c tc) (.ref l)) Q E s := by
  refine SeqInW.in_listW (isStrOf c) (fun y hy => ?_) hl ?_
  · have hy' : y ∈ [Value.none, .str a ta, .str b tb] := by simpa using hy
    simp only [List.mem_cons, List.not_mem_nil, or_false] at hy'
    rcases hy' with rfl | rfl | rfl
    · exact fun prog w A E s Q k => SeqAt.EqAt.none_str _ _ prog w E Q k
    · exact eqGives_str _ _ _ _
    · exact eqGives_str _ _ _ _
  · have e : (#[Value.none, .str a ta, .str b tb] : Array Value).any (isStrOf c) = (a == c || b == c) := by
      rw [← Array.any_toList]
      show (isStrOf c .none || (isStrOf c (.str a ta) || (isStrOf c (.str b tb) || false))) = _
      simp [isStrOf]
    rw [e]; exact h
end
theorem item_at {x : Str} {i c : Nat} (h : x.cps.toList[i]? = some c) : Txt.item x (0 + (i : Int)) = ⟨#[c]⟩ := by
  refine item_meets (by omega) ?_
  have e : (0 + (i : Int)).toNat = i := by omega
  rw [e]
  simpa using h

theorem fits_none {ps : List (Option Str)} {c : Nat} {j : Int} (h1 : j < ps.length) (h2 : ps[j.toNat]? = some none) : fitsAt ps c j = true := by
  unfold fitsAt; rw [h2]; simp [h1]
theorem fits_val {ps : List (Option Str)} {tx x : Str} {i c : Nat} {j : Int} {b : Bool} (hc : tx.cps.toList[i]? = some c) (h1 : j < ps.length) (h2 : ps[j.toNat]? = some (some x)) (h3 : (Str.ofString "any" == x || Txt.item tx (0 + (i : Int)) == x) = b) :
    fitsAt ps c j = b := by
  rw [item_at hc] at h3
  unfold fitsAt; rw [h2]; simp only [h1, decide_true, Bool.true_and]; exact h3
theorem fits_out {ps : List (Option Str)} {c : Nat} {j : Int} (h1 : ¬ j < ps.length) : fitsAt ps c j = false := by
  unfold fitsAt; simp [h1]
theorem fits_in {ps : List (Option Str)} {c : Nat} {j : Int} (h : fitsAt ps c j = true) : j < ps.length := by
  unfold fitsAt at h
  simp only [Bool.and_eq_true, decide_eq_true_eq] at h
  exact h.1
theorem goOn_none {ps : List (Option Str)} {j : Int} (h2 : ps[j.toNat]? = some none) : j = goOn ps j := by
  unfold goOn; rw [if_pos h2]
theorem goOn_val {ps : List (Option Str)} {j : Int} {x : Str} (h2 : ps[j.toNat]? = some (some x)) : j + 1 = goOn ps j := by
  unfold goOn; rw [h2, if_neg (by simp)]
end Mine
end
section
open PySem PySem.W PyProof.Rows PySem.Spec PySem.Calls
namespace Mine
noncomputable def b64L : List UInt8 := [65, 66, 67, 68, 69, 70, 71, 72, 73, 74, 75, 76, 77, 78, 79, 80, 81, 82, 83, 84, 85, 86, 87, 88, 89, 90, 97, 98, 99, 100, 101, 102, 103, 104, 105, 106, 107, 108, 109, 110, 111, 112, 113, 114, 115, 116, 117, 118, 119, 120, 121, 122, 48, 49, 50, 51, 52, 53, 54, 55, 56, 57, 43, 47]
/-- the sign's number of a six -/
noncomputable def b64c (k : Int) : Int := ((b64L.getD k.toNat 0).toNat : Int)
section
variable {prog : Program} {w : World} {A : Around} {E : Value → Shared → Prop} {s : Shared}
theorem b64_item {value slice : Expr} {k : Int} {t u : Tok} {Q : Value → Shared → Prop} (h0 : 0 ≤ k) (h1 : k < 64) (h : ∀ t', Q (.int (b64c k) t') { s with toks := t' + 1 })
    (hs : subscripted slice false (.bytes b64L.toArray t) (.int k u) = operate [.bytes b64L.toArray t, .int k u] (getItem (.bytes b64L.toArray t) (.int k u)) := by with_unfolding_all rfl)
    (ht : ∀ r, letTemporaryGo value (.bytes b64L.toArray t) r = pure () := by intro _; with_unfolding_all rfl) :
    wpAny (model prog w) A (subscriptTail value slice (.bytes b64L.toArray t) (.int k u)) Q E s :=
  KBy.item_N (by decide) h0 (by exact h1) (h _) hs ht
end
structure B2 where
  out : List Int
  lc : Int
  lb : Int
noncomputable def b2lc (lc : Int) (c : UInt8) : Int := Builtin.bitAnd (Builtin.bitOr (lc * 2 ^ Int.toNat 8) (c.toNat : Int)) 65535
noncomputable def b2e (lc : Int) (n : Nat) : Int := b64c (Builtin.bitAnd (lc.fdiv (2 ^ n)) 63)
noncomputable def b2step (st : B2) (c : UInt8) : B2 := if st.lb = 4 then ⟨st.out ++ [b2e (b2lc st.lc c) 6, b2e (b2lc st.lc c) 0], b2lc st.lc c, 0⟩
  else if st.lb = 2 then ⟨st.out ++ [b2e (b2lc st.lc c) 4], b2lc st.lc c, 4⟩ else ⟨st.out ++ [b2e (b2lc st.lc c) 2], b2lc st.lc c, 2⟩
noncomputable def b2run (l : List UInt8) : B2 := l.foldl b2step ⟨[], 0, 0⟩
theorem b2run_snoc (l : List UInt8) (c : UInt8) : b2run (l ++ [c]) = b2step (b2run l) c := by unfold b2run; rw [List.foldl_append]; rfl
theorem take_snoc {b : Array UInt8} {i : Nat} {c : UInt8} (h : b[i]? = some c) : b.toList.take (i + 1) = b.toList.take i ++ [c] := by
  rw [List.take_add_one]
  have : b.toList[i]? = some c := by simpa using h
  rw [this]; rfl

noncomputable def B2Ok (st : B2) : Prop := (st.lb = 0 ∨ st.lb = 2 ∨ st.lb = 4) ∧ 0 ≤ st.lc ∧ st.lc < 65536
theorem b2lc_in (lc : Int) (c : UInt8) : 0 ≤ b2lc lc c ∧ b2lc lc c < 65536 := by
  unfold b2lc
  rw [bitAnd_m16]
  omega
theorem b2run_ok (l : List UInt8) : B2Ok (b2run l) ∧ (b2run l).out.length ≤ 2 * l.length := by
  suffices h : ∀ (l : List UInt8) (st : B2), B2Ok st → B2Ok (l.foldl b2step st) ∧ (l.foldl b2step st).out.length ≤ st.out.length + 2 * l.length by
    have := h l ⟨[], 0, 0⟩ ⟨.inl rfl, by decide, by decide⟩
    simpa [b2run] using this
  intro l
  induction l with
  | nil => intro st h; exact ⟨h, by simp⟩
  | cons c r ih =>
    intro st h
    have hb := b2lc_in st.lc c
    have h1 : B2Ok (b2step st c) ∧ (b2step st c).out.length ≤ st.out.length + 2 := by
      unfold b2step
      split
      · exact ⟨⟨.inl rfl, hb.1, hb.2⟩, by simp⟩
      · split
        · exact ⟨⟨.inr (.inr rfl), hb.1, hb.2⟩, by simp⟩
        · exact ⟨⟨.inr (.inl rfl), hb.1, hb.2⟩, by simp⟩
    have h2 := ih _ h1.1
    refine ⟨h2.1, ?_⟩
    have := h2.2
    simp only [List.foldl_cons, List.length_cons]
    omega

noncomputable def b2fin (st : B2) : List Int := if st.lb = 2 then st.out ++ [b64c (Builtin.bitAnd st.lc 3 * 2 ^ Int.toNat 4), 61, 61]
  else if st.lb = 4 then st.out ++ [b64c (Builtin.bitAnd st.lc 15 * 2 ^ Int.toNat 2), 61] else st.out
noncomputable def b64B (b : Array UInt8) : List UInt8 := (b2fin (b2run b.toList)).map fun n => n.toNat.toUInt8
theorem b64c_in (k : Int) : 0 ≤ b64c k ∧ b64c k < 256 := by
  unfold b64c
  have := (b64L.getD k.toNat 0).toNat_lt
  omega
theorem b2run_in (l : List UInt8) : ∀ n ∈ (b2run l).out, 0 ≤ n ∧ n < 256 := by
  suffices h : ∀ (l : List UInt8) (st : B2), (∀ n ∈ st.out, 0 ≤ n ∧ n < 256) → ∀ n ∈ (l.foldl b2step st).out, 0 ≤ n ∧ n < 256 from h l ⟨[], 0, 0⟩ (by simp)
  intro l
  induction l with
  | nil => intro st h; exact h
  | cons c r ih =>
    intro st h
    refine ih _ ?_
    unfold b2step
    split
    · simp only [List.forall_mem_append, List.forall_mem_cons]
      exact ⟨h, b64c_in _, b64c_in _, by simp⟩
    · split
      · simp only [List.forall_mem_append, List.forall_mem_cons]
        exact ⟨h, b64c_in _, by simp⟩
      · simp only [List.forall_mem_append, List.forall_mem_cons]
        exact ⟨h, b64c_in _, by simp⟩
theorem b2fin_in (l : List UInt8) : ∀ n ∈ b2fin (b2run l), 0 ≤ n ∧ n < 256 := by
  have h := b2run_in l
  unfold b2fin
  split
  · simp only [List.forall_mem_append, List.forall_mem_cons]
    exact ⟨h, b64c_in _, by decide, by decide, by simp⟩
  · split
    · simp only [List.forall_mem_append, List.forall_mem_cons]
      exact ⟨h, b64c_in _, by decide, by simp⟩
    · exact h

abbrev b2x (lc : Int) (c : UInt8) : Int := Builtin.bitAnd (Builtin.bitOr (lc * 2 ^ Int.toNat 8) (c.toNat : Int)) 65535
noncomputable abbrev b2y (x n : Int) : Int := b64c (Builtin.bitAnd (x.fdiv (2 ^ n.toNat)) 63)
theorem b2step_0 (out : List Int) (lc : Int) (c : UInt8) : b2step ⟨out, lc, 0⟩ c = ⟨out ++ [b2y (b2x lc c) (0 + 8 - 6)], b2x lc c, 0 + 8 - 6⟩ := by
  unfold b2step
  rw [if_neg (by intro q; cases q), if_neg (by intro q; cases q)]
  rfl
theorem b2step_2 (out : List Int) (lc : Int) (c : UInt8) : b2step ⟨out, lc, 2⟩ c = ⟨out ++ [b2y (b2x lc c) (2 + 8 - 6)], b2x lc c, 2 + 8 - 6⟩ := by
  unfold b2step
  rw [if_neg (by intro q; cases q), if_pos rfl]
  rfl
theorem b2step_4 (out : List Int) (lc : Int) (c : UInt8) : b2step ⟨out, lc, 4⟩ c = ⟨out ++ [b2y (b2x lc c) (4 + 8 - 6), b2y (b2x lc c) (4 + 8 - 6 - 6)], b2x lc c, 4 + 8 - 6 - 6⟩ := by
  unfold b2step
  rw [if_pos rfl]
  rfl
theorem b2fin_0 (out : List Int) (lc : Int) : b2fin ⟨out, lc, 0⟩ = out := by
  unfold b2fin
  rw [if_neg (by intro q; cases q), if_neg (by intro q; cases q)]
theorem b2fin_2 (out : List Int) (lc : Int) : b2fin ⟨out, lc, 2⟩ = out ++ [b64c (Builtin.bitAnd lc 3 * 2 ^ Int.toNat 4), 61, 61] := by
  unfold b2fin
  rw [if_pos rfl]
theorem b2fin_4 (out : List Int) (lc : Int) : b2fin ⟨out, lc, 4⟩ = out ++ [b64c (Builtin.bitAnd lc 15 * 2 ^ Int.toNat 2), 61] := by
  unfold b2fin
  rw [if_neg (by intro q; cases q), if_pos rfl]
end Mine
end
section
open PySem PySem.W PyProof.Rows PySem.Spec PySem.Calls
namespace Mine
open Builtin
set_option maxRecDepth 100000
theorem slot_tr : Slot "bytes" "translate" "bytes.translate" :=
  .of (owner := "bytes") (n := "translate") (by rw [typeLookup_type, builtinLookup_eq_fast]; kernel_rfl) (by decide +kernel) (by decide +kernel) (by decide +kernel)
    (by first | exact .inl (by decide +kernel) | exact .inr (by decide +kernel)) (by rw [isSubtype_type]; kernel_rfl)
theorem type_tr : typeOf (.builtin "bytes.translate") = pure (.type "method_descriptor") := by show builtinType _ = _; rw [builtinType_eq_fast]; kernel_rfl
theorem entry_tr : entryFor table "bytes.translate" = some Builtin.«bytes.translate» := entryFor_of_tree (by kernel_rfl)
theorem args_tr (a b : Value) : argsOk "bytes.translate" ⟨[a, b], []⟩ := by
  unfold argsOk; rw [signature?_of (id := "bytes.translate") (n := ['e', 't', 'a', 'l', 's', 'n', 'a', 'r', 't']) (o := ['s', 'e', 't', 'y', 'b']) (by kernel_rfl) FB.owner_bytes]; kernel_rfl
theorem kind_mk : builtinKind "bytes.maketrans" = some .staticMethod := by decide +kernel
theorem split_mk : splitId "bytes.maketrans" = some ("bytes", "maketrans") := by decide +kernel
theorem plain_mk : plainId "bytes.maketrans" = true := by decide +kernel
theorem entry_mk : entryFor table "bytes.maketrans" = some Builtin.«bytes.maketrans» := entryFor_of_tree (by kernel_rfl)
theorem args_mk (a b : Value) : argsOk "bytes.maketrans" ⟨[a, b], []⟩ := by
  unfold argsOk; rw [signature?_of (id := "bytes.maketrans") (n := ['s', 'n', 'a', 'r', 't', 'e', 'k', 'a', 'm']) (o := ['s', 'e', 't', 'y', 'b']) (by kernel_rfl) FB.owner_bytes]; kernel_rfl
theorem args_dec (a b : Value) : argsOk "bytes.decode" ⟨[a, b], []⟩ := by
  unfold argsOk; rw [signature?_of (id := "bytes.decode") (n := ['e', 'd', 'o', 'c', 'e', 'd']) (o := ['s', 'e', 't', 'y', 'b']) (by kernel_rfl) FB.owner_bytes]; kernel_rfl
theorem b64B_len (b : Array UInt8) : (b64B b).length ≤ 2 * b.size + 3 := by
  have h := (b2run_ok b.toList).2
  unfold b64B
  rw [List.length_map]
  unfold b2fin
  simp only [Array.length_toList] at h
  split
  · simp only [List.length_append, List.length_cons, List.length_nil]; omega
  · split
    · simp only [List.length_append, List.length_cons, List.length_nil]; omega
    · omega
/-- the table of maketrans -/
noncomputable def trT (f g : List UInt8) : Array UInt8 := ((f.zip g).foldl (fun t (x : UInt8 × UInt8) => t.setIfInBounds x.1.toNat x.2) ((Array.range 256).map (·.toUInt8)))
noncomputable def trB (t : Array UInt8) (b : Array UInt8) : Array UInt8 := b.map fun c => t.getD c.toNat c
noncomputable def encB (b : Array UInt8) : Array UInt8 := trB (trT [43, 47] [39, 39]) (b64B b).toArray
theorem trT_def (f g : List UInt8) : trT f g = ((f.zip g).foldl (fun t (x : UInt8 × UInt8) => t.setIfInBounds x.1.toNat x.2) ((Array.range 256).map (·.toUInt8))) := rfl
theorem trT_size (f g : List UInt8) : (trT f g).size = 256 := by
  unfold trT
  suffices h : ∀ (l : List (UInt8 × UInt8)) (a : Array UInt8), (l.foldl (fun t (x : UInt8 × UInt8) => t.setIfInBounds x.1.toNat x.2) a).size = a.size by rw [h]; simp
  intro l
  induction l with
  | nil => intro a; rfl
  | cons x r ih => intro a; rw [List.foldl_cons, ih]; simp
section
variable {b c : Array UInt8} {t u : Tok}
theorem gives_mk (h : b.size = c.size) : Gives («bytes.maketrans» ⟨[.bytes b t, .bytes c u], []⟩) (.bytes (trT b.toList c.toList)) := by
  refine .of_wp fun M A E s Q hq => ?_
  show wpAny M A (noKeywords "bytes.maketrans" ⟨[.bytes b t, .bytes c u], []⟩ >>= fun _ => _) _ E s
  refine wpAny_bind (wpAny_pure ?_)
  show wpAny M A (checkCount "maketrans" 2 2 2 >>= fun _ => _) _ E s
  refine wpAny_bind (wpAny_pure ?_)
  show wpAny M A (Bytes.bytesLike _ (.bytes b t) >>= fun r => _) _ E s
  refine wpAny_bind (wpAny_of_eq KBd.like_eq ?_)
  show wpAny M A (Bytes.bytesLike _ (.bytes c u) >>= fun r => _) _ E s
  refine wpAny_bind (wpAny_of_eq KBd.like_eq ?_)
  have hb : (b.size != c.size) = false := by simp [h]
  simp only [hb, Bool.false_eq_true, if_false]
  refine wpAny_bind (wpAny_mkBytes (wpAny_pure ⟨_, rfl, ?_⟩) ?_)
  · exact hq.2
  · show (trT b.toList c.toList).size ≤ _
    rw [trT_size, sizeLine_eq]; decide
theorem meets_mk (h : b.size = c.size) : Meets («bytes.maketrans» ⟨[.bytes b t, .bytes c u], []⟩) (fun _ R s => R (.ok (.ret (.bytes (trT b.toList c.toList) s.toks))) { s with toks := s.toks + 1 }) :=
  (gives_mk h).meets.of_imp fun _ _ _ hs => ⟨by rw [trT_size, sizeLine_eq]; decide, hs⟩
theorem meets_tr (hT : c.size = 256) (hb : b.size ≤ sizeLine) : Meets («bytes.translate» ⟨[.bytes b t, .bytes c u], []⟩) (fun _ R s => ∀ t' k, R (.ok (.ret (.bytes (trB c b) t'))) { s with toks := k }) := by
  refine .of_wp fun prog w A R s hS => ?_
  show wpAny _ _ (Bytes.bytesLike _ (.bytes c u) >>= fun r => _) _ _ s
  refine wpAny_bind (wpAny_of_eq KBd.like_eq ?_)
  have h1 : (c.size != 256) = false := by simp [hT]
  simp only [h1, Bool.false_eq_true, if_false]
  refine wpAny_bind (wpAny_pure ?_)
  refine wpAny_bind (wpAny_pure ?_)
  show wpAny _ _ (Bytes.payload (Value.bytes b t) >>= fun r => _) _ _ s
  refine wpAny_bind (wpAny_pure ?_)
  have e1 : (b.filter fun x => !(#[] : Array UInt8).contains x) = b := by simp
  simp only [e1]
  show wpAny _ _ (if (trB c b == b) = true then _ else _) _ _ s
  split
  · rename_i hq
    have hq : trB c b = b := by simpa using hq
    refine wpAny_bind (wpAny_rule ?_)
    refine wpAny_bind (m := Bytes.Kind.same _ _) ?_
    show wpAny _ _ (typeOf (Value.bytes b t) >>= fun x => _) _ _ s
    refine wpAny_bind (wpAny_typeOf (typeIs_bytes s b t) ?_)
    rw [if_pos (by decide)]
    exact wpAny_pure (wpAny_pure ⟨_, rfl, hq ▸ hS _ _⟩)
  · refine wpAny_bind (wpAny_mkBytes (wpAny_pure ⟨_, rfl, hS _ _⟩) ?_)
    show (b.map _).size ≤ _
    rw [Array.size_map]; exact hb
theorem road_ascii {id : String} : _codecs.decodeRoad id b (PySem.Str.ofString "ascii") none [] = (_codecs.runDecoder id _codecs.asciiDecoder none true b 0 [] >>= fun r => mkStr ⟨r.1⟩) := by kernel_rfl
theorem forIn_pre {σ : Type} (b : Array UInt8) (st : σ) (f : Nat → Nat × Array Nat × σ → Sem (ForInStep (Nat × Array Nat × σ)))
    (hf : ∀ k p, p < b.size → f k (p, ((b.toList.take p).map (·.toNat)).toArray, st) = pure (.yield (p + 1, ((b.toList.take (p + 1)).map (·.toNat)).toArray, st))) :
    ∀ n p k, p + n = b.size → forIn (List.range' k n) (p, ((b.toList.take p).map (·.toNat)).toArray, st) f = pure (b.size, ((b.toList.take b.size).map (·.toNat)).toArray, st) := by
  intro n
  induction n with
  | zero => intro p k h; subst h; rfl
  | succ n ih =>
    intro p k h
    rw [List.range'_succ, List.forIn_cons, hf k p (by omega)]
    exact ih (p + 1) (k + 1) (by omega)
theorem run_ascii (id : String) (hb : b.size ≤ sizeLine) (hall : ∀ c ∈ b.toList, c.toNat < 128) : _codecs.runDecoder id _codecs.asciiDecoder none true b 0 [] = pure (b.map (·.toNat), b.size) := by
  unfold _codecs.runDecoder
  simp only [Std.Legacy.Range.forIn_eq_forIn_range']
  have e0 : (0, (#[] : Array Nat), ({ } : _codecs.Faults)) = (0, ((b.toList.take 0).map (·.toNat)).toArray, ({ } : _codecs.Faults)) := rfl
  have e1 : ([:b.size] : Std.Legacy.Range).size = b.size := by simp [Std.Legacy.Range.size]
  rw [e0, e1, forIn_pre b _ _ ?_ b.size 0 0 (by omega)]
  · rw [pure_bind]
    congr 2
    rw [List.take_of_length_le (by simp)]
    apply Array.ext'
    simp
  · intro k p hp
    have hl : ¬ (((b.toList.take p).map (·.toNat)).toArray.size > sizeLine) := by
      simp only [List.size_toArray, List.length_map, List.length_take, Array.length_toList]
      omega
    have hg : b.getD p 0 = b[p] := by simp [hp]
    have hlt : (b[p]).toNat < 128 := hall _ (by simp)
    have hfind : _codecs.asciiDecoder.find true b p = .text [b[p].toNat] (p + 1) := by
      show (let c := (b.getD p 0).toNat; if c < 128 then _codecs.Found.char c (p + 1) else _) = _
      simp only [hg, if_pos hlt]
      rfl
    simp only [hl, if_false, hfind]
    rw [if_neg (by omega)]
    congr 3
    rw [List.take_add_one, List.map_append]
    have : b.toList[p]? = some b[p] := by simp [hp]
    rw [this]
    simp
theorem meets_dtext {t1 t2 : Tok} {d : PySem.Str} (hb : b.size ≤ sizeLine) (hall : ∀ c ∈ b.toList, c.toNat < 128) :
    Meets («_codecs.decode.text» ⟨[.bytes b t, .str (PySem.Str.ofString "ascii") t1, .none, .str d t2], []⟩) (fun _ R s => R (.ok (.ret (.str ⟨b.map (·.toNat)⟩ s.toks))) { s with toks := s.toks + 1 }) := by
  refine .of_wp fun prog w A R s h => ?_
  show wpAny _ _ (Bytes.bytesLike _ (.bytes b t) >>= fun r => _) _ _ s
  refine wpAny_bind (wpAny_of_eq KBd.like_eq ?_)
  refine wpAny_bind (wpAny_of_eq KBd.held_eq ?_)
  show wpAny _ _ (_codecs.decodeRoad _ b (PySem.Str.ofString "ascii") none [] >>= fun v => _) _ _ s
  rw [road_ascii, run_ascii _ hb hall]
  refine wpAny_bind (wpAny_bind (wpAny_pure ?_))
  exact wpAny_mkStr (wpAny_pure ⟨_, rfl, h⟩) (by show (b.map _).size ≤ _; rw [Array.size_map]; exact hb)
theorem dec_eq {c : UInt8} {cs : List UInt8} : «bytes.decode» ⟨[.bytes (c :: cs).toArray t, .str (PySem.Str.ofString "ascii") u], []⟩ = (mkStr (PySem.Str.ofString "utf-8") >>= fun _ => mkStr (PySem.Str.ofString "ascii") >>= fun e => mkStr (PySem.Str.ofString "bytes.decode") >>= fun d =>
    call (.builtin "_codecs.decode.text") [.bytes (c :: cs).toArray t, e, .none, d] >>= fun v => ret v) := by kernel_rfl
theorem meets_dec (hne : b.isEmpty = false) (hb : b.size ≤ sizeLine) (hall : ∀ c ∈ b.toList, c.toNat < 128) :
    Meets («bytes.decode» ⟨[.bytes b t, .str (PySem.Str.ofString "ascii") u], []⟩) (fun _ R s => ∀ t' k, R (.ok (.ret (.str ⟨b.map (·.toNat)⟩ t'))) { s with toks := k }) := by
  refine .of_wp fun prog w A R s h => ?_
  obtain ⟨c, cs, rfl⟩ : ∃ c cs, b = (c :: cs).toArray := by
    obtain ⟨l⟩ := b
    cases l with
    | nil => cases hne
    | cons c cs => exact ⟨c, cs, rfl⟩
  rw [dec_eq]
  refine wpAny_bind (wpAny_mkStr ?_ (by decide))
  refine wpAny_bind (wpAny_mkStr ?_ (by decide))
  refine wpAny_bind (wpAny_mkStr ?_ (by decide))
  exact wpAny_bind (call_function_meets KBd.kind_text KBd.plain_text KBd.entry_text (KBd.args_text _ _ _ _) (meets_dtext hb hall) (wpAny_pure ⟨_, rfl, h _ _⟩))
end
section
variable {prog : Program} {w : World} {A : Around} {E : Value → Shared → Prop} {s : Shared} {b c : Array UInt8} {t u : Tok} {Q : Value → Shared → Prop}
theorem method_tr {M : Model} {pl : Sem Bool} {Q : Value × List Value → Shared → Prop} (h : Q (.builtin "bytes.translate", [.bytes b t]) s) : wpAny M A (getMethod (.bytes b t) "translate" pl) Q E s := by
  with_reducible exact KBd.method_of (.bytes b t) (typeIs_bytes _ _ _) slot_tr type_tr KBd.noRef h
theorem tr_call (hT : c.size = 256) (hb : b.size ≤ 16777216) (h : ∀ t' k, Q (.bytes (trB c b) t') { s with toks := k }) : wpAny (model prog w) A (call (.builtin "bytes.translate") [.bytes b t, .bytes c u]) Q E s :=
  call_meets slot_tr (typeIs_bytes _ _ _) entry_tr (args_tr _ _) (meets_tr hT (by rw [sizeLine_eq]; exact hb)) h
theorem dec_call (hne : b.isEmpty = false) (hb : b.size ≤ 16777216) (hall : ∀ c ∈ b.toList, c.toNat < 128) (h : ∀ t' k, Q (.str ⟨b.map (·.toNat)⟩ t') { s with toks := k }) :
    wpAny (model prog w) A (call (.builtin "bytes.decode") [.bytes b t, .str (PySem.Str.ofString "ascii") u]) Q E s :=
  call_meets FB.slot_bytes_decode (typeIs_bytes _ _ _) FB.entry_bytes_decode (args_dec _ _) (meets_dec hne (by rw [sizeLine_eq]; exact hb) hall) h
theorem mk_call (hs : b.size = c.size) (h : Q (.bytes (trT b.toList c.toList) s.toks) { s with toks := s.toks + 1 }) : wpAny (model prog w) A (call (.builtin "bytes.maketrans") [.bytes b t, .bytes c u]) Q E s := by
  refine wpAny_call (codeAny_call_builtin plain_mk entry_mk ?_)
  have hfin := meets_mk (t := t) (u := u) hs prog w A (wants Q E) s h
  have ok := args_mk (.bytes b t) (.bytes c u)
  simp only [checkBuiltinCall, kind_mk, split_mk]
  cases hsig : Manifest.signature? "bytes.maketrans" with
  | none => exact wpAny_pure hfin
  | some sig =>
    simp only [argsOk, hsig] at ok
    have h2 : Bind.checkArgs "bytes.maketrans" sig ⟨[.bytes b t, .bytes c u], []⟩ = pure () := ok
    show wpAny _ _ (Bind.checkArgs "bytes.maketrans" sig ⟨[.bytes b t, .bytes c u], []⟩) _ _ s
    rw [h2]; exact wpAny_pure hfin
theorem method_mk {K : Frag} {h₀ : Heap} {L : Addr} {m : Str → Option Value} {pl : Sem Bool} {Q : Value × List Value → Shared → Prop} (F : Fr h₀ L s.heap m) (X : K.In h₀)
    (e : findCls K (.type "bytes") (.type "type") (PySem.Str.ofString "maketrans") = some (.val (.builtin "bytes.maketrans"))) (h : Q (.builtin "bytes.maketrans", []) { s with toks := s.toks + 1 }) :
    wpAny (model prog w) A (getMethod (.type "bytes") (PySem.Str.ofString "maketrans") pl) Q E s := by
  refine method_type (T := "bytes") (name := PySem.Str.ofString "maketrans") (v := .builtin "bytes.maketrans") F X ?_ ?_ e ?_ h
  · kernel_rfl
  · decide +kernel
  · decide +kernel
end
end Mine
end
section
open PySem PySem.W PyProof.Rows PySem.Spec PySem.Calls
namespace Mine
open Builtin Builtin.Str
set_option maxRecDepth 100000
/-- the sign ' -/
noncomputable def tickS : PySem.Str := PySem.Str.ofString "'"
noncomputable def occ2 (x : PySem.Str) : List Nat := occurrences x tickS 0 x.length 2
noncomputable def split2 (x : PySem.Str) : List PySem.Str := if (occ2 x).isEmpty then [x] else partsBetween x (occ2 x) 1
theorem kind_ge (x : PySem.Str) : 1 ≤ Str.strKind x := by
  unfold Str.strKind
  split
  · decide
  · split <;> decide
theorem kind_tick : Str.strKind tickS = 1 := by decide +kernel
theorem len_tick : tickS.length = 1 := by decide +kernel
section
variable {prog : Program} {w : World} {A : Around} {E : Value → Shared → Prop} {s : Shared} {h₀ : Heap} {L : Addr} {m : PySem.Str → Option Value} {news : List (Addr × Obj)} {x : PySem.Str} {t u v : Tok} {Q : Value → Shared → Prop}
theorem meets_split2_none (h1 : (decide (x.length < tickS.length) || decide (Str.strKind x < Str.strKind tickS)) = false) (hf : (occ2 x).isEmpty = true) : Meets («str.split» ⟨[.str x t, .str tickS u, .int 2 v], []⟩) (listOfItself x t) := by
  obtain ⟨raising, htree⟩ := split_sep_max_tree x tickS 2 t u v (by decide)
  refine .of_wp fun prog w A R s h => ?_
  have hf : (occurrences x tickS 0 x.length (limitOf x 2)).isEmpty = true := hf
  rw [htree, h1, hf]
  show wpAny _ _ (do rule "str.split.same-object"; ret (← newList [.str x t])) _ _ s
  exact wpAny_bind (wpAny_rule (wpAny_bind (wpAny_newList (wpAny_pure ⟨_, rfl, h⟩) (by show 1 ≤ sizeLine; decide))))
theorem split2_call (hF : Fr h₀ L s.heap m) (hN : News h₀ L s.heap news) (hx : 1 ≤ x.length) (hx2 : x.length ≤ 16777216)
    (h : ∀ D l h' k, l.map (·.1) = split2 x → Fr h₀ L h' m → News h₀ L h' ((D, listOf (strValues l).toArray 0) :: news) → (∀ p ∈ news, p.1 < D) → Q (.ref D) { s with heap := h', toks := k }) :
    wpAny (model prog w) A (call (.builtin "str.split") [.str x t, .str tickS u, .int 2 v]) Q E s := by
  have hsz : x.length ≤ sizeLine := by rw [sizeLine_eq]; exact hx2
  have hn : (partsBetween x (occ2 x) 1).length ≤ sizeLine := by
    have e1 := StrLaws.occ_length_le x tickS 0 x.length 2
    have e2 : (occ2 x).length ≤ 2 := e1
    rw [length_partsBetween, sizeLine_eq]; omega
  have h1 : (decide (x.length < tickS.length) || decide (Str.strKind x < Str.strKind tickS)) = false := by
    have := kind_ge x
    rw [kind_tick, len_tick]
    simp only [Bool.or_eq_false_iff, decide_eq_false_iff_not]
    omega
  cases hf : (occ2 x).isEmpty
  · refine call_meets F.slot_str_split (typeIs_str _ _ _) F.entry_str_split (F.args_str_split_3 _ _ _) (meets_str_split_sep_max x tickS 2 t u v (by decide) h1 (by decide +kernel) hf hsz hn) ?_
    show wants Q E _ { s with toks := _, heap := s.heap.push { cls := .type "list", data := .seq (strsFrom s.toks (partsBetween x (occ2 x) 1)).toArray } }
    rw [strsFrom_eq]
    exact h _ (numbered s.toks _) _ _ ((numbered_texts _ _).trans (if_neg (ne_true_of_eq_false hf)).symm) (Fr.pushS hF _) (News.push hF hN _) fun p hp => Heap.lt_size (hN p hp).1
  · exact call_meets F.slot_str_split (typeIs_str _ _ _) F.entry_str_split (F.args_str_split_3 _ _ _) (meets_split2_none h1 hf)
      (h _ [(x, t)] _ s.toks (if_pos hf).symm (Fr.pushS hF _) (News.push hF hN _) fun p hp => Heap.lt_size (hN p hp).1)
theorem values_are : ∀ {l : List (PySem.Str × Tok)} {ys : List PySem.Str}, l.map (·.1) = ys → StrsAre (strValues l) ys := by
  intro l ys e; subst e; exact strsAre_of_values l
end
theorem split2_len (x : PySem.Str) : (split2 x).length ≤ 3 := by
  unfold split2
  have e1 := StrLaws.occ_length_le x tickS 0 x.length 2
  have e2 : (occ2 x).length ≤ 2 := e1
  split
  · simp
  · rw [length_partsBetween]; omega
section
variable {prog : Program} {w : World} {A : Around} {E : Value → Shared → Prop} {s : Shared}
theorem strs_length : ∀ {vs : List Value} {ys : List PySem.Str}, StrsAre vs ys → vs.length = ys.length
  | _, _, .nil => rfl
  | _, _, .cons _ _ r => by simp [strs_length r]
theorem len_strs {l : Addr} {vs : List Value} {ys : List PySem.Str} {Q : Value → Shared → Prop} (hl : s.heap.IsList l vs.toArray) (hp : StrsAre vs ys) (hb : ys.length ≤ 16777216)
    (h : ∀ t k, Q (.int ys.length t) { s with toks := k }) : wpAny (model prog w) A (call (.builtin "len") [.ref l]) Q E s := by
  have e : vs.toArray.size = ys.length := by simp [strs_length hp]
  refine len_list hl (by rw [e]; omega) ?_
  rw [e]; exact h _ _
end
theorem heap_ne {h : Heap} {a b : Addr} {o : Obj} (e : h.get? a = none) (f : h.get? b = some o) : b ≠ a := by
  rintro rfl; rw [e] at f; cases f
/-- what a call made is new to its caller, too -/
theorem news_made {h₀ g h' : Heap} {L L' D : Addr} {o : Obj} {m₀ : PySem.Str → Option Value} {news all : List (Addr × Obj)} (F : Fr h₀ L g m₀) (N₀ : News h₀ L g news) (N : News h₀ L h' news) (N' : News g L' h' all) (mem : (D, o) ∈ all) :
    News h₀ L h' ((D, o) :: news) ∧ ∀ p ∈ news, p.1 ≠ D := by
  obtain ⟨e1, _, e3⟩ := N' _ mem
  refine ⟨fun p hp => ?_, fun p hp => heap_ne e3 (N₀ p hp).1⟩
  rcases List.mem_cons.mp hp with rfl | hp
  · refine ⟨e1, ?_, ?_⟩
    · obtain ⟨oL, _, _, eL, _⟩ := F.ns
      exact (heap_ne e3 eL).symm
    · cases e : h₀.get? D with
      | none => rfl
      | some oD => exact absurd rfl (heap_ne e3 (F.keep _ _ e))
  · exact N p hp
end Mine
end
section
open PySem PySem.W PyProof.Rows PySem.Spec PySem.Calls
namespace Mine
set_option maxRecDepth 100000
theorem turn_in (elt target iter : Expr) (g : Comprehension) (ifs : List Expr) (scope : Scope) (pos : Pos) (it acc : Value) (env : Env) :
    compTurn (.ListComp elt [g, ⟨target, iter, ifs, 0⟩] scope pos) 1 it acc env = (do
      standAt iter.pos
      match ← pyNext it with
      | none => pure (.done .next)
      | some v =>
        letOwnedTupleGo target it v
        assign target env v
        let mut ok := true
        for c in ifs do
          if ok then ok ← isTrue c env (eval c env)
        if ok then
          (do let _ ← call (.builtin "list.append") [acc, ← eval elt env])
        again (.compLoop (.ListComp elt [g, ⟨target, iter, ifs, 0⟩] scope pos) 1 it acc env)) := by rfl
theorem turn_out (elt t0 i0 t1 i1 : Expr) (ifs : List Expr) (scope : Scope) (pos : Pos) (it acc : Value) (env : Env) :
    compTurn (.ListComp elt [⟨t0, i0, [], 0⟩, ⟨t1, i1, ifs, 0⟩] scope pos) 0 it acc env = (do
      standAt i0.pos
      match ← pyNext it with
      | none => pure (.done .next)
      | some v =>
        letOwnedTupleGo t0 it v
        assign t0 env v
        let x ← eval i1 env
        standAt i1.pos
        let x ← foldedSetIterable i1 env x
        let _ ← runOwn (.compStart (.ListComp elt [⟨t0, i0, [], 0⟩, ⟨t1, i1, ifs, 0⟩] scope pos) 1 (← holding [x] (pyIter x)) acc env) env
        again (.compLoop (.ListComp elt [⟨t0, i0, [], 0⟩, ⟨t1, i1, ifs, 0⟩] scope pos) 0 it acc env)) := by rfl
/-- the tests behind a clause -/
abbrev testsOf (env : Env) (ifs : List Expr) : Sem Bool := forIn ifs true fun c r => if r = true then do let ok ← isTrue c env (eval c env); pure (ForInStep.yield ok) else pure (ForInStep.yield r)
/-- the loop goes on, with a smaller count -/
abbrev Less (I : Nat → Shared → Prop) (n : Nat) (s : Shared) : Prop := ∃ k, k < n ∧ I k s
/-- a raise inside a turn -/
abbrev Oops (prog : Program) (w : World) (A : Around) (env : Env) (R : Result → Shared → Prop) : Value → Shared → Prop := notedBy (model prog w) A env fun x t => R (.error x) t
section
variable {prog : Program} {w : World} {A : Around} {E : Value → Shared → Prop} {R : Result → Shared → Prop} {s : Shared}
theorem loop_of {elt : Expr} {gs : List Comprehension} {scope : Scope} {pos : Pos} {k : Nat} {it acc : Value} {env : Env} (I : Nat → Shared → Prop) (n : Nat) (h : I n s)
    (turn : ∀ n s, I n s → wpAny (model prog w) A (compTurn (.ListComp elt gs scope pos) k it acc env) (fun f t => match f with | .done x => R (.ok x) t | .again c => c = .compLoop (.ListComp elt gs scope pos) k it acc env ∧ Less I n t) (Oops prog w A env R) s) :
    codeAny (model prog w) A (.compLoop (.ListComp elt gs scope pos) k it acc env) R s :=
  codeAny_loop rfl I (fun n s hI => wpAny_noted (turn n s hI)) n h
theorem loop_in {elt target iter : Expr} {g : Comprehension} {ifs : List Expr} {scope : Scope} {pos : Pos} {it acc : Value} {env : Env} (I : Nat → Shared → Prop)
    (turn : ∀ n s, I n s → wpAny (model prog w) A (pyNext it) (fun r s₁ => match r with
      | none => R (.ok .next) s₁
      | some v => wpAny (model prog w) A (assign target env v) (fun _ s₂ => wpAny (model prog w) A (testsOf env ifs) (fun ok s₃ => match ok with
        | true => wpAny (model prog w) A (eval elt env) (fun x s₄ => wpAny (model prog w) A (call (.builtin "list.append") [acc, x]) (fun _ s₅ => Less I n s₅) (Oops prog w A env R) s₄) (Oops prog w A env R) s₃
        | false => Less I n s₃) (Oops prog w A env R) s₂) (Oops prog w A env R) s₁) (Oops prog w A env R) s)
    (n : Nat) (h : I n s) (ht : ∀ v, letOwnedTupleGo target it v = pure () := by intro _; rfl) :
    codeAny (model prog w) A (.compLoop (.ListComp elt [g, ⟨target, iter, ifs, 0⟩] scope pos) 1 it acc env) R s := by
  refine loop_of I n h fun n s hI => ?_
  rw [turn_in]
  refine wpAny_bind (wpAny_standAt (wpAny_bind (wpAny_mono (turn n s hI) ?_ fun _ _ x => x)))
  rintro (_ | v) s₁ h₁
  · exact wpAny_pure h₁
  refine wpAny_bind (wpAny_of_eq (ht v) (wpAny_bind (wpAny_mono h₁ (fun _ s₂ h₂ => wpAny_bind (wpAny_mono h₂ ?_ fun _ _ x => x)) fun _ _ x => x)))
  rintro (_ | _) s₃ h₃
  · exact wpAny_pure (And.intro rfl h₃)
  · refine wpAny_bind (wpAny_bind (wpAny_mono h₃ (fun y s₄ h₄ => wpAny_bind (wpAny_mono h₄ ?_ fun _ _ x => x)) fun _ _ x => x))
    exact fun _ _ less => wpAny_pure (wpAny_pure (And.intro rfl less))

theorem start_in {elt target iter : Expr} {g : Comprehension} {ifs : List Expr} {scope : Scope} {pos : Pos} {it acc : Value} {env : Env}
    (h0 : codeAny (model prog w) A (.compLoop (.ListComp elt [g, ⟨target, iter, ifs, 0⟩] scope pos) 1 it acc env) R s)
    (h : wpAny (model prog w) A (pyIter it) (fun it' s' => codeAny (model prog w) A (.compLoop (.ListComp elt [g, ⟨target, iter, ifs, 0⟩] scope pos) 1 it' acc env) R s') (Oops prog w A env R) s) :
    codeAny (model prog w) A (.compStart (.ListComp elt [g, ⟨target, iter, ifs, 0⟩] scope pos) 1 it acc env) R s := by
  refine codeAny_of_tree (wpAny_notedAt ?_)
  show wpAny _ _ (compStart _ 1 it acc env) _ _ s
  unfold compStart
  show wpAny _ _ (ask >>= fun x => _) _ _ s
  refine wpAny_bind (wpAny_askSetting (wpAny_ite ?_))
  split
  · exact wpAny_bind (wpAny_pure (wpAny_pure ⟨rfl, h0⟩))
  · refine wpAny_bind (wpAny_rule (wpAny_bind (wpAny_standAt (wpAny_bind (wpAny_mono h ?_ fun _ _ x => x)))))
    exact fun _ _ q => wpAny_pure ⟨rfl, q⟩

theorem loop_out {elt t0 i0 t1 i1 : Expr} {ifs : List Expr} {scope : Scope} {pos : Pos} {it acc : Value} {env : Env} (I : Nat → Shared → Prop)
    (turn : ∀ n s, I n s → wpAny (model prog w) A (pyNext it) (fun r s₁ => match r with
      | none => R (.ok .next) s₁
      | some v => wpAny (model prog w) A (assign t0 env v) (fun _ s₂ => wpAny (model prog w) A (eval i1 env) (fun x s₃ => wpAny (model prog w) A (pyIter x) (fun it2 s₄ =>
          codeAny (model prog w) A (.compStart (.ListComp elt [⟨t0, i0, [], 0⟩, ⟨t1, i1, ifs, 0⟩] scope pos) 1 it2 acc env) (fun r s₅ => match r with | .ok _ => Less I n s₅ | .error _ => False) s₄)
          (Oops prog w A env R) s₃) (Oops prog w A env R) s₂) (Oops prog w A env R) s₁) (Oops prog w A env R) s)
    (n : Nat) (h : I n s) (ht : ∀ v, letOwnedTupleGo t0 it v = pure () := by intro _; rfl) (hs : ∀ x, foldedSetIterable i1 env x = pure x := by intro _; rfl) :
    codeAny (model prog w) A (.compLoop (.ListComp elt [⟨t0, i0, [], 0⟩, ⟨t1, i1, ifs, 0⟩] scope pos) 0 it acc env) R s := by
  refine loop_of I n h fun n s hI => ?_
  rw [turn_out]
  refine wpAny_bind (wpAny_standAt (wpAny_bind (wpAny_mono (turn n s hI) ?_ fun _ _ x => x)))
  rintro (_ | v) s₁ h₁
  · exact wpAny_pure h₁
  refine wpAny_bind (wpAny_of_eq (ht v) (wpAny_bind (wpAny_mono h₁ (fun _ s₂ h₂ => wpAny_bind (wpAny_mono h₂ ?_ fun _ _ x => x)) fun _ _ x => x)))
  intro x s₃ h₃
  refine wpAny_bind (wpAny_standAt (wpAny_bind (wpAny_of_eq (hs x) (wpAny_bind (wpAny_holding (wpAny_mono h₃ (fun it2 s₄ h₄ => wpAny_bind (wpAny_runOwn (codeAny_mono h₄ ?_))) fun _ _ x => x))))))
  rintro (_ | _) s₅ h₅
  · exact False.elim h₅
  · exact wpAny_pure (And.intro rfl h₅)
end
end Mine
end
section
open PySem PySem.W PyProof.Rows PySem.Spec PySem.Calls
namespace Mine
open LCg
set_option maxRecDepth 100000
/-- one sign of the inner clause -/
noncomputable def Item2 (prog : Program) (w : World) (A : Around) (h₀ : Heap) (L : Addr) (m : Str → Option Value) (news : List (Addr × Obj)) (env : Env) (elt : Expr) (ifs : List Expr) (x0 x1 : Str) (v : Value) (s₂ : Shared) (D C : Addr) (P' : Nat → Value → Prop) (n' : Nat) (J' : Nat → List Value → Prop) : Prop :=
  ∀ k u ys h tk oC m₅ (E' : Value → Shared → Prop), k < n' → P' k u → J' k ys → NsObj oC m₅ → m₅ x0 = some v → m₅ x1 = some u → Fr h₀ L h m → News h₀ L h ((C, oC) :: (D, lst ys) :: news) →
    wpAny (model prog w) A (testsOf env ifs) (fun ok s₆ => ∃ tk6, s₆ = { s₂ with heap := h, toks := tk6 } ∧
      (ok = true → wpAny (model prog w) A (eval elt env) (fun y s₇ => ∃ tk7, s₇ = { s₂ with heap := h, toks := tk7 } ∧ J' (k + 1) (ys ++ [y])) E' s₆) ∧ (ok = false → J' (k + 1) ys)) E' { s₂ with heap := h, toks := tk }
/-- the inner clause's source -/
noncomputable def Src2 (prog : Program) (w : World) (A : Around) (h₀ : Heap) (L : Addr) (m : Str → Option Value) (news : List (Addr × Obj)) (env : Env) (elt : Expr) (ifs : List Expr) (x0 x1 : Str) (v : Value) (s₂ : Shared) (h : Heap) (D C : Addr) (J : Nat → List Value → Prop) (i : Nat) (it : Value) (s₄ : Shared) : Prop :=
  ∃ I' fp' n' P' St' h4 tk4 J', it = .ref I' ∧ s₄ = { s₂ with heap := h4, toks := tk4 } ∧ (∀ b o, h.get? b = some o → h4.get? b = some o) ∧ Walks prog w A I' fp' [I'] n' P' St' ∧ St' 0 h4 ∧ h.get? I' = none ∧ (∀ b ∈ fp', b ≠ C ∧ b ≠ D) ∧
    (∀ ys, J i ys → J' 0 ys) ∧ (∀ ys, J' n' ys → J (i + 1) ys) ∧ (∀ k ys, k ≤ n' → J' k ys → ys.length ≤ sizeLine) ∧ Item2 prog w A h₀ L m news env elt ifs x0 x1 v s₂ D C P' n' J'
section
variable {prog : Program} {w : World} {A : Around} {E : Value → Shared → Prop} {s : Shared} {h₀ : Heap} {L : Addr} {m : Str → Option Value} {env : Env}
theorem keep_fr {g h' : Heap} {I : Addr} {news : List (Addr × Obj)} (F : Fr h₀ L g m) (N : News h₀ L g news) (k : ∀ b o, b ≠ I → g.get? b = some o → h'.get? b = some o) (hL : L ≠ I) (hI : h₀.get? I = none) (off : ∀ p ∈ news, p.1 ≠ I) : Fr h₀ L h' m ∧ News h₀ L h' news :=
  ⟨fr_but F (fun b o hb e => k b o (by simpa using hb) e) hL hI, news_but N (fun b o hb e => k b o (by simpa using hb) e) off⟩

theorem news_same {C : Addr} {h h' : Heap} {news : List (Addr × Obj)} (N : News h₀ L h news) (k : Heap.SameBut C h h') (off : ∀ p ∈ news, p.1 ≠ C) : News h₀ L h' news := fun p hp => ⟨(k.2 _ (off p hp)).trans (N p hp).1, (N p hp).2⟩
theorem none_new {g : Heap} {b : Addr} (F : Fr h₀ L g m) (hb : g.objs.size ≤ b) : h₀.get? b = none := by
  rcases e : h₀.get? b with _ | o
  · rfl
  · exact absurd (Heap.lt_size (F.keep b o e)) (Nat.not_lt.mpr hb)
/-- the list `D` and the frame `C` that a comprehension makes over the heap `g` before its first turn -/
structure Born (h₀ : Heap) (L : Addr) (g h₁ : Heap) (D C : Addr) : Prop where
  far : ∀ b, b < g.objs.size → b ≠ C ∧ b ≠ D
  apart : C ≠ D
  stay : ∀ b o, g.get? b = some o → h₁.get? b = some o
  acc : h₁.get? D = some (lst [])
  noD : h₀.get? D = none
  noC : h₀.get? C = none
  geD : g.objs.size ≤ D
  geC : g.objs.size ≤ C
theorem Born.of {g h₁ : Heap} {ob : Obj} (F : Fr h₀ L g m) (k : Heap.SameBut (g.push (lst [])).objs.size ((g.push (lst [])).push ob) h₁) : Born h₀ L g h₁ g.objs.size (g.push (lst [])).objs.size := by
  have one : (g.push (lst [])).objs.size = g.objs.size + 1 := Heap.size_push ..
  have up : ∀ b o, (g.push (lst [])).get? b = some o → h₁.get? b = some o := fun b o q =>
    (k.2 b (Nat.ne_of_lt (Heap.lt_size q))).trans (Heap.get?_push_of_some _ q)
  exact ⟨fun b _ => ⟨by omega, by omega⟩, by rw [one]; exact Nat.succ_ne_self _, fun b o q => up b o (Heap.get?_push_of_some _ q), up _ _ (Heap.get?_push_size _ rfl), none_new F (by omega), none_new F (by omega), by omega, by omega⟩
theorem Born.news {g h₁ h : Heap} {D C : Addr} {oC : Obj} {ys : List Value} {news : List (Addr × Obj)} (B : Born h₀ L g h₁ D C) (lt : L < g.objs.size) (a : h.get? C = some oC) (b : h.get? D = some (lst ys)) (N : News h₀ L h news) : News h₀ L h ((C, oC) :: (D, lst ys) :: news) :=
  List.forall_mem_cons.mpr ⟨⟨a, (B.far L lt).1.symm, B.noC⟩, List.forall_mem_cons.mpr ⟨⟨b, (B.far L lt).2.symm, B.noD⟩, N⟩⟩

theorem loop_2 {elt i0 i1 : Expr} {ifs : List Expr} {x0 x1 : Str} {p0 p1 : Pos} {scope : Scope} {cl : List (Str × Addr)} {pos : Pos} {s₂ : Shared} {I : Addr} {fp : List Addr} {n : Nat} {P : Nat → Value → Prop} {St : Nat → Heap → Prop} {news : List (Addr × Obj)}
    {J : Nat → List Value → Prop} {RR : Value → Addr → Result → Shared → Prop}
    (W : Walks prog w A I fp [I] n P St)
    (hkind : scope.kind = .function) (hx0 : scope.names.lookup x0 = some .local) (hx1 : scope.names.lookup x1 = some .local) (hne : x0 ≠ x1) (hst : St 0 s₂.heap) (hfp : ∀ b ∈ fp, b < s₂.heap.objs.size)
    (F : Fr h₀ L s₂.heap m) (N : News h₀ L s₂.heap news) (hIL : L ≠ I) (hI₀ : h₀.get? I = none) (off : ∀ p ∈ news, p.1 ≠ I) (hJ : J 0 [])
    (inner : ∀ i v C D h tk oC m₂ ys (E' : Value → Shared → Prop), i < n → P i v → J i ys → s₂.heap.objs.size ≤ C → s₂.heap.objs.size ≤ D → C < h.objs.size → D < h.objs.size → NsObj oC m₂ → m₂ x0 = some v → Fr h₀ L h m → News h₀ L h ((C, oC) :: (D, lst ys) :: news) →
      wpAny (model prog w) A (eval i1 (compEnvC scope cl C env)) (fun xv s₃ => wpAny (model prog w) A (pyIter xv) (fun it s₄ => Src2 prog w A h₀ L m news (compEnvC scope cl C env) elt ifs x0 x1 v s₂ h D C J i it s₄) E' s₃) E' { s₂ with heap := h, toks := tk })
    (hRR : ∀ D C h tk m' ys, Fr h₀ L h m → News h₀ L h ((D, lst ys) :: news) → Off1 D news → h.Ns C m' → h₀.get? C = none → C ≠ L → (∀ p ∈ (D, lst ys) :: news, p.1 ≠ C) → J n ys → RR (.ref D) C (.ok .next) { s₂ with heap := h, toks := tk })
    {h₁ : Heap} {D C : Addr} {m₁ : Str → Option Value} {k₁ : Nat} (B : Born h₀ L s₂.heap h₁ D C) (hns₁ : h₁.Ns C m₁)
    (hs : ∀ env x, foldedSetIterable i1 env x = pure x := by intro _ _; rfl) :
    codeAny (model prog w) A (.compStart (.ListComp elt [⟨.Name x0 p0, i0, [], 0⟩, ⟨.Name x1 p1, i1, ifs, 0⟩] scope pos) 0 (.ref I) (.ref D) (compEnvC scope cl C env)) (RR (.ref D) C) { s₂ with heap := h₁, toks := k₁ } := by
  have lt : ∀ {b o}, s₂.heap.get? b = some o → b ≠ C ∧ b ≠ D := fun q => B.far _ (Heap.lt_size q)
  have nf : ∀ b ∈ fp, b ≠ C ∧ b ≠ D := fun b hb => B.far b (hfp b hb)
  obtain ⟨hIC, hID⟩ := nf I (W.sub I (List.mem_singleton.mpr rfl))
  obtain ⟨hLC, hLD⟩ := B.far L F.ns.lt
  have hst₁ : St 0 h₁ := W.frame _ _ _ hst fun b _ o q => B.stay b o q
  have loop : codeAny (model prog w) A (.compLoop (.ListComp elt [⟨.Name x0 p0, i0, [], 0⟩, ⟨.Name x1 p1, i1, ifs, 0⟩] scope pos) 0 (.ref I) (.ref D) (compEnvC scope cl C env)) (RR (.ref D) C) { s₂ with heap := h₁, toks := k₁ } := by
    refine loop_out (fun k s' => ∃ h' tk i ys m', s' = { s₂ with heap := h', toks := tk } ∧ i ≤ n ∧ k = n + 1 - i ∧ St i h' ∧ (∀ b o, b ≠ I → s₂.heap.get? b = some o → h'.get? b = some o) ∧ h'.Ns C m' ∧ h'.get? D = some (lst ys) ∧ J i ys) ?_ (n + 1)
      ⟨h₁, _, 0, [], _, rfl, Nat.zero_le _, rfl, hst₁, fun b o _ q => B.stay b o q, hns₁, B.acc, hJ⟩ (by intro _; rfl) (hs _)
    rintro k s' ⟨h', tk, i, ys, m', rfl, hi, rfl, hst', hkeep, hn', hD', hJ'⟩
    by_cases hlt : i < n
    · refine W.item i _ _ _ hlt hst' fun v h₂ tk₂ hPv hst₂ hk₂ => ?_
      refine wpAny_assign_Name (wpAny_storeName_local (lookup_relabel_local hx0) (hn'.at' fun o e => hk₂ _ o (by simpa using hIC.symm) e) (fun h₃ hn₃ hs₃ => ?_) (by simp [compEnvC, relabel, hkind]))
      have hst₃ : St (i + 1) h₃ := W.frame _ _ _ hst₂ fun b hb o e => hs₃.extBut b o (nf b hb).1 e
      obtain ⟨oC, heC, hoC⟩ := ns_obj hn₃
      have hD₃ : h₃.get? D = some (lst ys) := hs₃.extBut _ _ B.apart.symm (hk₂ _ _ (by simpa using hID.symm) hD')
      have hkeep₃ : ∀ b o, b ≠ I → s₂.heap.get? b = some o → h₃.get? b = some o := fun b o hb e => hs₃.extBut _ _ (lt e).1 (hk₂ _ _ (by simpa using hb) (hkeep b o hb e))
      obtain ⟨F₃, N₃⟩ := keep_fr F N hkeep₃ hIL hI₀ off
      refine wpAny_mono (inner i v C D h₃ _ oC _ ys _ hlt hPv hJ' B.geC B.geD (Heap.lt_size heC) (Heap.lt_size hD₃) hoC (by simp) F₃ (B.news F.ns.lt heC hD₃ N₃)) (fun xv s₄ h₄ => wpAny_mono h₄ (fun it s₅ h₅ => ?_) fun _ _ e => e) fun _ _ e => e
      obtain ⟨I', fp', n', P', St', h4, tk4, J', rfl, rfl, hk4, W', hst4, hI', hfp', hJ0, hJn, hJsz, item⟩ := h₅
      have hI'C : C ≠ I' := heap_ne hI' heC
      have hI'D : D ≠ I' := heap_ne hI' hD₃
      have hfC : C ∉ fp' := fun q => (hfp' _ q).1 rfl
      have hfD : D ∉ fp' := fun q => (hfp' _ q).2 rfl
      have inloop : ∀ s₆ : Shared, s₆ = { s₂ with heap := h4, toks := tk4 } → codeAny (model prog w) A (.compLoop (.ListComp elt [⟨.Name x0 p0, i0, [], 0⟩, ⟨.Name x1 p1, i1, ifs, 0⟩] scope pos) 1 (.ref I') (.ref D) (compEnvC scope cl C env))
          (fun r s₅ => match r with | .ok _ => ∃ m_1, m_1 < n + 1 - i ∧ ∃ h' tk i ys m', s₅ = { s₂ with heap := h', toks := tk } ∧ i ≤ n ∧ m_1 = n + 1 - i ∧ St i h' ∧ (∀ b o, b ≠ I → s₂.heap.get? b = some o → h'.get? b = some o) ∧ h'.Ns C m' ∧ h'.get? D = some (lst ys) ∧ J i ys | .error _ => False) s₆ := by
        rintro s₆ rfl
        refine loop_in (fun k s' => ∃ h' tk j ys m', s' = { s₂ with heap := h', toks := tk } ∧ j ≤ n' ∧ k = n' + 1 - j ∧ St' j h' ∧ (∀ b o, b ≠ C → b ≠ D → h₃.get? b = some o → h'.get? b = some o) ∧ h'.Ns C m' ∧ m' x0 = some v ∧ h'.get? D = some (lst ys) ∧ J' j ys) ?_ (n' + 1)
          ⟨h4, tk4, 0, ys, _, rfl, Nat.zero_le _, rfl, hst4, fun b o _ _ e => hk4 b o e, hn₃.keeps hk4, by simp, hk4 _ _ hD₃, hJ0 _ hJ'⟩
        rintro k s' ⟨h', tk, j, zs, m'', rfl, hj, rfl, hst5, hkeep5, hn5, hx5, hD5, hJ5⟩
        by_cases hlj : j < n'
        · refine W'.item j _ _ _ hlj hst5 fun u h₂ tk₂ hPu hst₂ hk₂ => ?_
          refine wpAny_assign_Name (wpAny_storeName_local (lookup_relabel_local hx1) (hn5.at' fun o e => hk₂ _ o (by simpa using hI'C) e) (fun h₆ hn₆ hs₆ => ?_) (by simp [compEnvC, relabel, hkind]))
          have hst₆ : St' (j + 1) h₆ := W'.frame _ _ _ hst₂ fun b hb o e => hs₆.extBut b o (fun q => hfC (by have q' : b = C := q; rw [← q']; exact hb)) e
          obtain ⟨oC6, heC6, hoC6⟩ := ns_obj hn₆
          have hD₆ : h₆.get? D = some (lst zs) := hs₆.extBut _ _ B.apart.symm (hk₂ _ _ (by simpa using hI'D) hD5)
          have hkeep₆ : ∀ b o, b ≠ C → b ≠ D → h₃.get? b = some o → h₆.get? b = some o := fun b o hb hb2 e => hs₆.extBut _ _ hb (hk₂ _ _ (by simpa using heap_ne hI' e) (hkeep5 b o hb hb2 e))
          have hkeep₆' : ∀ b o, b ≠ I → s₂.heap.get? b = some o → h₆.get? b = some o := fun b o hb e => hkeep₆ b o (lt e).1 (lt e).2 (hkeep₃ b o hb e)
          obtain ⟨F₆, N₆⟩ := keep_fr F N hkeep₆' hIL hI₀ off
          refine wpAny_mono (item j u zs h₆ _ oC6 _ _ hlj hPu hJ5 hoC6 (by rw [if_neg hne]; exact hx5) (by simp) F₆ (B.news F.ns.lt heC6 hD₆ N₆)) (fun ok s₇ h₇ => ?_) fun _ _ e => e
          obtain ⟨tk6, rfl, hyes, hno⟩ := h₇
          cases ok with
          | true =>
            refine wpAny_mono (hyes rfl) (fun y s₈ h₈ => ?_) fun _ _ e => e
            obtain ⟨tk7, rfl, hJ7⟩ := h₈
            refine append_at (hsz := by show zs.toArray.size ≤ sizeLine; rw [List.size_toArray]; exact hJsz j zs (Nat.le_of_lt hlj) hJ5) hD₆ fun h₉ hs₉ hD₉ => ?_
            refine ⟨n' + 1 - (j + 1), by omega, h₉, tk7, j + 1, zs ++ [y], _, rfl, hlj, rfl, W'.frame _ _ _ hst₆ fun b hb o e => hs₉.extBut b o (fun q => hfD (q ▸ hb)) e, fun b o hb hb2 e => hs₉.extBut _ _ hb2 (hkeep₆ b o hb hb2 e),
              hn₆.sameBut hs₉ B.apart, ?_, hD₉.trans (congrArg some (lst_snoc zs y)), hJ7⟩
            rw [if_neg hne]; exact hx5
          | false =>
            refine ⟨n' + 1 - (j + 1), by omega, h₆, tk6, j + 1, zs, _, rfl, hlj, rfl, hst₆, hkeep₆, hn₆, ?_, hD₆, hno rfl⟩
            rw [if_neg hne]; exact hx5
        · obtain rfl : j = n' := Nat.le_antisymm hj (Nat.not_lt.mp hlj)
          refine W'.done _ _ _ hst5 fun h₂ tk₂ hk₂ => ?_
          have hk9 : ∀ b o, b ≠ C → b ≠ D → h₃.get? b = some o → h₂.get? b = some o := fun b o hb hb2 e => hk₂ _ _ (by simpa using heap_ne hI' e) (hkeep5 b o hb hb2 e)
          refine ⟨n + 1 - (i + 1), by omega, h₂, tk₂, i + 1, zs, m'', rfl, hlt, rfl, W.frame _ _ _ hst₃ fun b hb o e => hk9 b o (nf b hb).1 (nf b hb).2 e, fun b o hb e => ?_, hn5.at' fun o e => hk₂ _ o (by simpa using hI'C) e, hk₂ _ _ (by simpa using hI'D) hD5, hJn _ hJ5⟩
          exact hk9 b o (lt e).1 (lt e).2 (hkeep₃ b o hb e)
      exact start_in (inloop _ rfl) (W'.self 0 _ _ _ hst4 (inloop _ rfl))
    · obtain rfl : i = n := Nat.le_antisymm hi (Nat.not_lt.mp hlt)
      refine W.done _ _ _ hst' fun h₂ tk₂ hk₂ => ?_
      have hk9 : ∀ b o, b ≠ I → s₂.heap.get? b = some o → h₂.get? b = some o := fun b o hb e => hk₂ _ _ (by simpa using hb) (hkeep b o hb e)
      obtain ⟨F₉, N₉⟩ := keep_fr F N hk9 hIL hI₀ off
      exact hRR D C h₂ tk₂ _ ys F₉ (List.forall_mem_cons.mpr ⟨⟨hk₂ _ _ (by simpa using hID.symm) hD', hLD.symm, B.noD⟩, N₉⟩) (off1_of fun p hp => (lt (N p hp).1).2) (hn'.at' fun o e => hk₂ _ o (by simpa using hIC.symm) e) B.noC hLC.symm
        (List.forall_mem_cons.mpr ⟨B.apart.symm, fun p hp => (lt (N p hp).1).1⟩) hJ'
  exact codeAny_compStart_list loop (W.self 0 _ _ _ hst₁ loop)

theorem block_2 {elt i0 i1 : Expr} {ifs : List Expr} {x0 x1 : Str} {p0 p1 : Pos} {scope : Scope} {cl : List (Str × Addr)} {pos : Pos} {s₂ : Shared} {I : Addr} {fp : List Addr} {n : Nat} {P : Nat → Value → Prop} {St : Nat → Heap → Prop} {news : List (Addr × Obj)}
    {J : Nat → List Value → Prop} {RR : Value → Addr → Result → Shared → Prop}
    (W : Walks prog w A I fp [I] n P St)
    (hcell : ∀ y ∈ scope.names, y.2 ≠ .cell) (hkind : scope.kind = .function) (hx0 : scope.names.lookup x0 = some .local) (hx1 : scope.names.lookup x1 = some .local) (hne : x0 ≠ x1) (hst : St 0 s₂.heap) (hfp : ∀ b ∈ fp, b < s₂.heap.objs.size)
    (F : Fr h₀ L s₂.heap m) (N : News h₀ L s₂.heap news) (hIL : L ≠ I) (hI₀ : h₀.get? I = none) (off : ∀ p ∈ news, p.1 ≠ I) (hJ : J 0 [])
    (inner : ∀ i v C D h tk oC m₂ ys (E' : Value → Shared → Prop), i < n → P i v → J i ys → s₂.heap.objs.size ≤ C → s₂.heap.objs.size ≤ D → C < h.objs.size → D < h.objs.size → NsObj oC m₂ → m₂ x0 = some v → Fr h₀ L h m → News h₀ L h ((C, oC) :: (D, lst ys) :: news) →
      wpAny (model prog w) A (eval i1 (compEnvC scope cl C env)) (fun xv s₃ => wpAny (model prog w) A (pyIter xv) (fun it s₄ => Src2 prog w A h₀ L m news (compEnvC scope cl C env) elt ifs x0 x1 v s₂ h D C J i it s₄) E' s₃) E' { s₂ with heap := h, toks := tk })
    (hRR : ∀ D C h tk m' ys, Fr h₀ L h m → News h₀ L h ((D, lst ys) :: news) → Off1 D news → h.Ns C m' → h₀.get? C = none → C ≠ L → (∀ p ∈ (D, lst ys) :: news, p.1 ≠ C) → J n ys → RR (.ref D) C (.ok .next) { s₂ with heap := h, toks := tk })
    (hs : ∀ env x, foldedSetIterable i1 env x = pure x := by intro _ _; rfl) :
    wpAny (model prog w) A (newList []) (fun acc s₃ => wpAny (model prog w) A (newFunctionEnv scope env.globals cl [] env.qual none .none (some env)) (fun cenv s₄ =>
      codeAny (model prog w) A (.compStart (.ListComp elt [⟨.Name x0 p0, i0, [], 0⟩, ⟨.Name x1 p1, i1, ifs, 0⟩] scope pos) 0 (.ref I) acc { cenv with scope := relabel scope env }) (RR acc cenv.locals) s₄) E s₃) E s₂ := by
  refine wpAny_newObj_type (wpAny_newFunctionEnv hcell (fun _ q => nomatch q) (fun h₁ hns₁ k₁ => ?_) hkind)
  exact loop_2 W hkind hx0 hx1 hne hst hfp F N hIL hI₀ off hJ inner hRR (Born.of F k₁) hns₁ hs

/-- the outer clause's source -/
noncomputable def Two (prog : Program) (w : World) (A : Around) (h₀ : Heap) (L : Addr) (m : Str → Option Value) (env : Env) (elt i1 : Expr) (ifs : List Expr) (x0 x1 : Str) (scope : Scope) (cl : List (Str × Addr)) (Fin : Shared → Value → Heap → Nat → List (Addr × Obj) → List Value → Addr → Prop) (it : Value) (s₂ : Shared) : Prop :=
  ∃ I fp n P St news J, it = .ref I ∧ Walks prog w A I fp [I] n P St ∧ St 0 s₂.heap ∧ (∀ b ∈ fp, b < s₂.heap.objs.size) ∧ Fr h₀ L s₂.heap m ∧ News h₀ L s₂.heap news ∧ L ≠ I ∧ h₀.get? I = none ∧ (∀ p ∈ news, p.1 ≠ I) ∧ J 0 [] ∧
    (∀ i v C D h tk oC m₂ ys (E' : Value → Shared → Prop), i < n → P i v → J i ys → s₂.heap.objs.size ≤ C → s₂.heap.objs.size ≤ D → C < h.objs.size → D < h.objs.size → NsObj oC m₂ → m₂ x0 = some v → Fr h₀ L h m → News h₀ L h ((C, oC) :: (D, lst ys) :: news) →
      wpAny (model prog w) A (eval i1 (compEnvC scope cl C env)) (fun xv s₃ => wpAny (model prog w) A (pyIter xv) (fun it s₄ => Src2 prog w A h₀ L m news (compEnvC scope cl C env) elt ifs x0 x1 v s₂ h D C J i it s₄) E' s₃) E' { s₂ with heap := h, toks := tk }) ∧
    (∀ D h tk ys, J n ys → Off1 D news → Fin s₂ (.ref D) h tk ((D, lst ys) :: news) ys D)
theorem two_bytes {elt i1 : Expr} {ifs : List Expr} {x0 x1 : Str} {scope : Scope} {cl : List (Str × Addr)} {Fin : Shared → Value → Heap → Nat → List (Addr × Obj) → List Value → Addr → Prop} {b : Array UInt8} {tb : Tok} {news : List (Addr × Obj)} (J : Nat → List Value → Prop)
    (hh : A.handled = none) (F : Fr h₀ L s.heap m) (N : News h₀ L s.heap news) (hJ : J 0 [])
    (inner : ∀ s₂ i c t C D h tk oC m₂ ys (E' : Value → Shared → Prop), (∃ g, s₂ = { s with heap := g }) → b[i]? = some c → J i ys → NsObj oC m₂ → m₂ x0 = some (.int (c.toNat : Int) t) → Fr h₀ L h m → News h₀ L h ((C, oC) :: (D, lst ys) :: news) → C < h.objs.size → D < h.objs.size →
      wpAny (model prog w) A (eval i1 (compEnvC scope cl C env)) (fun xv s₃ => wpAny (model prog w) A (pyIter xv) (fun it s₄ => Src2 prog w A h₀ L m news (compEnvC scope cl C env) elt ifs x0 x1 (.int (c.toNat : Int) t) s₂ h D C J i it s₄) E' s₃) E' { s₂ with heap := h, toks := tk })
    (fin : ∀ s₂ D h tk ys, (∃ g, s₂ = { s with heap := g }) → J b.size ys → Off1 D news → Fin s₂ (.ref D) h tk ((D, lst ys) :: news) ys D) :
    wpAny (model prog w) A (pyIter (.bytes b tb)) (Two prog w A h₀ L m env elt i1 ifs x0 x1 scope cl Fin) E s := by
  refine KBw.pyIter_bytes ?_
  refine ⟨s.heap.objs.size, _, _, _, _, news, J, rfl, KBw.walks hh s.heap.objs.size b tb, ⟨_, Heap.get?_push_size _ rfl, rfl, rfl⟩, ?_, F.push _, News.grown N (fun _ _ e => Heap.get?_push_of_some _ e), Nat.ne_of_lt F.ns.lt, next_is_new F, fun q hq => Nat.ne_of_lt (Heap.lt_size (N q hq).1), hJ, ?_, ?_⟩
  · intro a ha
    rw [List.mem_singleton.mp ha]
    show s.heap.objs.size < (s.heap.push _).objs.size
    rw [Heap.size_push]; exact Nat.lt_succ_self _
  · rintro i v C D h tk oC m₂ ys E' hi ⟨c, u, hc, rfl⟩ hJ' hC hD hC2 hD2 hoC hm F₁ N₁
    exact inner _ i c u C D h tk oC m₂ ys E' ⟨_, rfl⟩ hc hJ' hoC hm F₁ N₁ hC2 hD2
  · exact fun D h tk ys => fin _ D h tk ys ⟨_, rfl⟩

theorem two_list {elt i1 : Expr} {ifs : List Expr} {x0 x1 : Str} {scope : Scope} {cl : List (Str × Addr)} {Fin : Shared → Value → Heap → Nat → List (Addr × Obj) → List Value → Addr → Prop} {l : Addr} {vs : Array Value} {ep : Nat} {news : List (Addr × Obj)} (J : Nat → List Value → Prop)
    (hh : A.handled = none) (F : Fr h₀ L s.heap m) (N : News h₀ L s.heap news) (hl : (l, ({ cls := .type "list", data := .seq vs ep } : Obj)) ∈ news) (hJ : J 0 [])
    (inner : ∀ s₂ i v C D h tk oC m₂ ys (E' : Value → Shared → Prop), (∃ g, s₂ = { s with heap := g }) → vs[i]? = some v → J i ys → NsObj oC m₂ → m₂ x0 = some v → Fr h₀ L h m → News h₀ L h ((C, oC) :: (D, lst ys) :: news) → C < h.objs.size → D < h.objs.size → l ≠ C → l ≠ D →
      wpAny (model prog w) A (eval i1 (compEnvC scope cl C env)) (fun xv s₃ => wpAny (model prog w) A (pyIter xv) (fun it s₄ => Src2 prog w A h₀ L m news (compEnvC scope cl C env) elt ifs x0 x1 v s₂ h D C J i it s₄) E' s₃) E' { s₂ with heap := h, toks := tk })
    (fin : ∀ s₂ D h tk ys, (∃ g, s₂ = { s with heap := g }) → J vs.size ys → Off1 D news → Fin s₂ (.ref D) h tk ((D, lst ys) :: news) ys D) :
    wpAny (model prog w) A (pyIter (.ref l)) (Two prog w A h₀ L m env elt i1 ifs x0 x1 scope cl Fin) E s := by
  have hil : s.heap.IsList l vs := News.isList N hl
  have hlt : l < s.heap.objs.size := Heap.lt_size (N _ hl).1
  refine wpAny_pyIter_list hil ?_
  have up : ∀ b o, s.heap.get? b = some o → (s.heap.push { cls := .type "list_iterator", data := .fields #[.ref l, .int 0 0] }).get? b = some o := fun b o e => Heap.get?_push_of_some _ e
  refine ⟨s.heap.objs.size, _, _, _, _, news, J, rfl, Walks.list hh s.heap.objs.size l (Nat.ne_of_lt hlt) vs, ⟨⟨_, Heap.get?_push_size _ rfl, rfl, rfl⟩, hil.push _⟩, ?_, F.keeps up, News.grown N up, Nat.ne_of_lt F.ns.lt, next_is_new F, fun q hq => Nat.ne_of_lt (Heap.lt_size (N q hq).1), hJ, ?_, ?_⟩
  · intro a ha
    show a < (s.heap.push _).objs.size
    rw [Heap.size_push]
    rcases List.mem_cons.mp ha with rfl | hb
    · exact Nat.lt_succ_self _
    · rw [List.mem_singleton.mp hb]; exact Nat.lt_succ_of_lt hlt
  · intro i v C D h tk oC m₂ ys E' hi hv hJ' hC hD hC2 hD2 hoC hm F₁ N₁
    have hC : (s.heap.push { cls := .type "list_iterator", data := .fields #[.ref l, .int 0 0] }).objs.size ≤ C := hC
    have hD : (s.heap.push { cls := .type "list_iterator", data := .fields #[.ref l, .int 0 0] }).objs.size ≤ D := hD
    rw [Heap.size_push] at hC hD
    exact inner _ i v C D h tk oC m₂ ys E' ⟨_, rfl⟩ hv hJ' hoC hm F₁ N₁ hC2 hD2 (Nat.ne_of_lt (Nat.lt_of_lt_of_le hlt (Nat.le_of_succ_le hC))) (Nat.ne_of_lt (Nat.lt_of_lt_of_le hlt (Nat.le_of_succ_le hD)))
  · exact fun D h tk ys => fin _ D h tk ys ⟨_, rfl⟩

/-- `y = [..]`: the block, and the store behind it -/
theorem assign_made {elt target iter : Expr} {ifs : List Expr} {gs : List Comprehension} {y : Str} {py : Pos} {scope : Scope} {cl : List (Str × Addr)} {pos spos : Pos} {Q : Flow → Shared → Prop}
    (hsw : swapsWith (.ListComp elt (⟨target, iter, ifs, 0⟩ :: gs) scope pos) (some (.Name y py)) spos.line env = pure true) (hclos : closureFor scope env = pure cl) (hkind : scope.kind = .function)
    (hnames : ∀ z ∈ scope.names, z.2 = .local → scope.names.lookup z.1 = some .local) (hs : ∀ x, foldedSetIterable iter env x = pure x)
    (h : wpAny (model prog w) A (eval iter env) (fun x s₁ => wpAny (model prog w) A (pyIter x) (fun it s₂ => wpAny (model prog w) A (newList []) (fun acc s₃ => wpAny (model prog w) A (newFunctionEnv scope env.globals cl [] env.qual none .none (some env)) (fun cenv s₄ =>
      codeAny (model prog w) A (.compStart (.ListComp elt (⟨target, iter, ifs, 0⟩ :: gs) scope pos) 0 it acc { cenv with scope := relabel scope env }) (compPost (model prog w) A E (some (assign (.Name y py) env)) (fun _ => Q .next) acc cenv.locals) s₄) E s₃) E s₂) E s₁) E s) :
    wpAny (model prog w) A (exec (.Assign [.Name y py] (.ListComp elt (⟨target, iter, ifs, 0⟩ :: gs) scope pos) spos) env) Q E s := by
  rw [exec_Assign_Name_used _ _ _ _ hsw]
  refine wpAny_bind (wpAny_standAt (wpAny_bind (wpAny_bind (wpAny_mono ?_ (fun _ _ q => wpAny_pure (wpAny_pure q)) fun _ _ x => x))))
  exact wpAny_comprehension_free rfl hs hclos hkind hnames h
theorem post_store {y : Str} {py : Pos} {D C : Addr} {o : Obj} {h : Heap} {k : Nat} {m' : Str → Option Value} {news : List (Addr × Obj)} {t : Shared} {Q : Flow → Shared → Prop}
    (hy : env.kindOf y = some .local) (hp : (env.scope.kind == .class || (env.scope.kind == .module && env.locals != env.globals)) = false) (F : Fr h₀ env.locals h m) (N : News h₀ env.locals h ((D, o) :: news))
    (hC : h.Ns C m') (c0 : h₀.get? C = none) (cL : C ≠ env.locals) (off : ∀ p ∈ (D, o) :: news, p.1 ≠ C)
    (fin : ∀ h'' k, Fr h₀ env.locals h'' (fun z => if z = y then some (.ref D) else m z) → News h₀ env.locals h'' ((D, o) :: news) → Q .next { t with heap := h'', toks := k }) :
    compPost (model prog w) A E (some (assign (.Name y py) env)) (fun _ => Q .next) (.ref D) C (.ok .next) { t with heap := h, toks := k } := by
  refine wpAny_assign_Name (wpAny_storeName_local hy F.ns (fun h₂ n₂ k₂ => ⟨m', hC.sameBut k₂ cL, fun h'' k'' => ?_⟩) hp)
  have F₂ : Fr h₀ env.locals h₂ (fun z => if z = y then some (.ref D) else m z) :=
    ⟨n₂, fun b o q => (k₂.2 b (Nat.ne_of_lt (Nat.lt_of_lt_of_le (Heap.lt_size q) F.above))).trans (F.keep b o q), F.above⟩
  exact fin h'' _ (F₂.change k'' cL c0) (news_same (news_same N k₂ fun p q => (N p q).2.1) k'' off)
theorem assign_2 {elt i0 i1 : Expr} {ifs : List Expr} {x0 x1 y : Str} {p0 p1 py : Pos} {scope : Scope} {cl : List (Str × Addr)} {pos spos : Pos} {Q : Flow → Shared → Prop} (_F₀ : Fr h₀ L s.heap m) (hLe : env.locals = L)
    (hsw : swapsWith (.ListComp elt [⟨.Name x0 p0, i0, [], 0⟩, ⟨.Name x1 p1, i1, ifs, 0⟩] scope pos) (some (.Name y py)) spos.line env = pure true)
    (hclos : closureFor scope env = pure cl) (hcell : ∀ z ∈ scope.names, z.2 ≠ .cell) (hkind : scope.kind = .function)
    (hnames : ∀ z ∈ scope.names, z.2 = .local → scope.names.lookup z.1 = some .local) (hx0 : scope.names.lookup x0 = some .local) (hx1 : scope.names.lookup x1 = some .local) (hne : x0 ≠ x1)
    (hy : env.kindOf y = some .local) (hp : (env.scope.kind == .class || (env.scope.kind == .module && env.locals != env.globals)) = false)
    (h : wpAny (model prog w) A (eval i0 env) (fun xv s₁ => wpAny (model prog w) A (pyIter xv) (Two prog w A h₀ L m env elt i1 ifs x0 x1 scope cl (fun s₂ Dv h tk all _ _ => Fr h₀ L h (fun z => if z = y then some Dv else m z) → News h₀ L h all → Q .next { s₂ with heap := h, toks := tk })) E s₁) E s)
    (hs : ∀ x, foldedSetIterable i0 env x = pure x := by intro _; rfl) (hs1 : ∀ env x, foldedSetIterable i1 env x = pure x := by intro _ _; rfl) :
    wpAny (model prog w) A (exec (.Assign [.Name y py] (.ListComp elt [⟨.Name x0 p0, i0, [], 0⟩, ⟨.Name x1 p1, i1, ifs, 0⟩] scope pos) spos) env) Q E s := by
  subst hLe
  refine assign_made hsw hclos hkind hnames hs (wpAny_mono h (fun xv s₁ h₁ => wpAny_mono h₁ (fun it s₂ h₂ => ?_) fun _ _ e => e) fun _ _ e => e)
  obtain ⟨I, fp, n, P, St, news, J, rfl, W, hst, hfp, F, N, hIL, hI₀, off, hJ, inner, fin⟩ := h₂
  refine block_2 W hcell hkind hx0 hx1 hne hst hfp F N hIL hI₀ off hJ inner ?_ hs1
  exact fun D C h' tk m' ys F' N' o1 hC c0 cL offC hJ' => post_store hy hp F' N' hC c0 cL offC fun h'' k => fin D h'' k ys hJ' o1
theorem eval_2 {elt i0 i1 : Expr} {ifs : List Expr} {x0 x1 : Str} {p0 p1 : Pos} {scope : Scope} {cl : List (Str × Addr)} {pos : Pos} {Q : Value → Shared → Prop} (_F₀ : Fr h₀ L s.heap m)
    (hclos : closureFor scope env = pure cl) (hcell : ∀ z ∈ scope.names, z.2 ≠ .cell) (hkind : scope.kind = .function)
    (hnames : ∀ z ∈ scope.names, z.2 = .local → scope.names.lookup z.1 = some .local) (hx0 : scope.names.lookup x0 = some .local) (hx1 : scope.names.lookup x1 = some .local) (hne : x0 ≠ x1)
    (h : wpAny (model prog w) A (eval i0 env) (fun xv s₁ => wpAny (model prog w) A (pyIter xv) (Two prog w A h₀ L m env elt i1 ifs x0 x1 scope cl (fun s₂ Dv h tk all _ _ => Fr h₀ L h m → News h₀ L h all → Q Dv { s₂ with heap := h, toks := tk })) E s₁) E s)
    (hs : ∀ x, foldedSetIterable i0 env x = pure x := by intro _; rfl) (hs1 : ∀ env x, foldedSetIterable i1 env x = pure x := by intro _ _; rfl) :
    wpAny (model prog w) A (eval (.ListComp elt [⟨.Name x0 p0, i0, [], 0⟩, ⟨.Name x1 p1, i1, ifs, 0⟩] scope pos) env) Q E s := by
  rw [eval_ListComp]
  refine wpAny_comprehension_free (use := none) rfl hs hclos hkind hnames (wpAny_mono h (fun xv s₁ h₁ => wpAny_mono h₁ (fun it s₂ h₂ => ?_) fun _ _ e => e) fun _ _ e => e)
  obtain ⟨I, fp, n, P, St, news, J, rfl, W, hst, hfp, F, N, hIL, hI₀, off, hJ, inner, fin⟩ := h₂
  refine block_2 W hcell hkind hx0 hx1 hne hst hfp F N hIL hI₀ off hJ inner ?_ hs1
  exact fun D C h' tk m' ys F' N' o1 hC c0 cL offC hJ' => ⟨m', hC, fun h'' k'' => fin D h'' tk ys hJ' o1 (F'.change k'' cL c0) (news_same N' k'' offC)⟩
end
section
variable {prog : Program} {w : World} {A : Around} {s : Shared} {h₀ : Heap} {L : Addr} {m : Str → Option Value} {env : Env}
theorem src2_range {elt : Expr} {ifs : List Expr} {x0 x1 : Str} {v : Value} {s₂ : Shared} {h : Heap} {D C : Addr} {J : Nat → List Value → Prop} {i k : Nat} {news : List (Addr × Obj)} {t : Tok} {E' : Value → Shared → Prop} {tk : Nat} (J' : Nat → List Value → Prop) (hk : k ≤ 1000)
    (hh : A.handled = none) (hC : C < h.objs.size) (hD : D < h.objs.size) (h0 : ∀ ys, J i ys → J' 0 ys) (hn : ∀ ys, J' k ys → J (i + 1) ys) (hsz : ∀ j ys, j ≤ k → J' j ys → ys.length ≤ sizeLine)
    (item : Item2 prog w A h₀ L m news env elt ifs x0 x1 v s₂ D C (fun j u => ∃ t, u = .int (0 + (j : Int)) t) k J') :
    wpAny (model prog w) A (call (.type "range") [.int (k : Int) t]) (fun xv s₃ => wpAny (model prog w) A (pyIter xv) (fun it s₄ => Src2 prog w A h₀ L m news env elt ifs x0 x1 v s₂ h D C J i it s₄) E' s₃) E' { s₂ with heap := h, toks := tk } := by
  refine call_range_1 ?_
  refine wpAny_pyIter_range (IsRange.new _ _ _ _ _ _ _) (small_one (by omega) (by omega) (by omega) (by omega)) ?_
  rw [rangeSize_nat]
  generalize hG : h.push { cls := .type "range", data := .fields #[.int 0 tk, .int (k : Int) t, .int 1 (tk + 1)] } = G
  have eG : G.objs.size = h.objs.size + 1 := by rw [← hG, Heap.size_push]
  have up : ∀ b o, h.get? b = some o → (G.push { cls := .type "range_iterator", data := .fields #[rawInt 0, rawInt ((k : Nat) : Int), rawInt 1] }).get? b = some o := fun b o e => Heap.get?_push_of_some _ (hG ▸ Heap.get?_push_of_some _ e)
  refine ⟨G.objs.size, [G.objs.size], k, _, _, _, _, J', rfl, rfl, up, range_walks hh 0 k, ?_, ?_, ?_, h0, hn, hsz, item⟩
  · show IsRangeIter _ _ _ _ _
    simpa using Heap.get?_push_size _ rfl
  · exact Heap.get?_none_of_le (by rw [eG]; exact Nat.le_succ _)
  · intro b hb
    rw [List.mem_singleton.mp hb, eG]
    exact ⟨Nat.ne_of_gt (Nat.lt_succ_of_lt hC), Nat.ne_of_gt (Nat.lt_succ_of_lt hD)⟩
/-- a list as an inner clause's source -/
theorem src2_list {elt : Expr} {ifs : List Expr} {x0 x1 : Str} {v : Value} {s₂ : Shared} {h : Heap} {D C l : Addr} {vs : Array Value} {J : Nat → List Value → Prop} {i : Nat} {news : List (Addr × Obj)} {E' : Value → Shared → Prop} {tk : Nat} (J' : Nat → List Value → Prop)
    (hh : A.handled = none) (hl : h.IsList l vs) (hC : C < h.objs.size) (hD : D < h.objs.size) (hlC : l ≠ C) (hlD : l ≠ D) (h0 : ∀ ys, J i ys → J' 0 ys) (hn : ∀ ys, J' vs.size ys → J (i + 1) ys) (hsz : ∀ j ys, j ≤ vs.size → J' j ys → ys.length ≤ sizeLine)
    (item : Item2 prog w A h₀ L m news env elt ifs x0 x1 v s₂ D C (fun j u => vs[j]? = some u) vs.size J') :
    wpAny (model prog w) A (pyIter (.ref l)) (fun it s₄ => Src2 prog w A h₀ L m news env elt ifs x0 x1 v s₂ h D C J i it s₄) E' { s₂ with heap := h, toks := tk } := by
  refine wpAny_pyIter_list hl ?_
  have hlt : l < h.objs.size := by obtain ⟨_, e, _⟩ := hl; exact Heap.lt_size e
  refine ⟨h.objs.size, [h.objs.size, l], vs.size, _, _, _, _, J', rfl, rfl, fun b o e => Heap.get?_push_of_some _ e, Walks.list hh h.objs.size l (Nat.ne_of_lt hlt) vs, ⟨⟨_, Heap.get?_push_size _ rfl, rfl, rfl⟩, hl.push _⟩, Heap.get?_none_of_le (Nat.le_refl _), ?_, h0, hn, hsz, item⟩
  intro b hb
  rcases List.mem_cons.mp hb with rfl | hb
  · exact ⟨Nat.ne_of_gt hC, Nat.ne_of_gt hD⟩
  · rw [List.mem_singleton.mp hb]; exact ⟨hlC, hlD⟩
end
end Mine
end
section
open PySem PySem.W PyProof.Rows PySem.Spec PySem.Calls
namespace Mine
open LCg
set_option maxRecDepth 100000
section
variable {prog : Program} {w : World} {A : Around} {E : Value → Shared → Prop} {s : Shared} {h₀ : Heap} {L : Addr} {m : Str → Option Value} {env : Env}
noncomputable def frameC : Obj := { cls := .type "dict", data := .dict #[] }
noncomputable def cellN : Obj := { cls := .type "cell", data := .cell none }
theorem frameC_ns : NsObj frameC (fun _ => none) := ⟨#[], 0, rfl, by intro e he; simp at he, by intro n; rfl⟩
theorem newEnv_cell {scope : Scope} {x n0 n2 n3 n4 : Str} {g : Addr} {cl : List (Str × Addr)} {q : Str} {Q : Env → Shared → Prop} (hn : scope.names = [(n0, .local), (x, .cell), (n2, .globalImplicit), (n3, .globalImplicit), (n4, .free)])
    (h : Q { scope, locals := s.heap.objs.size, globals := g, cells := (x, s.heap.objs.size + 1) :: cl, qual := q, func := none, code := env.code, frame := env.frame, builtins := env.builtins } { s with heap := (s.heap.push frameC).push cellN }) :
    wpAny (model prog w) A (newFunctionEnv scope g cl [] q none .none (some env)) Q E s := by
  unfold newFunctionEnv
  simp only [hn, Option.isSome_some, if_true]
  refine wpAny_bind (wpAny_alloc ?_)
  simp
  refine wpAny_bind (wpAny_alloc ?_)
  simp
  refine wpAny_pure ?_
  exact h
theorem lookup_relabel_cell {env : Env} : ∀ {names : List (Str × NameKind)} {x : Str}, names.lookup x = some .cell →
    (names.map fun (n, k) => if (k == NameKind.free && env.scope.kind == .function && env.kindOf n == some .cell) then (n, NameKind.cell) else (n, k)).lookup x = some .cell
  | [], _, h => by simp at h
  | (n, k) :: r, x, h => by
    have ih := @lookup_relabel_cell env r x
    rw [List.lookup_cons] at h
    rw [List.map_cons, List.lookup_cons]
    by_cases hx : x == n
    · rw [hx] at h
      simp only [Option.some.injEq] at h
      subst h
      simp [hx]
    · simp only [hx] at h
      have e : (x == (if (k == NameKind.free && env.scope.kind == .function && env.kindOf n == some .cell) = true then (n, NameKind.cell) else (n, k)).1) = false := by split <;> simpa using hx
      simp only [e]
      exact ih h
noncomputable def riObj (a c : Int) (n i : Nat) : Obj := { cls := .type "range_iterator", dict := none, data := .fields #[rawInt (a + (i : Nat) * c), rawInt ((n : Int) - (i : Nat)), rawInt c], slots := #[] }
/-- the end of one turn of a block whose own variable is a cell -/
noncomputable def CellEnd (h₀ : Heap) (L : Addr) (m : Str → Option Value) (s₁ : Shared) (all : List (Addr × Obj)) (J : Value → Prop) (y : Value) (s₂ : Shared) : Prop :=
  ∃ h' tk, s₂ = { s₁ with heap := h', toks := tk } ∧ Fr h₀ L h' m ∧ News h₀ L h' all ∧ J y
theorem CellEnd.intro {s₁ : Shared} {all big : List (Addr × Obj)} {J : Value → Prop} {y : Value} {h' : Heap} {tk : Nat} (F : Fr h₀ L h' m) (N : News h₀ L h' big) (sub : ∀ p ∈ all, p ∈ big) (j : J y) : CellEnd h₀ L m s₁ all J y { s₁ with heap := h', toks := tk } :=
  ⟨h', tk, rfl, F, news_sub N sub, j⟩
theorem block_C {elt iter : Expr} {x n0 n2 n3 n4 : Str} {px : Pos} {scope : Scope} {cl : List (Str × Addr)} {pos : Pos} {s₂ : Shared} {I : Addr} {a c : Int} {n : Nat} {news : List (Addr × Obj)}
    {J : Nat → List Value → Prop} {RR : Value → Addr → Result → Shared → Prop} (hh : A.handled = none)
    (hn : scope.names = [(n0, .local), (x, .cell), (n2, .globalImplicit), (n3, .globalImplicit), (n4, .free)]) (hkind : scope.kind = .function) (hx : scope.names.lookup x = some .cell)
    (hst : IsRangeIter s₂.heap I (a + ((0 : Nat) : Int) * c) ((n : Int) - ((0 : Nat) : Int)) c)
    (F : Fr h₀ L s₂.heap m) (N : News h₀ L s₂.heap news) (hIL : L ≠ I) (hI₀ : h₀.get? I = none) (off : ∀ p ∈ news, p.1 ≠ I) (hJ : J 0 []) (hsz : ∀ i ys, i ≤ n → J i ys → ys.length ≤ sizeLine)
    (turn : ∀ i t I C K D h tk oK oI ys (E' : Value → Shared → Prop), i < n → J i ys → oK.data = .cell (some (.int (a + (i : Nat) * c) t)) → Fr h₀ L h m → News h₀ L h ((K, oK) :: (I, oI) :: (C, frameC) :: (D, lst ys) :: news) →
      wpAny (model prog w) A (eval elt (compEnvC scope ((x, K) :: cl) C env)) (CellEnd h₀ L m { s₂ with heap := h, toks := tk } ((K, oK) :: (I, oI) :: (C, frameC) :: (D, lst ys) :: news) (fun y => J (i + 1) (ys ++ [y]))) E' { s₂ with heap := h, toks := tk })
    (hRR : ∀ D C h tk m' ys, Fr h₀ L h m → News h₀ L h ((D, lst ys) :: news) → Off1 D news → h.Ns C m' → h₀.get? C = none → C ≠ L → (∀ p ∈ (D, lst ys) :: news, p.1 ≠ C) → J n ys → RR (.ref D) C (.ok .next) { s₂ with heap := h, toks := tk }) :
    wpAny (model prog w) A (newList []) (fun acc s₃ => wpAny (model prog w) A (newFunctionEnv scope env.globals cl [] env.qual none .none (some env)) (fun cenv s₄ =>
      codeAny (model prog w) A (.compStart (.ListComp elt [⟨.Name x px, iter, [], 0⟩] scope pos) 0 (.ref I) acc { cenv with scope := relabel scope env }) (RR acc cenv.locals) s₄) E s₃) E s₂ := by
  refine wpAny_newObj_type (newEnv_cell hn ?_)
  have W := Walks.range (prog := prog) (w := w) hh I a c n
  dsimp only
  generalize hH2 : s₂.heap.push { cls := .type "list", dict := none, data := .seq ([] : List Value).toArray } = H2
  have hC : H2.objs.size = s₂.heap.objs.size + 1 := by rw [← hH2, Heap.size_push]
  have eD : H2.get? s₂.heap.objs.size = some (lst []) := hH2 ▸ Heap.get?_push_size _ rfl
  have old2 : ∀ b o, s₂.heap.get? b = some o → H2.get? b = some o := fun b o e => hH2 ▸ Heap.get?_push_of_some _ e
  have old : ∀ b o, s₂.heap.get? b = some o → ((H2.push frameC).push cellN).get? b = some o := fun b o e => Heap.get?_push_of_some _ (Heap.get?_push_of_some _ (old2 b o e))
  have hlt : ∀ p ∈ news, p.1 < s₂.heap.objs.size := fun p hp => Heap.lt_size (N p hp).1
  have hIlt : I < s₂.heap.objs.size := Heap.lt_size hst
  have hLlt : L < s₂.heap.objs.size := F.ns.lt
  have hD₀ := none_new F (Nat.le_refl s₂.heap.objs.size)
  have hC₀ := none_new F (b := H2.objs.size) (by rw [hC]; exact Nat.le_succ _)
  have hK₀ := none_new F (b := H2.objs.size + 1) (by rw [hC]; exact Nat.le_trans (Nat.le_succ _) (Nat.le_succ _))
  have eC : ((H2.push frameC).push cellN).get? H2.objs.size = some frameC := Heap.get?_push_of_some _ (Heap.get?_push_size _ rfl)
  have eK : ((H2.push frameC).push cellN).get? (H2.objs.size + 1) = some cellN := by
    have := Heap.get?_push_size (H2.push frameC) (o := cellN) rfl
    rwa [Heap.size_push] at this
  have eD2 : ((H2.push frameC).push cellN).get? s₂.heap.objs.size = some (lst []) := Heap.get?_push_of_some _ (Heap.get?_push_of_some _ eD)
  generalize hDd : s₂.heap.objs.size = D at *
  have hKC : H2.objs.size + 1 ≠ H2.objs.size := Nat.succ_ne_self _
  have hKD : H2.objs.size + 1 ≠ D := by rw [hC]; exact Nat.ne_of_gt (Nat.lt_succ_of_lt (Nat.lt_succ_self _))
  have hCD : H2.objs.size ≠ D := by rw [hC]; exact Nat.succ_ne_self _
  have far : ∀ b : Nat, b < D → b ≠ H2.objs.size + 1 ∧ b ≠ H2.objs.size ∧ b ≠ D := fun b hb => ⟨by omega, by omega, by omega⟩
  generalize hKd : H2.objs.size + 1 = K at *
  generalize hCd : H2.objs.size = C at *
  obtain ⟨hIK, hIC, hID⟩ := far I hIlt
  obtain ⟨hLK, hLC, hLD⟩ := far L hLlt
  have o1D : Off1 D news := off1_of fun p hp => (far _ (hlt p hp)).2.2
  have loop : ∀ s₃ : Shared, s₃ = { s₂ with heap := (H2.push frameC).push cellN } →
      codeAny (model prog w) A (.compLoop (.ListComp elt [⟨.Name x px, iter, [], 0⟩] scope pos) 0 (.ref I) (.ref D) (compEnvC scope ((x, K) :: cl) C env)) (RR (.ref D) C) s₃ := by
    rintro s₃ rfl
    refine codeAny_compLoop_tests (fun k s' => ∃ h' tk i ys oK v0, s' = { s₂ with heap := h', toks := tk } ∧ i ≤ n ∧ k = n + 1 - i ∧ Fr h₀ L h' m ∧ News h₀ L h' ((K, oK) :: (I, riObj a c n i) :: (C, frameC) :: (D, lst ys) :: news) ∧ oK.data = .cell v0 ∧ J i ys) ?_ (n + 1)
      ⟨_, _, 0, [], cellN, none, rfl, Nat.zero_le _, rfl, F.keeps old, ?_, rfl, hJ⟩
    · rintro k s' ⟨h', tk, i, ys, oK, v0, rfl, hi, rfl, F', N', hoK, hJ'⟩
      have zK := (N' (K, oK) (.head _)).1
      have zI : IsRangeIter h' I (a + (i : Nat) * c) ((n : Int) - (i : Nat)) c := (N' (I, riObj a c n i) (.tail _ (.head _))).1
      have zC := (N' (C, frameC) (.tail _ (.tail _ (.head _)))).1
      have zD := (N' (D, lst ys) (.tail _ (.tail _ (.tail _ (.head _))))).1
      have zN : News h₀ L h' news := fun p hp => N' p (.tail _ (.tail _ (.tail _ (.tail _ hp))))
      by_cases hlt' : i < n
      · refine W.item i _ _ _ hlt' zI fun v h₂ tk₂ hPv hst₂ hk₂ => ?_
        obtain ⟨t, rfl⟩ := hPv
        have kI : ∀ b o, b ≠ I → h'.get? b = some o → h₂.get? b = some o := fun b o hb e => hk₂ b o (by simpa using hb) e
        refine wpAny_assign_Name (wpAny_storeName_cell (c := K) (by simp [compEnvC, relabel, hkind]) (lookup_relabel_cell hx) (by simp [compEnvC]) ⟨oK, kI _ _ (Ne.symm hIK) zK, hoK⟩ fun h₃ hv₃ hs₃ => ?_)
        obtain ⟨oK₃, eK₃, hoK₃⟩ := hv₃
        refine wpAny_tests_nil ?_
        simp only [if_true]
        have k3 : ∀ b o, b ≠ I → b ≠ K → h'.get? b = some o → h₃.get? b = some o := fun b o hb hb2 e => (hs₃.2 b hb2).trans (kI b o hb e)
        have F₃ : Fr h₀ L h₃ m := ⟨F'.ns.at' fun o e => k3 L o hIL hLK e, fun b o e => k3 b o (fun q => by rw [q, hI₀] at e; cases e) (fun q => by rw [q, hK₀] at e; cases e) (F'.keep b o e), F'.above⟩
        have N₃ : News h₀ L h₃ ((K, oK₃) :: (I, riObj a c n (i + 1)) :: (C, frameC) :: (D, lst ys) :: news) := by
          refine List.forall_mem_cons.mpr ⟨⟨eK₃, Ne.symm hLK, hK₀⟩, List.forall_mem_cons.mpr ⟨⟨(hs₃.2 I hIK).trans hst₂, Ne.symm hIL, hI₀⟩, List.forall_mem_cons.mpr ⟨⟨k3 _ _ (Ne.symm hIC) (Ne.symm hKC) zC, Ne.symm hLC, hC₀⟩, List.forall_mem_cons.mpr ⟨⟨k3 _ _ (Ne.symm hID) (Ne.symm hKD) zD, Ne.symm hLD, hD₀⟩, fun p hp => ⟨k3 _ _ (off p hp) (far _ (hlt p hp)).1 (zN p hp).1, (zN p hp).2⟩⟩⟩⟩⟩
        refine wpAny_mono (turn i t I C K D h₃ _ oK₃ _ ys _ hlt' hJ' hoK₃ F₃ N₃) (fun y s₄ h₄ => ?_) fun _ _ e => e
        obtain ⟨h₄, tk₄, rfl, F₄, N₄, hJ₄⟩ := h₄
        have xK := (N₄ (K, oK₃) (.head _)).1
        have xI := (N₄ (I, riObj a c n (i + 1)) (.tail _ (.head _))).1
        have xC := (N₄ (C, frameC) (.tail _ (.tail _ (.head _)))).1
        have xD := (N₄ (D, lst ys) (.tail _ (.tail _ (.tail _ (.head _))))).1
        refine append_at (hsz := by show ys.toArray.size ≤ sizeLine; rw [List.size_toArray]; exact hsz i ys hi hJ') xD fun h₅ hs₅ hD₅ => ?_
        refine ⟨n + 1 - (i + 1), by omega, h₅, tk₄, i + 1, ys ++ [y], oK₃, _, rfl, hlt', rfl, F₄.change hs₅ (Ne.symm hLD) hD₀, ?_, hoK₃, hJ₄⟩
        refine List.forall_mem_cons.mpr ⟨⟨hs₅.extBut _ _ hKD xK, Ne.symm hLK, hK₀⟩, List.forall_mem_cons.mpr ⟨⟨hs₅.extBut _ _ hID xI, Ne.symm hIL, hI₀⟩, List.forall_mem_cons.mpr ⟨⟨hs₅.extBut _ _ hCD xC, Ne.symm hLC, hC₀⟩, List.forall_mem_cons.mpr ⟨⟨hD₅.trans (congrArg some (lst_snoc ys y)), Ne.symm hLD, hD₀⟩, fun p hp => ?_⟩⟩⟩⟩
        have z := N₄ p (.tail _ (.tail _ (.tail _ (.tail _ hp))))
        exact ⟨hs₅.extBut _ _ (far _ (hlt p hp)).2.2 z.1, z.2⟩
      · obtain rfl : i = n := Nat.le_antisymm hi (Nat.not_lt.mp hlt')
        refine W.done _ _ _ zI fun h₂ tk₂ hk₂ => ?_
        have kI : ∀ b o, b ≠ I → h'.get? b = some o → h₂.get? b = some o := fun b o hb e => hk₂ b o (by simpa using hb) e
        have F₂ : Fr h₀ L h₂ m := ⟨F'.ns.at' fun o e => kI L o hIL e, fun b o e => kI b o (fun q => by rw [q, hI₀] at e; cases e) (F'.keep b o e), F'.above⟩
        refine hRR D C h₂ tk₂ _ ys F₂ (List.forall_mem_cons.mpr ⟨⟨kI _ _ (Ne.symm hID) zD, Ne.symm hLD, hD₀⟩, fun p hp => ⟨kI _ _ (off p hp) (zN p hp).1, (zN p hp).2⟩⟩) o1D (frameC_ns.ns (kI _ _ (Ne.symm hIC) zC)) hC₀ (Ne.symm hLC) (List.forall_mem_cons.mpr ⟨Ne.symm hCD, fun p hp => (far _ (hlt p hp)).2.1⟩) hJ'
    · refine List.forall_mem_cons.mpr ⟨⟨eK, Ne.symm hLK, hK₀⟩, List.forall_mem_cons.mpr ⟨⟨old _ _ hst, Ne.symm hIL, hI₀⟩, List.forall_mem_cons.mpr ⟨⟨eC, Ne.symm hLC, hC₀⟩, List.forall_mem_cons.mpr ⟨⟨eD2, Ne.symm hLD, hD₀⟩, fun p hp => ⟨old _ _ (N p hp).1, (N p hp).2⟩⟩⟩⟩⟩
  exact codeAny_compStart_list (loop _ rfl) (W.self 0 _ _ _ (old _ _ hst) (loop _ rfl))
/-- the source of a block whose own variable is a cell: a range -/
noncomputable def SrcC (prog : Program) (w : World) (A : Around) (h₀ : Heap) (L : Addr) (m : Str → Option Value) (env : Env) (elt : Expr) (x : Str) (scope : Scope) (cl : List (Str × Addr)) (Fin : Shared → Value → Heap → Nat → List (Addr × Obj) → Prop) (xv : Value) (s₁ : Shared) : Prop :=
  ∃ (r : Addr) (a b c : Int) (t u v : Tok) (n : Nat) (news : List (Addr × Obj)) (J : Nat → List Value → Prop), xv = .ref r ∧ A.handled = none ∧ Fr h₀ L s₁.heap m ∧ News h₀ L s₁.heap news ∧ IsRange s₁.heap r a b c t u v ∧ Builtin.Range.small a b c = true ∧ Builtin.Range.rangeSize a b c = ((n : Nat) : Int) ∧ J 0 [] ∧ (∀ i ys, i ≤ n → J i ys → ys.length ≤ sizeLine) ∧
    (∀ s₂, (∃ g, s₂ = { s₁ with heap := g }) → ∀ i t I C K D h tk oK oI ys (E' : Value → Shared → Prop), i < n → J i ys → oK.data = .cell (some (.int (a + (i : Nat) * c) t)) → Fr h₀ L h m → News h₀ L h ((K, oK) :: (I, oI) :: (C, frameC) :: (D, lst ys) :: news) →
      wpAny (model prog w) A (eval elt (compEnvC scope ((x, K) :: cl) C env)) (CellEnd h₀ L m { s₂ with heap := h, toks := tk } ((K, oK) :: (I, oI) :: (C, frameC) :: (D, lst ys) :: news) (fun y => J (i + 1) (ys ++ [y]))) E' { s₂ with heap := h, toks := tk }) ∧
    (∀ s₂, (∃ g, s₂ = { s₁ with heap := g }) → ∀ D h tk ys, J n ys → Off1 D news → Fin s₂ (.ref D) h tk ((D, lst ys) :: news))
theorem SrcC.intro {elt : Expr} {x : Str} {scope : Scope} {cl : List (Str × Addr)} {Fin : Shared → Value → Heap → Nat → List (Addr × Obj) → Prop} {s₁ : Shared} {r : Addr} {a b c : Int} {t u v : Tok} (n : Nat) {news : List (Addr × Obj)} (J : Nat → List Value → Prop) (hh : A.handled = none) (F : Fr h₀ L s₁.heap m) (N : News h₀ L s₁.heap news)
    (hr : IsRange s₁.heap r a b c t u v) (hsm : Builtin.Range.small a b c = true) (hn : Builtin.Range.rangeSize a b c = ((n : Nat) : Int)) (hJ : J 0 []) (hsz : ∀ i ys, i ≤ n → J i ys → ys.length ≤ sizeLine)
    (turn : ∀ s₂, (∃ g, s₂ = { s₁ with heap := g }) → ∀ i t I C K D h tk oK oI ys (E' : Value → Shared → Prop), i < n → J i ys → oK.data = .cell (some (.int (a + (i : Nat) * c) t)) → Fr h₀ L h m → News h₀ L h ((K, oK) :: (I, oI) :: (C, frameC) :: (D, lst ys) :: news) →
      wpAny (model prog w) A (eval elt (compEnvC scope ((x, K) :: cl) C env)) (CellEnd h₀ L m { s₂ with heap := h, toks := tk } ((K, oK) :: (I, oI) :: (C, frameC) :: (D, lst ys) :: news) (fun y => J (i + 1) (ys ++ [y]))) E' { s₂ with heap := h, toks := tk })
    (fin : ∀ s₂, (∃ g, s₂ = { s₁ with heap := g }) → ∀ D h tk ys, J n ys → Off1 D news → Fin s₂ (.ref D) h tk ((D, lst ys) :: news)) : SrcC prog w A h₀ L m env elt x scope cl Fin (.ref r) s₁ :=
  ⟨r, a, b, c, t, u, v, n, news, J, rfl, hh, F, N, hr, hsm, hn, hJ, hsz, turn, fin⟩
theorem assign_C {elt iter : Expr} {x n0 n2 n3 n4 y : Str} {px py : Pos} {scope : Scope} {cl : List (Str × Addr)} {pos spos : Pos} {Q : Flow → Shared → Prop} (_F₀ : Fr h₀ L s.heap m) (hLe : env.locals = L)
    (hsw : swapsWith (.ListComp elt [⟨.Name x px, iter, [], 0⟩] scope pos) (some (.Name y py)) spos.line env = pure true)
    (hclos : closureFor scope env = pure cl) (hn : scope.names = [(n0, .local), (x, .cell), (n2, .globalImplicit), (n3, .globalImplicit), (n4, .free)]) (hkind : scope.kind = .function)
    (hnames : ∀ z ∈ scope.names, z.2 = .local → scope.names.lookup z.1 = some .local) (hx : scope.names.lookup x = some .cell)
    (hy : env.kindOf y = some .local) (hp : (env.scope.kind == .class || (env.scope.kind == .module && env.locals != env.globals)) = false)
    (h : wpAny (model prog w) A (eval iter env) (SrcC prog w A h₀ L m env elt x scope cl (fun s₂ Dv h tk all => Fr h₀ L h (fun z => if z = y then some Dv else m z) → News h₀ L h all → Q .next { s₂ with heap := h, toks := tk })) E s)
    (hs : ∀ x, foldedSetIterable iter env x = pure x := by intro _; rfl) :
    wpAny (model prog w) A (exec (.Assign [.Name y py] (.ListComp elt [⟨.Name x px, iter, [], 0⟩] scope pos) spos) env) Q E s := by
  subst hLe
  refine assign_made hsw hclos hkind hnames hs (wpAny_mono h (fun xv s₁ h₁ => ?_) fun _ _ e => e)
  obtain ⟨r, a, b, c, t, u, v, n, news, J, rfl, hh, F, N, hr, hsm, hnn, hJ, hsz, turn, fin⟩ := h₁
  have up : ∀ {o : Obj} (b x), s₁.heap.get? b = some x → (s₁.heap.push o).get? b = some x := fun _ _ e => Heap.get?_push_of_some _ e
  refine wpAny_pyIter_range hr hsm (block_C (a := a) (c := c) (n := n) hh hn hkind hx (by rw [hnn]; simpa using Heap.get?_push_size _ rfl) (F.keeps up) (N.grown up) (Nat.ne_of_lt F.ns.lt) (next_is_new F)
    (fun p hp => Nat.ne_of_lt (Heap.lt_size (N p hp).1)) hJ hsz (turn _ ⟨_, rfl⟩) ?_)
  exact fun D C h' tk m' ys F' N' o1 hC c0 cL offC hJ' => post_store hy hp F' N' hC c0 cL offC fun h'' k => fin { s₁ with heap := s₁.heap } ⟨_, rfl⟩ D h'' k ys hJ' o1
end
end Mine
end
section
open PySem PySem.W PyProof.Rows PySem.Spec PySem.Calls
namespace Mine
set_option maxRecDepth 100000
theorem strs_append : ∀ {vs ws : List Value} {xs ys : List Str}, StrsAre vs xs → StrsAre ws ys → StrsAre (vs ++ ws) (xs ++ ys)
  | _, _, _, _, .nil, h => h
  | _, _, _, _, .cons x t r, h => .cons x t (strs_append r h)
theorem strs_rep {x : Str} {t : Tok} : ∀ k : Nat, StrsAre (List.replicate k [Value.str x t]).flatten (List.replicate k x)
  | 0 => .nil
  | k + 1 => by
    rw [List.replicate_succ, List.replicate_succ, List.flatten_cons]
    exact .cons x t (strs_rep k)
section
variable {prog : Program} {w : World} {A : Around} {E : Value → Shared → Prop} {s : Shared} {h₀ : Heap} {L : Addr} {m : Str → Option Value} {news : List (Addr × Obj)} {l r : Addr} {vs ws : List Value} {x : Int} {u : Tok} {Q : Value → Shared → Prop}
theorem addL (Fm : Fr h₀ L s.heap m) (N : News h₀ L s.heap news) (hl : s.heap.IsList l vs.toArray) (hr : s.heap.IsList r ws.toArray) (hsz : vs.length + ws.length ≤ 16777216)
    (h : ∀ D h', Fr h₀ L h' m → News h₀ L h' ((D, listOf (vs ++ ws).toArray 0) :: news) → (∀ p ∈ news, p.1 < D) → Q (.ref D) { s with heap := h' }) : wpAny (model prog w) A (binaryOp .Add (.ref l) (.ref r)) Q E s := by
  refine add_arrays (its := vs.toArray) (its2 := ws.toArray) Fm N hl hr (fun h' F' N' => h _ _ F' N' fun p hp => Heap.lt_size (N p hp).1) ?_
  rw [List.size_toArray, List.size_toArray, sizeLine_eq]; exact hsz
end
end Mine
end
section
open PySem PySem.W PyProof.Rows PySem.Spec PySem.Calls
namespace Mine
noncomputable def bitI (c : UInt8) (k : Nat) : Int := ((c.toNat : Int).fdiv (2 ^ (7 - (0 + (k : Int))).toNat)).fmod 2
noncomputable def bitsB (l : List UInt8) : List Int := l.flatMap fun c => (List.range 8).map fun k => bitI c k
theorem bitsB_len (l : List UInt8) : (bitsB l).length = 8 * l.length := by
  unfold bitsB
  induction l with
  | nil => rfl
  | cons c r ih => simp only [List.flatMap_cons, List.length_append, List.length_map, List.length_range, ih, List.length_cons]; omega
theorem bitsB_snoc (l : List UInt8) (c : UInt8) : bitsB (l ++ [c]) = bitsB l ++ (List.range 8).map fun k => bitI c k := by
  unfold bitsB
  simp only [List.flatMap_append, List.flatMap_cons, List.flatMap_nil, List.append_nil]
theorem padB_len (k : Nat) : (List.replicate k [(0 : Int)]).flatten.length = k := by
  induction k with
  | zero => rfl
  | succ k ih => rw [List.replicate_succ, List.flatten_cons, List.length_append, ih]; simp; omega
theorem pad_six (m : Nat) : ∃ n : Nat, m + ((-((m : Nat) : Int)).fmod 6).toNat = 6 * n := by
  refine ⟨(m + 5) / 6, ?_⟩
  rw [Int.fmod_eq_emod_of_nonneg _ (by decide)]
  omega
theorem six_small {n : Nat} (h : n ≤ 4000) : Builtin.Range.small 0 ((6 * n : Nat) : Int) 6 = true ∧ Builtin.Range.rangeSize 0 ((6 * n : Nat) : Int) 6 = (n : Int) := by
  have h2 : Builtin.Range.rangeSize 0 ((6 * n : Nat) : Int) 6 = (n : Int) := by
    unfold Builtin.Range.rangeSize
    rw [if_pos (by decide)]
    split <;> omega
  refine ⟨?_, h2⟩
  have f : ∀ i : Int, 0 ≤ i → i < 100000 → Builtin.Range.rangeFitsLong i = true := by
    intro i h0 h1
    unfold Builtin.Range.rangeFitsLong
    rw [Bool.and_eq_true, decide_eq_true_eq, decide_eq_true_eq]
    omega
  unfold Builtin.Range.small
  rw [h2, f 0 (by omega) (by omega), f _ (by omega) (by omega), f 6 (by omega) (by omega), f (n : Int) (by omega) (by omega), if_pos (by decide), f _ (by omega) (by omega)]
  simp
noncomputable def sixT (pb : List Int) (i j : Nat) : Int := pb.getD (0 + (i : Int) * 6 + (0 + (j : Int))).toNat 0 * 2 ^ (5 - (0 + (j : Int))).toNat
theorem sixT_are {pb : List Int} {i : Nat} {ys : List Value} {l : List Nat} (h : Are (fun j => IntIs (sixT pb i j)) ys l) : IntsAre ys (l.map (sixT pb i)) :=
  are_ints (h.map (sixT pb i) fun _ _ x => x)
noncomputable def sixI (pb : List Int) (i : Nat) : Int := ((List.range 6).map (sixT pb i)).sum
noncomputable def StrIs (x : Str) (v : Value) : Prop := ∃ t, v = .str x t
noncomputable def alphaS : Str := Str.ofString "ABCDEFGHIJKLMNOPQRSTUVWXYZabcdefghijklmnopqrstuvwxyz0123456789''"
noncomputable def sgS (k : Int) : Str := Txt.item alphaS k
noncomputable def padB (b : Array UInt8) : List Int := bitsB b.toList ++ (List.replicate ((-((8 * b.size : Nat) : Int)).fmod 6).toNat [(0 : Int)]).flatten
noncomputable def sgB (b : Array UInt8) : List Str := ((List.range ((padB b).length / 6)).map (sixI (padB b))).map sgS ++ List.replicate ((-(((padB b).length / 6 : Nat) : Int)).fmod 4).toNat (Str.ofString "=")
theorem are_strs : ∀ {vs : List Value} {as : List Int}, Are (fun k => StrIs (sgS k)) vs as → StrsAre vs (as.map sgS)
  | [], [], _ => .nil
  | _ :: _, _ :: _, ⟨⟨t, e⟩, h⟩ => by subst e; exact .cons _ t (are_strs h)
  | [], _ :: _, h => h.elim
  | _ :: _, [], h => h.elim
theorem m4 (n : Nat) : 0 ≤ (-(n : Int)).fmod 4 ∧ (-(n : Int)).fmod 4 < 4 := ⟨Int.fmod_nonneg_of_pos _ (by decide), Int.fmod_lt_of_pos _ (by decide)⟩
theorem m4a (n : Nat) : -(2 ^ 63 : Int) ≤ (-(n : Int)).fmod 4 := by have := m4 n; omega
theorem m4b (n : Nat) : (-(n : Int)).fmod 4 < 2 ^ 63 := by have := m4 n; omega
theorem m4c {v : Value} (n : Nat) : [v].length * ((-(n : Int)).fmod 4).toNat ≤ 256 := by have := m4 n; simp only [List.length_cons, List.length_nil]; omega
theorem m4d (n : Nat) : ((-(n : Int)).fmod 4).toNat ≤ 4 := by have := m4 n; omega
theorem bitI_01 (c : UInt8) (k : Nat) : bitI c k = 0 ∨ bitI c k = 1 := by
  unfold bitI
  have h0 := Int.fmod_nonneg_of_pos ((c.toNat : Int).fdiv (2 ^ (7 - (0 + (k : Int))).toNat)) (b := 2) (by decide)
  have h1 := Int.fmod_lt_of_pos ((c.toNat : Int).fdiv (2 ^ (7 - (0 + (k : Int))).toNat)) (b := 2) (by decide)
  omega
theorem pad_01 (l : List UInt8) (k : Nat) : ∀ x ∈ bitsB l ++ (List.replicate k [(0 : Int)]).flatten, x = 0 ∨ x = 1 := by
  intro x hx
  rcases List.mem_append.mp hx with h | h
  · obtain ⟨c, _, h⟩ := List.mem_flatMap.mp h
    obtain ⟨j, _, rfl⟩ := List.mem_map.mp h
    exact bitI_01 c j
  · obtain ⟨y, hy, hx⟩ := List.mem_flatten.mp h
    rw [List.eq_of_mem_replicate hy] at hx
    exact .inl (by simpa using hx)
theorem six_in {pb : List Int} (h : ∀ x ∈ pb, x = 0 ∨ x = 1) (i : Nat) : 0 ≤ sixI pb i ∧ sixI pb i < 64 := by
  have hg : ∀ k, pb.getD k 0 = 0 ∨ pb.getD k 0 = 1 := by
    intro k
    rw [List.getD_eq_getElem?_getD]
    cases e : pb[k]? with
    | none => exact .inl rfl
    | some x => exact h x (List.mem_of_getElem? e)
  have e : sixI pb i = sixT pb i 0 + (sixT pb i 1 + (sixT pb i 2 + (sixT pb i 3 + (sixT pb i 4 + (sixT pb i 5 + 0))))) := rfl
  rw [e]
  unfold sixT
  have h0 := hg (0 + (i : Int) * 6 + (0 + ((0 : Nat) : Int))).toNat
  have h1 := hg (0 + (i : Int) * 6 + (0 + ((1 : Nat) : Int))).toNat
  have h2 := hg (0 + (i : Int) * 6 + (0 + ((2 : Nat) : Int))).toNat
  have h3 := hg (0 + (i : Int) * 6 + (0 + ((3 : Nat) : Int))).toNat
  have h4 := hg (0 + (i : Int) * 6 + (0 + ((4 : Nat) : Int))).toNat
  have h5 := hg (0 + (i : Int) * 6 + (0 + ((5 : Nat) : Int))).toNat
  have p0 : (2 : Int) ^ (5 - (0 + ((0 : Nat) : Int))).toNat = 32 := by decide
  have p1 : (2 : Int) ^ (5 - (0 + ((1 : Nat) : Int))).toNat = 16 := by decide
  have p2 : (2 : Int) ^ (5 - (0 + ((2 : Nat) : Int))).toNat = 8 := by decide
  have p3 : (2 : Int) ^ (5 - (0 + ((3 : Nat) : Int))).toNat = 4 := by decide
  have p4 : (2 : Int) ^ (5 - (0 + ((4 : Nat) : Int))).toNat = 2 := by decide
  have p5 : (2 : Int) ^ (5 - (0 + ((5 : Nat) : Int))).toNat = 1 := by decide
  rw [p0, p1, p2, p3, p4, p5]
  omega
end Mine
end
section
open PySem PySem.W PyProof.Rows PySem.Spec PySem.Calls
namespace Mine
open Builtin Builtin.Str
set_option maxRecDepth 100000
theorem sub_key : isSubtype (.type "KeyError") (.type "LookupError") = pure true := by rw [isSubtype_type]; kernel_rfl
section
variable {prog : Program} {w : World} {A : Around} {E : Value → Shared → Prop} {s : Shared}
theorem lookup_keep {d : Addr} {c : Nat} {D : List (PyData × PyData)} {Q : Mapped → Shared → Prop} (hh : A.handled = none) (T : IntTab prog w s.heap d D) (hl : lookup (.int (c : Int)) D = none)
    (h : ∀ h' tk, (∀ b o, s.heap.get? b = some o → h'.get? b = some o) → Q .keep { s with heap := h', toks := tk }) :
    wpAny (model prog w) A (tableLookup (.ref d) c) Q E s := by
  unfold tableLookup
  obtain ⟨lo, kvs, hd, hf⟩ := T
  refine wpAny_bind (wpAny_attempt (wpAny_bind (wpAny_mkInt (wpAny_getItem_missing_of (intKind_is _ _ _ _) lo hh hd.mapOf (hf.none_of_lookup PyProof.V.same_int hl) fun h' e he => ?_))))
  obtain ⟨ob, t, e1, e2, e3⟩ := he.there
  dsimp only
  refine wpAny_bind (wpAny_isInstance (T := "KeyError") ⟨ob, e1, e2⟩ sub_key ?_)
  rw [if_pos rfl]
  exact wpAny_bind (wpAny_rule (wpAny_pure (h h' _ he.keeps)))
theorem trans_call {d : Addr} {c : Nat} {t : Tok} {D : List (PyData × PyData)} {Q : Value → Shared → Prop} (hh : A.handled = none) (T : IntTab prog w s.heap d D) (hl : lookup (.int (c : Int)) D = none) (hc : c < 128)
    (h : ∀ h' tk t', (∀ b o, s.heap.get? b = some o → h'.get? b = some o) → Q (.str ⟨#[c]⟩ t') { s with heap := h', toks := tk }) :
    wpAny (model prog w) A (call (.builtin "str.translate") [.str ⟨#[c]⟩ t, .ref d]) Q E s := by
  refine wpAny_call (codeAny_call_builtin F.slot_str_translate.plain F.entry_str_translate (F.slot_str_translate.check _ _ _ _ _ _ _ _ (typeIs_str _ _ _) (F.args_str_translate_2 _ _) ?_))
  unfold Builtin.«str.translate»
  refine wpAny_bind (m := strOneArg _ _) (wpAny_pure ?_)
  dsimp only
  rw [if_neg (by simp [Str.length])]
  refine wpAny_bind ?_
  rw [← Array.forIn_toList]
  show wpAny _ _ (forIn [c] _ _) _ _ s
  rw [List.forIn_cons]
  have e1 : (#[c].all fun x => decide (x < 128)) = true := by simp [hc]
  refine wpAny_bind ?_
  rw [if_neg (by simp [tooLong])]
  simp only [e1, if_true, List.lookup]
  refine wpAny_bind (lookup_keep hh T hl fun h' tk hk => ?_)
  refine wpAny_pure (wpAny_pure ?_)
  dsimp only
  rw [if_neg (by simp [tooLong, sizeLine_eq])]
  refine wpAny_bind (m := mkStr _) (wpAny_mkStr (wpAny_pure (h _ _ _ hk)) ?_)
  show 1 ≤ _
  rw [sizeLine_eq]; decide
theorem method_st {M : Model} {x : Str} {t : Tok} {pl : Sem Bool} {Q : Value × List Value → Shared → Prop} (h : Q (.builtin "str.translate", [.str x t]) s) : wpAny M A (getMethod (.str x t) "translate" pl) Q E s := by
  with_reducible exact GM.of (.str x t) (typeIs_str _ _ _) F.slot_str_translate F.type_str_translate GM.noRef h
end
end Mine
end
section
open PySem PySem.W PyProof.Rows PySem.Spec PySem.Calls
namespace Mine
open Builtin Builtin.ObjectAttr
set_option maxRecDepth 100000
theorem type_app : typeOf (.builtin "list.append") = pure (.type "method_descriptor") := by show builtinType _ = _; rw [builtinType_eq_fast]; kernel_rfl
theorem md_get : typeLookup (.type "method_descriptor") "__get__" = pure (some (.builtin "method_descriptor.__get__")) := by rw [typeLookup_type, builtinLookup_eq_fast]; kernel_rfl
theorem md_set : typeLookup (.type "method_descriptor") "__set__" = pure none := by rw [typeLookup_type, builtinLookup_eq_fast]; kernel_rfl
theorem md_del : typeLookup (.type "method_descriptor") "__delete__" = pure none := by rw [typeLookup_type, builtinLookup_eq_fast]; kernel_rfl
theorem slot_mdg : Slot "method_descriptor" "__get__" "method_descriptor.__get__" :=
  .of (owner := "method_descriptor") (n := "__get__") (by rw [typeLookup_type, builtinLookup_eq_fast]; kernel_rfl) (by decide +kernel) (by decide +kernel) (by decide +kernel)
    (by first | exact .inl (by decide +kernel) | exact .inr (by decide +kernel)) (by rw [isSubtype_type]; kernel_rfl)
theorem entry_mdg : entryFor table "method_descriptor.__get__" = some Builtin.«method_descriptor.__get__» := entryFor_of_tree (by kernel_rfl)
theorem args_mdg (a b c : Value) : argsOk "method_descriptor.__get__" ⟨[a, b, c], []⟩ := by unfold argsOk; kernel_rfl
theorem told_app : Manifest.toldItsClass.contains "list.append" = false := by decide +kernel
theorem sub_ll : isSubtype (.type "list") (.type "list") = pure true := by rw [isSubtype_type]; kernel_rfl
theorem own_app : isSubtype (.type "list") (.type (".".intercalate ("list.append".cutAt '.').dropLast)) = pure true := by
  rw [isSubtype_type]; kernel_rfl
noncomputable def appObj (a : Addr) : Obj := { cls := .type "builtin_function_or_method", data := .fields #[.builtin "list.append", .ref a] }
set_option maxHeartbeats 4000000 in
theorem meets_ga_append (a : Addr) (xs : Array Value) (k : Nat) (sl : Array (Option Value)) (u : Tok) :
    Meets (Builtin.«object.__getattribute__» ⟨[.ref a, .str (PySem.Str.ofString "append") u], []⟩) (fun A R s => s.heap.get? a = some { cls := .type "list", dict := none, data := .seq xs k, slots := sl } ∧ R (.ok (.ret (.ref s.heap.objs.size))) { s with heap := s.heap.push (appObj a) }) :=
  Meets.of_wp fun prog w A R s hs => by
    obtain ⟨hp, g, d, tk, os⟩ := s
    obtain ⟨hx, hs⟩ := hs
    have hT : (⟨hp, g, d, tk, os⟩ : Shared).TypeIs (.ref a) "list" := ⟨_, hx, rfl⟩
    have g1 := F.slot_list_append.lookup
    have g2 := type_app
    have g3 := md_get
    have g4 := md_set
    have g5 := md_del
    unfold Builtin.«object.__getattribute__»
    repeat (any_goals (first | assumption | wp_step))
    refine codeAny_call_builtin slot_mdg.plain entry_mdg (slot_mdg.check _ _ _ _ _ _ _ _ (by first | exact type_app | exact g2 | rfl) (args_mdg _ _ _) ?_)
    unfold Builtin.«method_descriptor.__get__»
    refine wpAny_bind (wpAny_of_eq (a := (.builtin "list.append", some (.ref a), some (.type "list"))) (by first | rfl | kernel_rfl) ?_)
    dsimp only
    rw [told_app]
    repeat (any_goals (first | assumption | wp_step))
    refine wpAny_of_eq (a := true) (by first | exact own_app | kernel_rfl) ?_
    refine KFB.if_not rfl ?_
    refine wpAny_pure ?_
    exact wpAny_bind (wpAny_newObj_type (wpAny_pure (wpAny_pure ⟨_, rfl, hs⟩)))
set_option maxHeartbeats 4000000 in
theorem attr_append {prog : Program} {w : World} {A : Around} {E : Value → Shared → Prop} {s : Shared} {l : Addr} {xs : Array Value} {k : Nat} {sl : Array (Option Value)} {Q : Value → Shared → Prop}
    (hx : s.heap.get? l = some { cls := .type "list", dict := none, data := .seq xs k, slots := sl }) (h : Q (.ref s.heap.objs.size) { s with heap := s.heap.push (appObj l), toks := s.toks + 1 }) :
    wpAny (model prog w) A (getAttr (.ref l) (PySem.Str.ofString "append") true) Q E s := by
  obtain ⟨hp, g, d, tk, os⟩ := s
  have hT : ∀ tk', (⟨hp, g, d, tk', os⟩ : Shared).TypeIs (.ref l) "list" := fun _ => ⟨_, hx, rfl⟩
  have f3 := F.slot_list_getattribute.lookup
  have f4 := F.slot_list_getattribute.bind (.ref l)
  have f5 := am_list_getattr_none
  unfold getAttr getAttrBy
  repeat (any_goals (first | assumption | exact hT _ | ((with_reducible show wpAny _ _ (call (Value.builtin "list.__getattribute__") _ _) _ _ _); refine call_meets F.slot_list_getattribute (hT _) am_entry_list_getattribute (F.args_list_getattribute_2 _ _) (meets_ga_append l xs k sl _) ⟨hx, ?_⟩) | wp_step))
  show wpAny _ _ (handedOut (.ref _)) _ _ _
  exact wpAny_pure h
end Mine
end
section
open PySem PySem.W PyProof.Rows PySem.Spec PySem.Calls
namespace Mine
open Builtin
set_option maxRecDepth 100000
section
variable {prog : Program} {w : World} {M : Model} {A : Around} {E : Value → Shared → Prop} {s : Shared} {h₀ : Heap} {L : Addr} {news : List (Addr × Obj)}
noncomputable def AppAt (x l : Addr) (h : Heap) : Prop := h.get? x = some (appObj l)
theorem quiet_app {as : Args} : (Code.builtin "list.append" as).quiet = true := Code.quiet_builtin _ (by decide +kernel)
theorem sub_lm : isSubtype (.type "list") (.type "module") = pure false := by rw [isSubtype_type]; kernel_rfl
theorem sub_lt : isSubtype (.type "list") (.type "type") = pure false := by rw [isSubtype_type]; kernel_rfl
theorem kind_app : builtinKind "list.append" = some .method := by decide +kernel
theorem var_app : Manifest.varargsMethods.contains "list.append" = false := by decide +kernel
noncomputable def sig_app : Manifest.Signature := ⟨.oneArg, "list.append", "append", .self, [⟨"object", .posOnly, true⟩]⟩
theorem args_app2 (l : Addr) (v : Value) : Bind.checkArgs "list.append" { sig_app with full := s!"{Bind.lastOf "list"}.{Bind.lastOf "list.append"}" } ⟨[.ref l, v], []⟩ = pure () := by first | kernel_rfl | rfl
theorem check_app {l : Addr} {v : Value} {Q : Unit → Shared → Prop} {its : Array Value} {n : Nat} (hD : s.heap.get? l = some { cls := .type "list", data := .seq its n }) (h : Q () s) : wpAny M A (checkBoundCall "list.append" ⟨[.ref l, v], []⟩) Q E s := by
  have hT : s.TypeIs (.ref l) "list" := ⟨_, hD, rfl⟩
  unfold checkBoundCall
  rw [signature?_of (id := "list.append") (n := ['d', 'n', 'e', 'p', 'p', 'a']) (o := ['t', 's', 'i', 'l']) (by kernel_rfl) F.owner_list]
  have hs : Manifest.sig_list.lookup (String.ofList ['d', 'n', 'e', 'p', 'p', 'a'].reverse) = some sig_app := by kernel_rfl
  rw [hs]
  simp only [kind_app]
  refine KFB.if_not (by decide) ?_
  refine wpAny_bind (wpAny_isInstance hT sub_lm ?_)
  rw [var_app]
  refine KFB.if_not rfl ?_
  have hnt : ∀ {Q' : Bool → Shared → Prop} {E' : Value → Shared → Prop}, Q' false s → wpAny M A (isType (.ref l)) Q' E' s := by
    intro Q' E' hq
    simp only [isType, loadHead]
    refine wpAny_bind (wpAny_loadPart hD ?_)
    exact wpAny_pure hq
  refine wpAny_bind (hnt ?_)
  refine KFB.if_not rfl ?_
  refine wpAny_bind (wpAny_typeOf hT ?_)
  dsimp only
  refine wpAny_of_eq (a := ()) (args_app2 l v) ?_
  exact h
theorem app_call {x D : Addr} {v : Value} {its : Array Value} {n : Nat} {Q : Value → Shared → Prop} (ho : AppAt x D s.heap) (hD : s.heap.get? D = some { cls := .type "list", data := .seq its n })
    (h : ∀ h', Heap.SameBut D s.heap h' → h'.get? D = some { cls := .type "list", data := .seq (its.push v) (n + 1) } → Q .none { s with heap := h' }) (hsz : its.size ≤ sizeLine) :
    wpAny (model prog w) A (call (.ref x) [v]) Q E s := by
  refine wpAny_call (codeAny_of_tree ?_)
  show wpAny _ A.in1 (callAny (.ref x) ⟨[v], []⟩) _ _ s
  simp only [callAny]
  refine wpAny_bind (wpAny_load ho ?_)
  simp only [appObj]
  refine KFB.if_so (by decide) ?_
  refine wpAny_bind (check_app hD ?_)
  refine wpAny_bind (wpAny_pure (wpAny_pure ?_))
  refine ⟨quiet_app, codeAny_builtin entry_list_append ?_⟩
  show wpAny _ _ (updateSeq D (·.push v) >>= fun _ => ret .none) _ _ s
  refine wpAny_bind ?_
  refine wpAny_updateSeq hD rfl (wpAny_pure (h _ (Heap.SameBut.update ..) ?_))
  rw [Heap.get?_update_self _ hD (by rw [mapSeq_push]; rfl), mapSeq_push]
end
end Mine
end
section
open PySem PySem.W PyProof.Rows PySem.Spec PySem.Calls
namespace Mine
open Builtin
set_option maxRecDepth 100000
section
variable {prog : Program} {w : World} {M : Model} {A : Around} {E : Value → Shared → Prop} {s : Shared} {h₀ : Heap} {L D : Addr} {m : PySem.Str → Option Value} {news news' : List (Addr × Obj)}
theorem attrApp_K {its : Array Value} {n : Nat} {Q : Value → Shared → Prop} (F : Fr h₀ L s.heap m) (N : News h₀ L s.heap news) (hm : (D, listOf its n) ∈ news)
    (h : ∀ x h', Fr h₀ L h' m → News h₀ L h' ((x, appObj D) :: news) → (∀ p ∈ news, p.1 < x) → Q (.ref x) { s with heap := h', toks := s.toks + 1 }) :
    wpAny (model prog w) A (getAttr (.ref D) (PySem.Str.ofString "append") true) Q E s :=
  attr_append (N.get hm) (h _ _ (F.push _) (News.push F N _) fun p hp => Heap.lt_size (N p hp).1)
noncomputable def StandsApp (x D : Addr) (h : Heap) : Prop := AppAt x D h
theorem keeps_app {u : Addr} (h : Heap) (X : StandsApp u D h) : ∃ k, (k = Keeper.frame ∨ k = Keeper.machine ∨ k = Keeper.boundFrame) ∧ Looks M h (keeperOf (.ref u)) k :=
  ⟨.machine, .inr (.inl rfl), (Looks.ld (part := none) X).andThen .now⟩
theorem app_with {pos : Pos} {u : Addr} {first : List Value} {env : Env} {e : Expr} {rest : List Expr} {Q : Value → Shared → Prop} (_N : News h₀ L s.heap news) (_hm : (u, appObj D) ∈ news)
    (h : wpAny M A (spliced (backTo pos (starEach (e :: rest) env))) (fun vs s₁ => StandsApp u D s₁.heap ∧ wpAny M A (call (.ref u) (first ++ vs)) Q E s₁) E s)
    (one : starEach (e :: rest) env = (false, eval e env) :: starEach rest env := by rfl) (plain : (backTo pos (starEach rest env)).any (·.1) = false := by rfl) :
    wpAny M A (callWith pos (.ref u) first (backTo pos (starEach (e :: rest) env)) []) Q E s := by
  rw [one] at h ⊢
  exact callWith_of (by simp [backTo, ← plain]) keeps_app (evalArgs_plain h)
theorem standsApp {x : Addr} {h : Heap} (N : News h₀ L h news) (hm : (x, appObj D) ∈ news) : StandsApp x D h := N.get hm
theorem appCall_K {x : Addr} {v : Value} {its : Array Value} {n : Nat} {Q : Value → Shared → Prop} (F : Fr h₀ L s.heap m) (N : News h₀ L s.heap news) (hm : (x, appObj D) ∈ news) (U : Upd D (listOf its n) (listOf (its.push v) (n + 1)) news news')
    (h : ∀ h', Fr h₀ L h' m → News h₀ L h' news' → Q .none { s with heap := h' }) (hsz : its.size ≤ sizeLine := by size_fits) : wpAny (model prog w) A (call (.ref x) [v]) Q E s := by
  have hx : AppAt x D s.heap := N.get hm
  obtain ⟨pre, post, rfl, rfl, a, b⟩ := U.split
  have z := N (D, listOf its n) (List.mem_append.mpr (.inr (.head _)))
  exact app_call hx z.1 (fun h' hs ho' => h h' (F.change hs z.2.1 z.2.2) (news_set N a b hs ho')) hsz
end
end Mine
end
section
open PySem PySem.W PyProof.Rows PySem.Spec PySem.Calls
namespace Mine
local macro_rules | `(tactic| walk_at "my cells") => `(tactic| (refine' enter_cells ?k1 ?k2 ?k3 ?k5 ?kA ?kF ?kK ?k6 ?k7 ?k8 ?k9 ?kB ?kD ?_ ?c2 ?c3 ?c4; (case kA => exact rfl); (case kF => exact rfl); (case kK => assumption); (case k1 => k_asm); (case k2 => k_asm); (case k3 => k_asm); (case k5 => k_asm); (case k6 => k_is); (case k7 => k_is); (case k8 => ktr_room); (case k9 => exact BindsTo.of_eq rfl); (case kB => exact rfl); (case kD => decide +kernel); (case c2 => exact rfl); (case c3 => exact rfl); (case c4 => exact rfl); k_whole))
local macro_rules | `(tactic| walk_at "exec For Name Call cons nil") => `(tactic| (k_here; (with_reducible rename Fr _ _ _ _ => kF); k_dflt (refine For_invTF kF ?_ (by intro _; rfl))))
local macro_rules | `(tactic| walk_at "pyIter ref") => `(tactic| ((with_reducible show wpAny _ _ (pyIter (Value.ref _)) (fun it s₂ => LoopAtT _ _ _ _ _ _ _ _ _ it s₂) _ _); refine Halt.mk ?_))
local macro_rules | `(tactic| walk_at "call builtin:len") => `(tactic| (k_here; (with_reducible show wpAny _ _ (call (Value.builtin "len") [Value.ref _]) _ _ _); (refine len_pcs (by is_list) (by assumption) (by assumption) ?_); intro _ _))
local macro_rules | `(tactic| walk_at "subscriptTail") => `(tactic| (k_here; (with_reducible show wpAny _ _ (subscriptTail _ _ (Value.ref _) (Value.int _ _)) _ _ _); (refine item_pcs (by is_list) (by assumption) (by assumption) (by omega) (by omega) ?_ ?_); all_goals intros))
local macro_rules | `(tactic| walk_at "exec Assign cons ListComp") => `(tactic| (k_here; k_dflt (first
  | ((with_reducible show wpAny _ _ (exec (Stmt.Assign _ (Expr.ListComp _ [⟨_, _, [_], _⟩] _ _) _) _) _ _ _); refine LCt.Assign_ListComp_T (F₀ := by k_asm) (by rfl) (by with_unfolding_all rfl) (by with_unfolding_all rfl) (by decide) (by rfl) (by decide) (by rfl) (by rfl) (by rfl) ?_)
  | ((with_reducible show wpAny _ _ (exec (Stmt.Assign _ (Expr.ListComp _ [⟨_, _, [], _⟩] _ _) _) _) _ _ _); refine LCg.Assign_ListComp_U (F₀ := by k_asm) (by rfl) (by with_unfolding_all rfl) (by with_unfolding_all rfl) (by decide) (by rfl) (by decide) (by rfl) (by rfl) (by rfl) ?_))))
local macro_rules | `(tactic| walk_at "CompSrcT") => `(tactic| (refine Halt.mk ?_))
local macro_rules | `(tactic| walk_at "CompSrc") => `(tactic| (refine Halt.mk ?_))
local macro_rules | `(tactic| walk_at "compareOp In") => `(tactic| (k_here; k_dflt (first | ((with_reducible show wpAny _ _ (compareOp CmpOp.In Value.none (Value.ref _)) _ _ _); refine in3_none (by is_list) ?_) | ((with_reducible show wpAny _ _ (compareOp CmpOp.In (Value.str _ _) (Value.ref _)) _ _ _); refine in3_str (by is_list) ?_))))
local macro_rules | `(tactic| kmk_sum) => `(tactic| (simp only [sizeLine_eq, List.length_cons, List.length_nil]; omega))
set_option maxRecDepth 100000 in
set_option maxHeartbeats 8000000 in
theorem takes_call : ∀ {w : World} {loose : List Str} {mean : ExcName → Option Value} {mg mb : Str → Option Value}
    {dp un : Nat} {gd : Option (List Code)} {cn : Str} {cs : Scope} {a : Addr} {ccd : Value} {cl : List (Str × Addr)} {outer : List Env} {A₀ : Around} {base h₀ : Heap} {L : Addr} {m : Str → Option Value} {news : List (Addr × Obj)} {s : Shared} {Q E : Value → Shared → Prop}
    (_ : Below A₀ base outer h₀) (_ : Fr h₀ L s.heap m) (_ : News h₀ L s.heap news) (_ : (hd.heap_1 w.params).In h₀) (_ : Top topProg loose mean mg mb h₀) (_ : cs.kind = .function)
    (_ : dp + 2 < recursionLimit) (_ : un + 16 < cLine)
    {P : Addr} {vs : List Value} {ps : List (Option Str)} {tx : Str} {tt : Tok} (_ : s.heap.IsList P vs.toArray) (_ : PcsAre vs ps) (_ : ps.length ≤ 8) (_ : tx.length ≤ 1000)
    (_ : ∀ (h' : Heap) (tk' : Nat), Fr h₀ L h' m → News h₀ L h' news → (∀ a o, s.heap.get? a = some o → h'.get? a = some o) → Q (.bool (takes ps tx.cps.toList)) { s with heap := h', toks := tk' }),
    wpAny (model PySem.Challenge.rw_aa0019_01.row.prog w) (ktrTop dp un gd cn cs L a ccd cl outer) (call (.ref 104) [.ref P, .str tx tt]) Q E s := by
  k_fill
  intro w loose mean mg mb dp un gd cn cs a ccd cl outer A₀ base h₀ L m news s Q E B F N X T hk hd1 hu P vs ps tx tt hP hps hps8 htx hret0
  have hret := fun h' tk' k => hret0 h' tk' (F.keeps k) (N.grown k) k
  clear hret0
  refine wpAny_call ?_
  k_dflt walk_at "my cells"
  intro L1 h1 tk1 cells F1 N1 Y1 B1 X1 T1
  k_cells Y1
  (try simp only [List.cons_append, List.nil_append] at N1)
  (try dsimp only)
  (try k_fold)
  clear B F N X T
  rename_i o1 o2 o3 d1 d2 d3
  replace d1 : o1.data = .cell none := d1.trans (by kernel_rfl)
  replace d2 : o2.data = .cell (some (.str tx tt)) := d2.trans (by kernel_rfl)
  replace d3 : o3.data = .cell (some (.ref P)) := d3.trans (by kernel_rfl)
  k_steps
  have hLx : tx.length = tx.cps.toList.length := by simp [Str.length]
  refine Halt.go ?_
  refine range_loop (L := L1) (n := tx.cps.toList.length + 1) (fun i m₁ news₁ => ∃ (D : Addr) (ys : List Value) (ep : Nat) (ok : Obj) (kv : Option Value), news₁ = [(D, listOf ys.toArray ep), (L1 + 1 + 1 + 1, ok), (L1 + 1 + 1, o2), (L1 + 1, o3)] ∧ m₁ (Str.ofString "places") = some (.ref D) ∧ ok.data = .cell kv ∧ IntsAre ys (plAt ps tx.cps.toList i) ∧ LCg.Off1 D [(L1 + 1 + 1 + 1, o1), (L1 + 1 + 1, o2), (L1 + 1, o3)])
    (by rfl) (by rfl) (by k_asm) (small_one (by omega) (by omega) (by omega) (by omega)) (by rw [rangeSize_nat]; omega) (by k_asm) (by k_asm) (by intro _ _; rfl) ⟨_, _, _, _, _, rfl, by rfl, d1, by exact .cons 0 _ .nil, by simp only [LCg.Off1, and_true]; omega⟩ ?_ ?_
  · intro i t m₁ news₁ h2 gs2 ds2 tk2 os2 I oI hi hJ F₁ N₁ ha
    obtain ⟨D, ys, ep, ok, kv, rfl, hm1, hok, hys, hDL⟩ := hJ
    replace F₁ := fr_know F₁ hm1
    simp only [LCg.Off1, and_true] at ha hDL
    k_steps
    have hlen := closeUp_len ps (plAt ps tx.cps.toList i)
    have hlen2 := plAt_len ps tx.cps.toList i
    have hin := plAt_in ps tx.cps.toList i
    have hlen3 := Nat.mul_le_mul_right i hps8
    generalize hpl : plAt ps tx.cps.toList i = pl at *
    refine Halt.go ?_
    refine range_loop (L := L1) (n := ps.length) (fun i2 m₁ news₁ => ∃ (D : Addr) (ys : List Value) (ep : Nat) (o4 : Obj) (t4 : Tok), news₁ = [(D, listOf ys.toArray ep), (I, oI), (L1 + 1 + 1 + 1, o4), (L1 + 1 + 1, o2), (L1 + 1, o3)] ∧ m₁ (Str.ofString "places") = some (.ref D) ∧ o4.data = .cell (some (.int (0 + (i : Int)) t4)) ∧ IntsAre ys (closeUp ps pl i2) ∧ LCg.Off1 D [(I, oI), (L1 + 1 + 1 + 1, oI), (L1 + 1 + 1, o2), (L1 + 1, o3)])
      (by rfl) (by rfl) (by k_asm) (small_one (by omega) (by omega) (by omega) (by omega)) (by rw [rangeSize_nat]; omega) (by k_asm) (news_sub (by k_asm) (by lcg_sub)) (by intro _ _; rfl) ⟨_, _, _, _, _, rfl, by rfl, by assumption, hys, ?_⟩ ?_ ?_
    · simp only [LCg.Off1, and_true]; omega
    · intro j tj m₂ news₂ h3 gs3 ds3 tk3 os3 I2 oI2 hj hJ F₂ N₂ ha2
      obtain ⟨D2, ys2, ep2, o4, t4, rfl, hm2, ho4, hys2, hD2⟩ := hJ
      replace F₂ := fr_know F₂ hm2
      simp only [LCg.Off1, and_true] at ha2 hD2
      have hlj := hlen j
      k_steps
      all_goals (
        (with_reducible rename Fr _ _ _ _ => F6)
        (with_reducible rename News _ _ _ _ => N6)
        (with_reducible rename IntsAre _ (_ ++ _) => hI5)
        refine' MyStep.intro (_ :: [(I, oI), (L1 + 1 + 1 + 1, o4), (L1 + 1 + 1, o2), (L1 + 1, o3)]) F6 N6 ?sub ?off ⟨_, _, 0, o4, t4, rfl, ?hm, ho4, ?hi, ?hof⟩
        (case hm => rfl)
        (case hi => first | (rw [closeJ_no2 (by assumption)] at hI5; exact hI5) | (rw [closeJ_yes (by assumption) (by assumption) (by assumption)] at hI5; exact hI5) | (rw [closeJ_no3 (by assumption)] at hI5; exact hI5) | (rw [closeJ_no1 (by assumption)] at hI5; exact hI5))
        (case sub => lcg_sub)
        (case off => (simp only [LCg.Off1, and_true]; omega))
        (case hof => (simp only [LCg.Off1, and_true]; omega)))
    · intro m₂ news₂ h3 tk3 hJ F₂ N₂
      obtain ⟨D2, ys2, ep2, o4, t4, rfl, hm2, ho4, hys2, hD2⟩ := hJ
      replace F₂ := fr_know F₂ hm2
      simp only [LCg.Off1, and_true] at hD2
      have hlj := hlen ps.length
      k_steps
      · obtain ⟨ch, hch⟩ : ∃ c, tx.cps.toList[i]? = some c := ⟨_, List.getElem?_eq_getElem (by omega)⟩
        refine Halt.go ?_
        refine LCt.CompSrcT.ledger (by rfl) (by k_asm) (by k_asm) (by k_mem) (by rw [List.size_toArray, hys2.length, sizeLine_eq]; omega) ?_
        intro g
        refine restT_gen (as := closeUp ps pl ps.length) (F := IntIs) (fitsAt ps ch) IntIs (by simp [hys2.length]) (fun i v _ hv => (ints_are hys2).get i (by simpa using hv)) (Or.inr ⟨_, by k_mem, rfl, _, rfl⟩) ?_ ?_
        · intro i3 j v I3 oI3 C oC D3 m3 ys3 h4 tk4 E' hj hv hC hx F3 N3 off ne
          obtain ⟨t3, rfl⟩ := hv
          simp only [LCg.Off3, and_true] at off
          have hj0 := closeUp_in ps pl hin ps.length (Nat.le_refl _) j (List.mem_of_getElem? hj)
          k_steps
          all_goals first
            | exact CEnd.intro (by k_asm) (by k_asm) (by lcg_sub) ⟨_, rfl⟩
            | exact CEnd.intro (by k_asm) (by k_asm) (by lcg_sub) (by first | exact fits_val hch (by assumption) (by assumption) (by assumption) | exact fits_out (by assumption))
            | exact fits_none (by assumption) (by assumption)
            | exact fits_val hch (by assumption) (by assumption) (by assumption)
        · intro ys4 hys4
          replace hys4 := are_ints hys4
          have hfl := List.length_filter_le (fitsAt ps ch) (closeUp ps pl ps.length)
          unfold LCg.FinA
          intro D4 h5 tk5 F5 N5 off5
          simp only [LCg.Off1, and_true] at off5
          try dsimp only
          k_steps
          refine Halt.go ?_
          refine LCg.CompSrc.ledger (by rfl) (by k_asm) (by k_asm) (by k_mem) (by rw [List.size_toArray, hys4.length, sizeLine_eq]; omega) ?_
          intro g2
          refine rest_gen (as := (closeUp ps pl ps.length).filter (fitsAt ps ch)) (F := IntIs) (fun j => IntIs (goOn ps j)) (by simp [hys4.length]) (fun i v _ hv => (ints_are hys4).get i (by simpa using hv)) (Or.inr ⟨_, by k_mem, rfl, _, rfl⟩) ?_ ?_
          · intro i3 j v I3 oI3 C oC D3 m3 ys3 h4 tk4 E' hj hv hC hx F3 N3 off ne
            obtain ⟨t3, rfl⟩ := hv
            simp only [LCg.Off3, and_true] at off
            obtain ⟨hj1, hj2⟩ := List.mem_filter.mp (List.mem_of_getElem? hj)
            have hj0 := closeUp_in ps pl hin ps.length (Nat.le_refl _) j hj1
            replace hj2 := fits_in hj2
            k_steps
            all_goals first
              | exact CEnd.intro (by k_asm) (by k_asm) (by lcg_sub) ⟨_, congrArg (fun z => Value.int z _) (goOn_none (by assumption))⟩
              | exact CEnd.intro (by k_asm) (by k_asm) (by lcg_sub) ⟨_, congrArg (fun z => Value.int z _) (goOn_val (by assumption))⟩
          · intro ys6 hys6
            replace hys6 := are_ints (Are.map (goOn ps) (fun _ _ q => q) hys6)
            unfold LCg.FinA
            intro D6 h7 tk7 F7 N7 off7
            simp only [LCg.Off1, and_true] at off7
            try dsimp only
            k_steps
            (with_reducible rename Fr _ _ _ _ => F6)
            (with_reducible rename News _ _ _ _ => N6)
            refine' MyStep.intro (_ :: [(L1 + 1 + 1 + 1, o4), (L1 + 1 + 1, o2), (L1 + 1, o3)]) F6 N6 ?sub ?off ⟨_, _, ys6.length, o4, _, rfl, ?hm, ho4, ?hi, ?hof⟩
            (case hm => rfl)
            (case hi => (unfold plAt turnK; rw [hpl, hch]; exact hys6))
            (case sub => lcg_sub)
            (case off => (simp only [LCg.Off1, and_true]; omega))
            (case hof => (simp only [LCg.Off1, and_true]; omega))
      · have hch : tx.cps.toList[i]? = none := List.getElem?_eq_none (by omega)
        (with_reducible rename Fr _ _ _ _ => F6)
        (with_reducible rename News _ _ _ _ => N6)
        refine' MyStep.intro (_ :: [(L1 + 1 + 1 + 1, o4), (L1 + 1 + 1, o2), (L1 + 1, o3)]) F6 N6 ?sub ?off ⟨_, _, ep2, o4, _, rfl, ?hm, ho4, ?hi, ?hof⟩
        (case hm => rfl)
        (case hi => (unfold plAt turnK; rw [hpl, hch]; exact hys2))
        (case sub => lcg_sub)
        (case off => (simp only [LCg.Off1, and_true]; omega))
        (case hof => (simp only [LCg.Off1, and_true]; omega))
  · intro m₁ news₁ h2 tk2 hJ F₁ N₁
    obtain ⟨D, ys, ep, ok, kv, rfl, hm1, hok, hys, hDL⟩ := hJ
    replace F₁ := fr_know F₁ hm1
    simp only [LCg.Off1, and_true] at hDL
    k_steps
    refine leaveK_ F₁ N₁ fun _ _ => ?_
    exact hret _ _ F₁.keep
end Mine
end
section
open PySem PySem.W PyProof.Rows PySem.Spec PySem.Calls
namespace Mine
local macro_rules | `(tactic| walk_at "my plain") => `(tactic| (refine' enter_plain ?k1 ?k2 ?k3 ?k5 ?kA ?kF ?kK ?k6 ?k7 ?k8 ?k9 ?kB ?_ ?c2 ?c3 ?c4 ?c5; (case kA => exact rfl); (case kF => exact rfl); (case kK => assumption); (case k1 => k_asm); (case k2 => k_asm); (case k3 => k_asm); (case k5 => k_asm); (case k6 => k_is); (case k7 => k_is); (case k8 => ktr_room); (case k9 => first | exact BindsTo.of_eq rfl | exact binds_K (by k_in) rfl (by k_is) rfl rfl rfl); (case c5 => decide); (case kB => exact locs rfl); (case c2 => exact rfl); (case c3 => exact rfl); (case c4 => exact rfl); k_whole))
local macro_rules | `(tactic| k_room) => `(tactic| ktr_room)
local macro_rules | `(tactic| walk_at "call type:type") => `(tactic| ((with_reducible show wpAny _ _ (call _ [Value.bytes _ _]) _ _ _); k_dflt (refine call_type_of (Tx := "bytes") rfl (by decide +kernel) ?_)))
local macro_rules | `(tactic| walk_at "exec For Name Name cons nil") => `(tactic| (k_here; (with_reducible rename Fr _ _ _ _ => kF); k_dflt (refine For_invTF kF ?_ (by intro _; rfl))))
local macro_rules | `(tactic| walk_at "pyIter bytes") => `(tactic| (refine Halt.mk ?_))
local macro_rules | `(tactic| walk_at "subscriptTail") => `(tactic| ((with_reducible show wpAny _ _ (subscriptTail _ _ (Value.bytes _ _) (Value.int _ _)) _ _ _); k_dflt (refine b64_item (by first | (rw [bitAnd_m6]; omega) | (rw [bitAnd_m2, show ((2 : Int) ^ Int.toNat 4) = 16 from rfl]; omega) | (rw [bitAnd_m4, show ((2 : Int) ^ Int.toNat 2) = 4 from rfl]; omega)) (by first | (rw [bitAnd_m6]; omega) | (rw [bitAnd_m2, show ((2 : Int) ^ Int.toNat 4) = 16 from rfl]; omega) | (rw [bitAnd_m4, show ((2 : Int) ^ Int.toNat 2) = 4 from rfl]; omega)) ?_); intro _; (try dsimp only)))
local macro_rules | `(tactic| walk_at "binaryOp LShift int int") => `(tactic| k_dflt (refine lshift_int_small (by decide) (by decide) (by first | omega | (rw [bitAnd_m2]; omega) | (rw [bitAnd_m4]; omega)) ?_))
local macro_rules | `(tactic| walk_at "call type:bytes") => `(tactic| (refine Halt.mk ?_))
local macro_rules | `(tactic| walk_at "execs cons") => `(tactic| ((with_reducible show wpAny _ _ (execs (_ :: _) _) _ _ _); dsimp only; refine wpAny_execs_cons ?_))
set_option maxRecDepth 100000 in
set_option maxHeartbeats 8000000 in
theorem b2a_call : ∀ {w : World} {loose : List Str} {mean : ExcName → Option Value} {mg mb : Str → Option Value}
    {dp un : Nat} {gd : Option (List Code)} {cn : Str} {cs : Scope} {a : Addr} {ccd : Value} {cl : List (Str × Addr)} {outer : List Env} {A₀ : Around} {base h₀ : Heap} {L : Addr} {m : Str → Option Value} {news : List (Addr × Obj)} {s : Shared} {Q E : Value → Shared → Prop}
    (_ : Below A₀ base outer h₀) (_ : Fr h₀ L s.heap m) (_ : News h₀ L s.heap news) (_ : (hd.heap_1 w.params).In h₀) (_ : Top topProg loose mean mg mb h₀) (_ : cs.kind = .function)
    (_ : dp + 4 < recursionLimit) (_ : un + 32 < cLine)
    {b : Array UInt8} {tb : Tok} (_ : b.size ≤ 1000) 
    (_ : ∀ (h' : Heap) (tk' : Nat) (t' : Tok), Fr h₀ L h' m → News h₀ L h' news → (∀ a o, s.heap.get? a = some o → h'.get? a = some o) → Q (.bytes (b64B b).toArray t') { s with heap := h', toks := tk' }),
    wpAny (model PySem.Challenge.rw_aa0019_01.row.prog w) (ktrTop dp un gd cn cs L a ccd cl outer) (call (.ref 67) [.bytes b tb] [(Str.ofString "newline", .bool false)]) Q E s := by
  k_fill
  intro w loose mean mg mb dp un gd cn cs a ccd cl outer A₀ base h₀ L m news s Q E B F N X T hk hd1 hu b tb hb hret0
  have hret := fun h' tk' t' k => hret0 h' tk' t' (F.keeps k) (N.grown k) k
  clear hret0
  refine wpAny_call ?_
  k_dflt walk_at "my plain"
  intro L1 h1 F1 N1 B1 X1 T1
  (try dsimp only)
  (try k_fold)
  clear B F N X T
  k_steps
  refine Halt.go ?_
  refine bytes_loop (L := L1) (fun i m₁ news₁ => ∃ (D : Addr) (ys : List Value) (ep : Nat) (t1 t2 : Tok), news₁ = [(D, listOf ys.toArray ep)] ∧ m₁ (Str.ofString "out") = some (.ref D) ∧ m₁ (Str.ofString "leftbits") = some (.int (b2run (b.toList.take i)).lb t1) ∧ m₁ (Str.ofString "leftchar") = some (.int (b2run (b.toList.take i)).lc t2) ∧ m₁ (Str.ofString "newline") = some (.bool false) ∧ IntsAre ys (b2run (b.toList.take i)).out)
    (by rfl) (by rfl) (by k_asm) (by k_asm) (by intro _ _; rfl) ⟨_, _, _, _, _, rfl, by rfl, by rfl, by rfl, by rfl, by exact .nil⟩ ?_ ?_
  · intro i c t m₁ news₁ h2 gs2 ds2 tk2 os2 I oI hi hJ F₁ N₁ ha
    obtain ⟨D, ys, ep, t1, t2, rfl, hm1, hm2, hm3, hm4, hys⟩ := hJ
    replace F₁ := fr_knows (ps := [(Str.ofString "out", .ref D), (Str.ofString "leftbits", .int (b2run (b.toList.take i)).lb t1), (Str.ofString "leftchar", .int (b2run (b.toList.take i)).lc t2), (Str.ofString "newline", .bool false)]) F₁ (by simp only [List.forall_mem_cons, List.not_mem_nil, false_implies, implies_true, and_true]; exact ⟨hm1, hm2, hm3, hm4⟩)
    simp only [LCg.Off1, and_true] at ha
    have hok := b2run_ok (b.toList.take i)
    have hil : i < b.size := by
      rcases Nat.lt_or_ge i b.size with q | q
      · exact q
      · rw [Array.getElem?_eq_none q] at hi; cases hi
    have hz : ys.length ≤ 4000 := by
      rw [hys.length]
      have := hok.2
      rw [List.length_take] at this
      omega
    rw [take_snoc hi, b2run_snoc]
    obtain ⟨out, lc, lb, hst⟩ : ∃ out lc lb, b2run (b.toList.take i) = ⟨out, lc, lb⟩ := ⟨_, _, _, rfl⟩
    rw [hst] at hok hm2 hm3 F₁ hys ⊢
    obtain ⟨⟨hlb, hlc⟩, _⟩ := hok
    dsimp only at hlb hlc hm2 hm3 F₁ hys
    rcases hlb with rfl | rfl | rfl
    all_goals (
      first | rw [b2step_0] | rw [b2step_2] | rw [b2step_4]
      k_steps
      (with_reducible rename Fr _ _ _ _ => F6)
      (with_reducible rename News _ _ _ _ => N6)
      (simp only [List.push_toArray, List.append_assoc, List.cons_append, List.nil_append] at N6)
      (refine' MyStep.intro [_] F6 N6 ?sub ?off ⟨D, _, _, _, _, rfl, ?m1, ?m2, ?m3, ?m4, ?hi⟩)
      (case sub => lcg_sub)
      (case m1 => rfl)
      (case m2 => rfl)
      (case m3 => rfl)
      (case m4 => rfl)
      (case hi => first | exact hys.append (.cons _ _ .nil) | exact hys.append (.cons _ _ (.cons _ _ .nil)))
      (case off => (simp only [LCg.Off1, and_true]; omega)))
  · intro m₁ news₁ h2 tk2 hJ F₁ N₁
    obtain ⟨D, ys, ep, t1, t2, rfl, hm1, hm2, hm3, hm4, hys⟩ := hJ
    replace F₁ := fr_knows (ps := [(Str.ofString "out", .ref D), (Str.ofString "leftbits", .int (b2run (b.toList.take b.size)).lb t1), (Str.ofString "leftchar", .int (b2run (b.toList.take b.size)).lc t2), (Str.ofString "newline", .bool false)]) F₁ (by simp only [List.forall_mem_cons, List.not_mem_nil, false_implies, implies_true, and_true]; exact ⟨hm1, hm2, hm3, hm4⟩)
    have hok := b2run_ok b.toList
    have hfin := b2fin_in b.toList
    have hz : ys.length ≤ 4000 := by
      rw [hys.length, List.take_of_length_le (by simp)]
      have := hok.2
      have : b.toList.length = b.size := by simp
      omega
    rw [show b.toList.take b.size = b.toList from List.take_of_length_le (by simp)] at hm2 hm3 F₁ hys
    obtain ⟨out, lc, lb, hst⟩ : ∃ out lc lb, b2run b.toList = ⟨out, lc, lb⟩ := ⟨_, _, _, rfl⟩
    rw [hst] at hok hfin hm2 hm3 F₁ hys
    obtain ⟨⟨hlb, hlc⟩, _⟩ := hok
    dsimp only at hlb hlc hm2 hm3 F₁ hys
    rcases hlb with rfl | rfl | rfl
    all_goals (
      first | rw [b2fin_0] at hfin | rw [b2fin_2] at hfin | rw [b2fin_4] at hfin
      k_steps
      refine Halt.go ?_
      (with_reducible rename Fr _ _ _ _ => F6)
      (with_reducible rename News _ _ _ _ => N6)
      (try simp only [List.push_toArray, List.append_assoc, List.cons_append, List.nil_append] at N6)
      (refine' bytes_K F6 N6 (News.isList N6 (.head _)) ?hi hfin ?hz rfl ?_)
      (case hi => first | exact hys | exact hys.append (.cons _ _ (.cons _ _ .nil)) | exact hys.append (.cons _ _ (.cons _ _ (.cons _ _ .nil))))
      (case hz => (simp only [List.length_append, List.length_cons, List.length_nil, sizeLine_eq]; omega))
      intro h9 t9 k9 F9 N9 _
      (try dsimp only)
      k_steps
      refine leaveK_ F9 N9 fun _ _ => ?_
      have hr9 := hret h9 k9 t9 F9.keep
      unfold b64B at hr9
      rw [hst] at hr9
      (first | rw [b2fin_0] at hr9 | rw [b2fin_2] at hr9 | rw [b2fin_4] at hr9)
      exact hr9)
end Mine
end
section
open PySem PySem.W PyProof.Rows PySem.Spec PySem.Calls
namespace Mine
local macro_rules | `(tactic| walk_at "my plain") => `(tactic| (refine' enter_plain ?k1 ?k2 ?k3 ?k5 ?kA ?kF ?kK ?k6 ?k7 ?k8 ?k9 ?kB ?_ ?c2 ?c3 ?c4 ?c5; (case kA => exact rfl); (case kF => exact rfl); (case kK => assumption); (case k1 => k_asm); (case k2 => k_asm); (case k3 => k_asm); (case k5 => k_asm); (case k6 => k_is); (case k7 => k_is); (case k8 => ktr_room); (case k9 => first | exact BindsTo.of_eq rfl | exact binds_K (by k_in) rfl (by k_is) rfl rfl rfl); (case c5 => decide); (case kB => exact locs rfl); (case c2 => exact rfl); (case c3 => exact rfl); (case c4 => exact rfl); k_whole))
local macro_rules | `(tactic| k_room) => `(tactic| ktr_room)
local macro_rules | `(tactic| walk_at "call ref") => `(tactic| ((with_reducible show wpAny _ _ (call (Value.ref 67) _ _) _ _ _); k_dflt (refine' b2a_call ?kB ?kF ?kN ?kX ?kT ?kk ?kd ?ku ?kz ?kr; (case kB => k_asm); (case kF => k_asm); (case kN => k_asm); (case kX => k_asm); (case kT => k_asm); (case kk => exact rfl); (case kd => ktr_room); (case ku => ktr_units); (case kz => omega)); intro h9 tk9 t9 F9 N9 hk9))
local macro_rules | `(tactic| walk_at "getMethod bytes") => `(tactic| k_dflt ((with_reducible show wpAny _ _ (getMethod (Value.bytes _ _) (Str.ofString "translate") _) _ _ _); refine method_tr ?_))
local macro_rules | `(tactic| walk_at "getMethod type:bytes") => `(tactic| (k_dflt (refine' method_mk (K := hd.heap_1 _) ?kF ?kX ?ke ?_; (case kF => k_asm); (case kX => k_asm); (case ke => k_is))))
local macro_rules | `(tactic| walk_at "call builtin:bytes.translate") => `(tactic| (k_dflt (refine tr_call (trT_size _ _) (by omega) ?_); intro t7 k7))
local macro_rules | `(tactic| walk_at "call builtin:bytes.maketrans") => `(tactic| (k_dflt (refine mk_call rfl ?_)))
set_option maxRecDepth 100000 in
set_option maxHeartbeats 8000000 in
theorem enc_call : ∀ {w : World} {loose : List Str} {mean : ExcName → Option Value} {mg mb : Str → Option Value}
    {dp un : Nat} {gd : Option (List Code)} {cn : Str} {cs : Scope} {a : Addr} {ccd : Value} {cl : List (Str × Addr)} {outer : List Env} {A₀ : Around} {base h₀ : Heap} {L : Addr} {m : Str → Option Value} {news : List (Addr × Obj)} {s : Shared} {Q E : Value → Shared → Prop}
    (_ : Below A₀ base outer h₀) (_ : Fr h₀ L s.heap m) (_ : News h₀ L s.heap news) (_ : (hd.heap_1 w.params).In h₀) (_ : Top topProg loose mean mg mb h₀) (_ : cs.kind = .function)
    (_ : dp + 6 < recursionLimit) (_ : un + 64 < cLine)
    {b : Array UInt8} {tb tc : Tok} (_ : b.size ≤ 1000) 
    (_ : ∀ (h' : Heap) (tk' : Nat) (t' : Tok), Fr h₀ L h' m → News h₀ L h' news → (∀ a o, s.heap.get? a = some o → h'.get? a = some o) → Q (.bytes (encB b) t') { s with heap := h', toks := tk' }),
    wpAny (model PySem.Challenge.rw_aa0019_01.row.prog w) (ktrTop dp un gd cn cs L a ccd cl outer) (call (.ref 75) [.bytes b tb, .bytes #[39, 39] tc]) Q E s := by
  k_fill
  intro w loose mean mg mb dp un gd cn cs a ccd cl outer A₀ base h₀ L m news s Q E B F N X T hk hd1 hu b tb tc hb hret0
  have hret := fun h' tk' t' k => hret0 h' tk' t' (F.keeps k) (N.grown k) k
  clear hret0
  refine wpAny_call ?_
  k_dflt walk_at "my plain"
  intro L1 h1 F1 N1 B1 X1 T1
  (try dsimp only)
  (try k_fold)
  clear B F N X T
  have hsz : (b64B b).toArray.size ≤ 4000 := by
    have := b64B_len b
    simp only [List.size_toArray]
    omega
  k_steps
  (with_reducible rename Fr _ _ _ _ => F6)
  (with_reducible rename News _ _ _ _ => N6)
  refine leaveK_ F6 N6 fun _ _ => ?_
  exact hret _ _ _ F6.keep
end Mine
end
section
open PySem PySem.W PyProof.Rows PySem.Spec PySem.Calls
namespace Mine
local macro_rules | `(tactic| walk_at "my plain") => `(tactic| (refine' enter_plain ?k1 ?k2 ?k3 ?k5 ?kA ?kF ?kK ?k6 ?k7 ?k8 ?k9 ?kB ?_ ?c2 ?c3 ?c4 ?c5; (case kA => exact rfl); (case kF => exact rfl); (case kK => assumption); (case k1 => k_asm); (case k2 => k_asm); (case k3 => k_asm); (case k5 => k_asm); (case k6 => k_is); (case k7 => k_is); (case k8 => ktr_room); (case k9 => first | exact BindsTo.of_eq rfl | exact binds_K (by k_in) rfl (by k_is) rfl rfl rfl); (case c5 => decide); (case kB => exact locs rfl); (case c2 => exact rfl); (case c3 => exact rfl); (case c4 => exact rfl); k_whole))
local macro_rules | `(tactic| k_room) => `(tactic| ktr_room)
local macro_rules | `(tactic| walk_at "call builtin:str.split") => `(tactic| (k_dflt (refine' split2_call ?kF ?kN (by assumption) (by omega) ?_; (case kF => k_asm); (case kN => k_asm)); intro D8 l8 h8 k8 e8 F8 N8 q8))
local macro_rules | `(tactic| walk_at "call builtin:len") => `(tactic| (k_here; (with_reducible show wpAny _ _ (call (Value.builtin "len") [Value.ref _]) _ _ _); (refine len_strs (by is_list) (values_are (by assumption)) (by omega) ?_); intro _ _))
set_option maxRecDepth 100000 in
set_option maxHeartbeats 8000000 in
theorem dec2231_call : ∀ {w : World} {loose : List Str} {mean : ExcName → Option Value} {mg mb : Str → Option Value}
    {dp un : Nat} {gd : Option (List Code)} {cn : Str} {cs : Scope} {a : Addr} {ccd : Value} {cl : List (Str × Addr)} {outer : List Env} {A₀ : Around} {base h₀ : Heap} {L : Addr} {m : Str → Option Value} {news : List (Addr × Obj)} {s : Shared} {Q E : Value → Shared → Prop}
    (_ : Below A₀ base outer h₀) (_ : Fr h₀ L s.heap m) (_ : News h₀ L s.heap news) (_ : (hd.heap_1 w.params).In h₀) (_ : Top topProg loose mean mg mb h₀) (_ : cs.kind = .function)
    (_ : dp + 4 < recursionLimit) (_ : un + 32 < cLine)
    {x : Str} {tt : Tok} (_ : 1 ≤ x.length) (_ : x.length ≤ 4000) 
    (_ : ∀ (h' : Heap) (tk' : Nat) (D : Addr), (split2 x).length ≤ 2 → Fr h₀ L h' m → News h₀ L h' ((D, { cls := .type "tuple", data := .seq #[.none, .none, .str x tt] }) :: news) → (∀ p ∈ news, p.1 ≠ D) → (∀ a o, s.heap.get? a = some o → h'.get? a = some o) → Q (.ref D) { s with heap := h', toks := tk' })
    (_ : ∀ (h' : Heap) (tk' : Nat) (D : Addr) (vs : List Value), ¬ (split2 x).length ≤ 2 → StrsAre vs (split2 x) → Fr h₀ L h' m → News h₀ L h' ((D, listOf vs.toArray 0) :: news) → (∀ p ∈ news, p.1 ≠ D) → (∀ a o, s.heap.get? a = some o → h'.get? a = some o) → Q (.ref D) { s with heap := h', toks := tk' }),
    wpAny (model PySem.Challenge.rw_aa0019_01.row.prog w) (ktrTop dp un gd cn cs L a ccd cl outer) (call (.ref 45) [.str x tt]) Q E s := by
  k_fill
  intro w loose mean mg mb dp un gd cn cs a ccd cl outer A₀ base h₀ L m news s Q E B F N X T hk hd1 hu x tt hx1 hx2 hret1 hret2
  have hF := F
  have hN := N
  refine wpAny_call ?_
  k_dflt walk_at "my plain"
  intro L1 h1 F1 N1 B1 X1 T1
  (try dsimp only)
  (try k_fold)
  clear B F N X T
  have h3 := split2_len x
  k_steps
  all_goals (
    (with_reducible rename Fr _ _ _ _ => F6)
    (with_reducible rename News _ _ _ _ => N6)
    refine leaveK_ F6 N6 fun _ _ => ?_)
  · obtain ⟨n1, n2⟩ := news_made hF hN (hN.grown F6.keep) N6 (.head _)
    exact hret1 _ _ _ (by omega) (hF.keeps F6.keep) n1 n2 F6.keep
  · obtain ⟨n1, n2⟩ := news_made hF hN (hN.grown F6.keep) N6 (.head _)
    exact hret2 _ _ _ _ (by omega) (values_are (by assumption)) (hF.keeps F6.keep) n1 n2 F6.keep
end Mine
end
section
open PySem PySem.W PyProof.Rows PySem.Spec PySem.Calls
namespace Mine
local macro_rules | `(tactic| walk_at "my cells") => `(tactic| (refine' enter_cells ?k1 ?k2 ?k3 ?k5 ?kA ?kF ?kK ?k6 ?k7 ?k8 ?k9 ?kB ?kD ?_ ?c2 ?c3 ?c4; (case kA => exact rfl); (case kF => exact rfl); (case kK => assumption); (case k1 => k_asm); (case k2 => k_asm); (case k3 => k_asm); (case k5 => k_asm); (case k6 => k_is); (case k7 => k_is); (case k8 => ktr_room); (case k9 => exact BindsTo.of_eq rfl); (case kB => exact rfl); (case kD => decide +kernel); (case c2 => exact rfl); (case c3 => exact rfl); (case c4 => exact rfl); k_whole))
local macro_rules | `(tactic| k_room) => `(tactic| ktr_room)
local macro_rules | `(tactic| walk_at "exec Assign cons ListComp") => `(tactic| (k_here; k_dflt (first
  | ((with_reducible show wpAny _ _ (exec (Stmt.Assign _ (Expr.ListComp _ [_, _] _ _) _) _) _ _ _); refine assign_2 (by k_asm) (by rfl) (by with_unfolding_all rfl) (by with_unfolding_all rfl) (by decide) (by rfl) (by decide) (by rfl) (by rfl) (by decide) (by rfl) (by rfl) ?_)
  | ((with_reducible show wpAny _ _ (exec (Stmt.Assign _ (Expr.ListComp (Expr.Call _ _ _ _) [_] _ _) _) _) _ _ _); refine assign_C (by k_asm) (by rfl) (by with_unfolding_all rfl) (by with_unfolding_all rfl) (by rfl) (by rfl) (by decide) (by rfl) (by rfl) (by rfl) ?_))))
local macro_rules | `(tactic| walk_at "eval ListComp") => `(tactic| (k_here; k_dflt (first
  | ((with_reducible show wpAny _ _ (eval (Expr.ListComp _ [_, _] _ _) _) _ _ _); refine eval_2 (by k_asm) (by with_unfolding_all rfl) (by decide) (by rfl) (by decide) (by rfl) (by rfl) (by decide) ?_)
  | ((with_reducible show wpAny _ _ (eval (Expr.ListComp _ [⟨_, _, [], _⟩] _ _) _) _ _ _); refine LCg.ListComp_U (F₀ := by k_asm) (by with_unfolding_all rfl) (by decide) (by rfl) (by decide) (by rfl) ?_))))
local macro_rules | `(tactic| walk_at "call type:range") => `(tactic| ((with_reducible show wpAny _ _ _ (fun xv s₃ => wpAny _ _ (pyIter xv) (fun it s₄ => Src2 _ _ _ _ _ _ _ _ _ _ _ _ _ _ _ _ _ _ _ _ _) _ _) _ _); refine Halt.mk ?_))
local macro_rules | `(tactic| walk_at "pyIter bytes") => `(tactic| (refine Halt.mk ?_))
theorem len_n {prog : Program} {w : World} {A : Around} {E : Value → Shared → Prop} {s : Shared} {l : Addr} {vs : List Value} {n : Nat} {Q : Value → Shared → Prop} (hl : s.heap.IsList l vs.toArray) (hp : vs.length = n) (hb : n ≤ 16777216)
    (h : ∀ t k, Q (.int n t) { s with toks := k }) : wpAny (model prog w) A (call (.builtin "len") [.ref l]) Q E s := by
  have e : vs.toArray.size = n := by simp [hp]
  refine len_list hl (by rw [e]; omega) ?_
  rw [e]; exact h _ _
local macro_rules | `(tactic| walk_at "call builtin:len") => `(tactic| (k_here; (with_reducible show wpAny _ _ (call (Value.builtin "len") [Value.ref _]) _ _ _); (refine len_n (by k_dflt is_list) (by assumption) (by omega) ?_); intro _ _))
local macro_rules | `(tactic| kmk_sum) => `(tactic| ((try simp only [sizeLine_eq]); omega))
local macro_rules | `(tactic| walk_at "execs cons") => `(tactic| ((with_reducible show wpAny _ _ (execs (_ :: _) _) _ _ _); dsimp only; refine wpAny_execs_cons ?_))
theorem ge0 {k : Int} (h : 0 ≤ k) : -((64 : Nat) : Int) ≤ k := by omega
theorem idx0 (i j : Nat) : 0 ≤ 0 + (i : Int) * 6 + (0 + (j : Int)) := by omega
theorem idx1 {i j n : Nat} {pb : List Int} (h : pb.length = 6 * n) (hi : i < n) (hj : j < 6) : 0 + (i : Int) * 6 + (0 + (j : Int)) < (pb.length : Int) := by omega
theorem idx2 {i j n : Nat} (h : n ≤ 4000) (hi : i < n) (hj : j < 6) : 0 + (i : Int) * 6 + (0 + (j : Int)) < 2 ^ 63 := by omega
theorem mulOk2 {a : Int} {j : Nat} (hj : j < 6) : IntMulOk a (2 ^ (5 - (0 + (j : Int))).toNat) := by
  have h : j = 0 ∨ j = 1 ∨ j = 2 ∨ j = 3 ∨ j = 4 ∨ j = 5 := by omega
  rcases h with rfl | rfl | rfl | rfl | rfl | rfl <;> exact IntMulOk.of_right (by decide +kernel)
local macro_rules | `(tactic| walk_at "binaryOp Mult int int") => `(tactic| (k_dflt (refine PyProof.Rows.mul_int ?_ (mulOk2 (by with_reducible assumption)))))
local macro_rules | `(tactic| walk_at "subscriptTail") => `(tactic| ((with_reducible show wpAny _ _ (subscriptTail _ _ (Value.ref _) (Value.int _ _)) _ _ _); k_dflt (refine' item_anyK ?k1 ?k2 ?k3 ?k4 ?k5 ?_ ?k6; (case k2 => with_reducible assumption); (case k1 => exact News.isList (by with_reducible assumption) (by k_mem)); (case k3 => exact idx0 _ _); (case k4 => exact idx1 (by with_reducible assumption) (by with_reducible assumption) (by with_reducible assumption)); (case k5 => exact idx2 (by with_reducible assumption) (by with_reducible assumption) (by with_reducible assumption)); (case k6 => with_unfolding_all rfl)); intro _))
local macro_rules | `(tactic| walk_at "subscriptTail Name Name str int") => `(tactic| ((with_reducible show wpAny _ _ (subscriptTail _ _ (Value.str _ _) (Value.int _ _)) _ _ _); k_dflt (refine KXi.item (n := 64) (by decide +kernel) (ge0 (by with_reducible assumption)) (by with_reducible assumption) (by decide) ?_); intro _))
local macro_rules | `(tactic| walk_at "binaryOp Mult ref int") => `(tactic| ((with_reducible show wpAny _ _ (binaryOp _ _ (Value.int (Int.fmod _ 4) _)) _ _ _); (refine Halt.mk ?_)))
local macro_rules | `(tactic| walk_at "call builtin:sum") => `(tactic| (refine Halt.mk ?_))
local macro_rules | `(tactic| walk_at "CompSrc") => `(tactic| (refine Halt.mk ?_))
set_option maxRecDepth 100000 in
set_option maxHeartbeats 8000000 in
theorem signs_call : ∀ {w : World} {loose : List Str} {mean : ExcName → Option Value} {mg mb : Str → Option Value}
    {dp un : Nat} {gd : Option (List Code)} {cn : Str} {cs : Scope} {a : Addr} {ccd : Value} {cl : List (Str × Addr)} {outer : List Env} {A₀ : Around} {base h₀ : Heap} {L : Addr} {m : Str → Option Value} {news : List (Addr × Obj)} {s : Shared} {Q E : Value → Shared → Prop}
    (_ : Below A₀ base outer h₀) (_ : Fr h₀ L s.heap m) (_ : News h₀ L s.heap news) (_ : (hd.heap_1 w.params).In h₀) (_ : Top topProg loose mean mg mb h₀) (_ : cs.kind = .function)
    (_ : dp + 4 < recursionLimit) (_ : un + 32 < cLine)
    {b : Array UInt8} {tb : Tok} (_ : b.size ≤ 1000) 
    (_ : ∀ (h' : Heap) (tk' : Nat) (D : Addr) (ys : List Value) (ep : Nat), StrsAre ys (sgB b) → Fr h₀ L h' m → News h₀ L h' ((D, { cls := .type "list", data := .seq ys.toArray ep }) :: news) → (∀ p ∈ news, p.1 ≠ D) → (∀ a o, s.heap.get? a = some o → h'.get? a = some o) → Q (.ref D) { s with heap := h', toks := tk' }),
    wpAny (model PySem.Challenge.rw_aa0019_01.row.prog w) (ktrTop dp un gd cn cs L a ccd cl outer) (call (.ref 109) [.bytes b tb]) Q E s := by
  k_fill
  intro w loose mean mg mb dp un gd cn cs a ccd cl outer A₀ base h₀ L m news s Q E B F N X T hk hd1 hu b tb hb hret
  have hF := F
  have hN := N
  refine wpAny_call ?_
  k_dflt walk_at "my cells"
  intro L1 h1 tk1 cells F1 N1 Y1 B1 X1 T1
  k_cells Y1
  (try simp only [List.append_nil, List.nil_append, List.cons_append] at N1)
  (try dsimp only)
  (try k_fold)
  clear B F N X T
  k_steps
  refine Halt.go ?_
  refine two_bytes (fun i ys => IntsAre ys (bitsB (b.toList.take i))) (by rfl) (by k_asm) (by k_asm) .nil ?_ ?_
  · rintro s₂ i c t C D h2 tk2 oC m₂ ys E' ⟨g, rfl⟩ hi hJ hoC hm F₁ N₁ hC hD
    k_steps
    refine Halt.go ?_
    refine src2_range (k := 8) (fun j ys => IntsAre ys (bitsB (b.toList.take i) ++ (List.range j).map (bitI c))) (by decide) (by rfl) hC hD (fun ys h => by simpa using h) (fun ys h => ?_) (fun j ys hj h => ?_) ?_
    · rw [take_snoc hi, bitsB_snoc]; exact h
    · rw [h.length, List.length_append, bitsB_len, List.length_take, List.length_map, List.length_range, sizeLine_eq]
      have := b.length_toList
      omega
    · rintro k u zs h3 tk3 oC3 m₅ E' hk8 ⟨t3, rfl⟩ hJ3 hoC3 hx0 hx1 F₃ N₃
      refine wpAny_tests_nil ?_
      refine ⟨_, rfl, fun _ => ?_, fun h => by cases h⟩
      k_steps
      show IntsAre _ (bitsB (b.toList.take i) ++ List.map (bitI c) (List.range (k + 1)))
      rw [List.range_succ, List.map_append, ← List.append_assoc]
      exact hJ3.append (.cons _ _ .nil)
  · rintro s₂ D h2 tk2 ys ⟨g, rfl⟩ hJ off2 F₂ N₂
    rw [show b.toList.take b.size = b.toList from List.take_of_length_le (by simp)] at hJ
    simp only [LCg.Off1, and_true] at off2
    have hlen : ys.length = 8 * b.size := by rw [hJ.length, bitsB_len, Array.length_toList]
    have hbl : (bitsB b.toList).length = 8 * b.size := by rw [bitsB_len, Array.length_toList]
    have hp0 : 0 ≤ (-((8 * b.size : Nat) : Int)).fmod 6 := Int.fmod_nonneg_of_pos _ (by decide)
    have hp1 : (-((8 * b.size : Nat) : Int)).fmod 6 < 6 := Int.fmod_lt_of_pos _ (by decide)
    k_steps
    (with_reducible rename IntsAre _ _ => hI6)
    (with_reducible rename IsRange _ _ _ _ _ _ _ _ => hR6)
    (with_reducible rename Fr _ _ _ _ => F6)
    (with_reducible rename News _ _ _ _ => N6)
    dsimp only at hR6 N6 F6 ⊢
    obtain ⟨pb, hpb⟩ : ∃ pb, pb = bitsB b.toList ++ (List.replicate ((-((8 * b.size : Nat) : Int)).fmod 6).toNat [(0 : Int)]).flatten := ⟨_, rfl⟩
    obtain ⟨n6, hn6⟩ : ∃ n6 : Nat, pb.length = 6 * n6 := by
      have hp2 : (bitsB b.toList ++ (List.replicate ((-((8 * b.size : Nat) : Int)).fmod 6).toNat [(0 : Int)]).flatten).length = 8 * b.size + ((-((8 * b.size : Nat) : Int)).fmod 6).toNat := by
        rw [List.length_append, hbl, padB_len]
      rw [hpb, hp2]
      exact pad_six (8 * b.size)
    rw [← hpb] at hI6
    have hR7 : (bitsB b.toList).length + (List.replicate ((-((8 * b.size : Nat) : Int)).fmod 6).toNat [(0 : Int)]).flatten.length = 6 * n6 := by rw [← hn6, hpb, List.length_append]
    rw [hR7] at hR6
    have h01 : ∀ x ∈ pb, x = 0 ∨ x = 1 := by rw [hpb]; exact pad_01 _ _
    have hn7 : n6 ≤ 4000 := by omega
    refine SrcC.intro n6 (fun i zs => IntsAre zs ((List.range i).map (sixI pb))) (by rfl) F6 N6 hR6 ?_ ?_ .nil ?_ ?_ ?_
    · exact (six_small hn7).1
    · exact (six_small hn7).2
    · intro i ys hi h
      rw [h.length, List.length_map, List.length_range, sizeLine_eq]
      omega
    · rintro s₂ ⟨g, rfl⟩ i t I C K D h tk oK oI zs E' hi hJ0 hoK F N
      have hJ : id (IntsAre zs (List.map (sixI pb) (List.range i))) := hJ0
      clear hJ0
      dsimp only
      k_steps
      refine Halt.go ?_
      (with_reducible rename IsRange _ _ _ _ _ _ _ _ => hR8)
      (with_reducible rename Fr _ _ _ _ => F8)
      (with_reducible rename News _ _ _ _ => N8)
      dsimp only at hR8 N8 F8 ⊢
      refine LCg.CompSrc.range (n := 6) (by rfl) F8 N8 hR8 (by decide) (by decide) (by decide) ?_
      intro g2
      refine rest_gen (as := List.range 6) (F := fun j v => ∃ t, v = .int (0 + (j : Int)) t) (fun j => IntIs (sixT pb i j)) (by simp) (fun k v hk hv => ⟨k, by simp [hk], hv⟩) trivial ?_ ?_
      · rintro j0 j v I2 oI2 C2 oC2 D2 m₂ ys2 h2 tk2 E2 hj ⟨t2, rfl⟩ hoC2 hx2 F₂ N₂ off3 hne
        have hj6 : j < 6 := by
          have := List.mem_of_getElem? hj
          simpa using this
        clear hj
        simp only [LCg.Off3, and_true] at off3
        k_steps
        (with_reducible rename Fr _ _ _ _ => F7)
        (with_reducible rename News _ _ _ _ => N7)
        refine CEnd.intro F7 N7 (by lcg_sub) ⟨_, rfl⟩
      · intro ys2 hys2
        unfold LCg.FinE
        intro D2 h2 tk2 F₂ N₂ off2
        simp only [LCg.Off1, and_true] at off2
        try dsimp only
        k_steps
        refine Halt.go ?_
        refine LSm.sum_ints F₂ N₂ (by rfl) (News.isList N₂ (.head _)) (sixT_are hys2) ?_
        intro h9 tk9 t9 F9 N9
        refine CellEnd.intro F9 N9 (by lcg_sub) ?_
        show IntsAre (zs ++ [Value.int (sixI pb i) t9]) (List.map (sixI pb) (List.range (i + 1)))
        rw [List.range_succ (n := i), List.map_append]
        exact IntsAre.append (show IntsAre zs (List.map (sixI pb) (List.range i)) from hJ) (.cons _ _ .nil)
    · rintro s₂ ⟨g, rfl⟩ D h tk zs hJ6 off6 F N
      simp only [LCg.Off1, and_true] at off6
      have hz6 : zs.length = n6 := by rw [hJ6.length]; simp
      dsimp only
      k_steps
      refine Halt.go ?_
      (with_reducible rename Fr _ _ _ _ => F8)
      (with_reducible rename News _ _ _ _ => N8)
      have hz9 : zs.toArray.size = n6 := by simp [hz6]
      refine LCg.CompSrc.ledger (by rfl) F8 N8 (by k_mem) (by rw [hz9, sizeLine_eq]; omega) ?_
      intro g2
      refine rest_gen (as := (List.range n6).map (sixI pb)) (F := IntIs) (fun k => StrIs (sgS k)) (by simp [hz6]) (fun i v _ hv => (ints_are hJ6).get i (by simpa using hv)) (Or.inr ⟨_, by k_mem, rfl, _, rfl⟩) ?_ ?_
      · rintro j0 k v I2 oI2 C2 oC2 D2 m₂ ys2 h2 tk2 E2 hj ⟨t2, rfl⟩ hoC2 hx2 F₂ N₂ off3 hne
        have hk6 : 0 ≤ k ∧ k < 64 := by
          have hk := List.mem_of_getElem? hj
          obtain ⟨i, _, rfl⟩ := List.mem_map.mp hk
          exact six_in h01 i
        clear hj
        simp only [LCg.Off3, and_true] at off3
        obtain ⟨hk60, hk61⟩ := hk6
        have hk62 : k < ((64 : Nat) : Int) := hk61
        dsimp only
        k_steps
        (with_reducible rename Fr _ _ _ _ => F7)
        (with_reducible rename News _ _ _ _ => N7)
        refine CEnd.intro F7 N7 (by lcg_sub) ⟨_, rfl⟩
      · intro ys2 hys2
        unfold LCg.FinE
        intro D2 h2 tk2 F₂ N₂ off2
        simp only [LCg.Off1, and_true] at off2
        have hy2 : ys2.length = n6 := by rw [hys2.length]; simp
        try dsimp only
        k_steps
        refine Halt.go ?_
        (with_reducible rename Fr _ _ _ _ => F3)
        (with_reducible rename News _ _ _ _ => N3)
        refine KMa.mul F3 N3 (News.isList N3 (.head _)) (m4a _) (m4b _) (m4c _) rfl ?_
        intro D4 h4 F4 N4 q4
        try dsimp only
        refine addL F4 N4 (News.isList N4 (by k_mem)) (News.isList N4 (.head _)) ?_ ?_
        · have := m4d n6
          rw [hy2, (strs_length (strs_rep _))]
          simp only [List.length_replicate]
          omega
        intro D5 h5 F5 N5 q5
        try dsimp only
        refine leaveK_ F5 N5 fun _ _ => ?_
        obtain ⟨p1, p2⟩ := news_made hF hN (hN.grown F5.keep) N5 (.head _)
        refine hret _ _ _ _ _ ?_ (hF.keeps F5.keep) p1 p2 F5.keep
        have hq : (padB b).length / 6 = n6 := by
          rw [show padB b = pb from hpb.symm, hn6]; omega
        unfold sgB
        rw [hq]
        rw [show padB b = pb from hpb.symm]
        exact strs_append (are_strs hys2) (strs_rep _)
end Mine
end
section
open PySem PySem.W PyProof.Rows PySem.Spec PySem.Calls
namespace Mine
local macro_rules | `(tactic| walk_at "my plain") => `(tactic| (refine' enter_plain ?k1 ?k2 ?k3 ?k5 ?kA ?kF ?kK ?k6 ?k7 ?k8 ?k9 ?kB ?_ ?c2 ?c3 ?c4 ?c5; (case kA => exact rfl); (case kF => exact rfl); (case kK => assumption); (case k1 => k_asm); (case k2 => k_asm); (case k3 => k_asm); (case k5 => k_asm); (case k6 => k_is); (case k7 => k_is); (case k8 => ktr_room); (case k9 => first | exact BindsTo.of_eq rfl | exact binds_K (by k_in) rfl (by k_is) rfl rfl rfl); (case c5 => decide); (case kB => exact locs rfl); (case c2 => exact rfl); (case c3 => exact rfl); (case c4 => exact rfl); k_whole))
local macro_rules | `(tactic| walk_at "my cells") => `(tactic| (refine' enter_cells ?k1 ?k2 ?k3 ?k5 ?kA ?kF ?kK ?k6 ?k7 ?k8 ?k9 ?kB ?kD ?_ ?c2 ?c3 ?c4; (case kA => exact rfl); (case kF => exact rfl); (case kK => assumption); (case k1 => k_asm); (case k2 => k_asm); (case k3 => k_asm); (case k5 => k_asm); (case k6 => k_is); (case k7 => k_is); (case k8 => ktr_room); (case k9 => exact BindsTo.of_eq rfl); (case kB => exact rfl); (case kD => decide +kernel); (case c2 => exact rfl); (case c3 => exact rfl); (case c4 => exact rfl); k_whole))
local macro_rules | `(tactic| k_room) => `(tactic| ktr_room)
local macro_rules | `(tactic| walk_at "getMethod str") => `(tactic| k_dflt ((with_reducible show wpAny _ _ (getMethod (Value.str _ _) (Str.ofString "translate") _) _ _ _); refine method_st ?_))
local macro_rules | `(tactic| walk_at "call builtin:str.translate") => `(tactic| (refine Halt.mk ?_))
noncomputable def escD : List (Int × PyData) := ([40, 41, 91, 93, 123, 125, 63, 42, 43, 45, 124, 94, 36, 92, 46, 38, 126, 35, 32, 9, 10, 13, 11, 12] : List Nat).map fun c : Nat => ((c : Int), PyData.str ⟨#[92, c]⟩)
set_option maxRecDepth 100000 in
set_option maxHeartbeats 8000000 in
theorem esc_call : ∀ {w : World} {loose : List Str} {mean : ExcName → Option Value} {mg mb : Str → Option Value}
    {dp un : Nat} {gd : Option (List Code)} {cn : Str} {cs : Scope} {a : Addr} {ccd : Value} {cl : List (Str × Addr)} {outer : List Env} {A₀ : Around} {base h₀ : Heap} {L : Addr} {m : Str → Option Value} {news : List (Addr × Obj)} {s : Shared} {Q E : Value → Shared → Prop}
    (_ : Below A₀ base outer h₀) (_ : Fr h₀ L s.heap m) (_ : News h₀ L s.heap news) (_ : (hd.heap_1 w.params).In h₀) (_ : Top topProg loose mean mg mb h₀) (_ : cs.kind = .function)
    (_ : dp + 4 < recursionLimit) (_ : un + 32 < cLine)
    {x : Str} {t : Tok} (_ : x = Str.ofString "'" ∨ x = Str.ofString "=")
    (_ : ∀ (h' : Heap) (tk' : Nat) (t' : Tok), Fr h₀ L h' m → News h₀ L h' news → (∀ a o, s.heap.get? a = some o → h'.get? a = some o) → Q (.str x t') { s with heap := h', toks := tk' }),
    wpAny (model PySem.Challenge.rw_aa0019_01.row.prog w) (ktrTop dp un gd cn cs L a ccd cl outer) (call (.ref 92) [.str x t]) Q E s := by
  k_fill
  intro w loose mean mg mb dp un gd cn cs a ccd cl outer A₀ base h₀ L m news s Q E B F N X T hk hd1 hu x t hx hret0
  have hret := fun h' tk' t' k => hret0 h' tk' t' (F.keeps k) (N.grown k) k
  clear hret0
  refine wpAny_call ?_
  k_dflt walk_at "my plain"
  intro L1 h1 F1 N1 B1 X1 T1
  (try dsimp only)
  (try k_fold)
  clear B F N X T
  k_steps
  refine Halt.go ?_
  (with_reducible rename Fr _ _ _ _ => F6)
  (with_reducible rename News _ _ _ _ => N6)
  have hK : KTD.Keyed h1 82 escD := KTD.keyed_of_look (get := fun a => (hd.heap_1 w.params).lookup a) (fun a o e => F6.keep _ _ (X1 _ _ e)) (by first | kernel_rfl | k_is)
  rcases hx with rfl | rfl
  all_goals (
    refine trans_call (by rfl) (hK _ _) (by decide +kernel) (by decide) ?_
    intro h9 tk9 t9 hk9
    refine leaveK_ (F6.keeps hk9) (News.grown N6 hk9) fun _ _ => ?_
    exact hret h9 tk9 t9 (fun b o e => hk9 b o (F6.keep b o e)))
end Mine
end
section
open PySem PySem.W PyProof.Rows PySem.Spec PySem.Calls
namespace Mine
local macro_rules | `(tactic| walk_at "my pad") => `(tactic| fail "pad")
local macro_rules | `(tactic| walk_at "my plain") => `(tactic| (refine' enter_plain ?k1 ?k2 ?k3 ?k5 ?kA ?kF ?kK ?k6 ?k7 ?k8 ?k9 ?kB ?_ ?c2 ?c3 ?c4 ?c5; (case kA => exact rfl); (case kF => exact rfl); (case kK => assumption); (case k1 => k_asm); (case k2 => k_asm); (case k3 => k_asm); (case k5 => k_asm); (case k6 => k_is); (case k7 => k_is); (case k8 => ktr_room); (case k9 => first | exact BindsTo.of_eq rfl | exact binds_K (by k_in) rfl (by k_is) rfl rfl rfl); (case c5 => decide); (case kB => exact locs rfl); (case c2 => exact rfl); (case c3 => exact rfl); (case c4 => exact rfl); k_whole))
local macro_rules | `(tactic| k_room) => `(tactic| ktr_room)
local macro_rules | `(tactic| walk_at "getAttr ref") => `(tactic| (k_here; (with_reducible show wpAny _ _ (getAttr (Value.ref _) (PySem.Str.ofString "append") true) _ _ _); k_dflt (refine' attrApp_K ?kF ?kN ?kM ?_; (case kF => k_asm); (case kN => k_asm); (case kM => k_mem)); intro x' h' F' N' l1; (try k_lt l1); (try k_sweep)))
local macro_rules | `(tactic| walk_at "callWith ref") => `(tactic| (k_here; (with_reducible show wpAny _ _ (callWith _ (Value.ref _) _ (backTo _ (starEach (_ :: _) _)) []) _ _ _); k_dflt (refine' app_with ?kN ?kM ?_; (case kN => k_asm); (case kM => k_mem); k_whole)))
local macro_rules | `(tactic| walk_at "And") => `(tactic| ((with_reducible show StandsApp _ _ _ ∧ _); k_dflt (refine ⟨standsApp (by k_asm) (by k_mem), ?_⟩); (try dsimp only [List.nil_append, List.cons_append])))
local macro_rules | `(tactic| walk_at "StandsApp") => `(tactic| ((with_reducible show StandsApp _ _ _); k_dflt (exact standsApp (by k_asm) (by k_mem))))
local macro_rules | `(tactic| walk_at "call ref") => `(tactic| (k_here; (with_reducible show wpAny _ _ (call (Value.ref _) [_] _) _ _ _); k_dflt (refine' appCall_K ?kF ?kN ?kM ?kU ?_ ?z; (case kF => k_asm); (case kN => k_asm); (case kM => k_mem); (case kU => k_upd); (case z => size_fits); k_whole); intro h' F' N'; (try k_sweep)))
local macro_rules | `(tactic| walk_at "call ref") => `(tactic| ((with_reducible show wpAny _ _ (call (Value.ref 92) _ _) _ _ _); k_dflt (refine' esc_call ?kB ?kF ?kN ?kX ?kT ?kk ?kd ?ku ?kz ?_; (case kB => k_asm); (case kF => k_asm); (case kN => k_asm); (case kX => k_asm); (case kT => k_asm); (case kk => exact rfl); (case kd => ktr_room); (case ku => ktr_units); (case kz => first | exact Or.inl rfl | exact Or.inr rfl | exact Or.inl (by decide +kernel) | exact Or.inr (by decide +kernel))); intro h9 tk9 t9 F9 N9 hk9))
local macro_rules | `(tactic| walk_at "execs cons") => `(tactic| ((with_reducible show wpAny _ _ (execs (_ :: _) _) _ _ _); dsimp only; refine wpAny_execs_cons ?_))
theorem lit_item {prog : Program} {w : World} {A : Around} {E : Value → Shared → Prop} {s : Shared} {value slice : PySem.Expr} {x : PySem.Str} (y : PySem.Str) {k : Int} {t u : Tok} {Q : Value → Shared → Prop}
    (hy : (-(x.length : Int) ≤ k ∧ k < (x.length : Int) ∧ x.length ≤ 16777216) ∧ Txt.item x k = y) (h : ∀ t' k', Q (.str y t') { s with toks := k' })
    (hs : subscripted slice false (.str x t) (.int k u) = operate [.str x t, .int k u] (getItem (.str x t) (.int k u)) := by with_unfolding_all rfl)
    (ht : ∀ r, letTemporaryGo value (.str x t) r = pure () := by intro _; with_unfolding_all rfl) :
    wpAny (model prog w) A (subscriptTail value slice (.str x t) (.int k u)) Q E s :=
  KXi.item rfl hy.1.1 hy.1.2.1 hy.1.2.2 (fun _ => hy.2 ▸ h _ _) hs ht
local macro_rules | `(tactic| walk_at "subscriptTail Name Name str int") => `(tactic| (k_here; (with_reducible show wpAny _ _ (subscriptTail _ _ (Value.str _ _) (Value.int _ _)) _ _ _); (first | (refine lit_item (Str.ofString "*") (by decide +kernel) ?_) | (refine lit_item (Str.ofString "?") (by decide +kernel) ?_) | (refine lit_item (Str.ofString "'") (by decide +kernel) ?_) | (refine lit_item (Str.ofString "=") (by decide +kernel) ?_)); intros; (try dsimp only)))
theorem news_list {h₀ h : Heap} {L D : Addr} {its : Array Value} {n : Nat} {news : List (Addr × Obj)} (N : News h₀ L h ((D, listOf its n) :: news)) : News h₀ L h ((D, listOf its.toList.toArray n) :: news) := N
noncomputable def row_tr1 : List (Option Str) := [none, some (Str.ofString "'"), none, some (Str.ofString "'"), none]
set_option maxRecDepth 100000 in
set_option maxHeartbeats 8000000 in
theorem tr1_call : ∀ {w : World} {loose : List Str} {mean : ExcName → Option Value} {mg mb : Str → Option Value}
    {dp un : Nat} {gd : Option (List Code)} {cn : Str} {cs : Scope} {a : Addr} {ccd : Value} {cl : List (Str × Addr)} {outer : List Env} {A₀ : Around} {base h₀ : Heap} {L : Addr} {m : Str → Option Value} {news : List (Addr × Obj)} {s : Shared} {Q E : Value → Shared → Prop}
    (_ : Below A₀ base outer h₀) (_ : Fr h₀ L s.heap m) (_ : News h₀ L s.heap news) (_ : (hd.heap_1 w.params).In h₀) (_ : Top topProg loose mean mg mb h₀) (_ : cs.kind = .function)
    (_ : dp + 8 < recursionLimit) (_ : un + 64 < cLine)
    {t t2 : Tok}
    (_ : ∀ (h' : Heap) (tk' : Nat) (D : Addr) (vs : List Value) (ep : Nat), PcsAre vs row_tr1 → Fr h₀ L h' m → News h₀ L h' ((D, { cls := .type "list", data := .seq vs.toArray ep }) :: news) → (∀ p ∈ news, p.1 ≠ D) → (∀ a o, s.heap.get? a = some o → h'.get? a = some o) → Q (.ref D) { s with heap := h', toks := tk' }),
    wpAny (model PySem.Challenge.rw_aa0019_01.row.prog w) (ktrTop dp un gd cn cs L a ccd cl outer) (call (.ref 99) [.str (Str.ofString "*'*'*") t, .none, .str (Str.ofString "any") t2]) Q E s := by
  k_fill
  intro w loose mean mg mb dp un gd cn cs a ccd cl outer A₀ base h₀ L m news s Q E B F N X T hk hd1 hu t t2 hret
  have hF := F
  have hN := N
  refine wpAny_call ?_
  k_dflt walk_at "my plain"
  intro L1 h1 F1 N1 B1 X1 T1
  (try dsimp only)
  (try k_fold)
  clear B F N X T
  k_steps
  (with_reducible rename Fr _ _ _ _ => F6)
  (with_reducible rename News _ _ _ _ => N6)
  refine leaveK_ F6 N6 fun _ _ => ?_
  obtain ⟨n1, n2⟩ := news_made hF hN (hN.grown F6.keep) N6 (.tail _ (.tail _ (.head _)))
  refine hret _ _ _ _ _ ?_ (hF.keeps F6.keep) (news_list n1) n2 F6.keep
  exact ⟨rfl, ⟨_, rfl⟩, rfl, ⟨_, rfl⟩, rfl, trivial⟩
noncomputable def row_tr2 : List (Option Str) := [some (Str.ofString "any"), none, some (Str.ofString "'"), some (Str.ofString "any"), none, some (Str.ofString "'"), none]
set_option maxRecDepth 100000 in
set_option maxHeartbeats 8000000 in
theorem tr2_call : ∀ {w : World} {loose : List Str} {mean : ExcName → Option Value} {mg mb : Str → Option Value}
    {dp un : Nat} {gd : Option (List Code)} {cn : Str} {cs : Scope} {a : Addr} {ccd : Value} {cl : List (Str × Addr)} {outer : List Env} {A₀ : Around} {base h₀ : Heap} {L : Addr} {m : Str → Option Value} {news : List (Addr × Obj)} {s : Shared} {Q E : Value → Shared → Prop}
    (_ : Below A₀ base outer h₀) (_ : Fr h₀ L s.heap m) (_ : News h₀ L s.heap news) (_ : (hd.heap_1 w.params).In h₀) (_ : Top topProg loose mean mg mb h₀) (_ : cs.kind = .function)
    (_ : dp + 8 < recursionLimit) (_ : un + 64 < cLine)
    {t t2 : Tok}
    (_ : ∀ (h' : Heap) (tk' : Nat) (D : Addr) (vs : List Value) (ep : Nat), PcsAre vs row_tr2 → Fr h₀ L h' m → News h₀ L h' ((D, { cls := .type "list", data := .seq vs.toArray ep }) :: news) → (∀ p ∈ news, p.1 ≠ D) → (∀ a o, s.heap.get? a = some o → h'.get? a = some o) → Q (.ref D) { s with heap := h', toks := tk' }),
    wpAny (model PySem.Challenge.rw_aa0019_01.row.prog w) (ktrTop dp un gd cn cs L a ccd cl outer) (call (.ref 99) [.str (Str.ofString "?*'?*'*") t, .none, .str (Str.ofString "any") t2]) Q E s := by
  k_fill
  intro w loose mean mg mb dp un gd cn cs a ccd cl outer A₀ base h₀ L m news s Q E B F N X T hk hd1 hu t t2 hret
  have hF := F
  have hN := N
  refine wpAny_call ?_
  k_dflt walk_at "my plain"
  intro L1 h1 F1 N1 B1 X1 T1
  (try dsimp only)
  (try k_fold)
  clear B F N X T
  k_steps
  (with_reducible rename Fr _ _ _ _ => F6)
  (with_reducible rename News _ _ _ _ => N6)
  refine leaveK_ F6 N6 fun _ _ => ?_
  obtain ⟨n1, n2⟩ := news_made hF hN (hN.grown F6.keep) N6 (.tail _ (.tail _ (.head _)))
  refine hret _ _ _ _ _ ?_ (hF.keeps F6.keep) (news_list n1) n2 F6.keep
  exact ⟨⟨_, rfl⟩, rfl, ⟨_, rfl⟩, ⟨_, rfl⟩, rfl, ⟨_, rfl⟩, rfl, trivial⟩
noncomputable def row_tr3 : List (Option Str) := [none, some (Str.ofString "'"), none, some (Str.ofString "=")]
set_option maxRecDepth 100000 in
set_option maxHeartbeats 8000000 in
theorem tr3_call : ∀ {w : World} {loose : List Str} {mean : ExcName → Option Value} {mg mb : Str → Option Value}
    {dp un : Nat} {gd : Option (List Code)} {cn : Str} {cs : Scope} {a : Addr} {ccd : Value} {cl : List (Str × Addr)} {outer : List Env} {A₀ : Around} {base h₀ : Heap} {L : Addr} {m : Str → Option Value} {news : List (Addr × Obj)} {s : Shared} {Q E : Value → Shared → Prop}
    (_ : Below A₀ base outer h₀) (_ : Fr h₀ L s.heap m) (_ : News h₀ L s.heap news) (_ : (hd.heap_1 w.params).In h₀) (_ : Top topProg loose mean mg mb h₀) (_ : cs.kind = .function)
    (_ : dp + 8 < recursionLimit) (_ : un + 64 < cLine)
    {t t2 : Tok}
    (_ : ∀ (h' : Heap) (tk' : Nat) (D : Addr) (vs : List Value) (ep : Nat), PcsAre vs row_tr3 → Fr h₀ L h' m → News h₀ L h' ((D, { cls := .type "list", data := .seq vs.toArray ep }) :: news) → (∀ p ∈ news, p.1 ≠ D) → (∀ a o, s.heap.get? a = some o → h'.get? a = some o) → Q (.ref D) { s with heap := h', toks := tk' }),
    wpAny (model PySem.Challenge.rw_aa0019_01.row.prog w) (ktrTop dp un gd cn cs L a ccd cl outer) (call (.ref 99) [.str (Str.ofString "*'*=") t, .none, .str (Str.ofString "any") t2]) Q E s := by
  k_fill
  intro w loose mean mg mb dp un gd cn cs a ccd cl outer A₀ base h₀ L m news s Q E B F N X T hk hd1 hu t t2 hret
  have hF := F
  have hN := N
  refine wpAny_call ?_
  k_dflt walk_at "my plain"
  intro L1 h1 F1 N1 B1 X1 T1
  (try dsimp only)
  (try k_fold)
  clear B F N X T
  k_steps
  (with_reducible rename Fr _ _ _ _ => F6)
  (with_reducible rename News _ _ _ _ => N6)
  refine leaveK_ F6 N6 fun _ _ => ?_
  obtain ⟨n1, n2⟩ := news_made hF hN (hN.grown F6.keep) N6 (.tail _ (.tail _ (.head _)))
  refine hret _ _ _ _ _ ?_ (hF.keeps F6.keep) (news_list n1) n2 F6.keep
  exact ⟨rfl, ⟨_, rfl⟩, rfl, ⟨_, rfl⟩, trivial⟩
end Mine
end
section
open PySem PySem.W PyProof.Rows PySem.Spec PySem.Calls
namespace Mine
set_option maxRecDepth 100000
theorem strs_take : ∀ {vs : List Value} {ys : List Str} (n : Nat), StrsAre vs ys → StrsAre (vs.take n) (ys.take n)
  | _, _, 0, _ => by simpa using StrsAre.nil
  | _, _, _ + 1, .nil => .nil
  | _, _, n + 1, .cons x t r => .cons x t (strs_take n r)
theorem strs_drop : ∀ {vs : List Value} {ys : List Str} (n : Nat), StrsAre vs ys → StrsAre (vs.drop n) (ys.drop n)
  | _, _, 0, h => h
  | _, _, _ + 1, .nil => .nil
  | _, _, n + 1, .cons _ _ r => strs_drop n r
section
variable {prog : Program} {w : World} {A : Around} {E : Value → Shared → Prop} {s : Shared} {h₀ : Heap} {L l : Addr} {m : Str → Option Value} {news : List (Addr × Obj)} {value slice : PySem.Expr} {its : Array Value} {vs zs : List Value} {ns : List Str} {vl vu : Value} {lo hi : Option Int} {x y : Int} {Q : Value → Shared → Prop}
theorem slice_strs {ms : List Str} (F : Fr h₀ L s.heap m) (N : News h₀ L s.heap news) (hl : s.heap.IsList l vs.toArray) (pl : IsPart vl lo) (pu : IsPart vu hi) (hi' : StrsAre vs ns) (hm : StrsAre (slicePick vs.toArray lo hi none).toList ms) (hz : ns.length ≤ 16777216)
    (h : ∀ D ws h', Fr h₀ L h' m → News h₀ L h' ((D, listOf (List.toArray ws) 0) :: news) → (∀ p ∈ news, p.1 < D) → StrsAre ws ms → Q (.ref D) { s with heap := h' })
    (hs : subscripted slice false (.ref l) (.ref s.heap.objs.size) = operate [.ref s.heap.objs.size, .ref l] (getItem (.ref l) (.ref s.heap.objs.size))) (ht : ∀ r, letTemporaryGo value (.ref l) r = pure ()) :
    wpAny (model prog w) A (subscriptTail value slice (.ref l) (.ref s.heap.objs.size)) Q E { s with heap := s.heap.push { cls := .type "slice", data := .fields #[vl, vu, .none] } } := by
  refine kmk_slice F N hl pl pu (fun D h' F' N' l1 => h D (slicePick vs.toArray lo hi none).toList h' F' ?_ l1 hm) hs ht ?_
  · rw [Array.toArray_toList]
    exact N'
  · rw [List.size_toArray, strs_length hi', sizeLine_eq]; exact hz
theorem strs_pick {ms : List Str} (hi' : StrsAre vs ns) (e : (ns.drop (kms_lo lo ns.length)).take (kms_hi hi ns.length - kms_lo lo ns.length) = ms) : StrsAre (slicePick vs.toArray lo hi none).toList ms := by
  rw [← e, ← strs_length hi', kms_pick_eq]
  exact strs_take _ (strs_drop _ hi')
theorem strs_upto (hi' : StrsAre vs ns) (h : 0 ≤ y) : StrsAre (slicePick vs.toArray none (some y) none).toList (ns.take y.toNat) :=
  strs_pick hi' <| by simp [kms_lo, kms_hi, if_neg (Int.not_lt.mpr h), kmk_take_min]
theorem strs_from (hi' : StrsAre vs ns) (h : 0 ≤ x) : StrsAre (slicePick vs.toArray (some x) none none).toList (ns.drop x.toNat) :=
  strs_pick hi' <| by
    simp only [kms_lo, kms_hi, if_neg (Int.not_lt.mpr h), kmk_drop_min]
    exact List.take_of_length_le (by rw [List.length_drop]; omega)
theorem strs_run (hi' : StrsAre vs ns) (h : 0 ≤ x) (h2 : 0 ≤ y) : StrsAre (slicePick vs.toArray (some x) (some y) none).toList ((ns.drop x.toNat).take (min y.toNat ns.length - x.toNat)) :=
  strs_pick hi' <| by
    simp only [kms_lo, kms_hi, if_neg (Int.not_lt.mpr h), if_neg (Int.not_lt.mpr h2), kmk_drop_min]
    congr 1
    omega
end
noncomputable def Ones (sg : List Str) : Prop := (∀ x ∈ sg, x.length = 1) ∧ sg.length ≤ 4000
theorem Ones.take {sg : List Str} (h : Ones sg) (n : Nat) : Ones (sg.take n) := ⟨fun x hx => h.1 x (List.mem_of_mem_take hx), by rw [List.length_take]; have := h.2; omega⟩
theorem Ones.drop {sg : List Str} (h : Ones sg) (n : Nat) : Ones (sg.drop n) := ⟨fun x hx => h.1 x (List.mem_of_mem_drop hx), by rw [List.length_drop]; have := h.2; omega⟩
theorem Ones.weight {sg : List Str} (h : Ones sg) : (sg.map (·.length)).sum + sg.length ≤ 1048576 := by
  have e : (sg.map (·.length)).sum = sg.length := by
    have h1 := h.1
    clear h
    induction sg with
    | nil => rfl
    | cons x r ih =>
      rw [List.map_cons, List.sum_cons, h1 x (.head _), ih fun y hy => h1 y (.tail _ hy), List.length_cons]
      omega
  have := h.2
  omega
/-- where the sign ' stands -/
noncomputable def tkAt (sg : List Str) (k : Nat) : Bool := sg.getD k Str.empty == Str.ofString "'"
noncomputable def tks (sg : List Str) : List Int := ((List.range sg.length).filter (tkAt sg)).map fun k : Nat => (k : Int)
theorem tks_ge (sg : List Str) (k : Nat) : 0 ≤ (tks sg).getD k 0 := by
  have h : ∀ x ∈ tks sg, 0 ≤ x := by
    intro x hx
    obtain ⟨j, _, rfl⟩ := List.mem_map.mp hx
    omega
  rw [List.getD_eq_getElem?_getD]
  cases e : (tks sg)[k]? with
  | none => exact Int.le_refl _
  | some x => exact h x (List.mem_of_getElem? e)
theorem tks_le (sg : List Str) (k : Nat) : (tks sg).getD k 0 ≤ sg.length := by
  have h : ∀ x ∈ tks sg, x ≤ sg.length := by
    intro x hx
    obtain ⟨j, hj, rfl⟩ := List.mem_map.mp hx
    have := (List.mem_filter.mp hj).1
    rw [List.mem_range] at this
    omega
  rw [List.getD_eq_getElem?_getD]
  cases e : (tks sg)[k]? with
  | none => simp
  | some x => exact h x (List.mem_of_getElem? e)
noncomputable def apP (j k : Int) : Bool := decide (0 < j) && decide (j + 1 < k)
noncomputable def apIn (l : List Int) (j : Int) (n : Nat) : List Int := ((l.take n).filter (apP j)).map fun _ => j
noncomputable def apA (l : List Int) : Nat → List Int
  | 0 => []
  | i + 1 => apA l i ++ (match l[i]? with
    | some j => apIn l j l.length
    | none => [])
theorem apIn_yes {l : List Int} {j x : Int} {k : Nat} (h : l[k]? = some x) (h1 : 0 < j) (h2 : j + 1 < x) : apIn l j (k + 1) = apIn l j k ++ [j] := by
  unfold apIn apP
  rw [List.take_add_one, h]
  simp [List.filter_append, h1, h2]
theorem apIn_no1 {l : List Int} {j : Int} {k : Nat} (h1 : ¬ 0 < j) : apIn l j (k + 1) = apIn l j k := by
  have e : ∀ m : List Int, m.filter (apP j) = [] := fun m => by
    rw [List.filter_eq_nil_iff]
    intro a _
    simp [apP, h1]
  unfold apIn
  rw [e, e]
theorem apIn_no2 {l : List Int} {j x : Int} {k : Nat} (h : l[k]? = some x) (h2 : ¬ j + 1 < x) : apIn l j (k + 1) = apIn l j k := by
  unfold apIn apP
  rw [List.take_add_one, h]
  simp [List.filter_append, h2]
theorem apIn_len (l : List Int) (j : Int) (n : Nat) : (apIn l j n).length ≤ l.length := by
  unfold apIn
  rw [List.length_map]
  have h1 := List.length_filter_le (apP j) (l.take n)
  rw [List.length_take] at h1
  omega
theorem apA_len (l : List Int) : ∀ i, (apA l i).length ≤ l.length * i
  | 0 => by simp [apA]
  | i + 1 => by
    have h := apA_len l i
    unfold apA
    rw [List.length_append, Nat.mul_succ]
    split
    · rename_i j _
      have := apIn_len l j l.length
      omega
    · simp; omega
theorem apA_ok {l : List Int} {i : Nat} {j : Int} {k : Nat} (hl : l.length ≤ 4000) (hi : i < l.length) : (apA l i ++ apIn l j k).length ≤ 16777216 := by
  have h1 := apA_len l i
  have h2 := apIn_len l j k
  have h3 : l.length * i ≤ 4000 * 4000 := Nat.mul_le_mul hl (by omega)
  rw [List.length_append]
  omega
theorem apA_next {l : List Int} {i : Nat} {j : Int} (h : l[i]? = some j) : apA l (i + 1) = apA l i ++ apIn l j l.length := by
  show apA l i ++ _ = _
  rw [h]
end Mine
end
section
open PySem PySem.W PyProof.Rows PySem.Spec PySem.Calls
namespace Mine
set_option maxRecDepth 100000
theorem strs_carried : ∀ {vs : List Value} {xs : List Str}, StrsAre vs xs → CarriedAll vs (xs.map PyData.str)
  | _, _, .nil => .nil
  | _, _, .cons _ t r => .cons (.str _ t) (strs_carried r)
theorem strs_lay : ∀ {xs : List Str}, (∀ x ∈ xs, PyData.strOk x = true) → PyData.canLayAll0 (xs.map PyData.str) = true
  | [], _ => rfl
  | x :: r, h => by
    have h1 := h x (.head _)
    have h2 := strs_lay fun y hy => h y (.tail _ hy)
    simp [PyData.canLayAll0, PyData.canLay0, h1, h2]
theorem strs_depth : ∀ xs : List Str, PyData.depthAll (xs.map PyData.str) = 0
  | [] => rfl
  | _ :: r => by simp [PyData.depthAll, PyData.depth, strs_depth r]
theorem strs_shaped {xs : List Str} (h : ∀ x ∈ xs, PyData.strOk x = true) : SeqAt.shaped (.list (xs.map PyData.str)) = true := by
  simp [SeqAt.shaped, PyData.canLay0, PyData.depth, strs_lay h, strs_depth]
theorem strs_eqv : ∀ xs : List Str, PyData.eqvAll (xs.map PyData.str) (xs.map PyData.str) = true
  | [] => rfl
  | x :: r => by simp [PyData.eqvAll, PyData.eqv, strs_eqv r]
section
variable {prog : Program} {w : World} {A : Around} {E : Value → Shared → Prop} {s : Shared} {l r : Addr} {vs ws : List Value} {Q : Value → Shared → Prop}
theorem eq_strs {xs : List Str} (hl : s.heap.IsList l vs.toArray) (hr : s.heap.IsList r ws.toArray) (hv : StrsAre vs xs) (hw : StrsAre ws xs) (hok : ∀ x ∈ xs, PyData.strOk x = true) (hu : A.units + 64 < cLine) (h : Q (.bool true) s) :
    wpAny (model prog w) A (compareOp .Eq (.ref l) (.ref r)) Q E s := by
  refine eq_dataH (reads_newData hl (strs_carried hv)) (reads_newData hr (strs_carried hw)) (strs_shaped hok) (strs_shaped hok) hu ?_
  have e : PyData.eqv (.list (xs.map PyData.str)) (.list (xs.map PyData.str)) = true := by
    show PyData.eqv _ _ = true
    rw [PyData.eqv]; exact strs_eqv xs
  rw [e]; exact h
theorem eq_nnx {x : Str} {t u : Tok} (hl : IsTup s.heap l #[.none, .none, .str x t]) (hr : IsTup s.heap r #[.none, .none, .str x u]) (hok : PyData.strOk x = true) (hu : A.units + 64 < cLine) (h : Q (.bool true) s) :
    wpAny (model prog w) A (compareOp .Eq (.ref l) (.ref r)) Q E s := by
  have hc : ∀ t, CarriedAll [.none, .none, .str x t] [.none, .none, .str x] := fun t => .cons .none (.cons .none (.cons (.str _ _) .nil))
  have hs : SeqAt.shaped (.tuple [.none, .none, .str x]) = true := by
    simp [SeqAt.shaped, PyData.canLay0, PyData.canLayAll0, PyData.depth, PyData.depthAll, hok]
  refine eq_dataH (reads_newDataT hl (hc _)) (reads_newDataT hr (hc _)) hs hs hu ?_
  have e : PyData.eqv (.tuple [.none, .none, .str x]) (.tuple [.none, .none, .str x]) = true := by
    simp [PyData.eqv, PyData.eqvAll]
  rw [e]; exact h
theorem eq_bools3 {a1 a2 a3 b1 b2 b3 : Bool} (hl : s.heap.IsList l #[.bool a1, .bool a2, .bool a3]) (hr : s.heap.IsList r #[.bool b1, .bool b2, .bool b3]) (hu : A.units + 64 < cLine) (e1 : a1 = b1) (e2 : a2 = b2) (e3 : a3 = b3) (h : Q (.bool true) s) :
    wpAny (model prog w) A (compareOp .Eq (.ref l) (.ref r)) Q E s := by
  have hc : ∀ a b c : Bool, CarriedAll [.bool a, .bool b, .bool c] [.bool a, .bool b, .bool c] := fun a b c => .cons (.bool _) (.cons (.bool _) (.cons (.bool _) .nil))
  have hs : ∀ a b c : Bool, SeqAt.shaped (.list [.bool a, .bool b, .bool c]) = true := fun a b c => by
    simp [SeqAt.shaped, PyData.canLay0, PyData.canLayAll0, PyData.depth, PyData.depthAll]
  refine eq_dataH (reads_newData hl (hc _ _ _)) (reads_newData hr (hc _ _ _)) (hs _ _ _) (hs _ _ _) hu ?_
  subst e1 e2 e3
  have e : PyData.eqv (.list [.bool a1, .bool a2, .bool a3]) (.list [.bool a1, .bool a2, .bool a3]) = true := by
    simp [PyData.eqv, PyData.eqvAll]
  rw [e]; exact h
theorem ne_nil_ints {ns : List Int} (hl : s.heap.IsList l vs.toArray) (hr : s.heap.IsList r #[]) (hi : IntsAre vs ns) (hu : A.units + 64 < cLine) (h : Q (.bool (!ns.isEmpty)) s) :
    wpAny (model prog w) A (compareOp .NotEq (.ref l) (.ref r)) Q E s := by
  refine ke_ne_ints (ms := []) hl (ys := []) hr hi .nil hu ?_
  have e : decide (ns = []) = ns.isEmpty := by cases ns <;> rfl
  rw [e]; exact h
theorem item_last {value slice : Expr} {ys : List Str} {u : Tok} {Q : Value → Shared → Prop} (hl : s.heap.IsList l vs.toArray) (hp : StrsAre vs ys) (hb : 1 ≤ ys.length)
    (h : ∀ t, Q (.str (ys.getD (ys.length - 1) Str.empty) t) s)
    (hs : subscripted slice false (.ref l) (.int (-1) u) = operate [.ref l, .int (-1) u] (getItem (.ref l) (.int (-1) u)) := by with_unfolding_all rfl) (hg : ∀ r, letTemporaryGo value (.ref l) r = pure () := by intro _; with_unfolding_all rfl) :
    wpAny (model prog w) A (subscriptTail value slice (.ref l) (.int (-1) u)) Q E s := by
  obtain ⟨x, t, e1, e2⟩ : ∃ x t, ys[ys.length - 1]? = some x ∧ vs[ys.length - 1]? = some (.str x t) := by
    clear h hs hl
    have key : ∀ {vs : List Value} {ys : List Str} (_ : StrsAre vs ys) (i : Nat), i < ys.length → ∃ x t, ys[i]? = some x ∧ vs[i]? = some (.str x t) := by
      intro vs ys h
      induction h with
      | nil => intro i h; exact absurd h (Nat.not_lt_zero _)
      | cons x t _ ih =>
        intro i hi
        cases i with
        | zero => exact ⟨x, t, rfl, rfl⟩
        | succ i => simpa using ih i (by simpa using hi)
    exact key hp _ (by omega)
  have e3 : ys.getD (ys.length - 1) Str.empty = x := by rw [List.getD_eq_getElem?_getD, e1]; rfl
  have h' := h t
  rw [e3] at h'
  have hv : vs.length = ys.length := strs_length hp
  refine kde_neg (j := ys.length - 1) hl (by decide) (by decide) ?_ e2 h' hs
  rw [hv]
  unfold seqIndex?
  have e0 : (if (-1 : Int) < 0 then (-1 : Int) + (ys.length : Int) else -1) = -1 + (ys.length : Int) := if_pos (by decide)
  have e : (decide (0 ≤ (-1 : Int) + (ys.length : Int)) && decide ((-1 : Int) + (ys.length : Int) < (ys.length : Int))) = true := by
    rw [Bool.and_eq_true, decide_eq_true_eq, decide_eq_true_eq]; omega
  dsimp only
  rw [e0, if_pos e]
  congr 1
  omega
end
/-- what the plain law gives for the octets -/
structure Fits (sg : List Str) (tx : Str) : Prop where
  ones : Ones sg
  sg1 : 1 ≤ sg.length
  len1 : 1 ≤ tx.length
  len2 : tx.length ≤ 1000
  joined : Txt.join (Str.ofString "") sg = tx
  few : (split2 tx).length ≤ 2 → ¬ 1 < (((List.range sg.length).filter (tkAt sg)).length : Int)
  many : ¬ (split2 tx).length ≤ 2 → 1 < (((List.range sg.length).filter (tkAt sg)).length : Int)
  three : 1 < (((List.range sg.length).filter (tkAt sg)).length : Int) → split2 tx = [Txt.join (Str.ofString "") (sg.take ((tks sg).getD (Int.toNat 0) 0).toNat),
      Txt.join (Str.ofString "") ((sg.drop ((tks sg).getD (Int.toNat 0) 0 + 1).toNat).take (min ((tks sg).getD (Int.toNat 1) 0).toNat sg.length - ((tks sg).getD (Int.toNat 0) 0 + 1).toNat)), Txt.join (Str.ofString "") (sg.drop ((tks sg).getD (Int.toNat 1) 0 + 1).toNat)]
  ok1 : PyData.strOk tx = true
  ok2 : ∀ x ∈ split2 tx, PyData.strOk x = true
  row1 : takes row_tr1 tx.cps.toList = decide (1 < (((List.range sg.length).filter (tkAt sg)).length : Int))
  row2 : takes row_tr2 tx.cps.toList = !(apA (tks sg) (tks sg).length).isEmpty
  row3 : takes row_tr3 tx.cps.toList = (!(tks sg).isEmpty && (sg.getD (sg.length - 1) Str.empty == Str.ofString "="))
end Mine
end
section
open PySem PySem.W PyProof.Rows PySem.Spec PySem.Calls
namespace Mine
/-- a piece takes a sign -/
noncomputable def pcT (o : Option Str) (c : Nat) : Bool := match o with
  | none => true
  | some x => Str.ofString "any" == x || (⟨#[c]⟩ : Str) == x
noncomputable def Mt : List (Option Str) → List Nat → Bool
  | [], [] => true
  | [], _ :: _ => false
  | none :: ps, [] => Mt ps []
  | none :: ps, c :: cs => Mt ps (c :: cs) || Mt (none :: ps) cs
  | some _ :: _, [] => false
  | some x :: ps, c :: cs => (Str.ofString "any" == x || (⟨#[c]⟩ : Str) == x) && Mt ps cs
theorem mt_none_skip (ps : List (Option Str)) (cs : List Nat) (h : Mt ps cs = true) : Mt (none :: ps) cs = true := by
  cases cs with
  | nil => simp [Mt, h]
  | cons c cs => simp [Mt, h]
/-- some place in the list goes on to the end -/
noncomputable def Any (ps : List (Option Str)) (pl : List Int) (cs : List Nat) : Prop := ∃ j ∈ pl, 0 ≤ j ∧ j ≤ ps.length ∧ Mt (ps.drop j.toNat) cs = true
theorem drop_at {ps : List (Option Str)} {j : Nat} {o : Option Str} (h : ps[j]? = some o) : ps.drop j = o :: ps.drop (j + 1) := by
  obtain ⟨hl, e⟩ := List.getElem?_eq_some_iff.mp h
  rw [List.drop_eq_getElem_cons hl, e]
theorem closeJ_sub (ps : List (Option Str)) (pl : List Int) (j : Nat) : ∀ k ∈ pl, k ∈ closeJ ps pl j := by
  intro k hk
  unfold closeJ
  split
  · exact List.mem_append_left _ hk
  · exact hk
theorem closeUp_sub (ps : List (Option Str)) (pl : List Int) : ∀ n, ∀ k ∈ pl, k ∈ closeUp ps pl n
  | 0, k, h => h
  | n + 1, k, h => closeJ_sub _ _ _ _ (closeUp_sub ps pl n k h)
theorem closeUp_mono (ps : List (Option Str)) (pl : List Int) (n : Nat) : ∀ m, n ≤ m → ∀ k ∈ closeUp ps pl n, k ∈ closeUp ps pl m := by
  intro m hm
  induction m with
  | zero => obtain rfl : n = 0 := by omega
            exact fun k h => h
  | succ m ih =>
    intro k h
    rcases Nat.lt_or_ge n (m + 1) with hl | hl
    · exact closeJ_sub _ _ _ _ (ih (by omega) k h)
    · obtain rfl : n = m + 1 := by omega
      exact h
/-- after the turns the places are closed -/
theorem closeUp_closed (ps : List (Option Str)) (pl : List Int) (j : Nat) (hj : j < ps.length) (hn : ps[j]? = some none) (h : (j : Int) ∈ closeUp ps pl ps.length) (hb : ∀ k ∈ pl, 0 ≤ k) :
    (j : Int) + 1 ∈ closeUp ps pl ps.length := by
  -- j was there at turn j already
  have hin : (j : Int) ∈ closeUp ps pl j := by
    have key : ∀ m, j ≤ m → (j : Int) ∈ closeUp ps pl m → (j : Int) ∈ closeUp ps pl j := by
      intro m hm
      induction m with
      | zero => obtain rfl : j = 0 := by omega
                exact fun h => h
      | succ m ih =>
        intro h
        rcases Nat.lt_or_ge m j with hl | hl
        · obtain rfl : j = m + 1 := by omega
          exact h
        · refine ih hl ?_
          unfold closeUp closeJ at h
          split at h
          · rcases List.mem_append.mp h with h | h
            · exact h
            · have := List.mem_singleton.mp h
              omega
          · exact h
    exact key _ (by omega) h
  refine closeUp_mono ps pl (j + 1) _ (by omega) _ ?_
  unfold closeUp closeJ
  by_cases hx : (j : Int) + 1 ∈ closeUp ps pl j
  · split
    · exact List.mem_append_left _ hx
    · exact hx
  · rw [if_pos ⟨hin, hx, hn⟩]
    exact List.mem_append_right _ (List.mem_singleton.mpr rfl)
theorem any_close1 (ps : List (Option Str)) (pl : List Int) (cs : List Nat) (j : Nat) (h : Any ps (closeJ ps pl j) cs) : Any ps pl cs := by
  obtain ⟨k, hk, h0, h1, hm⟩ := h
  unfold closeJ at hk
  split at hk
  · rename_i hc
    rcases List.mem_append.mp hk with hk | hk
    · exact ⟨k, hk, h0, h1, hm⟩
    · obtain rfl := List.mem_singleton.mp hk
      refine ⟨(j : Int), hc.1, by omega, by omega, ?_⟩
      rw [show ((j : Int) + 1).toNat = j + 1 by omega] at hm
      rw [show ((j : Int)).toNat = j by omega, drop_at hc.2.2]
      exact mt_none_skip _ _ hm
  · exact ⟨k, hk, h0, h1, hm⟩
theorem any_closeUp (ps : List (Option Str)) (pl : List Int) (cs : List Nat) : ∀ n, Any ps (closeUp ps pl n) cs ↔ Any ps pl cs
  | 0 => Iff.rfl
  | n + 1 => by
    refine ⟨fun h => (any_closeUp ps pl cs n).mp (any_close1 _ _ _ _ h), ?_⟩
    rintro ⟨k, hk, r⟩
    exact ⟨k, closeUp_sub _ _ _ _ hk, r⟩
/-- one sign -/
theorem any_sign (ps : List (Option Str)) (pl : List Int) (c : Nat) (cs : List Nat) (hb : ∀ k ∈ pl, 0 ≤ k ∧ k ≤ ps.length) :
    Any ps (((closeUp ps pl ps.length).filter (fitsAt ps c)).map (goOn ps)) cs ↔ Any ps (closeUp ps pl ps.length) (c :: cs) := by
  have hbc := closeUp_in ps pl hb ps.length (Nat.le_refl _)
  constructor
  · rintro ⟨k, hk, h0, h1, hm⟩
    obtain ⟨j, hj, rfl⟩ := List.mem_map.mp hk
    obtain ⟨hj1, hj2⟩ := List.mem_filter.mp hj
    obtain ⟨b0, b1⟩ := hbc j hj1
    refine ⟨j, hj1, b0, b1, ?_⟩
    unfold fitsAt at hj2
    rw [Bool.and_eq_true, decide_eq_true_eq] at hj2
    have hl : j.toNat < ps.length := by omega
    have ho := List.getElem?_eq_getElem hl
    generalize ps[j.toNat] = o at ho
    rw [ho] at hj2
    unfold goOn at hm
    rw [drop_at ho]
    cases o with
    | none =>
      rw [if_pos ho, drop_at ho] at hm
      simp [Mt, hm]
    | some x =>
      rw [if_neg (by rw [ho]; simp), show (j + 1).toNat = j.toNat + 1 by omega] at hm
      simp only [Mt, hm, Bool.and_true]
      exact hj2.2
  · rintro ⟨j, hj, h0, h1, hm⟩
    -- by how far j is from the end
    have key : ∀ (n : Nat) (j : Int), n = ps.length - j.toNat → j ∈ closeUp ps pl ps.length → 0 ≤ j → j ≤ ps.length → Mt (ps.drop j.toNat) (c :: cs) = true → Any ps (((closeUp ps pl ps.length).filter (fitsAt ps c)).map (goOn ps)) cs := by
      intro n
      induction n with
      | zero =>
        intro j hn hj h0 h1 hm
        rw [List.drop_eq_nil_of_le (by omega)] at hm
        simp [Mt] at hm
      | succ n ih =>
        intro j hn hj h0 h1 hm
        have hl : j.toNat < ps.length := by omega
        have ho := List.getElem?_eq_getElem hl
        generalize ps[j.toNat] = o at ho
        rw [drop_at ho] at hm
        cases o with
        | none =>
          have hm2 : Mt (ps.drop (j.toNat + 1)) (c :: cs) = true ∨ Mt (none :: ps.drop (j.toNat + 1)) cs = true := by simpa [Mt] using hm
          rcases hm2 with hm2 | hm2
          · have hcl := closeUp_closed ps pl j.toNat hl ho (by rwa [Int.toNat_of_nonneg h0]) (fun k hk => (hb k hk).1)
            rw [Int.toNat_of_nonneg h0] at hcl
            exact ih (j + 1) (by omega) hcl (by omega) (by omega) (by rwa [show (j + 1).toNat = j.toNat + 1 by omega])
          · refine ⟨j, List.mem_map.mpr ⟨j, List.mem_filter.mpr ⟨hj, fits_none (by omega) ho⟩, ?_⟩, h0, h1, ?_⟩
            · exact (goOn_none ho).symm
            · rw [drop_at ho]; exact hm2
        | some x =>
          simp only [Mt, Bool.and_eq_true] at hm
          refine ⟨j + 1, List.mem_map.mpr ⟨j, List.mem_filter.mpr ⟨hj, ?_⟩, (goOn_val ho).symm⟩, by omega, by omega, ?_⟩
          · unfold fitsAt
            rw [ho]
            simp only [Bool.and_eq_true, decide_eq_true_eq]
            exact ⟨by omega, hm.1⟩
          · rw [show (j + 1).toNat = j.toNat + 1 by omega]; exact hm.2
    exact key _ j rfl hj h0 h1 hm
theorem any_at (ps : List (Option Str)) (cs : List Nat) : ∀ i, i ≤ cs.length → (Any ps (plAt ps cs i) (cs.drop i) ↔ Mt ps cs = true) := by
  intro i
  induction i with
  | zero =>
    intro _
    show Any ps [0] (cs.drop 0) ↔ _
    rw [List.drop_zero]
    constructor
    · rintro ⟨j, hj, _, _, hm⟩
      obtain rfl := List.mem_singleton.mp hj
      exact hm
    · intro h
      exact ⟨0, List.mem_singleton.mpr rfl, by omega, by omega, h⟩
  | succ i ih =>
    intro hi
    have hl : i < cs.length := by omega
    have e := List.getElem?_eq_getElem hl
    rw [← ih (by omega), List.drop_eq_getElem_cons hl]
    show Any ps (turnK ps (plAt ps cs i) cs[i]?) _ ↔ _
    rw [e]
    show Any ps (((closeUp ps _ ps.length).filter (fitsAt ps cs[i])).map (goOn ps)) _ ↔ _
    rw [any_sign ps _ _ _ (plAt_in ps cs i), any_closeUp]
theorem mt_nil_end (ps : List (Option Str)) (pl : List Int) (hb : ∀ k ∈ pl, 0 ≤ k ∧ k ≤ ps.length) : Any ps (closeUp ps pl ps.length) [] ↔ (ps.length : Int) ∈ closeUp ps pl ps.length := by
  constructor
  · rintro ⟨j, hj, h0, h1, hm⟩
    have key : ∀ (n : Nat) (j : Int), n = ps.length - j.toNat → j ∈ closeUp ps pl ps.length → 0 ≤ j → j ≤ ps.length → Mt (ps.drop j.toNat) [] = true → (ps.length : Int) ∈ closeUp ps pl ps.length := by
      intro n
      induction n with
      | zero =>
        intro j hn hj h0 h1 hm
        rwa [show (ps.length : Int) = j by omega]
      | succ n ih =>
        intro j hn hj h0 h1 hm
        have hl : j.toNat < ps.length := by omega
        have ho := List.getElem?_eq_getElem hl
        generalize ps[j.toNat] = o at ho
        rw [drop_at ho] at hm
        cases o with
        | none =>
          have hcl := closeUp_closed ps pl j.toNat hl ho (by rwa [Int.toNat_of_nonneg h0]) (fun k hk => (hb k hk).1)
          rw [Int.toNat_of_nonneg h0] at hcl
          exact ih (j + 1) (by omega) hcl (by omega) (by omega) (by rw [show (j + 1).toNat = j.toNat + 1 by omega]; simpa [Mt] using hm)
        | some x => simp [Mt] at hm
    exact key _ j rfl hj h0 h1 hm
  · intro h
    exact ⟨_, h, by omega, by omega, by rw [List.drop_eq_nil_of_le (by omega)]; simp [Mt]⟩
theorem takes_mt (ps : List (Option Str)) (cs : List Nat) : takes ps cs = Mt ps cs := by
  have h1 := any_at ps cs cs.length (Nat.le_refl _)
  rw [List.drop_length, ← any_closeUp ps _ _ ps.length, mt_nil_end ps _ (plAt_in ps cs _)] at h1
  have e : cs[cs.length]? = none := List.getElem?_eq_none (Nat.le_refl _)
  have h2 : takes ps cs = true ↔ Mt ps cs = true := by
    unfold takes
    rw [List.any_eq_true, ← h1]
    show (∃ x, x ∈ turnK ps (plAt ps cs cs.length) cs[cs.length]? ∧ _) ↔ _
    rw [e]
    show (∃ x, x ∈ closeUp ps (plAt ps cs cs.length) ps.length ∧ _) ↔ _
    simp
  cases ht : takes ps cs <;> cases hm : Mt ps cs <;> simp [ht, hm] at h2 ⊢
end Mine
end
section
open PySem PySem.W PyProof.Rows PySem.Spec PySem.Calls
namespace Mine
/-- the sixes of the octets -/
noncomputable def E6 : List UInt8 → List Int
  | [] => []
  | [a] => [(a.toNat : Int) / 4, (a.toNat : Int) % 4 * 16]
  | [a, b] => [(a.toNat : Int) / 4, (a.toNat : Int) % 4 * 16 + (b.toNat : Int) / 16, (b.toNat : Int) % 16 * 4]
  | a :: b :: c :: r => (a.toNat : Int) / 4 :: ((a.toNat : Int) % 4 * 16 + (b.toNat : Int) / 16) :: ((b.toNat : Int) % 16 * 4 + (c.toNat : Int) / 64) :: (c.toNat : Int) % 64 :: E6 r
noncomputable def P6 : List UInt8 → Nat
  | [] => 0
  | [_] => 2
  | [_, _] => 1
  | _ :: _ :: _ :: r => P6 r
theorem or256 {x : Int} {c : Nat} (hx : 0 ≤ x) (hc : c < 256) : Builtin.bitOr (x * 2 ^ Int.toNat 8) (c : Int) = x * 256 + c := by
  have h2 : (2 : Int) ^ Int.toNat 8 = 256 := by decide
  rw [h2, bitOr_and]
  have e : Builtin.bitAnd (x * 256) (c : Int) = 0 := by
    rw [bitAnd_pp (by omega) (by omega)]
    have e1 : (x * 256).toNat = 2 ^ 8 * x.toNat := by
      obtain ⟨n, rfl⟩ := Int.eq_ofNat_of_zero_le hx
      rw [Int.toNat_natCast, show (2 ^ 8 : Nat) = 256 from rfl]
      omega
    have e2 : ((c : Int)).toNat = c := Int.toNat_natCast c
    rw [e1, e2]
    have h := nat_or_add_and (2 ^ 8 * x.toNat) c
    rw [← Nat.two_pow_add_eq_or_of_lt (i := 8) (by omega)] at h
    have : 2 ^ 8 * x.toNat &&& c = 0 := by omega
    rw [this]; rfl
  rw [e]; omega
theorem b2x_eq {lc : Int} {c : UInt8} (h : 0 ≤ lc) : b2x lc c = (lc * 256 + (c.toNat : Int)) % 65536 := by
  have hc : c.toNat < 256 := c.toNat_lt
  show Builtin.bitAnd (Builtin.bitOr (lc * 2 ^ Int.toNat 8) (c.toNat : Int)) 65535 = _
  rw [bitAnd_m16, or256 h hc]
theorem b2y_2 (x : Int) : b2y x 2 = b64c (x / 4 % 64) := by
  show b64c (Builtin.bitAnd (x.fdiv (2 ^ Int.toNat 2)) 63) = _
  rw [bitAnd_m6, show (2 : Int) ^ Int.toNat 2 = 4 by decide, Int.fdiv_eq_ediv_of_nonneg _ (by decide)]
theorem b2y_4 (x : Int) : b2y x 4 = b64c (x / 16 % 64) := by
  show b64c (Builtin.bitAnd (x.fdiv (2 ^ Int.toNat 4)) 63) = _
  rw [bitAnd_m6, show (2 : Int) ^ Int.toNat 4 = 16 by decide, Int.fdiv_eq_ediv_of_nonneg _ (by decide)]
theorem b2y_6 (x : Int) : b2y x 6 = b64c (x / 64 % 64) := by
  show b64c (Builtin.bitAnd (x.fdiv (2 ^ Int.toNat 6)) 63) = _
  rw [bitAnd_m6, show (2 : Int) ^ Int.toNat 6 = 64 by decide, Int.fdiv_eq_ediv_of_nonneg _ (by decide)]
theorem b2y_0 (x : Int) : b2y x 0 = b64c (x % 64) := by
  show b64c (Builtin.bitAnd (x.fdiv (2 ^ Int.toNat 0)) 63) = _
  rw [bitAnd_m6, show (2 : Int) ^ Int.toNat 0 = 1 by decide, Int.fdiv_one]
theorem step0 {out : List Int} {lc : Int} (a : UInt8) (h : 0 ≤ lc) : b2step ⟨out, lc, 0⟩ a = ⟨out ++ [b64c ((a.toNat : Int) / 4)], (lc * 256 + (a.toNat : Int)) % 65536, 2⟩ := by
  have ha : a.toNat < 256 := a.toNat_lt
  rw [b2step_0, show (0 + 8 - 6 : Int) = 2 by decide, b2y_2, b2x_eq h]
  rw [show (lc * 256 + (a.toNat : Int)) % 65536 / 4 % 64 = (a.toNat : Int) / 4 by omega]
theorem step2 {out : List Int} {lc : Int} (b : UInt8) (h : 0 ≤ lc) : b2step ⟨out, lc, 2⟩ b = ⟨out ++ [b64c (lc % 4 * 16 + (b.toNat : Int) / 16)], (lc * 256 + (b.toNat : Int)) % 65536, 4⟩ := by
  have hb : b.toNat < 256 := b.toNat_lt
  rw [b2step_2, show (2 + 8 - 6 : Int) = 4 by decide, b2y_4, b2x_eq h]
  rw [show (lc * 256 + (b.toNat : Int)) % 65536 / 16 % 64 = lc % 4 * 16 + (b.toNat : Int) / 16 by omega]
theorem step4 {out : List Int} {lc : Int} (c : UInt8) (h : 0 ≤ lc) : b2step ⟨out, lc, 4⟩ c = ⟨out ++ [b64c (lc % 16 * 4 + (c.toNat : Int) / 64), b64c ((c.toNat : Int) % 64)], (lc * 256 + (c.toNat : Int)) % 65536, 0⟩ := by
  have hc : c.toNat < 256 := c.toNat_lt
  rw [b2step_4, show (4 + 8 - 6 : Int) = 6 by decide, show (6 - 6 : Int) = 0 by decide, b2y_6, b2y_0, b2x_eq h]
  rw [show (lc * 256 + (c.toNat : Int)) % 65536 / 64 % 64 = lc % 16 * 4 + (c.toNat : Int) / 64 by omega, show (lc * 256 + (c.toNat : Int)) % 65536 % 64 = (c.toNat : Int) % 64 by omega]
theorem run_E6 : ∀ (l : List UInt8) (out : List Int) (lc : Int), 0 ≤ lc → b2fin (l.foldl b2step ⟨out, lc, 0⟩) = out ++ (E6 l).map b64c ++ List.replicate (P6 l) 61
  | [], out, lc, _ => by rw [List.foldl_nil, b2fin_0]; simp [E6, P6]
  | [a], out, lc, h => by
    have ha : a.toNat < 256 := a.toNat_lt
    rw [List.foldl_cons, step0 a h, List.foldl_nil, b2fin_2, bitAnd_m2, show (2 : Int) ^ Int.toNat 4 = 16 by decide]
    rw [show (lc * 256 + (a.toNat : Int)) % 65536 % 4 = (a.toNat : Int) % 4 by omega]
    simp [E6, P6, List.replicate]
  | [a, b], out, lc, h => by
    have ha : a.toNat < 256 := a.toNat_lt
    have hb : b.toNat < 256 := b.toNat_lt
    rw [List.foldl_cons, step0 a h, List.foldl_cons, step2 b (by omega), List.foldl_nil, b2fin_4, bitAnd_m4, show (2 : Int) ^ Int.toNat 2 = 4 by decide]
    rw [show (lc * 256 + (a.toNat : Int)) % 65536 % 4 = (a.toNat : Int) % 4 by omega]
    rw [show ((lc * 256 + (a.toNat : Int)) % 65536 * 256 + (b.toNat : Int)) % 65536 % 16 = (b.toNat : Int) % 16 by omega]
    simp [E6, P6, List.replicate]
  | a :: b :: c :: r, out, lc, h => by
    have ha : a.toNat < 256 := a.toNat_lt
    have hb : b.toNat < 256 := b.toNat_lt
    have hc : c.toNat < 256 := c.toNat_lt
    rw [List.foldl_cons, step0 a h, List.foldl_cons, step2 b (by omega), List.foldl_cons, step4 c (by omega)]
    rw [show (lc * 256 + (a.toNat : Int)) % 65536 % 4 = (a.toNat : Int) % 4 by omega]
    rw [show ((lc * 256 + (a.toNat : Int)) % 65536 * 256 + (b.toNat : Int)) % 65536 % 16 = (b.toNat : Int) % 16 by omega]
    rw [run_E6 r _ _ (by omega)]
    simp [E6, P6]
theorem E6_in : ∀ (l : List UInt8), ∀ k ∈ E6 l, 0 ≤ k ∧ k < 64
  | [] => by simp [E6]
  | [a] => by
    have ha : a.toNat < 256 := a.toNat_lt
    simp only [E6, List.forall_mem_cons, List.not_mem_nil, false_imp_iff, implies_true, and_true]
    omega
  | [a, b] => by
    have ha : a.toNat < 256 := a.toNat_lt
    have hb : b.toNat < 256 := b.toNat_lt
    simp only [E6, List.forall_mem_cons, List.not_mem_nil, false_imp_iff, implies_true, and_true]
    omega
  | a :: b :: c :: r => by
    have ha : a.toNat < 256 := a.toNat_lt
    have hb : b.toNat < 256 := b.toNat_lt
    have hc : c.toNat < 256 := c.toNat_lt
    have h := E6_in r
    simp only [E6, List.forall_mem_cons]
    exact ⟨by omega, by omega, by omega, by omega, h⟩
theorem b64B_eq (b : Array UInt8) : b64B b = ((E6 b.toList).map b64c ++ List.replicate (P6 b.toList) 61).map fun n : Int => n.toNat.toUInt8 := by
  unfold b64B b2run
  rw [run_E6 _ _ _ (by decide), List.nil_append]
end Mine
end
section
open PySem PySem.W PyProof.Rows PySem.Spec PySem.Calls
namespace Mine
theorem bitI_eq (c : UInt8) (k : Nat) (h : k < 8) : bitI c k = ((c.toNat / 2 ^ (7 - k) % 2 : Nat) : Int) := by
  unfold bitI
  have e : (7 - (0 + (k : Int))).toNat = 7 - k := by omega
  rw [e, Int.fdiv_eq_ediv_of_nonneg _ (by exact Int.le_of_lt (Int.pow_pos (by decide))), Int.fmod_eq_emod_of_nonneg _ (by decide)]
  have e2 : (2 : Int) ^ (7 - k) = ((2 ^ (7 - k) : Nat) : Int) := by rw [Int.natCast_pow]; rfl
  rw [e2, ← Int.natCast_ediv]
  rfl
/-- the eight bits -/
noncomputable def bits8 (c : UInt8) : List Int := [((c.toNat / 128 % 2 : Nat) : Int), ((c.toNat / 64 % 2 : Nat) : Int), ((c.toNat / 32 % 2 : Nat) : Int), ((c.toNat / 16 % 2 : Nat) : Int), ((c.toNat / 8 % 2 : Nat) : Int), ((c.toNat / 4 % 2 : Nat) : Int), ((c.toNat / 2 % 2 : Nat) : Int), ((c.toNat / 1 % 2 : Nat) : Int)]
theorem bits8_eq (c : UInt8) : (List.range 8).map (fun k => bitI c k) = bits8 c := by
  show [bitI c 0, bitI c 1, bitI c 2, bitI c 3, bitI c 4, bitI c 5, bitI c 6, bitI c 7] = _
  rw [bitI_eq c 0 (by decide), bitI_eq c 1 (by decide), bitI_eq c 2 (by decide), bitI_eq c 3 (by decide), bitI_eq c 4 (by decide), bitI_eq c 5 (by decide), bitI_eq c 6 (by decide), bitI_eq c 7 (by decide)]
  rfl
theorem bitsB_cons (c : UInt8) (l : List UInt8) : bitsB (c :: l) = bits8 c ++ bitsB l := by
  unfold bitsB
  rw [List.flatMap_cons, bits8_eq]
theorem bitsB_nil : bitsB [] = [] := rfl
theorem six0 (a b c d e f : Int) (r : List Int) : sixI (a :: b :: c :: d :: e :: f :: r) 0 = a * 32 + b * 16 + c * 8 + d * 4 + e * 2 + f := by
  have h : sixI (a :: b :: c :: d :: e :: f :: r) 0 = a * 2 ^ 5 + (b * 2 ^ 4 + (c * 2 ^ 3 + (d * 2 ^ 2 + (e * 2 ^ 1 + (f * 2 ^ 0 + 0))))) := rfl
  rw [h, show (2 : Int) ^ 5 = 32 by decide, show (2 : Int) ^ 4 = 16 by decide, show (2 : Int) ^ 3 = 8 by decide, show (2 : Int) ^ 2 = 4 by decide, show (2 : Int) ^ 1 = 2 by decide, show (2 : Int) ^ 0 = 1 by decide]
  omega
theorem sixS (a b c d e f : Int) (r : List Int) (i : Nat) : sixI (a :: b :: c :: d :: e :: f :: r) (i + 1) = sixI r i := by
  have k : ∀ j : Nat, sixT (a :: b :: c :: d :: e :: f :: r) (i + 1) j = sixT r i j := by
    intro j
    unfold sixT
    have h1 : (0 + ((i + 1 : Nat) : Int) * 6 + (0 + (j : Int))).toNat = (i * 6 + j) + 6 := by omega
    have h2 : (0 + (i : Int) * 6 + (0 + (j : Int))).toNat = i * 6 + j := by omega
    rw [h1, h2]
    rfl
  unfold sixI
  rw [show (sixT (a :: b :: c :: d :: e :: f :: r) (i + 1)) = sixT r i from funext k]
/-- all the sixes of a list of bits -/
noncomputable def sixes (pb : List Int) : List Int := (List.range (pb.length / 6)).map (sixI pb)
theorem sixes_cons (a b c d e f : Int) (r : List Int) : sixes (a :: b :: c :: d :: e :: f :: r) = (a * 32 + b * 16 + c * 8 + d * 4 + e * 2 + f) :: sixes r := by
  unfold sixes
  have e1 : (a :: b :: c :: d :: e :: f :: r).length / 6 = r.length / 6 + 1 := by simp only [List.length_cons]; omega
  rw [e1, List.range_succ_eq_map, List.map_cons, six0, List.map_map]
  congr 1
  apply List.map_congr_left
  intro i _
  exact sixS ..
theorem sixes_nil : sixes [] = [] := rfl
/-- the noughts behind -/
noncomputable def zs (n : Nat) : List Int := (List.replicate ((-((8 * n : Nat) : Int)).fmod 6).toNat [(0 : Int)]).flatten
theorem zs_3 (n : Nat) : zs (n + 3) = zs n := by
  unfold zs
  rw [Int.fmod_eq_emod_of_nonneg _ (by decide), Int.fmod_eq_emod_of_nonneg _ (by decide)]
  have : (-((8 * (n + 3) : Nat) : Int)) % 6 = (-((8 * n : Nat) : Int)) % 6 := by omega
  rw [this]
theorem six_a {n : Nat} (h : n < 256) : ((n / 128 % 2 : Nat) : Int) * 32 + ((n / 64 % 2 : Nat) : Int) * 16 + ((n / 32 % 2 : Nat) : Int) * 8 + ((n / 16 % 2 : Nat) : Int) * 4 + ((n / 8 % 2 : Nat) : Int) * 2 + ((n / 4 % 2 : Nat) : Int) = (n : Int) / 4 := by omega
theorem six_b {n m : Nat} (h : n < 256) (h2 : m < 256) : ((n / 2 % 2 : Nat) : Int) * 32 + ((n / 1 % 2 : Nat) : Int) * 16 + ((m / 128 % 2 : Nat) : Int) * 8 + ((m / 64 % 2 : Nat) : Int) * 4 + ((m / 32 % 2 : Nat) : Int) * 2 + ((m / 16 % 2 : Nat) : Int) = (n : Int) % 4 * 16 + (m : Int) / 16 := by omega
theorem six_c {n m : Nat} (h : n < 256) (h2 : m < 256) : ((n / 8 % 2 : Nat) : Int) * 32 + ((n / 4 % 2 : Nat) : Int) * 16 + ((n / 2 % 2 : Nat) : Int) * 8 + ((n / 1 % 2 : Nat) : Int) * 4 + ((m / 128 % 2 : Nat) : Int) * 2 + ((m / 64 % 2 : Nat) : Int) = (n : Int) % 16 * 4 + (m : Int) / 64 := by omega
theorem six_d {n : Nat} (h : n < 256) : ((n / 32 % 2 : Nat) : Int) * 32 + ((n / 16 % 2 : Nat) : Int) * 16 + ((n / 8 % 2 : Nat) : Int) * 8 + ((n / 4 % 2 : Nat) : Int) * 4 + ((n / 2 % 2 : Nat) : Int) * 2 + ((n / 1 % 2 : Nat) : Int) = (n : Int) % 64 := by omega
theorem six_b0 {n : Nat} (h : n < 256) : ((n / 2 % 2 : Nat) : Int) * 32 + ((n / 1 % 2 : Nat) : Int) * 16 + 0 * 8 + 0 * 4 + 0 * 2 + 0 = (n : Int) % 4 * 16 := by omega
theorem six_c0 {n : Nat} (h : n < 256) : ((n / 8 % 2 : Nat) : Int) * 32 + ((n / 4 % 2 : Nat) : Int) * 16 + ((n / 2 % 2 : Nat) : Int) * 8 + ((n / 1 % 2 : Nat) : Int) * 4 + 0 * 2 + 0 = (n : Int) % 16 * 4 := by omega
theorem sixes_E : ∀ l : List UInt8, sixes (bitsB l ++ zs l.length) = E6 l
  | [] => rfl
  | [a] => by
    have ha : a.toNat < 256 := a.toNat_lt
    have hz : zs [a].length = [0, 0, 0, 0] := (show zs 1 = [0, 0, 0, 0] by decide)
    rw [hz, bitsB_cons, bitsB_nil, List.append_nil]
    show sixes (_ :: _ :: _ :: _ :: _ :: _ :: _ :: _ :: [0, 0, 0, 0]) = _
    rw [sixes_cons, sixes_cons, sixes_nil, six_a ha, six_b0 ha]
    rfl
  | [a, b] => by
    have ha : a.toNat < 256 := a.toNat_lt
    have hb : b.toNat < 256 := b.toNat_lt
    have hz : zs [a, b].length = [0, 0] := (show zs 2 = [0, 0] by decide)
    rw [hz, bitsB_cons, bitsB_cons, bitsB_nil, List.append_nil]
    show sixes (_ :: _ :: _ :: _ :: _ :: _ :: _ :: _ :: _ :: _ :: _ :: _ :: _ :: _ :: _ :: _ :: [0, 0]) = _
    rw [sixes_cons, sixes_cons, sixes_cons, sixes_nil, six_a ha, six_b ha hb, six_c0 hb]
    rfl
  | a :: b :: c :: r => by
    have ha : a.toNat < 256 := a.toNat_lt
    have hb : b.toNat < 256 := b.toNat_lt
    have hc : c.toNat < 256 := c.toNat_lt
    have ih := sixes_E r
    rw [show (a :: b :: c :: r).length = r.length + 3 from rfl, zs_3, bitsB_cons, bitsB_cons, bitsB_cons]
    simp only [List.append_assoc]
    generalize bitsB r ++ zs r.length = t at ih
    show sixes (_ :: _ :: _ :: _ :: _ :: _ :: _ :: _ :: _ :: _ :: _ :: _ :: _ :: _ :: _ :: _ :: _ :: _ :: _ :: _ :: _ :: _ :: _ :: _ :: t) = _
    rw [sixes_cons, sixes_cons, sixes_cons, sixes_cons, six_a ha, six_b ha hb, six_c hb hc, six_d hc, ih]
    rfl
theorem E6_len : ∀ l : List UInt8, (E6 l).length + P6 l = 4 * ((l.length + 2) / 3) ∧ P6 l < 4
  | [] => by decide
  | [a] => by simp [E6, P6]
  | [a, b] => by simp [E6, P6]
  | a :: b :: c :: r => by
    have h := E6_len r
    simp only [E6, P6, List.length_cons]
    omega
theorem sgB_eq (b : Array UInt8) : sgB b = ((E6 b.toList).map sgS) ++ List.replicate (P6 b.toList) (Str.ofString "=") := by
  have hp : padB b = bitsB b.toList ++ zs b.toList.length := by
    unfold padB zs
    rw [Array.length_toList]
  have hs : (List.range ((padB b).length / 6)).map (sixI (padB b)) = E6 b.toList := by
    rw [hp]; exact sixes_E b.toList
  unfold sgB
  rw [hs]
  have hl : (padB b).length / 6 = (E6 b.toList).length := by rw [← hs]; simp
  have h := E6_len b.toList
  rw [hl, Int.fmod_eq_emod_of_nonneg _ (by decide)]
  congr 2
  omega
end Mine
end
section
open PySem PySem.W PyProof.Rows PySem.Spec PySem.Calls
namespace Mine
noncomputable def tab : Array UInt8 := trT [43, 47] [39, 39]
noncomputable def trc (n : Int) : UInt8 := tab.getD (n.toNat.toUInt8).toNat (n.toNat.toUInt8)
/-- the sign's number of a six, behind the exchange -/
noncomputable def encK (k : Int) : UInt8 := trc (b64c k)
set_option maxRecDepth 100000 in
theorem enc_tab : ∀ k : Fin 64, sgS (k.val : Int) = ⟨#[(encK (k.val : Int)).toNat]⟩ ∧ (encK (k.val : Int)).toNat < 128 := by decide +kernel
theorem enc_k {k : Int} (h0 : 0 ≤ k) (h1 : k < 64) : sgS k = ⟨#[(encK k).toNat]⟩ ∧ (encK k).toNat < 128 := by
  have h := enc_tab ⟨k.toNat, by omega⟩
  rwa [show ((k.toNat : Nat) : Int) = k by omega] at h
theorem enc_61 : trc 61 = 61 := by decide +kernel
theorem eq_str : Str.ofString "=" = ⟨#[61]⟩ := by decide +kernel
theorem encB_list (b : Array UInt8) : (encB b).toList = (E6 b.toList).map encK ++ List.replicate (P6 b.toList) 61 := by
  have h : (encB b).toList = ((E6 b.toList).map b64c ++ List.replicate (P6 b.toList) 61).map trc := by
    unfold encB trB
    rw [b64B_eq]
    simp [trc, tab, Function.comp_def]
  rw [h, List.map_append, List.map_map, List.map_replicate, enc_61]
  rfl
theorem enc_ascii (b : Array UInt8) : ∀ c ∈ (encB b).toList, c.toNat < 128 := by
  rw [encB_list]
  intro c hc
  rcases List.mem_append.mp hc with h | h
  · obtain ⟨k, hk, rfl⟩ := List.mem_map.mp h
    have := E6_in b.toList k hk
    exact (enc_k this.1 this.2).2
  · rw [List.eq_of_mem_replicate h]; decide
theorem sgB_signs (b : Array UInt8) : sgB b = signs (⟨(encB b).map (·.toNat)⟩ : Str) := by
  have e : (⟨(encB b).map (·.toNat)⟩ : Str).cps.toList = (encB b).toList.map (·.toNat) := by simp
  show _ = List.map _ _
  rw [e, encB_list, sgB_eq, List.map_append, List.map_append, List.map_map, List.map_map, List.map_replicate, List.map_replicate]
  congr 1
  · apply List.map_congr_left
    intro k hk
    have := E6_in b.toList k hk
    exact (enc_k this.1 this.2).1
theorem encB_size (b : Array UInt8) : (encB b).size = 4 * ((b.size + 2) / 3) := by
  have h := E6_len b.toList
  rw [← Array.length_toList, encB_list, List.length_append, List.length_map, List.length_replicate, h.1, Array.length_toList]
end Mine
end
section
open PySem PySem.W PyProof.Rows PySem.Spec PySem.Calls
namespace Mine
open Builtin Builtin.Str StrLaws
noncomputable def qOcc (x : PySem.Str) (hi i : Nat) : Bool := decide (i + tickS.length ≤ hi) && subAt x tickS i
theorem occ_gen (x : PySem.Str) (hi : Nat) : ∀ (n i : Nat) (st : Array Nat × Nat), st.snd ≤ i → (forIn (List.range' i n) st (occBody x tickS hi 2)).run.fst.toList = st.fst.toList ++ (((List.range' i n).filter (qOcc x hi)).take (2 - st.fst.size))
  | 0, i, st, _ => by simp
  | n + 1, i, st, h => by
    rw [List.range'_succ, List.forIn_cons]
    unfold occBody
    by_cases hq : qOcc x hi i = true
    · have hq' : i + tickS.length ≤ hi ∧ subAt x tickS i = true := by simpa [qOcc] using hq
      by_cases hs : st.fst.size < 2
      · rw [if_pos ⟨⟨⟨hs, h⟩, hq'.1⟩, hq'.2⟩]
        show (forIn (List.range' (i + 1) n) (st.fst.push i, i + tickS.length) (occBody x tickS hi 2)).run.fst.toList = _
        rw [occ_gen x hi n (i + 1) _ (by rw [len_tick]; exact Nat.le_refl _)]
        rw [List.filter_cons_of_pos hq]
        have e : 2 - st.fst.size = (2 - (st.fst.push i).size) + 1 := by rw [Array.size_push]; omega
        rw [e, List.take_succ_cons]
        simp
      · rw [if_neg (fun c => hs c.1.1.1)]
        show (forIn (List.range' (i + 1) n) (st.fst, st.snd) (occBody x tickS hi 2)).run.fst.toList = _
        rw [occ_gen x hi n (i + 1) _ (by omega)]
        have e : 2 - st.fst.size = 0 := by omega
        simp [e]
    · rw [if_neg (fun c => hq (by simp [qOcc, c.1.2, c.2]))]
      show (forIn (List.range' (i + 1) n) (st.fst, st.snd) (occBody x tickS hi 2)).run.fst.toList = _
      rw [occ_gen x hi n (i + 1) _ (by omega), List.filter_cons_of_neg hq]
theorem signs_get (x : PySem.Str) (k : Nat) (h : k < x.length) : (signs x).getD k PySem.Str.empty = ⟨#[x.cps[k]]⟩ := by
  show (x.cps.toList.map fun c => (⟨#[c]⟩ : PySem.Str)).getD k _ = _
  rw [List.getD_eq_getElem?_getD, List.getElem?_map]
  have h' : k < x.cps.size := h
  have : x.cps.toList[k]? = some x.cps[k] := by rw [Array.getElem?_toList]; exact Array.getElem?_eq_getElem h'
  rw [this]; rfl
theorem tick_eq : tickS = ⟨#[39]⟩ := by decide +kernel
theorem sub_at (x : PySem.Str) (k : Nat) (h : k < x.length) : subAt x tickS k = tkAt (signs x) k := by
  unfold tkAt subAt
  rw [signs_get x k h]
  have e : x.cps.extract k (k + tickS.length) = #[x.cps[k]] := by
    rw [len_tick]
    apply Array.ext
    · simp; have : k < x.cps.size := h; omega
    · intro i h1 h2
      have : i = 0 := by simpa using h2
      subst this
      simp only [Array.getElem_extract]
      rfl
  rw [e]
  show (#[x.cps[k]] == tickS.cps) = ((⟨#[x.cps[k]]⟩ : PySem.Str) == tickS)
  rw [tick_eq]
  by_cases hc : x.cps[k] = 39
  · rw [hc]; rfl
  · have h1 : (#[x.cps[k]] == (#[39] : Array Nat)) = false := by simp [hc]
    have h2 : ((⟨#[x.cps[k]]⟩ : PySem.Str) == ⟨#[39]⟩) = false := by
      rw [beq_eq_false_iff_ne]
      intro q
      injection q with q
      simp at q
      exact hc q
    rw [h1, h2]
noncomputable def tkn (x : PySem.Str) : List Nat := (List.range (signs x).length).filter (tkAt (signs x))
theorem signs_len (x : PySem.Str) : (signs x).length = x.length := by
  show (x.cps.toList.map _).length = _
  simp [PySem.Str.length]
theorem occ2_eq (x : PySem.Str) : occ2 x = (tkn x).take 2 := by
  unfold occ2
  rw [occ_eq, occ_gen x x.length _ 0 _ (Nat.le_refl _)]
  show [] ++ List.take (2 - 0) _ = _
  rw [List.nil_append, Nat.sub_zero, Nat.sub_zero]
  congr 1
  unfold tkn
  rw [signs_len, ← List.range_eq_range', List.range_succ, List.filter_append]
  have e1 : [x.length].filter (qOcc x x.length) = [] := by
    have : ¬ (x.length + 1 ≤ x.length) := by omega
    simp [qOcc, len_tick, this]
  rw [e1, List.append_nil]
  apply List.filter_congr
  intro k hk
  have hk : k < x.length := List.mem_range.mp hk
  unfold qOcc
  rw [sub_at x k hk, len_tick]
  simp; omega
theorem tkn_len (x : PySem.Str) : (tks (signs x)) = (tkn x).map fun k : Nat => (k : Int) := rfl
theorem split2_length (x : PySem.Str) : (split2 x).length = ((tkn x).take 2).length + 1 := by
  unfold split2
  rw [occ2_eq]
  split
  · rename_i h
    have : (tkn x).take 2 = [] := by simpa using h
    rw [this]; rfl
  · rw [length_partsBetween]
theorem glue_fold : ∀ (l : List PySem.Str) (acc : Array Nat), (l.foldl (fun a p => a ++ (⟨#[]⟩ : PySem.Str).cps ++ p.cps) acc).toList = acc.toList ++ l.flatMap (fun p => p.cps.toList)
  | [], acc => by simp
  | p :: r, acc => by
    rw [List.foldl_cons, glue_fold r]
    simp
theorem glue_signs (w : PySem.Str) : glued ⟨#[]⟩ (signs w) = w := by
  have h : ∀ l : List Nat, (glued ⟨#[]⟩ (l.map fun c => (⟨#[c]⟩ : PySem.Str))).cps.toList = l := by
    intro l
    unfold glued
    cases l with
    | nil => rfl
    | cons c r =>
      show (List.foldl (fun (a : Array Nat) (p : PySem.Str) => a ++ (⟨#[]⟩ : PySem.Str).cps ++ p.cps) #[c] (r.map fun c => (⟨#[c]⟩ : PySem.Str))).toList = _
      rw [glue_fold]
      have : ∀ r : List Nat, List.flatMap (fun p : PySem.Str => p.cps.toList) (r.map fun c => (⟨#[c]⟩ : PySem.Str)) = r := by
        intro r
        induction r with
        | nil => rfl
        | cons a r ih => rw [List.map_cons, List.flatMap_cons, ih]; rfl
      rw [this]; rfl
  have h2 := h w.cps.toList
  have h3 : (glued ⟨#[]⟩ (signs w)).cps = w.cps := Array.ext' h2
  cases hg : glued ⟨#[]⟩ (signs w)
  rw [hg] at h3
  cases w
  simp at h3
  rw [h3]
theorem join_slice (x : PySem.Str) (i j : Nat) : Txt.join (PySem.Str.ofString "") (((signs x).drop i).take (j - i)) = strSub x i j := by
  have e : ((signs x).drop i).take (j - i) = signs (strSub x i j) := by
    show ((x.cps.toList.map _).drop i).take (j - i) = ((x.cps.extract i j).toList.map _)
    rw [← List.map_drop, ← List.map_take, Array.toList_extract, List.extract_eq_take_drop]
  rw [e, show PySem.Str.ofString "" = ⟨#[]⟩ by decide +kernel]
  exact glue_signs _
end Mine
end
section
open PySem PySem.W PyProof.Rows PySem.Spec PySem.Calls
namespace Mine
theorem mt_star : ∀ (ps : List (Option Str)) (cs : List Nat), Mt (none :: ps) cs = true ↔ ∃ k, k ≤ cs.length ∧ Mt ps (cs.drop k) = true
  | ps, [] => by
    constructor
    · intro h; exact ⟨0, by simp, by simpa [Mt] using h⟩
    · rintro ⟨k, _, h⟩; simpa [Mt] using h
  | ps, c :: cs => by
    have ih := mt_star ps cs
    have e : Mt (none :: ps) (c :: cs) = (Mt ps (c :: cs) || Mt (none :: ps) cs) := by simp [Mt]
    rw [e, Bool.or_eq_true, ih]
    constructor
    · rintro (h | ⟨k, hk, h⟩)
      · exact ⟨0, by simp, h⟩
      · exact ⟨k + 1, by simpa using hk, by simpa using h⟩
    · rintro ⟨k, hk, h⟩
      cases k with
      | zero => exact .inl h
      | succ k => exact .inr ⟨k, by simpa using hk, by simpa using h⟩
theorem any_ne_tick : (Str.ofString "any" == Str.ofString "'") = false := by decide +kernel
theorem any_ne_eq : (Str.ofString "any" == Str.ofString "=") = false := by decide +kernel
theorem one_is {c d : Nat} : ((⟨#[c]⟩ : Str) == ⟨#[d]⟩) = true ↔ c = d := by
  rw [beq_iff_eq]
  constructor
  · intro h; injection h with h; simpa using h
  · rintro rfl; rfl
theorem mt_tick (ps : List (Option Str)) (cs : List Nat) : Mt (some (Str.ofString "'") :: ps) cs = true ↔ ∃ r, cs = 39 :: r ∧ Mt ps r = true := by
  have ht : Str.ofString "'" = ⟨#[39]⟩ := tick_eq
  cases cs with
  | nil => simp [Mt]
  | cons c r =>
    have e : Mt (some (Str.ofString "'") :: ps) (c :: r) = ((Str.ofString "any" == Str.ofString "'" || (⟨#[c]⟩ : Str) == Str.ofString "'") && Mt ps r) := by simp [Mt]
    rw [e, any_ne_tick, Bool.false_or, ht, Bool.and_eq_true, one_is]
    constructor
    · rintro ⟨rfl, h⟩; exact ⟨r, rfl, h⟩
    · rintro ⟨r', h, h2⟩
      injection h with h3 h4
      subst h3 h4
      exact ⟨rfl, h2⟩
theorem mt_eq (ps : List (Option Str)) (cs : List Nat) : Mt (some (Str.ofString "=") :: ps) cs = true ↔ ∃ r, cs = 61 :: r ∧ Mt ps r = true := by
  cases cs with
  | nil => simp [Mt]
  | cons c r =>
    have e : Mt (some (Str.ofString "=") :: ps) (c :: r) = ((Str.ofString "any" == Str.ofString "=" || (⟨#[c]⟩ : Str) == Str.ofString "=") && Mt ps r) := by simp [Mt]
    rw [e, any_ne_eq, Bool.false_or, eq_str, Bool.and_eq_true, one_is]
    constructor
    · rintro ⟨rfl, h⟩; exact ⟨r, rfl, h⟩
    · rintro ⟨r', h, h2⟩
      injection h with h3 h4
      subst h3 h4
      exact ⟨rfl, h2⟩
theorem mt_any (ps : List (Option Str)) (cs : List Nat) : Mt (some (Str.ofString "any") :: ps) cs = true ↔ ∃ c r, cs = c :: r ∧ Mt ps r = true := by
  cases cs with
  | nil => simp [Mt]
  | cons c r =>
    have e : Mt (some (Str.ofString "any") :: ps) (c :: r) = ((Str.ofString "any" == Str.ofString "any" || (⟨#[c]⟩ : Str) == Str.ofString "any") && Mt ps r) := by simp [Mt]
    rw [e, beq_self_eq_true, Bool.true_or, Bool.true_and]
    constructor
    · intro h; exact ⟨c, r, rfl, h⟩
    · rintro ⟨c', r', h, h2⟩
      injection h with h3 h4
      subst h4
      exact h2
theorem mt_nil (cs : List Nat) : Mt [] cs = true ↔ cs = [] := by
  cases cs <;> simp [Mt]
theorem mt_all (cs : List Nat) : Mt [none] cs = true := (mt_star _ _).mpr ⟨cs.length, Nat.le_refl _, by simp [Mt]⟩
/-- a drop that begins so -/
theorem drop_head {cs r : List Nat} {k c : Nat} : cs.drop k = c :: r ↔ cs[k]? = some c ∧ r = cs.drop (k + 1) := by
  constructor
  · intro h
    have hl : k < cs.length := by
      apply Classical.byContradiction
      intro hn
      rw [List.drop_eq_nil_of_le (by omega)] at h
      cases h
    rw [List.drop_eq_getElem_cons hl] at h
    injection h with h1 h2
    exact ⟨by rw [List.getElem?_eq_getElem hl, h1], h2.symm⟩
  · rintro ⟨h, rfl⟩
    obtain ⟨hl, e⟩ := List.getElem?_eq_some_iff.mp h
    rw [List.drop_eq_getElem_cons hl, e]
theorem drop_two {cs : List Nat} {p q j c : Nat} (h : cs[j]? = some c) (e : p + q = j) : (cs.drop p).drop q = c :: cs.drop (j + 1) := by
  rw [List.drop_drop, e]
  exact drop_head.mpr ⟨h, rfl⟩
theorem row1_iff (cs : List Nat) : Mt row_tr1 cs = true ↔ ∃ i j : Nat, i < j ∧ cs[i]? = some 39 ∧ cs[j]? = some 39 := by
  unfold row_tr1
  rw [mt_star]
  constructor
  · rintro ⟨i, hi, h⟩
    obtain ⟨r, hr, h⟩ := (mt_tick _ _).mp h
    obtain ⟨h1, rfl⟩ := drop_head.mp hr
    obtain ⟨k, hk, h⟩ := (mt_star _ _).mp h
    obtain ⟨r2, hr2, _⟩ := (mt_tick _ _).mp h
    rw [List.drop_drop] at hr2
    exact ⟨i, _, by omega, h1, (drop_head.mp hr2).1⟩
  · rintro ⟨i, j, hij, h1, h2⟩
    obtain ⟨hl1, _⟩ := List.getElem?_eq_some_iff.mp h1
    obtain ⟨hl2, _⟩ := List.getElem?_eq_some_iff.mp h2
    refine ⟨i, by omega, (mt_tick _ _).mpr ⟨_, drop_head.mpr ⟨h1, rfl⟩, (mt_star _ _).mpr ⟨j - (i + 1), by rw [List.length_drop]; omega, (mt_tick _ _).mpr ⟨_, drop_two h2 (by omega), mt_all _⟩⟩⟩⟩
theorem row2_iff (cs : List Nat) : Mt row_tr2 cs = true ↔ ∃ i j : Nat, 0 < i ∧ i + 1 < j ∧ cs[i]? = some 39 ∧ cs[j]? = some 39 := by
  unfold row_tr2
  constructor
  · intro h
    obtain ⟨c, r, rfl, g1⟩ := (mt_any _ _).mp h
    obtain ⟨i, hi, g2⟩ := (mt_star _ _).mp g1
    obtain ⟨r1, hr, g3⟩ := (mt_tick _ _).mp g2
    obtain ⟨h1, e1⟩ := drop_head.mp hr
    obtain ⟨c2, r2, hr2, g4⟩ := (mt_any _ _).mp g3
    rw [e1] at hr2
    obtain ⟨_, e2⟩ := drop_head.mp hr2
    obtain ⟨k, hk, g5⟩ := (mt_star _ _).mp g4
    obtain ⟨r3, hr3, _⟩ := (mt_tick _ _).mp g5
    rw [e2] at hr3
    rw [List.drop_drop] at hr3
    exact ⟨i + 1, i + 1 + 1 + k + 1, by omega, by omega, by simpa using h1, by simpa using (drop_head.mp hr3).1⟩
  · rintro ⟨i, j, hi, hij, h1, h2⟩
    obtain ⟨hl1, _⟩ := List.getElem?_eq_some_iff.mp h1
    obtain ⟨hl2, _⟩ := List.getElem?_eq_some_iff.mp h2
    cases cs with
    | nil => simp at hl1
    | cons c r =>
      obtain ⟨i', rfl⟩ : ∃ i', i = i' + 1 := ⟨i - 1, by omega⟩
      obtain ⟨j', rfl⟩ : ∃ j', j = j' + 1 := ⟨j - 1, by omega⟩
      have h1' : r[i']? = some 39 := by simpa using h1
      have h2' : r[j']? = some 39 := by simpa using h2
      have hr : i' + 1 < r.length := by simp at hl2; omega
      refine (mt_any _ _).mpr ⟨c, r, rfl, (mt_star _ _).mpr ⟨i', by omega, (mt_tick _ _).mpr ⟨_, drop_head.mpr ⟨h1', rfl⟩, (mt_any _ _).mpr ⟨r[i' + 1], _, drop_head.mpr ⟨List.getElem?_eq_getElem hr, rfl⟩, (mt_star _ _).mpr ⟨j' - (i' + 1 + 1), by rw [List.length_drop]; simp at hl2; omega, (mt_tick _ _).mpr ⟨_, drop_two h2' (by omega), mt_all _⟩⟩⟩⟩⟩⟩
theorem row3_iff (cs : List Nat) : Mt row_tr3 cs = true ↔ (∃ i : Nat, cs[i]? = some 39) ∧ cs[cs.length - 1]? = some 61 := by
  unfold row_tr3
  rw [mt_star]
  constructor
  · rintro ⟨i, hi, h⟩
    obtain ⟨r, hr, h⟩ := (mt_tick _ _).mp h
    obtain ⟨h1, rfl⟩ := drop_head.mp hr
    obtain ⟨k, hk, h⟩ := (mt_star _ _).mp h
    obtain ⟨r2, hr2, h⟩ := (mt_eq _ _).mp h
    rw [List.drop_drop] at hr2
    obtain ⟨h3, h4⟩ := drop_head.mp hr2
    obtain rfl := (mt_nil _).mp h
    have hlen : (cs.drop (i + 1 + k + 1)).length = 0 := by rw [← h4]; rfl
    rw [List.length_drop] at hlen
    obtain ⟨hl, _⟩ := List.getElem?_eq_some_iff.mp h3
    exact ⟨⟨i, h1⟩, by rw [show cs.length - 1 = i + 1 + k by omega]; exact h3⟩
  · rintro ⟨⟨i, h1⟩, h2⟩
    obtain ⟨hl1, e1⟩ := List.getElem?_eq_some_iff.mp h1
    obtain ⟨hl2, e2⟩ := List.getElem?_eq_some_iff.mp h2
    have hne : i ≠ cs.length - 1 := by
      rintro rfl
      rw [h1] at h2
      cases h2
    refine ⟨i, by omega, (mt_tick _ _).mpr ⟨_, drop_head.mpr ⟨h1, rfl⟩, (mt_star _ _).mpr ⟨cs.length - 1 - (i + 1), by rw [List.length_drop]; omega, (mt_eq _ _).mpr ⟨_, drop_two h2 (by omega), (mt_nil _).mpr (List.drop_eq_nil_of_le (by omega))⟩⟩⟩⟩
end Mine
end
section
open PySem PySem.W PyProof.Rows PySem.Spec PySem.Calls
namespace Mine
theorem tkn_mem (x : Str) (i : Nat) : i ∈ tkn x ↔ x.cps.toList[i]? = some 39 := by
  unfold tkn
  rw [List.mem_filter, List.mem_range, signs_len]
  have hc : ∀ h : i < x.length, (tkAt (signs x) i = true ↔ x.cps.toList[i]? = some 39) := by
    intro h
    have h' : i < x.cps.size := h
    unfold tkAt
    rw [signs_get x i h, show Str.ofString "'" = ⟨#[39]⟩ from tick_eq, one_is, Array.getElem?_toList, Array.getElem?_eq_getElem h']
    exact ⟨fun e => congrArg some e, fun e => Option.some.inj e⟩
  constructor
  · rintro ⟨h, e⟩; exact (hc h).mp e
  · intro e
    have h : i < x.length := by
      obtain ⟨hl, _⟩ := List.getElem?_eq_some_iff.mp e
      simpa [PySem.Str.length] using hl
    exact ⟨h, (hc h).mpr e⟩
theorem tkn_sorted (x : Str) : (tkn x).Pairwise (· < ·) := List.Pairwise.filter _ List.pairwise_lt_range
theorem two_iff (x : Str) : 1 < (tkn x).length ↔ ∃ i j : Nat, i < j ∧ x.cps.toList[i]? = some 39 ∧ x.cps.toList[j]? = some 39 := by
  have hs := tkn_sorted x
  constructor
  · intro h
    match ht : tkn x with
    | [] => rw [ht] at h; simp at h
    | [_] => rw [ht] at h; simp at h
    | a :: b :: r =>
      rw [ht] at hs
      have hab : a < b := (List.pairwise_cons.mp hs).1 b (.head _)
      exact ⟨a, b, hab, (tkn_mem x a).mp (by rw [ht]; exact .head _), (tkn_mem x b).mp (by rw [ht]; exact .tail _ (.head _))⟩
  · rintro ⟨i, j, hij, h1, h2⟩
    have m1 := (tkn_mem x i).mpr h1
    have m2 := (tkn_mem x j).mpr h2
    match ht : tkn x with
    | [] => rw [ht] at m1; cases m1
    | [a] =>
      rw [ht] at m1 m2
      have e1 := List.mem_singleton.mp m1
      have e2 := List.mem_singleton.mp m2
      omega
    | a :: b :: r => simp
theorem apA_flat (l : List Int) : ∀ n, apA l n = (l.take n).flatMap fun j => apIn l j l.length
  | 0 => by simp [apA]
  | n + 1 => by
    have ih := apA_flat l n
    show apA l n ++ _ = _
    rw [ih, List.take_add_one, List.flatMap_append]
    congr 1
    cases l[n]? <;> simp
theorem apA_some (l : List Int) : (apA l l.length).isEmpty = false ↔ ∃ j ∈ l, ∃ k ∈ l, 0 < j ∧ j + 1 < k := by
  rw [apA_flat, List.take_length]
  have hm : ((l.flatMap fun j => apIn l j l.length).isEmpty = false) ↔ ∃ y, y ∈ l.flatMap fun j => apIn l j l.length := by
    cases h : l.flatMap fun j => apIn l j l.length with
    | nil => simp
    | cons a r => simp
  rw [hm]
  constructor
  · rintro ⟨y, hy⟩
    obtain ⟨j, hj, hy⟩ := List.mem_flatMap.mp hy
    unfold apIn at hy
    rw [List.take_length] at hy
    obtain ⟨k, hk, _⟩ := List.mem_map.mp hy
    obtain ⟨hk, hp⟩ := List.mem_filter.mp hk
    unfold apP at hp
    simp only [Bool.and_eq_true, decide_eq_true_eq] at hp
    exact ⟨j, hj, k, hk, hp.1, hp.2⟩
  · rintro ⟨j, hj, k, hk, h1, h2⟩
    refine ⟨j, List.mem_flatMap.mpr ⟨j, hj, ?_⟩⟩
    unfold apIn
    rw [List.take_length]
    exact List.mem_map.mpr ⟨k, List.mem_filter.mpr ⟨hk, by unfold apP; simp [h1, h2]⟩, rfl⟩
theorem tks_mem (x : Str) (j : Int) : j ∈ tks (signs x) ↔ ∃ i : Nat, (i : Int) = j ∧ x.cps.toList[i]? = some 39 := by
  rw [tkn_len]
  constructor
  · intro h
    obtain ⟨i, hi, e⟩ := List.mem_map.mp h
    exact ⟨i, e, (tkn_mem x i).mp hi⟩
  · rintro ⟨i, e, h⟩
    exact List.mem_map.mpr ⟨i, (tkn_mem x i).mpr h, e⟩
theorem bool_iff {a b : Bool} (h : a = true ↔ b = true) : a = b := by
  cases a <;> cases b <;> simp_all
theorem strOk_of {y : Str} (h : ∀ c ∈ y.cps.toList, c < 128) : PyData.strOk y = true := by
  unfold PyData.strOk
  rw [Array.all_eq_true']
  intro c hc
  have := h c (by simpa using hc)
  simp; omega
theorem fits_signs (x : Str) (hx1 : 1 ≤ x.length) (hx2 : x.length ≤ 1000) (hasc : ∀ c ∈ x.cps.toList, c < 128) : Fits (signs x) x := by
  have hcount : ((List.range (signs x).length).filter (tkAt (signs x))) = tkn x := rfl
  have hs2 := split2_length x
  rw [List.length_take] at hs2
  have hpart : ∀ i j, PyData.strOk (Builtin.Str.strSub x i j) = true := fun i j => strOk_of fun c hc => hasc c (by
    unfold Builtin.Str.strSub at hc
    rw [Array.toList_extract] at hc
    exact List.mem_of_mem_drop (List.mem_of_mem_take (by rw [List.extract_eq_take_drop] at hc; exact hc)))
  have hlt : (tks (signs x)).length = (tkn x).length := by rw [tkn_len, List.length_map]
  refine ⟨⟨fun y hy => ?_, by rw [signs_len]; omega⟩, by rw [signs_len]; exact hx1, hx1, hx2, ?_, ?_, ?_, ?_, strOk_of hasc, ?_, ?_, ?_, ?_⟩
  · obtain ⟨c, rfl⟩ := sign_is hy; rfl
  · rw [show Str.ofString "" = ⟨#[]⟩ by decide +kernel]; exact glue_signs x
  · intro h; rw [hcount]; omega
  · intro h; rw [hcount]; omega
  · rw [hcount]
    intro h
    have hl : 1 < (tkn x).length := by omega
    match ht : tkn x with
    | [] => rw [ht] at hl; simp at hl
    | [_] => rw [ht] at hl; simp at hl
    | a :: b :: r =>
      have e0 : (tks (signs x)).getD (Int.toNat 0) 0 = (a : Int) := by rw [tkn_len, ht]; rfl
      have e1 : (tks (signs x)).getD (Int.toNat 1) 0 = (b : Int) := by rw [tkn_len, ht]; rfl
      have hocc : occ2 x = [a, b] := by rw [occ2_eq, ht]; rfl
      have hbl : b < x.length := by
        have := (tkn_mem x b).mp (by rw [ht]; exact .tail _ (.head _))
        obtain ⟨hl, _⟩ := List.getElem?_eq_some_iff.mp this
        simpa [PySem.Str.length] using hl
      unfold split2
      rw [hocc, e0, e1]
      have j0 := join_slice x 0 a
      have j1 := join_slice x (a + 1) b
      have j2 := join_slice x (b + 1) x.length
      rw [List.drop_zero, Nat.sub_zero] at j0
      rw [List.take_of_length_le (by rw [List.length_drop, signs_len]; omega)] at j2
      have n1 : ((a : Int) + 1).toNat = a + 1 := by omega
      have n2 : ((b : Int) + 1).toNat = b + 1 := by omega
      rw [n1, n2, Int.toNat_natCast, Int.toNat_natCast, signs_len, Nat.min_eq_left (by omega), j0, j1, j2]
      rfl
  · intro y hy
    unfold split2 at hy
    split at hy
    · rw [List.mem_singleton.mp hy]; exact strOk_of hasc
    · unfold Builtin.Str.partsBetween at hy
      obtain ⟨p, _, rfl⟩ := List.mem_map.mp hy
      exact hpart _ _
  · rw [takes_mt, hcount]
    refine bool_iff ?_
    rw [row1_iff, ← two_iff, decide_eq_true_eq]
    omega
  · rw [takes_mt]
    refine bool_iff ?_
    rw [row2_iff, Bool.not_eq_true', apA_some]
    constructor
    · rintro ⟨i, j, h1, h2, h3, h4⟩
      exact ⟨i, (tks_mem x _).mpr ⟨i, rfl, h3⟩, j, (tks_mem x _).mpr ⟨j, rfl, h4⟩, by omega, by omega⟩
    · rintro ⟨i, hi, j, hj, h1, h2⟩
      obtain ⟨i, rfl, h3⟩ := (tks_mem x _).mp hi
      obtain ⟨j, rfl, h4⟩ := (tks_mem x _).mp hj
      exact ⟨i, j, by omega, by omega, h3, h4⟩
  · rw [takes_mt]
    refine bool_iff ?_
    have hlast : (signs x).getD ((signs x).length - 1) Str.empty = ⟨#[x.cps[x.length - 1]'(by have : x.cps.size = x.length := rfl; omega)]⟩ := by
      rw [signs_len]; exact signs_get x _ (by omega)
    have hne : (!(tks (signs x)).isEmpty) = true ↔ ∃ i : Nat, x.cps.toList[i]? = some 39 := by
      cases ht : tks (signs x) with
      | nil =>
        simp only [List.isEmpty_nil, Bool.not_true, Bool.false_eq_true, false_iff]
        rintro ⟨i, h⟩
        have := (tks_mem x i).mpr ⟨i, rfl, h⟩
        rw [ht] at this
        cases this
      | cons a r =>
        simp only [List.isEmpty_cons, Bool.not_false, true_iff]
        obtain ⟨i, _, h⟩ := (tks_mem x a).mp (by rw [ht]; exact .head _)
        exact ⟨i, h⟩
    rw [row3_iff, Bool.and_eq_true, hne, hlast, eq_str, one_is]
    have hsz : x.cps.toList.length = x.length := by simp [PySem.Str.length]
    have hlt : x.length - 1 < x.cps.size := by have : x.cps.size = x.length := rfl; omega
    rw [hsz, Array.getElem?_toList, Array.getElem?_eq_getElem hlt]
    constructor
    · rintro ⟨h1, h2⟩; exact ⟨h1, Option.some.inj h2⟩
    · rintro ⟨h1, h2⟩; exact ⟨h1, congrArg some h2⟩
theorem fits_of (b : Array UInt8) (h1 : 1 ≤ b.size) (h2 : b.size ≤ 9) : Fits (sgB b) (⟨(encB b).map (·.toNat)⟩ : Str) ∧ ∀ c ∈ (encB b).toList, c.toNat < 128 := by
  refine ⟨?_, enc_ascii b⟩
  have hs : (⟨(encB b).map (·.toNat)⟩ : Str).length = (encB b).size := by show (Array.map _ _).size = _; rw [Array.size_map]
  have hz := encB_size b
  rw [sgB_signs]
  refine fits_signs _ (by omega) (by omega) fun c hc => ?_
  have hc' : c ∈ (encB b).toList.map (·.toNat) := by simpa using hc
  obtain ⟨d, hd, rfl⟩ := List.mem_map.mp hc'
  exact enc_ascii b d hd
end Mine
end
section
open PySem PySem.W PyProof.Rows PySem.Spec PySem.Calls
namespace Mine
local macro_rules | `(tactic| walk_at "my cells") => `(tactic| (refine' enter_cells ?k1 ?k2 ?k3 ?k5 ?kA ?kF ?kK ?k6 ?k7 ?k8 ?k9 ?kB ?kD ?_ ?c2 ?c3 ?c4; (case kA => exact rfl); (case kF => exact rfl); (case kK => assumption); (case k1 => k_asm); (case k2 => k_asm); (case k3 => k_asm); (case k5 => k_asm); (case k6 => k_is); (case k7 => k_is); (case k8 => ktr_room); (case k9 => exact BindsTo.of_eq rfl); (case kB => exact rfl); (case kD => decide +kernel); (case c2 => exact rfl); (case c3 => exact rfl); (case c4 => exact rfl); k_whole))
local macro_rules | `(tactic| k_room) => `(tactic| ktr_room)
local macro_rules | `(tactic| walk_at "execs cons") => `(tactic| ((with_reducible show wpAny _ _ (execs (_ :: _) _) _ _ _); dsimp only; refine wpAny_execs_cons ?_))
local macro_rules | `(tactic| walk_at "call ref") => `(tactic| ((with_reducible show wpAny _ _ (call (Value.ref 75) _ _) _ _ _); k_dflt (refine' enc_call ?kB ?kF ?kN ?kX ?kT ?kk ?kd ?ku ?kz ?_; (case kB => k_asm); (case kF => k_asm); (case kN => k_asm); (case kX => k_asm); (case kT => k_asm); (case kk => exact rfl); (case kd => ktr_room); (case ku => ktr_units); (case kz => omega)); intro h9 tk9 t9 F9 N9 hk9))
local macro_rules | `(tactic| walk_at "call ref") => `(tactic| ((with_reducible show wpAny _ _ (call (Value.ref 109) _ _) _ _ _); k_dflt (refine' signs_call ?kB ?kF ?kN ?kX ?kT ?kk ?kd ?ku ?kz ?_; (case kB => k_asm); (case kF => k_asm); (case kN => k_asm); (case kX => k_asm); (case kT => k_asm); (case kk => exact rfl); (case kd => ktr_room); (case ku => ktr_units); (case kz => omega)); intro h9 tk9 D9 ys9 ep9 hy9 F9 N9 n9 hk9; (replace n9 := off1_of n9); (simp only [LCg.Off1, and_true] at n9); (try dsimp only at N9)))
local macro_rules | `(tactic| walk_at "call ref") => `(tactic| ((with_reducible show wpAny _ _ (call (Value.ref 45) _ _) _ _ _); refine Halt.mk ?_))
local macro_rules | `(tactic| walk_at "call ref") => `(tactic| ((with_reducible show wpAny _ _ (call (Value.ref 104) _ _) _ _ _); k_dflt (refine' takes_call ?kB ?kF ?kN ?kX ?kT ?kk ?kd ?ku ?kP ?kp ?k8 ?kz ?_; (case kB => k_asm); (case kF => k_asm); (case kN => k_asm); (case kX => k_asm); (case kT => k_asm); (case kk => exact rfl); (case kd => ktr_room); (case ku => ktr_units); (case kP => exact Fr.lst (by k_asm) (by with_reducible assumption)); (case kp => with_reducible assumption); (case k8 => with_reducible assumption); (case kz => with_reducible assumption)); intro h9 tk9 F9 N9 hk9))
local macro_rules | `(tactic| walk_at "call builtin:bytes.decode") => `(tactic| (k_dflt (refine dec_call (by assumption) (by assumption) (by assumption) ?_); intro t7 k7))
local macro_rules | `(tactic| walk_at "exec Assign cons ListComp") => `(tactic| (k_here; k_dflt (first
  | ((with_reducible show wpAny _ _ (exec (Stmt.Assign _ (Expr.ListComp _ [_, _] _ _) _) _) _ _ _); refine assign_2 (by k_asm) (by rfl) (by with_unfolding_all rfl) (by with_unfolding_all rfl) (by decide) (by rfl) (by decide) (by rfl) (by rfl) (by decide) (by rfl) (by rfl) ?_)
  | ((with_reducible show wpAny _ _ (exec (Stmt.Assign _ (Expr.ListComp _ [⟨_, _, [_], _⟩] _ _) _) _) _ _ _); refine LCt.Assign_ListComp_T (F₀ := by k_asm) (by rfl) (by with_unfolding_all rfl) (by with_unfolding_all rfl) (by decide) (by rfl) (by decide) (by rfl) (by rfl) (by rfl) ?_)
  | ((with_reducible show wpAny _ _ (exec (Stmt.Assign _ (Expr.ListComp _ [⟨_, _, [], _⟩] _ _) _) _) _ _ _); refine LCg.Assign_ListComp_U (F₀ := by k_asm) (by rfl) (by with_unfolding_all rfl) (by with_unfolding_all rfl) (by decide) (by rfl) (by decide) (by rfl) (by rfl) (by rfl) ?_))))
local macro_rules | `(tactic| walk_at "eval ListComp") => `(tactic| (k_here; k_dflt (first
  | ((with_reducible show wpAny _ _ (eval (Expr.ListComp _ [_, _] _ _) _) _ _ _); refine eval_2 (by k_asm) (by with_unfolding_all rfl) (by decide) (by rfl) (by decide) (by rfl) (by rfl) (by decide) ?_)
  | ((with_reducible show wpAny _ _ (eval (Expr.ListComp _ [⟨_, _, [_], _⟩] _ _) _) _ _ _); refine LCt.ListComp_T (F₀ := by k_asm) (by with_unfolding_all rfl) (by decide) (by rfl) (by decide) (by rfl) ?_)
  | ((with_reducible show wpAny _ _ (eval (Expr.ListComp _ [⟨_, _, [], _⟩] _ _) _) _ _ _); refine LCg.ListComp_U (F₀ := by k_asm) (by with_unfolding_all rfl) (by decide) (by rfl) (by decide) (by rfl) ?_))))
local macro_rules | `(tactic| walk_at "CompSrcT") => `(tactic| (refine Halt.mk ?_))
local macro_rules | `(tactic| walk_at "CompSrc") => `(tactic| (refine Halt.mk ?_))
theorem strs_get : ∀ {vs : List Value} {ys : List Str} (_ : StrsAre vs ys) (i : Nat), i < ys.length → ∃ x t, ys[i]? = some x ∧ vs[i]? = some (.str x t)
  | _, _, .nil, _, h => absurd h (Nat.not_lt_zero _)
  | _, _, .cons x t r, 0, _ => ⟨x, t, rfl, rfl⟩
  | _, _, .cons x t r, i + 1, h => strs_get r i (Nat.lt_of_succ_lt_succ h)
theorem item_strs {prog : Program} {w : World} {A : Around} {E : Value → Shared → Prop} {s : Shared} {value slice : Expr} {l : Addr} {vs : List Value} {ys : List Str} {k : Int} {u : Tok} {Q : Value → Shared → Prop} (hl : s.heap.IsList l vs.toArray) (hp : StrsAre vs ys) (hb : ys.length ≤ 16777216)
    (h0 : 0 ≤ k) (h1 : k < ys.length) (h₂ : ∀ x t, ys[k.toNat]? = some x → Q (.str x t) s)
    (hs : subscripted slice false (.ref l) (.int k u) = operate [.ref l, .int k u] (getItem (.ref l) (.int k u)) := by with_unfolding_all rfl) (hg : ∀ r, letTemporaryGo value (.ref l) r = pure () := by intro _; with_unfolding_all rfl) :
    wpAny (model prog w) A (subscriptTail value slice (.ref l) (.int k u)) Q E s := by
  obtain ⟨x, t, e1, e2⟩ := strs_get hp k.toNat (by omega)
  exact item_list hl h0 (by omega) (by simpa using e2) (h₂ x t e1) hs hg
theorem len_n8 {prog : Program} {w : World} {A : Around} {E : Value → Shared → Prop} {s : Shared} {l : Addr} {vs : List Value} {n : Nat} {Q : Value → Shared → Prop} (hl : s.heap.IsList l vs.toArray) (hp : vs.length = n) (hb : n ≤ 16777216)
    (h : ∀ t k, Q (.int n t) { s with toks := k }) : wpAny (model prog w) A (call (.builtin "len") [.ref l]) Q E s := by
  have e : vs.toArray.size = n := by simp [hp]
  refine len_list hl (by rw [e]; omega) ?_
  rw [e]; exact h _ _
local macro_rules | `(tactic| walk_at "call builtin:len") => `(tactic| (k_here; (with_reducible show wpAny _ _ (call (Value.builtin "len") [Value.ref _]) _ _ _); (refine len_n8 (by k_dflt is_list) (by assumption) (by omega) ?_); intro _ _))
local macro_rules | `(tactic| walk_at "call builtin:str.join") => `(tactic| (k_here; (with_reducible show wpAny _ _ (call (Value.builtin "str.join") [Value.str _ _, Value.ref _]) _ _ _); (refine join_listW (by k_dflt is_list) (by with_reducible assumption) (by decide +kernel) (by k_dflt (first | exact Ones.weight (by assumption) | exact Ones.weight (Ones.take (by assumption) _) | exact Ones.weight (Ones.drop (by assumption) _) | exact Ones.weight (Ones.take (Ones.drop (by assumption) _) _))) ?_); intro _ _))
local macro_rules | `(tactic| walk_at "subscriptTail Name Slice ref ref") => `(tactic| (k_here; (with_reducible show wpAny _ _ (subscriptTail _ (PySem.Expr.Slice _ _ none _) (Value.ref _) (Value.ref _)) _ _ _); k_dflt (refine' slice_strs ?F ?N ?l ?p ?q ?i ?mm ?z ?_ ?ss ?t; (case F => k_asm); (case N => k_asm); (case l => kmk_list); (case p => kmk_part); (case q => kmk_part); (case i => with_reducible assumption); (case mm => first | exact strs_upto (by with_reducible assumption) (by omega) | exact strs_from (by with_reducible assumption) (by omega) | exact strs_run (by with_reducible assumption) (by omega) (by omega)); (case z => omega); (case ss => with_unfolding_all rfl); (case t => kmk_pure)); intro D' ws' h' F' N' l1 hI'; (try k_lt l1)))
local macro_rules | `(tactic| walk_at "compareOp Eq ref ref") => `(tactic| (refine Halt.mk ?_))
local macro_rules | `(tactic| walk_at "compareOp NotEq ref ref") => `(tactic| (k_here; (with_reducible show wpAny _ _ (compareOp CmpOp.NotEq (Value.ref _) (Value.ref _)) _ _ _); k_dflt (refine ne_nil_ints (by is_list) (by is_list) (by with_reducible assumption) (by ke_room) ?_)))
local macro_rules | `(tactic| walk_at "subscriptTail Name UnaryOp ref int") => `(tactic| (k_here; (with_reducible show wpAny _ _ (subscriptTail _ _ (Value.ref _) (Value.int _ _)) _ _ _); k_dflt (refine item_last (by is_list) (by with_reducible assumption) (by with_reducible assumption) ?_); intro _))
theorem three_of : ∀ {l : List Value}, l.length = 3 → ∃ a b c, l = [a, b, c]
  | [a, b, c], _ => ⟨a, b, c, rfl⟩
noncomputable def txB (b : Array UInt8) : Str := ⟨(encB b).map (·.toNat)⟩
set_option maxRecDepth 100000 in
set_option maxHeartbeats 8000000 in
theorem right_call : ∀ {w : World} {loose : List Str} {mean : ExcName → Option Value} {mg mb : Str → Option Value}
    {dp un : Nat} {gd : Option (List Code)} {cn : Str} {cs : Scope} {a : Addr} {ccd : Value} {cl : List (Str × Addr)} {outer : List Env} {A₀ : Around} {base h₀ : Heap} {L : Addr} {m : Str → Option Value} {news : List (Addr × Obj)} {s : Shared} {Q E : Value → Shared → Prop}
    (_ : Below A₀ base outer h₀) (_ : Fr h₀ L s.heap m) (_ : News h₀ L s.heap news) (_ : (hd.heap_1 w.params).In h₀) (_ : Top topProg loose mean mg mb h₀) (_ : cs.kind = .function)
    (_ : dp + 10 < recursionLimit) (_ : un + 128 < cLine)
    {b : Array UInt8} {tb : Tok} (_ : b.size ≤ 1000) (_ : Fits (sgB b) (txB b)) (_ : ∀ c ∈ (encB b).toList, c.toNat < 128)
    {R P1 P2 P3 : Addr} {v1 v2 v3 : List Value} (_ : s.heap.IsList R #[.ref P1, .ref P2, .ref P3]) (_ : s.heap.IsList P1 v1.toArray) (_ : s.heap.IsList P2 v2.toArray) (_ : s.heap.IsList P3 v3.toArray)
    (_ : PcsAre v1 row_tr1) (_ : PcsAre v2 row_tr2) (_ : PcsAre v3 row_tr3)
    (_ : ∀ (h' : Heap) (tk' : Nat), Fr h₀ L h' m → News h₀ L h' news → (∀ a o, s.heap.get? a = some o → h'.get? a = some o) → Q (.bool true) { s with heap := h', toks := tk' }),
    wpAny (model PySem.Challenge.rw_aa0019_01.row.prog w) (ktrTop dp un gd cn cs L a ccd cl outer) (call (.ref 114) [.bytes b tb, .ref R]) Q E s := by
  k_fill
  intro w loose mean mg mb dp un gd cn cs a ccd cl outer A₀ base h₀ L m news s Q E B F N X T hk hd1 hu b tb hb1 hfit e3 R P1 P2 P3 v1 v2 v3 hR hP1 hP2 hP3 hv1 hv2 hv3 hret0
  have hret := fun h' tk' k => hret0 h' tk' (F.keeps k) (N.grown k) k
  clear hret0
  have hsz : (txB b).length = (encB b).size := by show (Array.map _ _).size = _; rw [Array.size_map]
  have e1 : (encB b).isEmpty = false := by
    have := hfit.len1
    rw [hsz] at this
    rw [Array.isEmpty_eq_false_iff]
    intro q
    rw [q] at this
    exact absurd this (by decide)
  have e2 : (encB b).size ≤ 16777216 := by have := hfit.len2; omega
  refine wpAny_call ?_
  k_dflt walk_at "my cells"
  intro L1 h1 tk1 cells F1 N1 Y1 B1 X1 T1
  k_cells Y1
  (try simp only [List.cons_append, List.nil_append] at N1)
  (try dsimp only)
  (try k_fold)
  clear B F N X T
  rename_i o1 o2 o3 d1 d2 d3
  replace d1 : o1.data = .cell none := d1.trans (by kernel_rfl)
  replace d2 : o2.data = .cell none := d2.trans (by kernel_rfl)
  replace d3 : o3.data = .cell none := d3.trans (by kernel_rfl)
  have hon : Ones (sgB b) := hfit.ones
  have hsgl := hon.2
  have htx : ({ cps := Array.map (fun x => x.toNat) (encB b) } : Str).length ≤ 1000 := hfit.len2
  k_steps
  refine Halt.go ?_
  generalize hsgd : sgB b = sg at *
  (with_reducible rename IsRange _ _ _ _ _ _ _ _ => hR8)
  (with_reducible rename Fr _ _ _ _ => F8)
  (with_reducible rename News _ _ _ _ => N8)
  (with_reducible rename StrsAre _ _ => hsg8)
  dsimp only at hR8 N8 F8 ⊢
  refine LCt.CompSrcT.range (n := sg.length) (by rfl) F8 N8 hR8 (small_one (by omega) (by omega) (by omega) (by omega)) (by rw [rangeSize_nat]; omega) (by rw [sizeLine_eq]; omega) ?_
  intro g2
  refine restT_gen (as := List.range sg.length) (F := fun j v => ∃ t, v = .int (0 + (j : Int)) t) (tkAt sg) (fun j => IntIs (j : Int)) (by simp) (fun k v hk hv => ⟨k, by simp [hk], hv⟩) trivial ?_ ?_
  · rintro j0 j v I2 oI2 C2 oC2 D2 m₂ ys2 h2 tk2 E2 hj ⟨t2, rfl⟩ hoC2 hx2 F₂ N₂ off3 hne
    have hj6 : j < sg.length := by
      have := List.mem_of_getElem? hj
      simpa using this
    clear hj
    simp only [LCg.Off3, and_true] at off3
    k_steps
    all_goals (
      (with_reducible rename (_ == _) = _ => htk)
      rw [show (0 + (j : Int)).toNat = j by omega] at htk)
    · exact htk
    · exact CEnd.intro (by k_asm) (by k_asm) (by lcg_sub) ⟨_, by rw [Int.zero_add]⟩
    · exact CEnd.intro (by k_asm) (by k_asm) (by lcg_sub) htk
  · intro ys2 hys2
    unfold LCg.FinE
    intro D2 h2 tk2 F₂ N₂ off2
    simp only [LCg.Off1, and_true] at off2
    have hy2 : ys2.length = _ := hys2.length
    have hfl : ((List.range sg.length).filter (tkAt sg)).length ≤ 4000 := by
      have := List.length_filter_le (tkAt sg) (List.range sg.length)
      rw [List.length_range] at this
      omega
    replace hys2 : IntsAre ys2 (tks sg) := are_ints (hys2.map (fun k : Nat => (k : Int)) fun _ _ x => x)
    have ht0 := tks_ge sg (0 : Int).toNat
    have ht1 := tks_ge sg (1 : Int).toNat
    have htl : (tks sg).length ≤ 4000 := by unfold tks; rw [List.length_map]; exact hfl
    try dsimp only
    have hsg1 : 1 ≤ sg.length := hfit.sg1
    have hyl : ys2.toArray.size = (tks sg).length := by rw [List.size_toArray, hys2.length]
    k_steps
    all_goals (
      (with_reducible rename Fr _ _ _ _ => F8)
      (with_reducible rename News _ _ _ _ => N8)
      dsimp only at N8 F8 ⊢
      refine two_list (vs := ys2.toArray) (fun i ys => IntsAre ys (apA (tks sg) i)) (by rfl) F8 N8 (by k_mem) .nil ?_ ?_
      · rintro s₂ i v C D h tk oC m₂ ys E' ⟨g, rfl⟩ hi hJ0 hoC hm F₁ N₁ hC hD hlC hlD
        have hJ : id (IntsAre ys (apA (tks sg) i)) := hJ0
        clear hJ0
        obtain ⟨j, hj, t, rfl⟩ := (ints_are hys2).get i (by simpa using hi)
        dsimp only
        k_steps
        refine src2_list (vs := ys2.toArray) (fun k ys => IntsAre ys (apA (tks sg) i ++ apIn (tks sg) j k)) (by rfl) (News.isList N₁ (by k_mem)) hC hD hlC hlD ?_ ?_ ?_ ?_
        · intro ys h
          rw [show apIn (tks sg) j 0 = [] from rfl, List.append_nil]; exact h
        · intro ys h
          rw [apA_next hj, ← hyl]; exact h
        · intro k ys hk h
          have hil : i < (tks sg).length := (List.getElem?_eq_some_iff.mp hj).1
          rw [h.length, sizeLine_eq]
          exact apA_ok htl hil
        · rintro k u zs h3 tk3 oC3 m₅ E3 hk hu3 hJ3 hoC3 hx0 hx1 F₃ N₃
          have hJ4 : id (IntsAre zs (apA (tks sg) i ++ apIn (tks sg) j k)) := hJ3
          clear hJ3
          obtain ⟨x, hx, t3, rfl⟩ := (ints_are hys2).get k (by simpa using hu3)
          refine wpAny_tests_one ?_
          k_steps
          all_goals first
            | contradiction
            | (show IntsAre _ (apA (tks sg) i ++ apIn (tks sg) j (k + 1)); rw [apIn_yes hx (by assumption) (by assumption), ← List.append_assoc]; exact IntsAre.append hJ4 (.cons _ _ .nil))
            | (show IntsAre _ (apA (tks sg) i ++ apIn (tks sg) j (k + 1)); rw [apIn_no2 hx (by assumption)]; exact hJ4)
            | (show IntsAre _ (apA (tks sg) i ++ apIn (tks sg) j (k + 1)); rw [apIn_no1 (by assumption)]; exact hJ4)
      · rintro s₂ D h tk ys ⟨g, rfl⟩ hJ off2 F₂ N₂
        rw [hyl] at hJ
        simp only [LCg.Off1, and_true] at off2
        dsimp only
        k_steps
        refine Halt.go ?_
        (with_reducible rename Fr _ _ _ _ => F8)
        (with_reducible rename News _ _ _ _ => N8)
        refine LCg.CompSrc.base (its := #[.ref P1, .ref P2, .ref P3]) (by rfl) F8 N8 hR (by show 3 ≤ sizeLine; decide) ?_
        intro g4
        refine rest_gen (as := [(P1, v1, row_tr1), (P2, v2, row_tr2), (P3, v3, row_tr3)]) (F := fun (a : Addr × List Value × List (Option Str)) v => v = .ref a.1 ∧ s.heap.IsList a.1 a.2.1.toArray ∧ PcsAre a.2.1 a.2.2 ∧ a.2.2.length ≤ 8)
          (fun a v => v = .bool (takes a.2.2 (txB b).cps.toList)) rfl (fun i v hi hv => ?_) (Or.inl hR) ?_ ?_
        · have hi3 : i = 0 ∨ i = 1 ∨ i = 2 := by have : i < 3 := hi; omega
          rcases hi3 with rfl | rfl | rfl
          · exact ⟨_, rfl, (Option.some.inj hv).symm, hP1, hv1, by show row_tr1.length ≤ 8; decide⟩
          · exact ⟨_, rfl, (Option.some.inj hv).symm, hP2, hv2, by show row_tr2.length ≤ 8; decide⟩
          · exact ⟨_, rfl, (Option.some.inj hv).symm, hP3, hv3, by show row_tr3.length ≤ 8; decide⟩
        · rintro j0 ⟨P, vs, ps⟩ v I2 oI2 C2 oC2 D2 m₂ ys2 h2 tk2 E2 hj ⟨rfl, hPl, hPs, hP8⟩ hoC2 hx2 F₂ N₂ off3 hne
          simp only [LCg.Off3, and_true] at off3
          dsimp only at hPl hPs hP8 hx2 ⊢
          k_steps
          exact CEnd.intro (by k_asm) (by k_asm) (by lcg_sub) rfl
        · intro ys4 hys4
          unfold LCg.FinA
          intro D4 h4 tk4 F₄ N₄ off4
          simp only [LCg.Off1, and_true] at off4
          obtain ⟨b1, b2, b3, rfl⟩ : ∃ b1 b2 b3, ys4 = [b1, b2, b3] := three_of hys4.length
          obtain ⟨rfl, rfl, rfl, _⟩ := hys4
          dsimp only at N₄ F₄ ⊢
          k_steps
          refine Halt.go ?_
          (with_reducible rename Fr _ _ _ _ => F9)
          (with_reducible rename News _ _ _ _ => N9)
          have hf0 := hfit.joined
          refine' dec2231_call ?kB F9 N9 ?kX ?kT ?kk ?kd ?ku ?kz ?kz2 ?_ ?_
          (case kB => k_asm); (case kX => k_asm); (case kT => k_asm); (case kk => exact rfl); (case kd => ktr_room); (case ku => ktr_units); (case kz => exact hfit.len1); (case kz2 => exact Nat.le_trans htx (by decide))
          all_goals first
            | (intro h9 tk9 D9 hle F9 N9 n9 hk9
               exact absurd (by with_reducible assumption) (hfit.few hle))
            | (intro h9 tk9 D9 vs9 hle hs9 F9 N9 n9 hk9
               exact absurd (hfit.many hle) (by with_reducible assumption))
            | (intro h9 tk9 D9 hle F9 N9 n9 hk9
               have n9' := off1_of n9
               simp only [LCg.Off1, and_true] at n9'
               dsimp only
               rw [hf0] at N9
               k_steps
               refine Halt.go ?_
               refine eq_nnx (News.isTup N9 (.head _)) (News.isTup N9 (.tail _ (.tail _ (.tail _ (.head _))))) hfit.ok1 (by ke_room) ?_
               k_steps)
            | (intro h9 tk9 D9 vs9 hle hs9 F9 N9 n9 hk9
               have n9' := off1_of n9
               simp only [LCg.Off1, and_true] at n9'
               dsimp only
               k_steps
               refine Halt.go ?_
               have hok2 := hfit.ok2
               have hthree := hfit.three (by with_reducible assumption)
               unfold txB at hok2 hthree
               rw [hthree] at hs9 hok2
               refine eq_strs (News.isList N9 (.head _)) (News.isList N9 (.tail _ (.tail _ (.tail _ (.head _))))) hs9 (.cons _ _ (.cons _ _ (.cons _ _ .nil))) hok2 (by ke_room) ?_
               k_steps)
          all_goals (
            refine Halt.go ?_
            (with_reducible rename Fr _ _ _ _ => F10)
            (with_reducible rename News _ _ _ _ => N10)
            refine eq_bools3 (News.isList N10 (by k_mem)) (News.isList N10 (.head _)) (by ke_room) hfit.row1 hfit.row2 (by rw [hfit.row3]; (with_reducible rename (List.isEmpty _ = _) => hie); rw [hie]; rfl) ?_
            k_steps
            refine leaveK_ F10 N10 fun _ _ => ?_
            exact hret _ _ F10.keep))
end Mine
end
section
open PySem PySem.W PyProof.Rows PySem.Spec PySem.Calls
namespace Mine
local macro_rules | `(tactic| walk_at "call ref") => `(tactic| ((with_reducible show wpAny _ _ (call (Value.ref 99) _ _) _ _ _); refine Halt.mk ?_))
local macro_rules | `(tactic| walk_at "call ref") => `(tactic| ((with_reducible show wpAny _ _ (call (Value.ref 114) _ _) _ _ _); refine Halt.mk ?_))
local macro_rules | `(tactic| walk_at "call type:bytes") => `(tactic| (refine Halt.mk ?_))
local macro_rules | `(tactic| walk_at "eval ListComp") => `(tactic| ((with_reducible show wpAny _ _ (eval (Expr.ListComp _ _ _ _) _) _ _ _); refine Halt.mk ?_))
local macro_rules | `(tactic| walk_at "execs cons") => `(tactic| ((with_reducible show wpAny _ _ (execs (_ :: _) _) _ _ _); dsimp only; refine wpAny_execs_cons ?_))
local macro_rules | `(tactic| walk_at "CompSrc") => `(tactic| ((with_reducible show LCg.CompSrc _ _ _ _ _ _ _ _ _ _ _ _ _ _); refine Halt.mk ?_))
theorem news_tl {h₀ h : Heap} {L : Addr} {p : Addr × Obj} {l : List (Addr × Obj)} (N : News h₀ L h (p :: l)) : News h₀ L h l := fun q hq => N q (.tail _ hq)
theorem compEnd_first {h₀ : Heap} {L I C D X : Addr} {m : Str → Option Value} {s₁ : Shared} {oI oC oD oX : Obj} {S : List (Addr × Obj) → Prop} {rest : Value → List (Addr × Obj) → Prop} {y : Value} {h' : Heap} {tk : Nat} {news : List (Addr × Obj)}
    (F : Fr h₀ L h' m) (N : News h₀ L h' ((X, oX) :: (I, oI) :: (C, oC) :: (D, oD) :: news)) (n : ∀ p ∈ (I, oI) :: (C, oC) :: (D, oD) :: news, p.1 ≠ X) (off : LCg.Off3 I C D news) (hS : S ((X, oX) :: news)) (r : rest y ((X, oX) :: news)) :
    LCg.CompEnd h₀ L m s₁ I oI C oC D oD S rest y { s₁ with heap := h', toks := tk } :=
  LCg.CompEnd.intro F N ((X, oX) :: news) (fun p hp => by
    simp only [List.mem_cons] at hp ⊢
    rcases hp with h | h | h | h | h
    · exact .inr (.inl h)
    · exact .inr (.inr (.inl h))
    · exact .inr (.inr (.inr (.inl h)))
    · exact .inl h
    · exact .inr (.inr (.inr (.inr h)))) ⟨⟨Ne.symm (n _ (.head _)), Ne.symm (n _ (.tail _ (.head _))), Ne.symm (n _ (.tail _ (.tail _ (.head _))))⟩, off⟩ hS r
local macro_rules | `(tactic| walk_at "CompSrcT") => `(tactic| (refine Halt.mk ?_))
theorem are_false {α : Type} {G : α → Value → Prop} : ∀ {ys : List Value} {as : List α}, Are G ys (as.filter fun _ => false) → ys = [] := by
  intro ys as h
  have e : as.filter (fun _ => false) = [] := by simp
  rw [e] at h
  cases ys with
  | nil => rfl
  | cons _ _ => exact h.elim
theorem oct_in (l : List Int) (k : Nat) : ∀ n ∈ List.map (fun k' : Int => k'.fmod 256) (l.take 3) ++ (List.replicate k [(65 : Int)]).flatten ++ [251, 7, 255, 1, 2, 191], 0 ≤ n ∧ n < 256 := by
  intro n hn
  rcases List.mem_append.mp hn with hn | hn
  · rcases List.mem_append.mp hn with hn | hn
    · obtain ⟨x, _, rfl⟩ := List.mem_map.mp hn
      exact ⟨Int.fmod_nonneg_of_pos _ (by decide), Int.fmod_lt_of_pos _ (by decide)⟩
    · obtain ⟨y, hy, hx⟩ := List.mem_flatten.mp hn
      rw [List.eq_of_mem_replicate hy] at hx
      rw [List.mem_singleton.mp hx]
      decide
  · exact (show ∀ n ∈ [(251 : Int), 7, 255, 1, 2, 191], 0 ≤ n ∧ n < 256 by decide) n hn
theorem oct_len (l : List Int) : (List.map (fun k' : Int => k'.fmod 256) (l.take 3) ++ (List.replicate (3 - ((l.take 3).length : Int)).toNat [(65 : Int)]).flatten ++ [251, 7, 255, 1, 2, 191]).length = 9 := by
  have h : (l.take 3).length ≤ 3 := by rw [List.length_take]; omega
  have e : ∀ k : Nat, (List.replicate k [(65 : Int)]).flatten.length = k := by
    intro k
    induction k with
    | zero => rfl
    | succ k ih => rw [List.replicate_succ, List.flatten_cons, List.length_append, ih]; simp; omega
  rw [List.length_append, List.length_append, List.length_map, e]
  simp only [List.length_cons, List.length_nil]
  omega
section
variable {prog : Program} {w : World} {A : Around} {E : Value → Shared → Prop} {s : Shared} {h₀ : Heap} {L : Addr} {m : Str → Option Value} {news : List (Addr × Obj)}
theorem bytes_oct {l : Addr} {vs : List Value} {cut : List Int} {Q : Value → Shared → Prop} (F : Fr h₀ L s.heap m) (N : News h₀ L s.heap news) (hl : s.heap.IsList l vs.toArray)
    (hi : IntsAre vs (List.map (fun k' : Int => k'.fmod 256) (cut.take 3) ++ (List.replicate (3 - ((cut.take 3).length : Int)).toNat [(65 : Int)]).flatten ++ [251, 7, 255, 1, 2, 191])) (hh : A.handled = none)
    (h : ∀ h' b t k ks, KBw.bInts b = ks → ks.length = 9 → Fr h₀ L h' m → News h₀ L h' news → Q (.bytes b t) { s with heap := h', toks := k }) : wpAny (model prog w) A (call (.type "bytes") [.ref l]) Q E s := by
  refine bytes_K F N hl hi (oct_in _ _) (by rw [hi.length, oct_len, sizeLine_eq]; decide) hh ?_
  intro h7 t7 k7 F7 N7 _
  refine h _ _ _ _ _ rfl ?_ F7 N7
  rw [KBw.ints_length, List.size_toArray, List.length_map, oct_len]
end
theorem loose_eq : looseW viewQ looseQ ++ List.map (fun x => x.name) (recsOf viewQ) ++ List.map (fun x => x.fst) (litsOf viewQ) ++ List.map (fun x => x.name) (clssOf viewQ (looseW viewQ looseQ)) =
    [Str.ofString "_wall", Str.ofString "TICK", Str.ofString "decode_rfc2231", Str.ofString "_buffer", Str.ofString "_truth", Str.ofString "_B64", Str.ofString "b2a_base64", Str.ofString "b64encode", Str.ofString "_twin_re_1", Str.ofString "_special_chars_map", Str.ofString "escape", Str.ofString "_translate", Str.ofString "_law_takes", Str.ofString "_law_signs", Str.ofString "_law_right", Str.ofString "_sre", Str.ofString "law"] := by kernel_rfl
set_option maxRecDepth 100000 in
set_option maxHeartbeats 8000000 in
theorem said : OpenLaw.wellSaid PySem.Challenge.rw_aa0019_01 = true := (congrFun PySem.W.Fast.te9446332074065402090 PySem.Challenge.rw_aa0019_01).trans (by kernel_rfl)
set_option maxRecDepth 100000 in
set_option maxHeartbeats 8000000 in
theorem law_holds : PySem.Challenge.rw_aa0019_01.Holds := by
  w_on
  refine holds_law said fun said => ?_
  refine holds_open (q := viewQ) (loose := looseQ) (Xt := tameQ) (XP := XL viewQ []) (Yf := Hook.obs hd.1) (Ya := Hook.val hd.1) (YP := Hook.says hd.1) (N := 3666) top_left (Hook.of hd.1) (Hook.keeps hd.1) (fun s e => xl_of s (Bool.and_eq_true_iff.mp e).1) XL.keeps (by rfl) (by rfl) (by rfl) (fun s e => recFacts_of (Bool.and_eq_true_iff.mp e).2) (by rfl) (by first | assumption | decide +kernel) (by decide +kernel) ⟨rfl, rfl, rfl, rfl, rfl, by decide +kernel⟩ ?hw ?hc
  (case hw => w_witness2)
  (with_reducible rename (OpenRow.wellSaid _ = true) => hsaid)
  clear hsaid
  unfold hd
  dsimp only
  k_go0
  show wpAny _ _ _ _ _ _
  (with_reducible rename Top topProg _ _ _ _ _ => T9)
  rw [loose_eq] at T9
  (with_reducible rename TopE _ _ _ _ => gE); clear gE
  (with_reducible rename TopW _ _ _ => gW); clear gW
  (with_reducible rename Top viewQ _ _ _ _ _ => gT); clear gT
  (try ((with_reducible rename Tables _ _ => gB); clear gB)); (try ((with_reducible rename Tables _ _ _ => gB); clear gB)); (try ((with_reducible rename Tables _ _ _ _ => gB); clear gB))
  (with_reducible rename Flt.MathXP _ _ _ => gX); (try clear gX)
  (with_reducible rename Ground _ _ _ _ _ _ _ _ _ => gG); (try clear gG)
  k_fold
  k_steps
  refine Halt.go ?_
  (with_reducible rename Fr _ _ _ _ => F6)
  (with_reducible rename News _ _ _ _ => N6)
  (with_reducible rename IntsAre _ (List.take 3 _) => hI5)
  (try dsimp only at F6 N6 ⊢)
  refine LCg.ListComp_U (F₀ := F6) (by with_unfolding_all rfl) (by decide) (by rfl) (by decide) (by rfl) ?_
  k_steps
  refine Halt.go ?_
  have hA := ints_are hI5
  have hAl := hI5.length
  refine LCg.CompSrc.ledger (by rfl) F6 N6 (.head _) (by rw [List.size_toArray, hAl, List.length_take, sizeLine_eq]; omega) ?_
  intro g0
  refine rest_gen (F := IntIs) (fun k => IntIs (k.fmod 256)) (by rw [List.size_toArray, hAl]) (fun i v _ hv => hA.get i (by simpa using hv)) (Or.inr ⟨_, .head _, rfl, _, rfl⟩) ?_ ?_
  · rintro j0 k v I2 oI2 C2 oC2 D2 m₂ ys2 h2 tk2 E2 hj ⟨t2, rfl⟩ hoC2 hx2 F₂ N₂ off3 hne
    simp only [LCg.Off3, and_true] at off3
    k_steps
    exact CEnd.intro (by k_asm) (by k_asm) (by lcg_sub) ⟨_, rfl⟩
  intro ys2 hys2
  unfold LCg.FinE
  intro D2 h2 tk2 F₂ N₂ off2
  simp only [LCg.Off1, and_true] at off2
  replace hys2 := are_ints (hys2.map (fun k : Int => k.fmod 256) fun _ _ x => x)
  try dsimp only
  k_steps
  refine Halt.go ?_
  (with_reducible rename Fr _ _ _ _ => F6)
  (with_reducible rename News _ _ _ _ => N6)
  (with_reducible rename IntsAre _ (_ ++ _) => hI6)
  (try dsimp only at F6 N6 ⊢)
  refine bytes_oct F6 N6 (News.isList N6 (.head _)) hI6 rfl ?_
  intro h7 b t7 k7 ks hks hkl F7 N7
  k_steps
  refine Halt.go ?_
  (with_reducible rename Fr _ _ _ _ => F6)
  (with_reducible rename News _ _ _ _ => N6)
  replace N6 := news_tl (news_tl (news_tl (news_tl (news_tl (news_tl (news_tl N6))))))
  (try dsimp only at F6 N6 ⊢)
  refine LCg.ListComp_U (F₀ := F6) (by with_unfolding_all rfl) (by decide) (by rfl) (by decide) (by rfl) ?_
  k_steps
  refine Halt.go ?_
  (with_reducible rename Fr _ _ _ _ => F5)
  (with_reducible rename News _ _ _ _ => N5)
  (try dsimp only at F5 N5 ⊢)
  refine LCg.CompSrc.ledger (by rfl) F5 N5 (.head _) (by show 3 ≤ sizeLine; decide) ?_
  intro g1
  refine LCg.CompRest.succ ?_
  intro v I oI C oC D m₂ h tk E' hv hoC hx F N off0 ne
  obtain rfl : v = .str (Str.ofString "*'*'*") _ := (Option.some.inj hv).symm
  have off := off0
  simp only [LCg.Off3, and_true] at off
  k_steps
  refine Halt.go ?_
  (with_reducible rename Fr _ _ _ _ => F1)
  (with_reducible rename News _ _ _ _ => N1)
  refine' tr1_call ?kB F1 N1 ?kX ?kT ?kk ?kd ?ku ?_
  (case kk => exact rfl)
  (case kd => exact (show 302 + 8 < recursionLimit from by decide +kernel))
  (case ku => exact (show 7 + 64 < cLine from by decide +kernel))
  (case kB => k_asm)
  (case kX => k_asm)
  (case kT => k_asm)
  clear F1 N1
  intro h9 tk9 R1 vs1 ep1 hp1 F9 N9 n9 hk9
  clear hk9 hv hx hoC
  have nk1 := off1_of n9
  simp only [LCg.Off1, and_true] at nk1
  show qk _ _
  k_unfold
  (try dsimp only)
  refine compEnd_first F9 N9 n9 off0 (Or.inr ⟨_, by k_mem, rfl, _, rfl⟩) ?_
  clear F9 N9 n9 off off0 ne
  refine LCg.CompRest.succ ?_
  intro v I oI C oC D m₂ h tk E' hv hoC hx F N off0 ne
  obtain rfl : v = .str (Str.ofString "?*'?*'*") _ := (Option.some.inj hv).symm
  have off := off0
  simp only [LCg.Off3, and_true] at off
  k_steps
  refine Halt.go ?_
  (with_reducible rename Fr _ _ _ _ => F1)
  (with_reducible rename News _ _ _ _ => N1)
  refine' tr2_call ?kB F1 N1 ?kX ?kT ?kk ?kd ?ku ?_
  (case kk => exact rfl)
  (case kd => exact (show 302 + 8 < recursionLimit from by decide +kernel))
  (case ku => exact (show 7 + 64 < cLine from by decide +kernel))
  (case kB => k_asm)
  (case kX => k_asm)
  (case kT => k_asm)
  clear F1 N1
  intro h9 tk9 R2 vs2 ep2 hp2 F9 N9 n9 hk9
  clear hk9 hv hx hoC
  have nk2 := off1_of n9
  simp only [LCg.Off1, and_true] at nk2
  show qk _ _
  k_unfold
  (try dsimp only)
  refine compEnd_first F9 N9 n9 off0 (Or.inr ⟨_, by k_mem, rfl, _, rfl⟩) ?_
  clear F9 N9 n9 off off0 ne
  refine LCg.CompRest.succ ?_
  intro v I oI C oC D m₂ h tk E' hv hoC hx F N off0 ne
  obtain rfl : v = .str (Str.ofString "*'*=") _ := (Option.some.inj hv).symm
  have off := off0
  simp only [LCg.Off3, and_true] at off
  k_steps
  refine Halt.go ?_
  (with_reducible rename Fr _ _ _ _ => F1)
  (with_reducible rename News _ _ _ _ => N1)
  refine' tr3_call ?kB F1 N1 ?kX ?kT ?kk ?kd ?ku ?_
  (case kk => exact rfl)
  (case kd => exact (show 302 + 8 < recursionLimit from by decide +kernel))
  (case ku => exact (show 7 + 64 < cLine from by decide +kernel))
  (case kB => k_asm)
  (case kX => k_asm)
  (case kT => k_asm)
  clear F1 N1
  intro h9 tk9 R3 vs3 ep3 hp3 F9 N9 n9 hk9
  clear hk9 hv hx hoC
  have nk3 := off1_of n9
  simp only [LCg.Off1, and_true] at nk3
  show qk _ _
  k_unfold
  (try dsimp only)
  refine compEnd_first F9 N9 n9 off0 (Or.inr ⟨_, by k_mem, rfl, _, rfl⟩) ?_
  clear F9 N9 n9 off off0 ne
  refine LCg.CompRest.zero ?_
  unfold LCg.FinE
  intro Dr hr tkr Fr0 Nr offr
  simp only [LCg.Off1, and_true] at offr
  (try dsimp only [List.nil_append, List.cons_append] at Nr)
  (try dsimp only)
  k_steps
  refine Halt.go ?_
  (with_reducible rename Fr _ _ _ _ => F6)
  (with_reducible rename News _ _ _ _ => N6)
  (try dsimp only at F6 N6 ⊢)
  refine LCt.ListComp_T (F₀ := F6) (by with_unfolding_all rfl) (by decide) (by rfl) (by decide) (by rfl) ?_
  k_steps
  refine Halt.go ?_
  (with_reducible rename Fr _ _ _ _ => F5)
  (with_reducible rename News _ _ _ _ => N5)
  (with_reducible rename (KBw.bInts (KBy.picked _ none (some 8)) = _) => q1)
  (with_reducible rename (KBw.bInts (KBy.picked _ (some 3) (some 8)) = _) => q2)
  (with_reducible rename (KBw.bInts (KBy.picked _ none (some 2)) = _) => q3)
  (with_reducible rename (KBw.bInts (KBy.picked _ (some 3) (some 4)) = _) => q4)
  have s0 : 1 ≤ b.size ∧ b.size ≤ 9 := by rw [← KBw.ints_length, hks, hkl]; decide
  have s1 : 1 ≤ (KBy.picked b none (some 8)).size ∧ (KBy.picked b none (some 8)).size ≤ 9 := by
    rw [← KBw.ints_length, q1]; simp only [List.length_take, List.length_drop, hkl]; decide
  have s2 : 1 ≤ (KBy.picked b (some 3) (some 8)).size ∧ (KBy.picked b (some 3) (some 8)).size ≤ 9 := by
    rw [← KBw.ints_length, q2]; simp only [List.length_take, List.length_drop, hkl]; decide
  have s3 : 1 ≤ (KBy.picked b none (some 2)).size ∧ (KBy.picked b none (some 2)).size ≤ 9 := by
    rw [← KBw.ints_length, q3]; simp only [List.length_take, List.length_drop, hkl]; decide
  have s4 : 1 ≤ (KBy.picked b (some 3) (some 4)).size ∧ (KBy.picked b (some 3) (some 4)).size ≤ 9 := by
    rw [← KBw.ints_length, q4]; simp only [List.length_take, List.length_drop, hkl]; decide
  clear q1 q2 q3 q4
  generalize KBy.picked b none (some 8) = b1 at *
  generalize KBy.picked b (some 3) (some 8) = b2 at *
  generalize KBy.picked b none (some 2) = b3 at *
  generalize KBy.picked b (some 3) (some 4) = b4 at *
  (try dsimp only at F5 N5 ⊢)
  refine LCt.CompSrcT.ledger (by rfl) F5 N5 (.head _) (by show 5 ≤ sizeLine; decide) ?_
  intro g5
  refine restT_gen (as := [b, b1, b2, b3, b4]) (F := fun (x : Array UInt8) v => (1 ≤ x.size ∧ x.size ≤ 9) ∧ ∃ t, v = .bytes x t) (fun _ => false) (fun _ _ => True) rfl (fun i v hi hv => ?_) (Or.inr ⟨_, .head _, rfl, _, rfl⟩) ?_ ?_
  · have hi5 : i = 0 ∨ i = 1 ∨ i = 2 ∨ i = 3 ∨ i = 4 := by have : i < 5 := hi; omega
    rcases hi5 with rfl | rfl | rfl | rfl | rfl
    · exact ⟨_, rfl, s0, _, (Option.some.inj hv).symm⟩
    · exact ⟨_, rfl, s1, _, (Option.some.inj hv).symm⟩
    · exact ⟨_, rfl, s2, _, (Option.some.inj hv).symm⟩
    · exact ⟨_, rfl, s3, _, (Option.some.inj hv).symm⟩
    · exact ⟨_, rfl, s4, _, (Option.some.inj hv).symm⟩
  · rintro j0 x v I oI C oC D m₂ ys h tk E' hj ⟨⟨hx1, hx9⟩, tx, rfl⟩ hoC hx F N off ne
    clear hj
    simp only [LCg.Off3, and_true] at off
    obtain ⟨hfit, hasc⟩ := fits_of x hx1 hx9
    k_steps
    refine Halt.go ?_
    (with_reducible rename Fr _ _ _ _ => F1)
    (with_reducible rename News _ _ _ _ => N1)
    refine' right_call ?kB F1 N1 ?kX ?kT ?kk ?kd ?ku (Nat.le_trans hx9 (by decide)) hfit hasc (News.isList N1 (by k_mem)) (News.isList N1 (by k_mem)) (News.isList N1 (by k_mem)) (News.isList N1 (by k_mem)) hp1 hp2 hp3 ?_
    (case kk => exact rfl)
    (case kd => exact (show 302 + 10 < recursionLimit from by decide +kernel))
    (case ku => exact (show 7 + 128 < cLine from by decide +kernel))
    (case kB => k_asm)
    (case kX => k_asm)
    (case kT => k_asm)
    intro h9 tk9 F9 N9 hk9
    clear hk9 hx hoC
    (try dsimp only)
    k_steps
    exact CEnd.intro F9 N9 (fun _ h => h) rfl
  · intro ys hys
    obtain rfl := are_false hys
    unfold LCg.FinE
    intro Dz hz tkz Fz Nz offz
    simp only [LCg.Off1, and_true] at offz
    (try dsimp only)
    k_steps
end Mine
end
theorem PySem.Challenge.cw_aa0019_01_holds : PySem.Challenge.rw_aa0019_01.Holds := by
  exact Mine.law_holds
