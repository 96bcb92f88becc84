import PyProof.Rows.All
import Wide.All
import OpenK.AllK
import Wide.FinOn
import Lean
import PySem.Challenge.RW_pa0033_01
open PySem PySem.W PyProof.Rows
set_option Elab.async false
section
namespace Mine
set_option maxRecDepth 100000 in
set_option maxHeartbeats 8000000 in
open_top hd for PySem.Challenge.rw_pa0033_01
end Mine
end
section
namespace Mine

abbrev prg : Program := PySem.Challenge.rw_pa0033_01.row.prog
abbrev LS : List Str := [Str.ofString "IPV4_RE", Str.ofString "bytes_types", Str.ofString "a2b_base64", Str.ofString "b2a_base64", Str.ofString "b64encode", Str.ofString "b64decode"]

/-- the surroundings of a call -/
abbrev AA (dp un : Nat) (gd : Option (List Code)) (fr : List Env) : Around := { handled := none, depth := dp, frames := some fr, guards := gd, units := un }

/-- a place where the walk is to stand still -/
def Stop (P : Prop) : Prop := P
theorem Stop.out {P : Prop} (h : Stop P) : P := h
theorem stopQ {P : Prop} (h : Stop P) : Stop P := h

/-- the text's own objects at the base -/
structure GB (w : World) (base : Heap) (mean : ExcName → Option Value) (mg mb : Str → Option Value) : Prop where
  X : (hd.heap_39 w.params).In base
  T : Top hd.view_39 (looseW hd.view_39 LS) mean mg mb base

/-- the ground at a heap, for calls made under the frames fr -/
structure At (w : World) (base : Heap) (fr : List Env) (h : Heap) : Prop where
  G : ∃ mean mg mb, GB w base mean mg mb
  st : base.StaysIn h
  ff : h.FunFrames base fr
  D : KtsDicts (fr.filterMap (·.frame)) h

theorem At.push {w : World} {A : Around} {base h₀ h : Heap} {fr : List Env} {L : Addr} {m : Str → Option Value} {env : Env} {mean mg mb}
    (G : GB w base mean mg mb) (B : Below A base fr h₀) (D : KtsDicts (fr.filterMap (·.frame)) h₀) (F : Fr h₀ L h m) (hf : env.frame = some L) (hk : env.scope.kind = .function) : At w base (env :: fr) h :=
  ⟨⟨mean, mg, mb, G⟩, (pushX B F hf hk).stays, (pushX B F hf hk).frames, fun b hb => by
    rw [List.filterMap_cons_some hf] at hb
    rcases List.mem_cons.mp hb with e | e
    · obtain ⟨o, es, ep, ho, hd, _⟩ := F.ns
      exact ⟨o, es, ep, by rw [e]; exact ho, hd⟩
    · obtain ⟨o, es, n, ho, hd⟩ := D b e
      exact ⟨o, es, n, F.keep b o ho, hd⟩⟩

theorem enter {w : World} {dp un : Nat} {gd : Option (List Code)} {base : Heap} {fr : List Env} {s : Shared} {Q E : Value → Shared → Prop} {name qual : Str} {params : Arguments} {body : List Stmt} {scope : Scope} {dV kV doc pm cdv ct oc : Value} {an od : Option Addr} {osl : Array (Option Value)} {f : Addr} {pos : List Value} {kw : List (Str × Value)} {binds : List (Str × Value)}
    (G : At w base fr s.heap)
    (ho : (hd.heap_39 w.params).lookup f = some ⟨oc, od, .func (fnOf name qual params body scope dV kV doc pm an cdv ct), osl⟩) (hcd : codeIn (hd.heap_39 w.params) cdv qual = true) (hroom : dp < recursionLimit)
    (hbind : (hd.heap_39 w.params).In s.heap → BindsTo s (fnOf name qual params body scope dV kV doc pm an cdv ct) ⟨pos, kw⟩ binds) (hloc : ∀ y ∈ binds, scope.names.lookup y.1 = some .local)
    (hco : scope.isCoroutine = false) (hgen : scope.isGenerator = false) (hk : scope.kind = .function)
    (hcell : ∀ x ∈ scope.names, x.2 ≠ .cell)
    (h : ∀ mean mg mb L' h₁, GB w base mean mg mb → Below (AA dp un gd fr) base fr s.heap → (hd.heap_39 w.params).In s.heap → Top hd.view_39 (looseW hd.view_39 LS) mean mg mb s.heap → KtsDicts (fr.filterMap (·.frame)) s.heap →
      Fr s.heap L' h₁ (fun y => binds.reverse.lookup y) → News s.heap L' h₁ [] →
      wpAny (model prg w) ((AA dp un gd fr).deeper (envOf qual scope L' f cdv)) (execs body (envOf qual scope L' f cdv))
        (fun fl s' => Stop (Q (match fl with | .ret v => v | _ => .none) s'))
        (fun e s' => wpAny (model prg w) ((AA dp un gd fr).deeper (envOf qual scope L' f cdv)) (leaving (envOf qual scope L' f cdv) e) (fun _ s'' => Stop (E e s'')) (fun e' s'' => Stop (E e' s'')) s')
        { s with heap := h₁, toks := s.toks + binds.length }) :
    wpAny (model prg w) (AA dp un gd fr) (call (.ref f) pos kw) Q E s := by
  obtain ⟨⟨mean, mg, mb, GBh⟩, hst, hfr, hD⟩ := G
  have X : (hd.heap_39 w.params).In s.heap := GBh.X.keeps hst
  have T := GBh.T.keeps hst
  refine wpAny_call ?_
  refine codeAny_call_def (fd := fnOf name qual params body scope dV kV doc pm an cdv ct) (body := body) (binds := binds) hroom (X _ _ ho) rfl T.nolimit (codeRec_of X hcd) rfl (hbind X) hcell hloc (fun h₁ hns hk₁ => ?_) hco hgen hk
  exact h mean mg mb s.heap.objs.size h₁ GBh ⟨rfl, hst, hfr⟩ X T hD ⟨hns, hk₁, Nat.le_refl _⟩ News.nil

end Mine
end
section
namespace Mine
section
variable {prog : Program} {w : World} {A : Around} {E : Value → Shared → Prop} {s : Shared} {env : Env} {h₀ : Heap} {x : Str} {body : List Stmt} {Q : Flow → Shared → Prop} {σ : Type}

/-- the state between two turns of a loop -/
def Sg (x : Str) (mp : σ → Str → Option Value) (nw : σ → List (Addr × Obj)) (P : Nat → σ → Prop) (i : Nat) (m : Str → Option Value) (news : List (Addr × Obj)) : Prop :=
  ∃ st, P i st ∧ (∀ z, z ≠ x → m z = mp st z) ∧ news = nw st

theorem map_in {m mp : Str → Option Value} {v : Option Value} (h : ∀ z, z ≠ x → m z = mp z) : (fun y => if y = x then v else m y) = fun y => if y = x then v else mp y := by
  funext y
  by_cases q : y = x
  · simp [q]
  · simp only [if_neg q]; exact h y q

theorem map_out {m mp : Str → Option Value} (h : ∀ z, z ≠ x → m z = mp z) : m = fun y => if y = x then m y else mp y := by
  funext y
  by_cases q : y = x
  · simp [q]
  · simp only [if_neg q]; exact h y q

abbrev TurnS (prog : Program) (w : World) (A : Around) (E : Value → Shared → Prop) (s : Shared) (env : Env) (h₀ : Heap) (x : Str) (body : List Stmt) (Q : Flow → Shared → Prop)
    (mp : σ → Str → Option Value) (nw : σ → List (Addr × Obj)) (P : Nat → σ → Prop) (adr : List Addr) (n : Nat) (PV : Nat → Value → Prop) : Prop :=
  ∀ i v st h tk own, i < n → PV i v → P i st → OwnOff own adr → Fr h₀ env.locals h (fun y => if y = x then some v else mp st y) → News h₀ env.locals h (nw st ++ own) →
    wpAny (model prog w) A (execs body env) (InvPostN h₀ env.locals (Sg x mp nw P (i + 1)) own adr { s with heap := h, toks := tk } Q) E { s with heap := h, toks := tk }

abbrev DoneS (s : Shared) (env : Env) (h₀ : Heap) (x : Str) (Q : Flow → Shared → Prop) (mp : σ → Str → Option Value) (nw : σ → List (Addr × Obj)) (P : Nat → σ → Prop) (n : Nat) : Prop :=
  ∀ st (u : Str → Option Value) h tk, P n st → Fr h₀ env.locals h (fun y => if y = x then u y else mp st y) → News h₀ env.locals h (nw st) → Q .next { s with heap := h, toks := tk }

theorem loopS {I : Addr} {fp wr : List Addr} {n : Nat} {PV : Nat → Value → Prop} {St : Nat → Heap → Prop}
    (mp : σ → Str → Option Value) (nw : σ → List (Addr × Obj)) (P : Nat → σ → Prop) (st₀ : σ)
    (W : Walks prog w A I fp wr n PV St) (hLf : env.locals ∉ fp) (hwr : ∀ b ∈ wr, h₀.get? b = none) (hnw : ∀ p ∈ nw st₀, p.1 ∉ wr) (hfp : ∀ q ∈ nw st₀, q.1 ∉ fp) (hst : St 0 s.heap)
    (F : Fr h₀ env.locals s.heap (mp st₀)) (N : News h₀ env.locals s.heap (nw st₀)) (hj : P 0 st₀)
    (turn : TurnS prog w A E s env h₀ x body Q mp nw P ((nw st₀).map (·.1)) n PV) (done : DoneS s env h₀ x Q mp nw P n) :
    LoopAtV prog w A h₀ env x body Q E (.ref I) s := by
  refine loop_invN (fun i m nx => Sg x mp nw P i m nx) W hLf hwr hnw hfp hst F N ⟨st₀, hj, fun _ _ => rfl, rfl⟩ ?_ ?_
  · rintro i v m₁ news₁ h tk own hin hP _ hsep ⟨st, hp, hm, rfl⟩ F₁ N₁
    rw [map_in hm] at F₁
    exact turn i v st h tk own hin hP hp hsep F₁ N₁
  · rintro m₁ nx h tk ⟨st, hp, hm, rfl⟩ F₁ N₁
    rw [map_out hm] at F₁
    exact done st m₁ h tk hp F₁ N₁

theorem loopS_list {l : Addr} {vs : List Value} (mp : σ → Str → Option Value) (nw : σ → List (Addr × Obj)) (P : Nat → σ → Prop) (st₀ : σ)
    (hh : A.handled = none) (hl : h₀.IsList l vs.toArray) (F : Fr h₀ env.locals s.heap (mp st₀)) (N : News h₀ env.locals s.heap (nw st₀)) (hj : P 0 st₀)
    (turn : TurnS prog w A E s env h₀ x body Q mp nw P ((nw st₀).map (·.1)) vs.length (fun i v => vs[i]? = some v)) (done : DoneS s env h₀ x Q mp nw P vs.length) :
    wpAny (model prog w) A (pyIter (.ref l)) (fun it s₂ => LoopAtV prog w A h₀ env x body Q E it s₂) E s := by
  have hls : s.heap.IsList l vs.toArray := hl.at fun o e => F.keep l o e
  obtain ⟨ol, hol, _⟩ := id hl
  have hlt : l < h₀.objs.size := Heap.lt_size hol
  have hne : l ≠ s.heap.objs.size := Nat.ne_of_lt (Nat.lt_trans (Nat.lt_of_lt_of_le hlt F.above) F.ns.lt)
  refine wpAny_pyIter_list hls ?_
  have W := Walks.list (prog := prog) (w := w) hh s.heap.objs.size l hne vs.toArray
  simp only [List.size_toArray, List.getElem?_toArray] at W
  refine loopS mp nw P st₀ W ?_ ?_ ?_ ?_ ⟨⟨_, Heap.get?_push_size _ rfl, rfl, rfl⟩, hls.at fun o e => Heap.get?_push_of_some _ e⟩ (F.push _) (fun p hp => ⟨Heap.get?_push_of_some _ (N p hp).1, (N p hp).2⟩) hj ?_ ?_
  · intro hm
    rcases List.mem_cons.mp hm with e | hm
    · exact absurd F.ns.lt (e ▸ Nat.lt_irrefl _)
    · exact absurd (Nat.lt_of_lt_of_le hlt F.above) ((List.mem_singleton.mp hm) ▸ Nat.lt_irrefl _)
  · intro b hb
    rw [List.mem_singleton.mp hb]
    exact next_is_new F
  · intro p hp hI
    exact absurd (Heap.lt_size (N p hp).1) ((List.mem_singleton.mp hI) ▸ Nat.lt_irrefl _)
  · intro q hq hI
    rcases List.mem_cons.mp hI with e | hm
    · exact absurd (Heap.lt_size (N q hq).1) (e ▸ Nat.lt_irrefl _)
    · have h3 := (N q hq).2.2
      rw [List.mem_singleton.mp hm, hol] at h3
      cases h3
  · exact turn
  · exact done

theorem loopS_ints {l : Addr} {vs : List Value} {ns : List Int} (mp : σ → Str → Option Value) (nw : σ → List (Addr × Obj)) (P : Nat → σ → Prop) (st₀ : σ)
    (hh : A.handled = none) (hl : h₀.IsList l vs.toArray) (hi : IntsAre vs ns) (F : Fr h₀ env.locals s.heap (mp st₀)) (N : News h₀ env.locals s.heap (nw st₀)) (hj : P 0 st₀)
    (turn : TurnS prog w A E s env h₀ x body Q mp nw P ((nw st₀).map (·.1)) ns.length (fun i v => ∃ n t, ns[i]? = some n ∧ v = .int n t)) (done : DoneS s env h₀ x Q mp nw P ns.length) :
    wpAny (model prog w) A (pyIter (.ref l)) (fun it s₂ => LoopAtV prog w A h₀ env x body Q E it s₂) E s := by
  have hlen : vs.length = ns.length := hi.length
  refine loopS_list mp nw P st₀ hh hl F N hj ?_ (by rw [hlen]; exact done)
  intro i v st h tk own hin hP
  rw [hlen] at hin
  obtain ⟨t, hx⟩ := hi.get i ns[i] (by simp [hin])
  rw [hx] at hP
  exact turn i v st h tk own hin ⟨ns[i], t, by simp [hin], (Option.some.inj hP).symm⟩

theorem loopS_bytes {b : Array UInt8} {tb : Tok} (mp : σ → Str → Option Value) (nw : σ → List (Addr × Obj)) (P : Nat → σ → Prop) (st₀ : σ)
    (hh : A.handled = none) (F : Fr h₀ env.locals s.heap (mp st₀)) (N : News h₀ env.locals s.heap (nw st₀)) (hj : P 0 st₀)
    (turn : TurnS prog w A E s env h₀ x body Q mp nw P ((nw st₀).map (·.1)) b.size (fun i v => ∃ n u, b[i]? = some n ∧ v = .int (n.toNat : Int) u)) (done : DoneS s env h₀ x Q mp nw P b.size) :
    wpAny (model prog w) A (pyIter (.bytes b tb)) (fun it s₂ => LoopAtV prog w A h₀ env x body Q E it s₂) E s := by
  refine KBw.pyIter_bytes ?_
  have W := KBw.walks (prog := prog) (w := w) hh s.heap.objs.size b tb
  refine loopS mp nw P st₀ W ?_ ?_ ?_ ?_ ⟨_, Heap.get?_push_size _ rfl, rfl, rfl⟩ (F.push _) (fun p hp => ⟨Heap.get?_push_of_some _ (N p hp).1, (N p hp).2⟩) hj ?_ ?_
  · intro hm
    exact absurd F.ns.lt ((List.mem_singleton.mp hm) ▸ Nat.lt_irrefl _)
  · intro b' hb
    rw [List.mem_singleton.mp hb]
    exact next_is_new F
  · intro p hp hI
    exact absurd (Heap.lt_size (N p hp).1) ((List.mem_singleton.mp hI) ▸ Nat.lt_irrefl _)
  · intro p hp hI
    exact absurd (Heap.lt_size (N p hp).1) ((List.mem_singleton.mp hI) ▸ Nat.lt_irrefl _)
  · exact turn
  · exact done

/-- the same with the ground map and one address of the ledger written apart -/
theorem loopM_ints {l : Addr} {vs : List Value} {ns : List Int} (mp : σ → (Str → Option Value) → Str → Option Value) (nw : σ → Addr → List (Addr × Obj)) (P : Nat → σ → Prop) (st₀ : σ) (m₀ : Str → Option Value) (D : Addr)
    (hh : A.handled = none) (hl : h₀.IsList l vs.toArray) (hi : IntsAre vs ns) (F : Fr h₀ env.locals s.heap (mp st₀ m₀)) (N : News h₀ env.locals s.heap (nw st₀ D)) (hj : P 0 st₀)
    (turn : TurnS prog w A E s env h₀ x body Q (fun st => mp st m₀) (fun st => nw st D) P ((nw st₀ D).map (·.1)) ns.length (fun i v => ∃ n t, ns[i]? = some n ∧ v = .int n t)) (done : DoneS s env h₀ x Q (fun st => mp st m₀) (fun st => nw st D) P ns.length) :
    wpAny (model prog w) A (pyIter (.ref l)) (fun it s₂ => LoopAtV prog w A h₀ env x body Q E it s₂) E s :=
  loopS_ints (fun st => mp st m₀) (fun st => nw st D) P st₀ hh hl hi F N hj turn done
theorem loopM_bytes {b : Array UInt8} {tb : Tok} (mp : σ → (Str → Option Value) → Str → Option Value) (nw : σ → Addr → List (Addr × Obj)) (P : Nat → σ → Prop) (st₀ : σ) (m₀ : Str → Option Value) (D : Addr)
    (hh : A.handled = none) (F : Fr h₀ env.locals s.heap (mp st₀ m₀)) (N : News h₀ env.locals s.heap (nw st₀ D)) (hj : P 0 st₀)
    (turn : TurnS prog w A E s env h₀ x body Q (fun st => mp st m₀) (fun st => nw st D) P ((nw st₀ D).map (·.1)) b.size (fun i v => ∃ n u, b[i]? = some n ∧ v = .int (n.toNat : Int) u)) (done : DoneS s env h₀ x Q (fun st => mp st m₀) (fun st => nw st D) P b.size) :
    wpAny (model prog w) A (pyIter (.bytes b tb)) (fun it s₂ => LoopAtV prog w A h₀ env x body Q E it s₂) E s :=
  loopS_bytes (fun st => mp st m₀) (fun st => nw st D) P st₀ hh F N hj turn done

/-- a loop whose ledger may change its addresses -/
def InvEndA (h₀ : Heap) (L : Addr) (x : Str) (mp : σ → Str → Option Value) (nw : σ → List (Addr × Obj)) (P : Nat → σ → Prop) (i : Nat) (own : List (Addr × Obj)) (s₁ s₂ : Shared) : Prop :=
  ∃ h' tk m' news' st, s₂ = { s₁ with heap := h', toks := tk } ∧ Fr h₀ L h' m' ∧ News h₀ L h' news' ∧ P i st ∧ (∀ z, z ≠ x → m' z = mp st z) ∧ (∀ p ∈ nw st, p ∈ news') ∧ (∀ p ∈ own, p ∈ news') ∧ OwnOff own ((nw st).map (·.1))
def InvPostA (h₀ : Heap) (L : Addr) (x : Str) (mp : σ → Str → Option Value) (nw : σ → List (Addr × Obj)) (P : Nat → σ → Prop) (i : Nat) (own : List (Addr × Obj)) (s₁ : Shared) (Q : Flow → Shared → Prop) (f : Flow) (s₂ : Shared) : Prop :=
  match f with
  | .ret v => Q (.ret v) s₂
  | .brk => Q .next s₂
  | _ => InvEndA h₀ L x mp nw P i own s₁ s₂
theorem endA {L : Addr} {mp : σ → Str → Option Value} {nw : σ → List (Addr × Obj)} {P : Nat → σ → Prop} {i : Nat} {m' : Str → Option Value} {own news' : List (Addr × Obj)} {s₁ : Shared} {h' : Heap} {tk : Nat}
    (F : Fr h₀ L h' m') (N : News h₀ L h' news') (st : σ) (hP : P i st) (hm : ∀ z, z ≠ x → m' z = mp st z) (hn : ∀ p ∈ nw st, p ∈ news') (ho : ∀ p ∈ own, p ∈ news') (ha : OwnOff own ((nw st).map (·.1))) :
    InvEndA h₀ L x mp nw P i own s₁ { s₁ with heap := h', toks := tk } := ⟨h', tk, m', news', st, rfl, F, N, hP, hm, hn, ho, ha⟩
abbrev TurnA (prog : Program) (w : World) (A : Around) (E : Value → Shared → Prop) (s : Shared) (env : Env) (h₀ : Heap) (x : Str) (body : List Stmt) (Q : Flow → Shared → Prop)
    (mp : σ → Str → Option Value) (nw : σ → List (Addr × Obj)) (P : Nat → σ → Prop) (n : Nat) (PV : Nat → Value → Prop) : Prop :=
  ∀ i v st h tk own, i < n → PV i v → P i st → OwnOff own ((nw st).map (·.1)) → Fr h₀ env.locals h (fun y => if y = x then some v else mp st y) → News h₀ env.locals h (nw st ++ own) →
    wpAny (model prog w) A (execs body env) (InvPostA h₀ env.locals x mp nw P (i + 1) own { s with heap := h, toks := tk } Q) E { s with heap := h, toks := tk }

theorem loopA_ints {l : Addr} {vs : List Value} {ns : List Int} (mp : σ → Str → Option Value) (nw : σ → List (Addr × Obj)) (P : Nat → σ → Prop) (st₀ : σ)
    (hh : A.handled = none) (hl : h₀.IsList l vs.toArray) (hi : IntsAre vs ns) (F : Fr h₀ env.locals s.heap (mp st₀)) (N : News h₀ env.locals s.heap (nw st₀)) (hj : P 0 st₀)
    (turn : TurnA prog w A E s env h₀ x body Q mp nw P ns.length (fun i v => ∃ n t, ns[i]? = some n ∧ v = .int n t)) (done : DoneS s env h₀ x Q mp nw P ns.length) :
    wpAny (model prog w) A (pyIter (.ref l)) (fun it s₂ => LoopAtV prog w A h₀ env x body Q E it s₂) E s := by
  have hlen : vs.length = ns.length := hi.length
  have hls : s.heap.IsList l vs.toArray := hl.at fun o e => F.keep l o e
  obtain ⟨ol, hol, _⟩ := id hl
  have hlt : l < h₀.objs.size := Heap.lt_size hol
  have hne : l ≠ s.heap.objs.size := Nat.ne_of_lt (Nat.lt_trans (Nat.lt_of_lt_of_le hlt F.above) F.ns.lt)
  refine wpAny_pyIter_list hls ?_
  have W := Walks.list (prog := prog) (w := w) hh s.heap.objs.size l hne vs.toArray
  simp only [List.size_toArray, List.getElem?_toArray] at W
  rw [hlen] at W
  let J : Nat → (Str → Option Value) → List (Addr × Obj) → Prop := fun i m nx => Sg x mp nw P i m nx
  refine ⟨_, _, _, ns.length, _, _, mp st₀, nw st₀, J, rfl, W, ?_, ?_, ?_, ⟨⟨_, Heap.get?_push_size _ rfl, rfl, rfl⟩, hls.at fun o e => Heap.get?_push_of_some _ e⟩, F.push _, (fun p hp => ⟨Heap.get?_push_of_some _ (N p hp).1, (N p hp).2⟩), ⟨st₀, hj, fun _ _ => rfl, rfl⟩, ?_, ?_⟩
  · intro hm
    rcases List.mem_cons.mp hm with e | hm
    · exact absurd F.ns.lt (e ▸ Nat.lt_irrefl _)
    · exact absurd (Nat.lt_of_lt_of_le hlt F.above) ((List.mem_singleton.mp hm) ▸ Nat.lt_irrefl _)
  · intro b hb
    rw [List.mem_singleton.mp hb]
    exact next_is_new F
  · intro p hp hI
    exact absurd (Heap.lt_size (N p hp).1) ((List.mem_singleton.mp hI) ▸ Nat.lt_irrefl _)
  · rintro i v m₁ news₁ s₁ own ⟨hh', tk', rfl⟩ hin hP ⟨st, hp, hm, rfl⟩ hoff hown hget hall hSt F₁ N₁
    rw [map_in hm] at F₁
    have N₂ : News h₀ env.locals hh' (nw st ++ own) := fun p hp => N₁ p ((List.mem_append.mp hp).elim (fun h => List.mem_append.mpr (.inr h)) fun h => List.mem_append.mpr (.inl h))
    have hsep : OwnOff own ((nw st).map (·.1)) := by
      intro p hp b hb e
      obtain ⟨q, hq, rfl⟩ := List.mem_map.mp hb
      rcases List.mem_cons.mp (hown p hp) with h1 | h1
      · exact hoff q hq (by rw [← e, h1]; exact List.mem_singleton.mpr rfl)
      · have h3 := (N₁ q (List.mem_append.mpr (.inr hq))).2.2
        rw [← e, List.mem_singleton.mp h1, hol] at h3
        cases h3
    obtain ⟨t, hx⟩ := hi.get i ns[i] (by simp [hin])
    have hv : v = .int ns[i] t := by rw [hx] at hP; exact (Option.some.inj hP).symm
    refine wpAny_mono (turn i v st hh' tk' own hin ⟨ns[i], t, by simp [hin], hv⟩ hp hsep F₁ N₂) (fun f s₂ p => ?_) fun _ _ e => e
    have fin : InvEndA h₀ env.locals x mp nw P (i + 1) own { s with heap := hh', toks := tk' } s₂ → LoopStepU h₀ env.locals [s.heap.objs.size] own (J (i + 1)) { s with heap := hh', toks := tk' } .next s₂ := by
      rintro ⟨h', tk, m', news', st', e, F', N', hP', hm', hn, ho, ha⟩
      refine ⟨rfl, h', tk, m', nw st', e, F', fun p hp => N' p ((List.mem_append.mp hp).elim (ho p) (hn p)), fun p hp hq => ?_, ⟨st', hP', hm', rfl⟩⟩
      obtain ⟨oI, hoI, _⟩ := hSt.1
      have hmem := hall s.heap.objs.size (List.mem_cons_self ..) (next_is_new F) oI hoI
      exact ha _ hmem p.1 (List.mem_map.mpr ⟨p, hp, rfl⟩) (List.mem_singleton.mp hq).symm
    cases f with
    | ret v => exact .ret p
    | brk => exact .brk p
    | next => exact .next (fin p)
    | cont => exact .cont (fin p)
  · rintro h' tk m' news' F' N' _ ⟨st, hp, hm, rfl⟩
    rw [map_out hm] at F'
    exact done st m' h' tk hp F' N'

theorem loopAM_ints {l : Addr} {vs : List Value} {ns : List Int} (mp : σ → (Str → Option Value) → Str → Option Value) (nw : σ → List (Addr × Obj)) (P : Nat → σ → Prop) (st₀ : σ) (m₀ : Str → Option Value)
    (hh : A.handled = none) (hl : h₀.IsList l vs.toArray) (hi : IntsAre vs ns) (F : Fr h₀ env.locals s.heap (mp st₀ m₀)) (N : News h₀ env.locals s.heap (nw st₀)) (hj : P 0 st₀)
    (turn : TurnA prog w A E s env h₀ x body Q (fun st => mp st m₀) nw P ns.length (fun i v => ∃ n t, ns[i]? = some n ∧ v = .int n t)) (done : DoneS s env h₀ x Q (fun st => mp st m₀) nw P ns.length) :
    wpAny (model prog w) A (pyIter (.ref l)) (fun it s₂ => LoopAtV prog w A h₀ env x body Q E it s₂) E s :=
  loopA_ints (fun st => mp st m₀) nw P st₀ hh hl hi F N hj turn done

section
variable {M : Model} {L a : Addr} {m : Str → Option Value} {news : List (Addr × Obj)} {cn : Str} {cs : Scope} {ccd : Value} {cl : List (Str × Addr)} {y : Str} {Qu : Unit → Shared → Prop} {t₀ : Tok}
/-- a name stored; the value's token and the clock are forgotten -/
theorem store_int {n : Int} (F : Fr h₀ L s.heap m) (N : News h₀ L s.heap news)
    (h : ∀ (t : Tok) (tk : Nat) h', Fr h₀ L h' (fun z => if z = y then some (.int n t) else m z) → News h₀ L h' news → Qu () ⟨h', s.gens, s.drawn, tk, s.os⟩)
    (hk : cs.kind = .function) (hx : (envX cn cs L a ccd cl).kindOf y = some .local) : wpAny M A (storeName (envX cn cs L a ccd cl) y (.int n t₀)) Qu E s :=
  storeX_L F N (fun h' F' N' => h t₀ _ h' F' N') hk hx
theorem store_cint {n : Int} {c : Addr} {o : Obj} {v₀ : Option Value} {g : Obj → List (Addr × Obj)} (F : Fr h₀ L s.heap m) (N : News h₀ L s.heap news) (hc : cl.lookup y = some c) (U : UpdF c o news g) (hd : o.data = .cell v₀)
    (h : ∀ (t : Tok) (tk : Nat) h' o', Fr h₀ L h' m → News h₀ L h' (g o') → o'.data = .cell (some (.int n t)) → Qu () ⟨h', s.gens, s.drawn, tk, s.os⟩)
    (hk : cs.kind = .function) (hx : (envX cn cs L a ccd cl).kindOf y = some .cell) : wpAny M A (storeName (envX cn cs L a ccd cl) y (.int n t₀)) Qu E s :=
  storeX_C F N hc U hd (fun h' o' F' N' d' => h t₀ _ h' o' F' N' d') hk hx
theorem store_str {v : Str} (F : Fr h₀ L s.heap m) (N : News h₀ L s.heap news)
    (h : ∀ (t : Tok) (tk : Nat) h', Fr h₀ L h' (fun z => if z = y then some (.str v t) else m z) → News h₀ L h' news → Qu () ⟨h', s.gens, s.drawn, tk, s.os⟩)
    (hk : cs.kind = .function) (hx : (envX cn cs L a ccd cl).kindOf y = some .local) : wpAny M A (storeName (envX cn cs L a ccd cl) y (.str v t₀)) Qu E s :=
  storeX_L F N (fun h' F' N' => h t₀ _ h' F' N') hk hx
theorem store_bytes {v : Array UInt8} (F : Fr h₀ L s.heap m) (N : News h₀ L s.heap news)
    (h : ∀ (t : Tok) (tk : Nat) h', Fr h₀ L h' (fun z => if z = y then some (.bytes v t) else m z) → News h₀ L h' news → Qu () ⟨h', s.gens, s.drawn, tk, s.os⟩)
    (hk : cs.kind = .function) (hx : (envX cn cs L a ccd cl).kindOf y = some .local) : wpAny M A (storeName (envX cn cs L a ccd cl) y (.bytes v t₀)) Qu E s :=
  storeX_L F N (fun h' F' N' => h t₀ _ h' F' N') hk hx
end

theorem endS {L : Addr} {mp : σ → Str → Option Value} {nw : σ → List (Addr × Obj)} {P : Nat → σ → Prop} {i : Nat} {m' : Str → Option Value} {own news' : List (Addr × Obj)} {adr : List Addr} {s₁ : Shared} {h' : Heap} {tk : Nat}
    (F : Fr h₀ L h' m') (N : News h₀ L h' news') (st : σ) (hP : P i st) (hm : ∀ z, z ≠ x → m' z = mp st z) (hn : ∀ p ∈ nw st, p ∈ news') (ho : ∀ p ∈ own, p ∈ news') (ha : (nw st).map (·.1) = adr) :
    InvEndN h₀ L (Sg x mp nw P i) own adr s₁ { s₁ with heap := h', toks := tk } :=
  InvEndN.intro F N ⟨st, hP, hm, rfl⟩ ha hn ho

theorem same1 {m' m₀ : Str → Option Value} {a : Str} {va : Option Value} (h1 : m' a = va) (h3 : ∀ z, z ≠ x → z ≠ a → m' z = m₀ z) : ∀ z, z ≠ x → m' z = (if z = a then va else m₀ z) := by
  intro z hz
  by_cases q : z = a
  · subst q; simp [h1]
  · simp only [if_neg q]; exact h3 z hz q
theorem same2 {m' m₀ : Str → Option Value} {a b : Str} {va vb : Option Value} (h1 : m' a = va) (h2 : m' b = vb) (h3 : ∀ z, z ≠ x → z ≠ a → z ≠ b → m' z = m₀ z) :
    ∀ z, z ≠ x → m' z = (if z = a then va else if z = b then vb else m₀ z) :=
  same1 h1 fun z hz hza => by
    by_cases q : z = b
    · subst q; simp [h2]
    · simp only [if_neg q]; exact h3 z hz hza q
theorem same3 {m' m₀ : Str → Option Value} {a b c : Str} {va vb vc : Option Value} (h1 : m' a = va) (h2 : m' b = vb) (hc : m' c = vc) (h3 : ∀ z, z ≠ x → z ≠ a → z ≠ b → z ≠ c → m' z = m₀ z) :
    ∀ z, z ≠ x → m' z = (if z = a then va else if z = b then vb else if z = c then vc else m₀ z) :=
  same2 h1 h2 fun z hz hza hzb => by
    by_cases q : z = c
    · subst q; simp [hc]
    · simp only [if_neg q]; exact h3 z hz hza hzb q
theorem same4 {m' m₀ : Str → Option Value} {a b c d : Str} {va vb vc vd : Option Value} (h1 : m' a = va) (h2 : m' b = vb) (hc : m' c = vc) (hd : m' d = vd) (h3 : ∀ z, z ≠ x → z ≠ a → z ≠ b → z ≠ c → z ≠ d → m' z = m₀ z) :
    ∀ z, z ≠ x → m' z = (if z = a then va else if z = b then vb else if z = c then vc else if z = d then vd else m₀ z) :=
  same3 h1 h2 hc fun z hz hza hzb hzc => by
    by_cases q : z = d
    · subst q; simp [hd]
    · simp only [if_neg q]; exact h3 z hz hza hzb hzc q

theorem IntsAre.snoc {vs : List Value} {ys : List Int} (h : IntsAre vs ys) (y : Int) (t : Tok) : IntsAre (vs ++ [.int y t]) (ys ++ [y]) := by
  induction h with
  | nil => exact .cons _ _ .nil
  | cons y t _ ih => exact .cons _ _ ih
theorem ints_push {a : Array Value} {out : List Int} {y : Int} {t : Tok} (h : IntsAre a.toList out) : IntsAre (a.push (.int y t)).toList (out ++ [y]) := by
  rw [Array.toList_push]; exact IntsAre.snoc h _ _

theorem Fr.stays {h₀ h h' : Heap} {L : Addr} {m : Str → Option Value} (F : Fr h₀ L h m) (st : h.StaysIn h') : Fr h₀ L h' m :=
  ⟨F.ns.keeps st, fun b o e => st b o (F.keep b o e), F.above⟩
theorem News.stays {h₀ h h' : Heap} {L : Addr} {news : List (Addr × Obj)} (N : News h₀ L h news) (st : h.StaysIn h') : News h₀ L h' news :=
  fun p hp => ⟨st _ _ (N p hp).1, (N p hp).2⟩
end
end Mine
end
section
namespace Mine
/-- the sign of a figure -/
def signc (n : Int) : Nat := (if n < 26 then 65 + n else if n < 52 then 71 + n else if n < 62 then n - 4 else if n = 62 then 46 else 45).toNat
def sign1 (n : Int) : Str := ⟨#[signc n]⟩
def signs (ns : List Int) : Str := ⟨(ns.map signc).toArray⟩

/-- the octets of a row of figures -/
def octGo : List Int → Int → Int → List Int
  | [], _, _ => []
  | f :: r, held, bits =>
    if 2 ≤ bits then (held * 64 + f) / 2 ^ (bits - 2).toNat :: octGo r ((held * 64 + f) % 2 ^ (bits - 2).toNat) (bits - 2)
    else octGo r (held * 64 + f) (bits + 6)
def octs (ns : List Int) : List Int := octGo ns 0 0
def whole (ns : List Int) : List Int :=
  if ns.length % 4 = 0 then ns
  else if ns.length % 4 = 1 then ns ++ [0]
  else if ns.length % 4 = 2 then ns.dropLast ++ [ns.getLastD 0 / 16 * 16]
  else ns.dropLast ++ [ns.getLastD 0 / 4 * 4]

def rowGo : List Int → List Int
  | [] => []
  | x :: r =>
    (if x % 6 = 0 then [62] else if x % 6 = 1 then [37, 40, 28, 26, 37] else if x % 6 = 2 then [52 + x / 6 % 10] else if x % 6 = 3 then [63] else [x / 6 % 62]) ++ rowGo r
def rowOf (xs : List Int) : List Int := whole ((rowGo xs).take 12)

def readOf (ns : List Int) (pads : Int) : Option (List Int) :=
  if ns.length % 4 = 1 ∨ (1 < ns.length % 4 ∧ (ns.length % 4 : Nat) + pads < 4) then none else some (octs ns)

/-- the bytes, or None -/
def optV (o : Option (List Int)) (t : Tok) : Value := match o with
  | some out => .bytes (byteArr out) t
  | none => .none
/-- what lies behind the last 62 -/
def tailGo : List Int → List Int → List Int
  | [], t => t
  | f :: r, t => if f = 62 then tailGo r [] else tailGo r (t ++ [f])
def numbered (ns : List Int) (pads : Int) : Bool :=
  decide (pads ≤ 0) && decide (62 ∈ ns) && (let t := tailGo ns []; decide (t ≠ []) && t.all fun f => decide (51 < f ∧ f < 62))
def named (ns : List Int) (pads : Int) : Bool :=
  decide (ns ≠ []) && decide (ns.headD 0 ≠ 62) && decide (ns.getLastD 0 ≠ 62) && !numbered ns pads

/-- base 64 -/
def b64v (c : Int) : Int := if 65 ≤ c ∧ c ≤ 90 then c - 65 else if 97 ≤ c ∧ c ≤ 122 then c - 71 else if 48 ≤ c ∧ c ≤ 57 then c + 4 else if c = 43 then 62 else if c = 47 then 63 else 64

/-- the reader's state: place in the quad, what is left, the pads -/
def a2bGo : List Int → Int → Int → Int → List Int → Int × Int × List Int
  | [], q, _, p, out => (q, p, out)
  | c :: r, q, l, p, out =>
    if c = 61 then a2bGo r q l (p + 1) out
    else if 64 ≤ b64v c then a2bGo r q l p out
    else if q = 0 then a2bGo r 1 (b64v c) 0 out
    else if q = 1 then a2bGo r 2 (b64v c % 16) 0 (out ++ [l * 4 + b64v c / 16])
    else if q = 2 then a2bGo r 3 (b64v c % 4) 0 (out ++ [l * 16 + b64v c / 4])
    else a2bGo r 0 0 0 (out ++ [l * 64 + b64v c])
def a2b (bs : List Int) : Option (List Int) :=
  match a2bGo bs 0 0 0 [] with
  | (q, p, out) => if q = 1 then none else if q ≠ 0 ∧ q + p < 4 then none else some out
/-- the code of a figure -/
def c64 (f : Int) : Int := if f < 26 then 65 + f else if f < 52 then 71 + f else if f < 62 then f - 4 else if f = 62 then 43 else 47
/-- the writer's state: the bits left, what is left; the figures -/
def b2aGo : List Int → Int → Int → List Int → List Int × Int × Int
  | [], lb, lc, out => (out, lb, lc)
  | b :: r, lb, lc, out =>
    if lb = 0 then b2aGo r 2 ((lc * 256 + b) % 65536) (out ++ [(lc * 256 + b) % 65536 / 4 % 64])
    else if lb = 2 then b2aGo r 4 ((lc * 256 + b) % 65536) (out ++ [(lc * 256 + b) % 65536 / 16 % 64])
    else b2aGo r 0 ((lc * 256 + b) % 65536) (out ++ [(lc * 256 + b) % 65536 / 64 % 64] ++ [(lc * 256 + b) % 65536 % 64])
/-- the codes that are written -/
def b2a (bs : List Int) : List Int :=
  match b2aGo bs 0 0 [] with
  | (out, lb, lc) => out.map c64 ++ (if lb = 2 then [c64 (lc % 4 * 16), 61, 61] else if lb = 4 then [c64 (lc % 16 * 4), 61] else [])
def bInts (b : Array UInt8) : List Int := b.toList.map fun c => (c.toNat : Int)
theorem bInts_at {b : Array UInt8} {i : Nat} {n : UInt8} (h : b[i]? = some n) : (bInts b)[i]? = some (n.toNat : Int) := by
  unfold bInts; rw [List.getElem?_map, Array.getElem?_toList, h]; rfl
theorem bInts_length (b : Array UInt8) : (bInts b).length = b.size := by simp [bInts]
theorem drop_at {α : Type} {ns : List α} {i : Nat} {n : α} (hx : ns[i]? = some n) : ns.drop i = n :: ns.drop (i + 1) := by
  obtain ⟨h, e⟩ := List.getElem?_eq_some_iff.mp hx
  rw [List.drop_eq_getElem_cons h, e]
theorem bitOr_nat (m n : Nat) : Builtin.bitOr (m : Int) (n : Int) = ((m ||| n : Nat) : Int) := by
  unfold Builtin.bitOr Builtin.bitAnd
  have h1 : decide (0 ≤ Builtin.bitNot (m : Int)) = false := decide_eq_false (by unfold Builtin.bitNot; omega)
  have h2 : decide (0 ≤ Builtin.bitNot (n : Int)) = false := decide_eq_false (by unfold Builtin.bitNot; omega)
  have e : ∀ k : Nat, Builtin.bitNot (Builtin.bitNot (k : Int)) = (k : Int) := fun k => by unfold Builtin.bitNot; omega
  rw [h1, h2]
  dsimp only
  rw [e, e, e]; rfl
theorem bitOr_add {l v : Int} (k : Nat) (hl : 0 ≤ l) (h0 : 0 ≤ v) (h1 : v < 2 ^ k) : Builtin.bitOr (l * 2 ^ k) v = l * 2 ^ k + v := by
  obtain ⟨a, rfl⟩ := Int.eq_ofNat_of_zero_le hl
  obtain ⟨b, rfl⟩ := Int.eq_ofNat_of_zero_le h0
  have hb : b < 2 ^ k := by exact_mod_cast h1
  have e := Nat.shiftLeft_add_eq_or_of_lt hb a
  rw [Nat.shiftLeft_eq] at e
  have e2 : ((a : Int) * 2 ^ k) = ((a * 2 ^ k : Nat) : Int) := by push_cast; rfl
  rw [e2]
  have e3 : ((a * 2 ^ k : Nat) : Int) + (b : Int) = ((a * 2 ^ k + b : Nat) : Int) := by push_cast; rfl
  rw [e3, e]
  exact bitOr_nat _ _
end Mine
end
section
namespace Mine
theorem loop2 {β : Type} (f : Nat → β → Sem (ForInStep β)) (a b : β) (l : List Nat) (h0 : ∀ k, f k a = pure (.yield b)) (h1 : ∀ k, f k b = pure (.done b)) (hl : l ≠ []) : forIn l a f = pure b := by
  cases l with
  | nil => exact absurd rfl hl
  | cons k r =>
    rw [List.forIn_cons, h0]
    show forIn r b f = pure b
    cases r with
    | nil => rfl
    | cons k' r' => rw [List.forIn_cons, h1]; rfl
open Builtin._codecs in
theorem enc_ascii (id : String) (self : Value) (x : Str) (hx : ∀ c ∈ x.cps.toList, c < 128) (hz : x.length ≤ sizeLine) : encodeNarrow id asciiCodec none self x = pure (x.cps.map (·.toUInt8)) := by
  obtain ⟨⟨l⟩⟩ := x
  cases l with
  | nil =>
    unfold encodeNarrow
    simp only [Std.Legacy.Range.forIn_eq_forIn_range']
    rw [show List.range' 0 (Std.Legacy.Range.size { stop := Str.length { cps := { toList := [] } }, step_pos := _ }) = [] from rfl, List.forIn_nil]
    show (pure #[] : Sem (Array UInt8)) = _
    simp
  | cons c r =>
    have hidx : Array.findIdx? asciiCodec.bad (⟨c :: r⟩ : Array Nat) = none := by
      rw [Array.findIdx?_eq_none_iff]
      intro y hy
      have := hx y (by simpa using hy)
      show decide (y ≥ 128) = false
      exact decide_eq_false (by omega)
    have hc : asciiCodec.bad c = false := by
      have := hx c (by simp)
      show decide (c ≥ 128) = false
      exact decide_eq_false (by omega)
    unfold encodeNarrow
    simp only [Std.Legacy.Range.forIn_eq_forIn_range']
    rw [loop2 _ ((0, #[], {}) : Nat × Array UInt8 × Faults) (r.length + 1, (⟨c :: r⟩ : Array Nat).map (·.toUInt8), {}) _ ?_ ?_ ?_]
    · rfl
    · intro k
      dsimp only
      rw [if_neg (by simp)]
      have e0 : (⟨c :: r⟩ : Array Nat)[0]? = some c := rfl
      simp only [e0, hc]
      have e1 : (⟨c :: r⟩ : Array Nat).extract 0 (Array.size ⟨c :: r⟩) = ⟨c :: r⟩ := by simp
      simp only [e1, hidx, Option.getD_none, Bool.not_false, if_true]
      have e2 : (⟨c :: r⟩ : Array Nat).foldl (fun acc y => acc ++ (asciiCodec.bytesOf y).toArray) #[] = (⟨c :: r⟩ : Array Nat).map (·.toUInt8) := by
        show (⟨c :: r⟩ : Array Nat).foldl (fun acc y => acc ++ #[y.toUInt8]) #[] = _
        rw [Array.map_eq_foldl]
        rfl
      rw [e2]
      simp
    · intro k
      dsimp only
      have hz' : r.length + 1 ≤ sizeLine := hz
      rw [if_neg (by simp; omega)]
      have e0 : (⟨c :: r⟩ : Array Nat)[r.length + 1]? = none := by simp
      simp only [e0]
    · have e : (Std.Legacy.Range.size { stop := Str.length { cps := { toList := c :: r } }, step_pos := Nat.zero_lt_one }) = r.length + 1 := by
        simp [Std.Legacy.Range.size, Str.length]
      rw [e]; simp

set_option maxRecDepth 100000
theorem slot_bytes_translate : Slot "bytes" "translate" "bytes.translate" :=
  .of (owner := "bytes") (n := "translate") (by rw [typeLookup_type, builtinLookup_eq_fast]; kernel_rfl) (by decide +kernel) (by decide +kernel) (by decide +kernel)
    (by first | exact .inl (by decide +kernel) | exact .inr (by decide +kernel)) (by rw [isSubtype_type]; kernel_rfl)
theorem type_bytes_translate : typeOf (.builtin "bytes.translate") = pure (.type "method_descriptor") := by show builtinType _ = _; rw [builtinType_eq_fast]; kernel_rfl
theorem entry_bytes_translate : entryFor table "bytes.translate" = some Builtin.«bytes.translate» := entryFor_of_tree (by kernel_rfl)
theorem args_bytes_translate (a b : Value) : argsOk "bytes.translate" ⟨[a, b], []⟩ := by unfold argsOk; kernel_rfl
theorem entry_bytes_maketrans : entryFor table "bytes.maketrans" = some Builtin.«bytes.maketrans» := entryFor_of_tree (by kernel_rfl)
theorem plain_bytes_maketrans : plainId "bytes.maketrans" = true := by decide +kernel
theorem args_bytes_maketrans (a b : Value) : argsOk "bytes.maketrans" ⟨[a, b], []⟩ := by unfold argsOk; kernel_rfl
section
variable {M : Model} {prog : Program} {w : World} {A : Around} {E : Value → Shared → Prop} {s : Shared} {t t2 : Tok} {x : Str} {b tb : Array UInt8}
open Builtin._codecs in
theorem encodeRoad_ascii (id : String) (self : Value) (x : Str) (errors : Option Str) : encodeRoad id self x (Str.ofString "ascii") errors = (do mkBytes (← encodeNarrow id asciiCodec errors self x)) := rfl
open Builtin Builtin.Str in
theorem codec_ascii (t2 : Tok) : codecArg "str.encode" "encode" "'encoding'" (some (.str (Str.ofString "ascii") t2)) = pure (some (Str.ofString "ascii")) := by kernel_rfl
theorem noRefS {x : Str} : ∀ a, Value.str x t = .ref a → ∃ o, s.heap.get? a = some o ∧ o.dict = none := fun _ e => nomatch e
theorem str_method_of {pl : Sem Bool} {Q : Value × List Value → Shared → Prop} {name : PySem.Str} {id : String} (v : Value) (hT : s.TypeIs v "str") (slot : Slot "str" name id) (ty : typeOf (.builtin id) = pure (.type "method_descriptor"))
    (hd : ∀ a, v = .ref a → ∃ o, s.heap.get? a = some o ∧ o.dict = none) (h : Q (.builtin id, [v]) s) : wpAny M A (getMethod v name pl) Q E s :=
  getMethod_builtin hT PySem.F.plainAttrs_str slot ty hd h
theorem encode_method {pl : Sem Bool} {Q : Value × List Value → Shared → Prop} (h : Q (.builtin "str.encode", [.str x t]) s) : wpAny M A (getMethod (.str x t) "encode" pl) Q E s := by
  with_reducible exact str_method_of (.str x t) (typeIs_str _ _ _) PySem.F.slot_str_encode PySem.F.type_str_encode noRefS h
theorem encode_call {Q : Value → Shared → Prop} (hx : ∀ c ∈ x.cps.toList, c < 128) (hz : x.length ≤ sizeLine) (h : ∀ t' k, Q (.bytes (x.cps.map (·.toUInt8)) t') { s with toks := k }) :
    wpAny (model prog w) A (call (.builtin "str.encode") [.str x t, .str (Str.ofString "ascii") t2]) Q E s := by
  refine call_meets (S := fun _ R s => ∀ t' k, R (.ok (.ret (.bytes (x.cps.map (·.toUInt8)) t'))) { s with toks := k }) PySem.F.slot_str_encode (typeIs_str _ _ _) PySem.F.entry_str_encode (PySem.F.args_str_encode_2 _ _) ?_ h
  intro prog w A R s hR
  unfold Builtin.«str.encode»
  refine wpAny_bind (wpAny_of_eq (show Builtin.Str.strSelf _ = pure (.str x t, x, [.str (Str.ofString "ascii") t2]) from rfl) ?_)
  refine wpAny_bind (wpAny_of_eq (show Builtin.Str.bindOptional "str.encode" "encode" 0 ["encoding", "errors"] [.str (Str.ofString "ascii") t2] [] = pure [some (.str (Str.ofString "ascii") t2), none] from rfl) ?_)
  refine wpAny_bind (wpAny_of_eq (codec_ascii t2) ?_)
  refine wpAny_bind (wpAny_of_eq (show Builtin.Str.codecArg "str.encode" "encode" "'errors'" none = pure none from rfl) ?_)
  refine wpAny_bind ?_
  show wpAny _ _ (Builtin._codecs.encodeRoad "str.encode" (.str x t) x (Str.ofString "ascii") none) _ _ _
  rw [encodeRoad_ascii, enc_ascii _ _ _ hx hz]
  refine wpAny_bind (wpAny_pure ?_)
  have hsz : ¬ (x.cps.map (·.toUInt8)).size > sizeLine := by simp only [Array.size_map]; exact Nat.not_lt.mpr hz
  unfold mkBytes
  rw [if_neg hsz]
  exact wpAny_bind (wpAny_fresh (wpAny_pure (wpAny_pure (hR _ _))))

theorem type_bytes {Q : Value → Shared → Prop} (hq : Q (.type "bytes") s) : wpAny (model prog w) A (call (.type "type") [.bytes b t]) Q E s :=
  call_type_of (Tx := "bytes") (typeIs_bytes _ _ _) (by decide +kernel) hq
/-- the alphabet -/
def tab64 : List UInt8 := [65, 66, 67, 68, 69, 70, 71, 72, 73, 74, 75, 76, 77, 78, 79, 80, 81, 82, 83, 84, 85, 86, 87, 88, 89, 90, 97, 98, 99, 100, 101, 102, 103, 104, 105, 106, 107, 108, 109, 110, 111, 112, 113, 114, 115, 116, 117, 118, 119, 120, 121, 122, 48, 49, 50, 51, 52, 53, 54, 55, 56, 57, 43, 47]
theorem tab64_at (i : Int) (h0 : 0 ≤ i) (h1 : i < 64) : ((tab64.getD i.toNat 0).toNat : Int) = c64 i := by
  obtain ⟨n, rfl⟩ := Int.eq_ofNat_of_zero_le h0
  have hn : n < 64 := by omega
  have : ∀ k : Fin 64, ((tab64.getD k.val 0).toNat : Int) = c64 (k.val : Int) := by decide +kernel
  exact this ⟨n, hn⟩
theorem b64_item {value slice : Expr} {i : Int} {u : Tok} {Q : Value → Shared → Prop} (h0 : 0 ≤ i) (h1 : i < 64)
    (h : ∀ t k, Q (.int (c64 i) t) ⟨s.heap, s.gens, s.drawn, k, s.os⟩)
    (hs : subscripted slice false (.bytes tab64.toArray t) (.int i u) = operate [.bytes tab64.toArray t, .int i u] (getItem (.bytes tab64.toArray t) (.int i u)) := by with_unfolding_all rfl) :
    wpAny (model prog w) A (subscriptTail value slice (.bytes tab64.toArray t) (.int i u)) Q E s :=
  tail_any (typeIs_bytes _ _ _) FB.slot_bytes_getitem.lookup (getItem_bytes (l := tab64) (by decide) h0 (by show i < 64; exact h1) (by rw [tab64_at i h0 h1]; exact h _ _)) hs
theorem bytes_arr {l : Addr} {a : Array Value} {ns : List Int} {Q : Value → Shared → Prop} (hl : s.heap.IsList l a) (hi : IntsAre a.toList ns) (hr : ∀ n ∈ ns, 0 ≤ n ∧ n < 256) (hz : a.size ≤ sizeLine) (hh : A.handled = none)
    (hQ : ∀ h' t k, (∀ b o, s.heap.get? b = some o → h'.get? b = some o) → Q (.bytes (byteArr ns) t) { s with heap := h', toks := k }) : wpAny (model prog w) A (call (.type "bytes") [.ref l]) Q E s :=
  call_bytes_ints (vs := a.toList) (by simpa using hl) hi hr (by simpa using hz) hh hQ
open Builtin Builtin.Bytes in
theorem translate_wp {R : Result → Shared → Prop} (h : ∀ t' k, R (.ok (.ret (.bytes (b.map fun c => tb.getD c.toNat c) t'))) { s with toks := k }) (hz : b.size ≤ sizeLine) (h256 : tb.size = 256) :
   wpAny (model prog w) A.in1 («bytes.translate» ⟨[.bytes b t, .bytes tb t2], []⟩) (fun fin s' => match fin with | .done f => R (.ok f) s' | .again c' => c'.quiet = true ∧ codeAny (model prog w) A c' R s') (fun e s' => R (.error e) s') s := by
  unfold «bytes.translate» translateM
  dsimp only
  rw [if_neg (by simp)]
  rw [if_neg (by simp)]
  rw [if_neg (by simp)]
  refine wpAny_bind (wpAny_of_eq KBd.like_eq ?_)
  rw [if_neg (by simp [h256])]
  refine wpAny_bind (wpAny_pure ?_)
  refine wpAny_bind (wpAny_pure ?_)
  refine wpAny_bind (wpAny_of_eq (show payload (.bytes b t) = pure b from rfl) ?_)
  have e : (b.filter fun x => !(#[] : Array UInt8).contains x) = b := by simp
  rw [e]
  by_cases hs : (b.map fun c => tb.getD c.toNat c) = b
  · rw [if_pos (by rw [hs]; simp)]
    refine wpAny_bind (wpAny_rule ?_)
    refine wpAny_bind (wpAny_of_eq (show Kind.bytes.same (.bytes b t) = pure (.bytes b t) from rfl) ?_)
    refine wpAny_pure ?_
    have h2 := h t s.toks
    rw [hs] at h2
    exact h2
  · rw [if_neg (by simpa using hs)]
    refine wpAny_bind ?_
    show wpAny _ _ (mkBytes _) _ _ _
    unfold mkBytes
    rw [if_neg (by simp; exact hz)]
    exact wpAny_bind (wpAny_fresh (wpAny_pure (wpAny_pure (h _ _))))
theorem translate_method {pl : Sem Bool} {Q : Value × List Value → Shared → Prop} (h : Q (.builtin "bytes.translate", [.bytes b t]) s) : wpAny M A (getMethod (.bytes b t) "translate" pl) Q E s := by
  with_reducible exact KBd.method_of (.bytes b t) (typeIs_bytes _ _ _) slot_bytes_translate type_bytes_translate KBd.noRef h
theorem translate_call {Q : Value → Shared → Prop} (hz : b.size ≤ sizeLine) (h256 : tb.size = 256) (h : ∀ t' k, Q (.bytes (b.map fun c => tb.getD c.toNat c) t') { s with toks := k }) :
    wpAny (model prog w) A (call (.builtin "bytes.translate") [.bytes b t, .bytes tb t2]) Q E s := by
  refine call_meets (S := fun _ R s => ∀ t' k, R (.ok (.ret (.bytes (b.map fun c => tb.getD c.toNat c) t'))) { s with toks := k }) slot_bytes_translate (typeIs_bytes _ _ _) entry_bytes_translate (args_bytes_translate _ _) ?_ h
  intro prog w A R s hR
  exact translate_wp hR hz h256
end
theorem ck_maketrans (a b : Value) : checkBuiltinCall "bytes.maketrans" ⟨[a, b], []⟩ = pure () := by kernel_rfl
theorem type_of_bytes : typeOf (.type "bytes") = pure (.type "type") := by first | rfl | kernel_rfl
def mkTab (f1 f2 x1 x2 : UInt8) : Array UInt8 := (((Array.range 256).map (·.toUInt8)).setIfInBounds f1.toNat x1).setIfInBounds f2.toNat x2
theorem mkTab_size (f1 f2 x1 x2 : UInt8) : (mkTab f1 f2 x1 x2).size = 256 := by simp [mkTab]
section
variable {M : Model} {prog : Program} {w : World} {A : Around} {E : Value → Shared → Prop} {s : Shared} {t t2 : Tok} {f1 f2 x1 x2 : UInt8}
open Builtin Builtin.Bytes in
theorem maketrans_call {Q : Value → Shared → Prop} (h : ∀ t' k, Q (.bytes (mkTab f1 f2 x1 x2) t') { s with toks := k }) :
    wpAny (model prog w) A (call (.builtin "bytes.maketrans") [.bytes #[f1, f2] t, .bytes #[x1, x2] t2]) Q E s := by
  refine wpAny_call (codeAny_call_builtin plain_bytes_maketrans entry_bytes_maketrans ?_)
  rw [ck_maketrans]
  refine wpAny_pure ?_
  unfold «bytes.maketrans» maketransM
  dsimp only
  refine wpAny_bind (wpAny_of_eq (show noKeywords _ _ = pure () from rfl) ?_)
  refine wpAny_bind (wpAny_of_eq (show checkCount "maketrans" 2 2 2 = pure () from rfl) ?_)
  refine wpAny_bind (wpAny_of_eq KBd.like_eq ?_)
  refine wpAny_bind (wpAny_of_eq KBd.like_eq ?_)
  rw [if_neg (by simp)]
  refine wpAny_bind ?_
  show wpAny _ _ (mkBytes (mkTab f1 f2 x1 x2)) _ _ _
  unfold mkBytes
  rw [if_neg (by rw [mkTab_size, sizeLine_eq]; decide)]
  exact wpAny_bind (wpAny_fresh (wpAny_pure (wpAny_pure (h _ _))))
end
end Mine
end
theorem Mine.anew_S_signs {M : Model} {A : Around} {E : Value → Shared → Prop} {s : Shared} {env : Env} {Q : Flow → Shared → Prop} (h : Q .next s) : wpAny M A (execs [] env) Q E s := by
  w_top off
  first | (walk1; fail) | (w_top off; exact wpAny_execs_nil h)
section
namespace Mine
section
variable {w : World} {dp un : Nat} {gd : Option (List Code)} {base : Heap} {fr : List Env} {s : Shared} {Q E : Value → Shared → Prop}
theorem fill_hd : True := by
  have kf : (PySem.Challenge.rw_pa0033_01, hd.heap_39) = (PySem.Challenge.rw_pa0033_01, hd.heap_39) := by (k_fill; rfl)
  trivial
local macro_rules | `(tactic| walk_at "m33 enter") => `(tactic| ((case k6 => k_is); (case k7 => k_is); (case k8 => omega); (case k9 => (intro kX9; first | exact BindsTo.of_eq rfl | exact binds_K kX9 rfl (by k_is) rfl rfl rfl)); (case c5 => decide); (case kB => exact locs rfl); (case c2 => exact rfl); (case c3 => exact rfl); (case c4 => exact rfl)))
local macro_rules | `(tactic| walk_at "exec For Name Name cons nil") => `(tactic| (k_here; (rename Fr _ _ _ _ => lF'); (with_unfolding_all refine' For_invVF lF' ?k1 ?k2 ?_; (case k1 => exact rfl); (case k2 => exact rfl); k_whole)))
local macro_rules | `(tactic| walk_at "pyIter ref") => `(tactic| ((with_reducible show wpAny _ _ (pyIter (Value.ref _)) (fun it s₂ => LoopAtV _ _ _ _ _ _ _ _ _ it s₂) _ _); refine Stop.out ?_))
local macro_rules | `(tactic| walk_at "m33 same") => `(tactic| (intro z hz; (try dsimp only); (repeat' split) <;> first | rfl | (exfalso; simp_all; done) | (simp_all; done)))

theorem StrsAre.snoc {vs : List Value} {ys : List Str} (h : StrsAre vs ys) (y : Str) (t : Tok) : StrsAre (vs ++ [.str y t]) (ys ++ [y]) := by
  induction h with
  | nil => exact .cons _ _ .nil
  | cons y t _ ih => exact .cons _ _ ih
theorem strs_push {ns : List Int} {i : Nat} {n : Int} {a : Array Value} {c : Nat} {t : Tok} (h : StrsAre a.toList ((ns.take i).map sign1)) (hx : ns[i]? = some n) (e : c = signc n) :
    StrsAre (a.push (.str ⟨#[c]⟩ t)).toList ((ns.take (i + 1)).map sign1) := by
  subst e
  rw [Array.toList_push, List.take_add_one, hx]
  simp only [Option.toList, List.map_append, List.map_cons, List.map_nil]
  exact StrsAre.snoc h _ _
theorem join_signs0 : ∀ ns : List Int, Str.join (Str.ofString "") (ns.map sign1) = signs ns
  | [] => rfl
  | [n] => rfl
  | n :: m :: r => by
    have ih := join_signs0 (m :: r)
    show sign1 n ++ Str.ofString "" ++ Str.join (Str.ofString "") ((m :: r).map sign1) = _
    rw [ih]
    refine Str.ext' ?_
    rw [Str.cps_append, Str.cps_append]
    simp [signs, sign1, show (Str.ofString "").cps = #[] from rfl]
theorem join_signs (ns : List Int) : Txt.join (Str.ofString "") (ns.map sign1) = signs ns := by
  unfold Txt.join
  rw [StrLaws.glued_eq_join]; exact join_signs0 ns
theorem sum_sign1 (ns : List Int) : ((ns.map sign1).map (·.length)).sum = ns.length := by
  induction ns with
  | nil => rfl
  | cons n r ih => simp only [List.map_cons, List.sum_cons, List.length_cons, ih]; show 1 + _ = _; omega

local macro_rules | `(tactic| walk_at "call builtin:str.join") => `(tactic| (k_here; refine Stop.out ?_))

set_option maxRecDepth 100000 in
set_option maxHeartbeats 8000000 in
theorem signs_spec {l : Addr} {vs : List Value} {ns : List Int} (G : At w base fr s.heap) (hd1 : dp + 10 < recursionLimit) (hu1 : un + 100 < cLine)
    (hl : s.heap.IsList l vs.toArray) (hi : IntsAre vs ns) (hn : ∀ n ∈ ns, 0 ≤ n ∧ n < 64) (hlen : ns.length ≤ 12)
    (hret : ∀ t h' tk, s.heap.StaysIn h' → Q (.str (signs ns) t) { s with heap := h', toks := tk }) :
    wpAny (model prg w) (AA dp un gd fr) (call (.ref 166) [.ref l]) Q E s := by
  k_dflt (refine' enter (binds := [(Str.ofString "row", .ref l)]) G ?k6 ?k7 ?k8 ?k9 ?kB ?c2 ?c3 ?c4 ?c5 ?_; walk_at "m33 enter")
  intro mean mg mb L' h₁ GB B X T D F N
  (try k_fold)
  k_steps
  unfold Stop
  (with_reducible rename Fr _ _ _ _ => lF)
  (with_reducible rename News _ _ _ _ => lN)
  refine loopS_ints (σ := Array Value × Nat) (fun _ => _) (fun st => [(_, listOf st.1 st.2)]) (fun i st => StrsAre st.1.toList ((ns.take i).map sign1)) (#[], 0) rfl hl hi lF lN (by simpa using StrsAre.nil) ?_ ?_
  · rintro i v st h tk own hin ⟨n, t, hx, rfl⟩ hP hoff F N
    obtain ⟨hb1, hb2⟩ := hn n (List.mem_of_getElem? hx)
    have hsz : st.1.size ≤ 12 := by have := hP.length; simp at this; omega
    clear lF lN
    dsimp only [List.map, List.cons_append, List.nil_append] at N hoff ⊢
    (try k_fold)
    k_steps
    all_goals (refine endS (by assumption) (by assumption) (_, _) ?_ (by intro z hz; simp only [if_neg hz]) (by intro p hp; rw [List.mem_singleton.mp hp]; exact List.Mem.head _) (by intro p hp; exact List.Mem.tail _ hp) rfl)
    · refine strs_push hP hx ?_; unfold signc; split <;> omega
    · refine strs_push hP hx ?_; unfold signc; repeat' split <;> omega
    · refine strs_push hP hx ?_; unfold signc; repeat' split <;> omega
    · refine strs_push hP hx ?_
      rcases (by omega : n = 62 ∨ n = 63) with e | e <;> subst e <;> decide
  · intro st u h tk hP F N
    clear lF lN
    dsimp only at N F ⊢
    k_steps
    unfold Stop
    rw [List.take_length] at hP
    refine join_list (News.isList (by assumption) (.head _)) hP ?_ ?_
    · rw [sum_sign1, show (Str.ofString "").length = 0 from rfl]
      omega
    · intro t' k
      rw [join_signs]
      exact hret _ _ _ (Fr.keep (by assumption))
end
end Mine
end
theorem Mine.anew_S_octets {M : Model} {A : Around} {E : Value → Shared → Prop} {s : Shared} {env : Env} {Q : Flow → Shared → Prop} (h : Q .next s) : wpAny M A (execs [] env) Q E s := by
  w_top off
  first | (walk1; fail) | (w_top off; exact wpAny_execs_nil h)
section
namespace Mine
section
variable {w : World} {dp un : Nat} {gd : Option (List Code)} {base : Heap} {fr : List Env} {s : Shared} {Q E : Value → Shared → Prop}
local macro_rules | `(tactic| walk_at "m33 enter") => `(tactic| ((case k6 => k_is); (case k7 => k_is); (case k8 => omega); (case k9 => (intro kX9; first | exact BindsTo.of_eq rfl | exact binds_K kX9 rfl (by k_is) rfl rfl rfl)); (case c5 => decide); (case kB => exact locs rfl); (case c2 => exact rfl); (case c3 => exact rfl); (case c4 => exact rfl)))
local macro_rules | `(tactic| walk_at "exec For Name Name cons nil") => `(tactic| (k_here; (rename Fr _ _ _ _ => lF'); (with_unfolding_all refine' For_invVF lF' ?k1 ?k2 ?_; (case k1 => exact rfl); (case k2 => exact rfl); k_whole)))
local macro_rules | `(tactic| walk_at "pyIter ref") => `(tactic| ((with_reducible show wpAny _ _ (pyIter (Value.ref _)) (fun it s₂ => LoopAtV _ _ _ _ _ _ _ _ _ it s₂) _ _); refine Stop.out ?_))
local macro_rules | `(tactic| walk_at "m33 same") => `(tactic| (intro z hz; (try dsimp only); (repeat' split) <;> first | rfl | (exfalso; simp_all; done) | (simp_all; done)))

theorem pow_toNat (b : Int) (e : b = 0 ∨ b = 2 ∨ b = 4) : (2 : Int) ^ b.toNat = if b = 0 then 1 else if b = 2 then 4 else 16 := by
  rcases e with e | e | e <;> subst e <;> rfl
theorem oct_a {ns out : List Int} {i : Nat} {n held bits : Int} {a : Array Value} {t : Tok} (hx : ns[i]? = some n) (hP : IntsAre a.toList out) (hO : out ++ octGo (ns.drop i) held bits = octs ns) (hol : out.length ≤ i) (ho : ∀ n ∈ out, 0 ≤ n ∧ n < 256) (hh0 : 0 ≤ held)
    (hbits : bits = 0 ∧ held < 1 ∨ bits = 2 ∧ held < 4 ∨ bits = 4 ∧ held < 16 ∨ bits = 6 ∧ held < 64) (hb1 : 0 ≤ n) (hb2 : n < 64) (hb : 8 ≤ bits + 6) :
    ∃ o, IntsAre (a.push (.int ((held * 64 + n).fdiv (2 ^ (bits + 6 - 8).toNat)) t)).toList o ∧ o ++ octGo (ns.drop (i + 1)) ((held * 64 + n).fmod (2 ^ (bits + 6 - 8).toNat)) (bits + 6 - 8) = octs ns ∧ o.length ≤ i + 1 ∧ (∀ n ∈ o, 0 ≤ n ∧ n < 256) ∧
      0 ≤ (held * 64 + n).fmod (2 ^ (bits + 6 - 8).toNat) ∧ (bits + 6 - 8 = 0 ∧ (held * 64 + n).fmod (2 ^ (bits + 6 - 8).toNat) < 1 ∨ bits + 6 - 8 = 2 ∧ (held * 64 + n).fmod (2 ^ (bits + 6 - 8).toNat) < 4 ∨ bits + 6 - 8 = 4 ∧ (held * 64 + n).fmod (2 ^ (bits + 6 - 8).toNat) < 16 ∨ bits + 6 - 8 = 6 ∧ (held * 64 + n).fmod (2 ^ (bits + 6 - 8).toNat) < 64) := by
  rw [drop_at hx, octGo, if_pos (by omega)] at hO
  have e1 : bits + 6 - 8 = bits - 2 := by omega
  rw [e1]
  have hp := pow_toNat (bits - 2) (by omega)
  have hpos : (0 : Int) ≤ 2 ^ (bits - 2).toNat := by rw [hp]; split <;> (try split) <;> decide
  rw [Int.fdiv_eq_ediv_of_nonneg _ hpos, Int.fmod_eq_emod_of_nonneg _ hpos]
  refine ⟨_, ints_push hP, by rw [List.append_assoc]; exact hO, by simp; omega, ?_, ?_⟩
  · intro m hm
    rcases List.mem_append.mp hm with q | q
    · exact ho m q
    · rw [List.mem_singleton.mp q, hp]
      rcases (by omega : bits - 2 = 0 ∨ bits - 2 = 2 ∨ bits - 2 = 4) with e | e | e <;> simp only [e] <;> simp <;> omega
  · rw [hp]
    rcases (by omega : bits - 2 = 0 ∨ bits - 2 = 2 ∨ bits - 2 = 4) with e | e | e <;> simp only [e] <;> simp <;> omega
theorem oct_b {ns out : List Int} {i : Nat} {n held bits : Int} {a : Array Value} (hx : ns[i]? = some n) (hP : IntsAre a.toList out) (hO : out ++ octGo (ns.drop i) held bits = octs ns) (hol : out.length ≤ i) (ho : ∀ n ∈ out, 0 ≤ n ∧ n < 256) (hh0 : 0 ≤ held)
    (hbits : bits = 0 ∧ held < 1 ∨ bits = 2 ∧ held < 4 ∨ bits = 4 ∧ held < 16 ∨ bits = 6 ∧ held < 64) (hb1 : 0 ≤ n) (hb2 : n < 64) (hb : ¬ 8 ≤ bits + 6) :
    ∃ o, IntsAre a.toList o ∧ o ++ octGo (ns.drop (i + 1)) (held * 64 + n) (bits + 6) = octs ns ∧ o.length ≤ i + 1 ∧ (∀ n ∈ o, 0 ≤ n ∧ n < 256) ∧
      0 ≤ held * 64 + n ∧ (bits + 6 = 0 ∧ held * 64 + n < 1 ∨ bits + 6 = 2 ∧ held * 64 + n < 4 ∨ bits + 6 = 4 ∧ held * 64 + n < 16 ∨ bits + 6 = 6 ∧ held * 64 + n < 64) := by
  rw [drop_at hx, octGo, if_neg (by omega)] at hO
  exact ⟨out, hP, hO, by omega, ho, by omega, by omega⟩

set_option maxRecDepth 100000 in
set_option maxHeartbeats 8000000 in
theorem octets_spec {l : Addr} {vs : List Value} {ns : List Int} (G : At w base fr s.heap) (hd1 : dp + 10 < recursionLimit) (hu1 : un + 100 < cLine)
    (hl : s.heap.IsList l vs.toArray) (hi : IntsAre vs ns) (hn : ∀ n ∈ ns, 0 ≤ n ∧ n < 64) (hlen : ns.length ≤ 12)
    (hret : ∀ t h' tk, s.heap.StaysIn h' → Q (.bytes (byteArr (octs ns)) t) { s with heap := h', toks := tk }) :
    wpAny (model prg w) (AA dp un gd fr) (call (.ref 173) [.ref l]) Q E s := by
  k_dflt (refine' enter (binds := [(Str.ofString "row", .ref l)]) G ?k6 ?k7 ?k8 ?k9 ?kB ?c2 ?c3 ?c4 ?c5 ?_; walk_at "m33 enter")
  intro mean mg mb L' h₁ GB B X T D F N
  (try k_fold)
  k_steps
  unfold Stop
  (with_reducible rename Fr _ _ _ _ => lF)
  (with_reducible rename News _ _ _ _ => lN)
  refine loopM_ints (σ := (Int × Tok × Int × Tok) × Array Value × Nat) (fun st m y => if y = Str.ofString "bits" then some (.int st.1.2.2.1 st.1.2.2.2) else if y = Str.ofString "held" then some (.int st.1.1 st.1.2.1) else m y)
    (fun st D => [(D, listOf st.2.1 st.2.2)])
    (fun i st => ∃ out, IntsAre st.2.1.toList out ∧ out ++ octGo (ns.drop i) st.1.1 st.1.2.2.1 = octs ns ∧ out.length ≤ i ∧ (∀ n ∈ out, 0 ≤ n ∧ n < 256) ∧ 0 ≤ st.1.1 ∧ (st.1.2.2.1 = 0 ∧ st.1.1 < 1 ∨ st.1.2.2.1 = 2 ∧ st.1.1 < 4 ∨ st.1.2.2.1 = 4 ∧ st.1.1 < 16 ∨ st.1.2.2.1 = 6 ∧ st.1.1 < 64))
    ((0, _, 0, _), #[], 0) _ _ ?h0 hl hi lF lN ?_ ?_ ?_
  · exact rfl
  · exact ⟨[], .nil, rfl, Nat.le_refl _, by simp, by simp, by simp⟩
  · rintro i v ⟨⟨held, th, bits, tb⟩, a, k⟩ h tk own hin ⟨n, t, hx, rfl⟩ ⟨out, hP, hO, hol, ho, hh0, hbits⟩ hoff F N
    obtain ⟨hb1, hb2⟩ := hn n (List.mem_of_getElem? hx)
    have hsz : a.size ≤ 12 := by have := hP.length; simp at this; omega
    clear lF lN
    dsimp only [List.map, List.cons_append, List.nil_append] at N F hoff hh0 hbits hO ⊢
    have hbb : 0 ≤ bits ∧ bits ≤ 6 := by omega
    obtain ⟨hbb1, hbb2⟩ := hbb
    (try k_fold)
    k_steps
    · refine endS (by assumption) (by assumption) (((held * 64 + n).fmod (2 ^ (bits + 6 - 8).toNat), _, bits + 6 - 8, _), _, _) ?_ (same2 (by exact rfl) (by exact rfl) (by intro z h0 h1 h2; simp only [if_neg h0, if_neg h1, if_neg h2])) (by intro p hp; rw [List.mem_singleton.mp hp]; exact List.Mem.head _) (by intro p hp; exact List.Mem.tail _ hp) rfl
      exact oct_a hx hP hO hol ho hh0 hbits hb1 hb2 (by assumption)
    · refine endS (by assumption) (by assumption) ((held * 64 + n, _, bits + 6, _), _, _) ?_ (same2 (by exact rfl) (by exact rfl) (by intro z h0 h1 h2; simp only [if_neg h0, if_neg h1, if_neg h2])) (by intro p hp; rw [List.mem_singleton.mp hp]; exact List.Mem.head _) (by intro p hp; exact List.Mem.tail _ hp) rfl
      exact oct_b hx hP hO hol ho hh0 hbits hb1 hb2 (by assumption)
  · rintro ⟨⟨held, th, bits, tb⟩, a, k⟩ u h tk ⟨out, hP, hO, hol, ho, hh0, hbits⟩ F N
    clear lF lN
    dsimp only at N F ⊢
    k_steps
    have e : out = octs ns := by simpa [octGo] using hO
    subst e
    exact hret _ _ _ (Fr.keep (by assumption))
end
end Mine
end
theorem Mine.anew_S_whole {M : Model} {A : Around} {E : Value → Shared → Prop} {s : Shared} {env : Env} {Q : Flow → Shared → Prop} (h : Q .next s) : wpAny M A (execs [] env) Q E s := by
  w_top off
  first | (walk1; fail) | (w_top off; exact wpAny_execs_nil h)
section
namespace Mine
section
variable {w : World} {dp un : Nat} {gd : Option (List Code)} {base : Heap} {fr : List Env} {s : Shared} {Q E : Value → Shared → Prop}
local macro_rules | `(tactic| walk_at "m33 enter") => `(tactic| ((case k6 => k_is); (case k7 => k_is); (case k8 => omega); (case k9 => (intro kX9; first | exact BindsTo.of_eq rfl | exact binds_K kX9 rfl (by k_is) rfl rfl rfl)); (case c5 => decide); (case kB => exact locs rfl); (case c2 => exact rfl); (case c3 => exact rfl); (case c4 => exact rfl)))
local macro_rules | `(tactic| walk_at "exec For Name Name cons nil") => `(tactic| (k_here; (rename Fr _ _ _ _ => lF'); (with_unfolding_all refine' For_invVF lF' ?k1 ?k2 ?_; (case k1 => exact rfl); (case k2 => exact rfl); k_whole)))
local macro_rules | `(tactic| walk_at "pyIter ref") => `(tactic| ((with_reducible show wpAny _ _ (pyIter (Value.ref _)) (fun it s₂ => LoopAtV _ _ _ _ _ _ _ _ _ it s₂) _ _); refine Stop.out ?_))
local macro_rules | `(tactic| walk_at "m33 same") => `(tactic| (intro z hz; (try dsimp only); (repeat' split) <;> first | rfl | (exfalso; simp_all; done) | (simp_all; done)))

theorem fmod4 (n : Nat) : ((n : Int)).fmod 4 = ((n % 4 : Nat) : Int) := by
  rw [Int.fmod_eq_emod_of_nonneg _ (by decide)]; omega
theorem last_at {ns : List Int} (h : ns.length ≠ 0) : ns.getD (-1 + (ns.length : Int)).toNat 0 = ns.getLastD 0 := by
  have e : (-1 + (ns.length : Int)).toNat = ns.length - 1 := by omega
  rw [e]
  cases ns with
  | nil => rfl
  | cons a r => simp [List.getLastD, List.getLast_eq_getElem, List.getD, List.getElem?_eq_getElem]
theorem whole_at {ns : List Int} {w : List Value} {v : Int} (h : IntsAre w (ns.take (ns.length - 1) ++ [v])) (h2 : whole ns = ns.dropLast ++ [v]) : IntsAre w (whole ns) := by
  rw [h2, List.dropLast_eq_take]; exact h

set_option maxRecDepth 100000 in
set_option maxHeartbeats 8000000 in
theorem whole_spec {l : Addr} {a : Array Value} {k : Nat} {ns : List Int} (G : At w base fr s.heap) (hd1 : dp + 10 < recursionLimit) (hu1 : un + 100 < cLine)
    (hl0 : s.heap.get? l = some (listOf a k)) (hi : IntsAre a.toList ns) (hn : ∀ n ∈ ns, 0 ≤ n ∧ n < 64) (hlen : ns.length ≤ 12)
    (hret : ∀ l' a' k' h' tk, s.heap.StaysIn h' → h'.get? l' = some (listOf a' k') → IntsAre a'.toList (whole ns) → (l' = l ∨ s.heap.get? l' = none) → Q (.ref l') { s with heap := h', toks := tk }) :
    wpAny (model prg w) (AA dp un gd fr) (call (.ref 180) [.ref l]) Q E s := by
  have hl : s.heap.IsList l a.toList.toArray := ⟨_, hl0, rfl, k, rfl⟩
  k_dflt (refine' enter (binds := [(Str.ofString "row", .ref l)]) G ?k6 ?k7 ?k8 ?k9 ?kB ?c2 ?c3 ?c4 ?c5 ?_; walk_at "m33 enter")
  intro mean mg mb L' h₁ GB B X T D F N
  (try k_fold)
  k_steps
  all_goals (try dsimp only)
  · refine hret l a k _ _ (Fr.keep (by assumption)) (Fr.keep (by assumption) _ _ hl0) ?_ (.inl rfl)
    have q : (ns.length : Int).fmod 4 = 0 := by assumption
    rw [fmod4] at q
    unfold whole; rw [if_pos (by omega)]; exact hi
  · refine hret _ _ _ _ _ (Fr.keep (by assumption)) (News.get (by assumption) (.head _)) ?_ (.inr (News.fresh (by assumption) (.head _)))
    have q : (ns.length : Int).fmod 4 = 1 := by assumption
    rw [fmod4] at q
    unfold whole; rw [if_neg (by omega), if_pos (by omega)]; simpa using ‹IntsAre _ (ns ++ [0])›
  · refine hret _ _ _ _ _ (Fr.keep (by assumption)) (News.get (by assumption) (.head _)) ?_ (.inr (News.fresh (by assumption) (.head _)))
    have q : (ns.length : Int).fmod 4 = 2 := by assumption
    rw [fmod4] at q
    refine whole_at (by simpa only [List.toList_toArray] using ‹IntsAre _ (_ ++ [_])›) ?_
    unfold whole; rw [if_neg (by omega), if_neg (by omega), if_pos (by omega), last_at (by omega), Int.fdiv_eq_ediv_of_nonneg _ (by decide)]
  · refine hret _ _ _ _ _ (Fr.keep (by assumption)) (News.get (by assumption) (.head _)) ?_ (.inr (News.fresh (by assumption) (.head _)))
    have q0 : (ns.length : Int).fmod 4 ≠ 0 := by assumption
    have q1 : (ns.length : Int).fmod 4 ≠ 1 := by assumption
    have q2 : (ns.length : Int).fmod 4 ≠ 2 := by assumption
    rw [fmod4] at q0 q1 q2
    refine whole_at (by simpa only [List.toList_toArray] using ‹IntsAre _ (_ ++ [_])›) ?_
    unfold whole; rw [if_neg (by omega), if_neg (by omega), if_neg (by omega), last_at (by omega), Int.fdiv_eq_ediv_of_nonneg _ (by decide)]
end
end Mine
end
theorem Mine.anew_S_b64v {M : Model} {A : Around} {E : Value → Shared → Prop} {s : Shared} {env : Env} {Q : Flow → Shared → Prop} (h : Q .next s) : wpAny M A (execs [] env) Q E s := by
  w_top off
  first | (walk1; fail) | (w_top off; exact wpAny_execs_nil h)
section
namespace Mine
section
variable {w : World} {dp un : Nat} {gd : Option (List Code)} {base : Heap} {fr : List Env} {s : Shared} {Q E : Value → Shared → Prop}
local macro_rules | `(tactic| walk_at "m33 enter") => `(tactic| ((case k6 => k_is); (case k7 => k_is); (case k8 => omega); (case k9 => (intro kX9; first | exact BindsTo.of_eq rfl | exact binds_K kX9 rfl (by k_is) rfl rfl rfl)); (case c5 => decide); (case kB => exact locs rfl); (case c2 => exact rfl); (case c3 => exact rfl); (case c4 => exact rfl)))
local macro_rules | `(tactic| walk_at "exec For Name Name cons nil") => `(tactic| (k_here; (rename Fr _ _ _ _ => lF'); (with_unfolding_all refine' For_invVF lF' ?k1 ?k2 ?_; (case k1 => exact rfl); (case k2 => exact rfl); k_whole)))
local macro_rules | `(tactic| walk_at "pyIter ref") => `(tactic| ((with_reducible show wpAny _ _ (pyIter (Value.ref _)) (fun it s₂ => LoopAtV _ _ _ _ _ _ _ _ _ it s₂) _ _); refine Stop.out ?_))
local macro_rules | `(tactic| walk_at "m33 same") => `(tactic| (intro z hz; (try dsimp only); (repeat' split) <;> first | rfl | (exfalso; simp_all; done) | (simp_all; done)))

set_option maxRecDepth 100000 in
set_option maxHeartbeats 8000000 in
theorem b64v_spec {c : Int} {t : Tok} (G : At w base fr s.heap) (hd1 : dp + 10 < recursionLimit) (hu1 : un + 100 < cLine)
    (hret : ∀ t h' tk, s.heap.StaysIn h' → Q (.int (b64v c) t) { s with heap := h', toks := tk }) :
    wpAny (model prg w) (AA dp un gd fr) (call (.ref 127) [.int c t]) Q E s := by
  k_dflt (refine' enter (binds := [(Str.ofString "c", .int c t)]) G ?k6 ?k7 ?k8 ?k9 ?kB ?c2 ?c3 ?c4 ?c5 ?_; walk_at "m33 enter")
  intro mean mg mb L' h₁ GB B X T D F N
  (try k_fold)
  k_steps
  all_goals (try dsimp only)
  all_goals (have hq : ∀ (v : Int) t h' tk, v = b64v c → s.heap.StaysIn h' → Q (.int v t) { s with heap := h', toks := tk } := fun v t h' tk e => by rw [e]; exact hret t h' tk)
  all_goals (refine hq _ _ _ _ ?_ (Fr.keep (by assumption)); unfold b64v; (repeat' split) <;> omega)
end
end Mine
end
theorem Mine.anew_S_numbered {M : Model} {A : Around} {E : Value → Shared → Prop} {s : Shared} {env : Env} {Q : Flow → Shared → Prop} (h : Q .next s) : wpAny M A (execs [] env) Q E s := by
  w_top off
  first | (walk1; fail) | (w_top off; exact wpAny_execs_nil h)
section
namespace Mine
section
variable {w : World} {dp un : Nat} {gd : Option (List Code)} {base : Heap} {fr : List Env} {s : Shared} {Q E : Value → Shared → Prop}
local macro_rules | `(tactic| walk_at "m33 enter") => `(tactic| ((case k6 => k_is); (case k7 => k_is); (case k8 => omega); (case k9 => (intro kX9; first | exact BindsTo.of_eq rfl | exact binds_K kX9 rfl (by k_is) rfl rfl rfl)); (case c5 => decide); (case kB => exact locs rfl); (case c2 => exact rfl); (case c3 => exact rfl); (case c4 => exact rfl)))
local macro_rules | `(tactic| walk_at "exec For Name Name cons nil") => `(tactic| (k_here; (rename Fr _ _ _ _ => lF'); (with_unfolding_all refine' For_invVF lF' ?k1 ?k2 ?_; (case k1 => exact rfl); (case k2 => exact rfl); k_whole)))
local macro_rules | `(tactic| walk_at "pyIter ref") => `(tactic| ((with_reducible show wpAny _ _ (pyIter (Value.ref _)) (fun it s₂ => LoopAtV _ _ _ _ _ _ _ _ _ it s₂) _ _); refine Stop.out ?_))
local macro_rules | `(tactic| units_room) => `(tactic| (simp only [Around.deeper_units]; omega))
local macro_rules | `(tactic| walk_at "m33 same") => `(tactic| (intro z hz; (try dsimp only); (repeat' split) <;> first | rfl | (exfalso; simp_all; done) | (simp_all; done)))

theorem allLt_get {d : Nat} (l : List (Addr × Obj)) (h : AllLt d l) (p : Addr × Obj) (hp : p ∈ l) : @LT.lt Nat _ p.1 d := by
  induction l with
  | nil => cases hp
  | cons q r ih =>
    rcases List.mem_cons.mp hp with e | e
    · rw [e]; exact h.1
    · exact ih h.2 e
theorem off_new {D d : Nat} {own : List (Addr × Obj)} (h : @LT.lt Nat _ D d ∧ AllLt d own) : OwnOff own [d] := by
  intro p hp b hb e
  have q := allLt_get own h.2 p hp
  rw [List.mem_singleton.mp hb] at e
  rw [e] at q
  exact Nat.lt_irrefl _ q
theorem num_val {ns tl : List Int} {pads : Int} (hp : ¬ 0 < pads) (h62 : (ns.any fun x => x == 62) = true) (hT : tl = tailGo ns []) :
    numbered ns pads = (decide (tl ≠ []) && tl.all fun f => decide (51 < f ∧ f < 62)) := by
  have h1 : 62 ∈ ns := by
    obtain ⟨x, hx, e⟩ := List.any_eq_true.mp h62
    rw [← beq_iff_eq.mp e]; exact hx
  have h2 : pads ≤ 0 := by omega
  simp [numbered, h1, h2, ← hT]
theorem num_all {q M m : Int} {r : List Int} (h1 : m ≤ q ∧ ∀ a, a ∈ r → m ≤ a) (h51 : 51 < m) (h2 : M = q ∨ M ∈ r) (h3 : q ≤ M ∧ ∀ a, a ∈ r → a ≤ M) :
    decide (M < 62) = (decide (q :: r ≠ []) && (q :: r).all fun f => decide (51 < f ∧ f < 62)) := by
  by_cases hM : M < 62
  · rw [decide_eq_true hM]
    symm
    simp only [ne_eq, reduceCtorEq, not_false_eq_true, decide_true, Bool.true_and, List.all_eq_true, List.mem_cons, decide_eq_true_eq]
    rintro f (rfl | hf)
    · omega
    · have := h1.2 f hf; have := h3.2 f hf; omega
  · rw [decide_eq_false hM]
    symm
    simp only [ne_eq, reduceCtorEq, not_false_eq_true, decide_true, Bool.true_and, List.all_eq_false, List.mem_cons]
    exact ⟨M, h2, by simp; omega⟩
theorem num_no {q m : Int} {r : List Int} (h2 : m = q ∨ m ∈ r) (h51 : ¬ 51 < m) :
    decide (51 < m) = (decide (q :: r ≠ []) && (q :: r).all fun f => decide (51 < f ∧ f < 62)) := by
  rw [decide_eq_false h51]
  symm
  simp only [ne_eq, reduceCtorEq, not_false_eq_true, decide_true, Bool.true_and, List.all_eq_false, List.mem_cons]
  exact ⟨m, h2, by simp; omega⟩
local macro_rules | `(tactic| walk_at "InvPostA") => `(tactic| (dsimp only [InvPostA]))
set_option maxRecDepth 100000 in
set_option maxHeartbeats 8000000 in
theorem numbered_spec {l : Addr} {vs : List Value} {ns : List Int} {pads : Int} {tp : Tok} (G : At w base fr s.heap) (hd1 : dp + 10 < recursionLimit) (hu1 : un + 100 < cLine)
    (hl : s.heap.IsList l vs.toArray) (hi : IntsAre vs ns) (hn : ∀ n ∈ ns, 0 ≤ n ∧ n < 64) (hlen : ns.length ≤ 12)
    (hret : ∀ h' tk, s.heap.StaysIn h' → Q (.bool (numbered ns pads)) { s with heap := h', toks := tk }) :
    wpAny (model prg w) (AA dp un gd fr) (call (.ref 208) [.ref l, .int pads tp]) Q E s := by
  have hq : ∀ b h' tk, b = numbered ns pads → s.heap.StaysIn h' → Q (.bool b) { s with heap := h', toks := tk } := fun b h' tk e => by rw [e]; exact hret h' tk
  k_dflt (refine' enter (binds := [(Str.ofString "end", .ref l), (Str.ofString "pads", .int pads tp)]) G ?k6 ?k7 ?k8 ?k9 ?kB ?c2 ?c3 ?c4 ?c5 ?_; walk_at "m33 enter")
  intro mean mg mb L' h₁ GB B X T D F N
  (try k_fold)
  k_steps
  all_goals (try dsimp only)
  rotate_left
  · unfold Stop
    (with_reducible rename Fr _ _ _ _ => lF)
    (with_reducible rename News _ _ _ _ => lN)
    refine loopAM_ints (σ := Addr × Array Value × Nat) (fun st m y => if y = Str.ofString "tail" then some (.ref st.1) else m y)
      (fun st => [(st.1, listOf st.2.1 st.2.2)])
      (fun i st => ∃ out, IntsAre st.2.1.toList out ∧ tailGo (ns.drop i) out = tailGo ns [] ∧ out.length ≤ i)
      (_, #[], 0) _ ?h0 hl hi lF lN ?_ ?_ ?_
    · exact rfl
    · exact ⟨[], .nil, rfl, Nat.le_refl _⟩
    · rintro i v ⟨D, a, k⟩ h tk own hin ⟨n, t, hx, rfl⟩ ⟨out, hP, hO, hol⟩ hoff F N
      obtain ⟨hb1, hb2⟩ := hn n (List.mem_of_getElem? hx)
      have hsz : a.size ≤ 12 := by have := hP.length; simp at this; omega
      clear lF lN
      dsimp only [List.map, List.cons_append, List.nil_append] at N F hoff hO ⊢
      (try k_fold)
      k_steps
      · refine endA (by assumption) (by assumption) (_, _, _) ?_ (same1 (by exact rfl) (by intro z h0 h1; simp only [if_neg h0, if_neg h1])) (by intro p hp; rw [List.mem_singleton.mp hp]; exact List.Mem.head _) (by intro p hp; exact List.Mem.tail _ (List.Mem.tail _ hp)) ?_
        · refine ⟨[], .nil, ?_, Nat.zero_le _⟩
          rw [drop_at hx, tailGo, if_pos (by assumption)] at hO; exact hO
        · exact off_new (by assumption)
      · refine endA (by assumption) (by assumption) (_, _, _) ?_ (same1 (by exact rfl) (by intro z h0 h1; simp only [if_neg h0, if_neg h1])) (by intro p hp; rw [List.mem_singleton.mp hp]; exact List.Mem.head _) (by intro p hp; exact List.Mem.tail _ hp) hoff
        refine ⟨out ++ [n], ints_push hP, ?_, by simp; omega⟩
        rw [drop_at hx, tailGo, if_neg (by assumption)] at hO; exact hO
    · rintro ⟨D, ⟨va⟩, k⟩ u h tk ⟨out, hP, hO, hol⟩ F N
      clear lF lN
      dsimp only at N F hP ⊢
      have e : out = tailGo ns [] := by simpa [tailGo] using hO
      subst e
      have hT : ∃ tl, tl = tailGo ns [] := ⟨_, rfl⟩
      obtain ⟨tl, hT⟩ := hT
      rw [← hT] at hP
      cases tl with
      | nil =>
        k_steps
        refine hq _ _ _ ?_ (Fr.keep (by assumption))
        rw [num_val (by assumption) (by assumption) hT]; rfl
      | cons q r =>
        have hpos : 0 < (q :: r).length := by simp
        k_steps
        · exact absurd (by assumption : decide (q :: r = []) = true) (by simp)
        · refine hq _ _ _ ?_ (Fr.keep (by assumption))
          rw [num_val (by assumption) (by assumption) hT]
          exact num_all (by assumption) (by assumption) (by assumption) (by assumption)
        · refine hq _ _ _ ?_ (Fr.keep (by assumption))
          rw [num_val (by assumption) (by assumption) hT]
          exact num_no (by assumption) (by assumption)
  · have e : numbered ns pads = false := by
      have q : (ns.any fun x => x == 62) = false := by assumption
      have q2 : ¬ 62 ∈ ns := by intro h; rw [List.any_eq_false] at q; exact q _ h (by decide)
      simp [numbered, q2]
    have h2 := hret h₁ ; rw [e] at h2; exact h2 _ (Fr.keep (by assumption))
  · have e : numbered ns pads = false := by
      have q : 0 < pads := by assumption
      have q2 : ¬ pads ≤ 0 := by omega
      simp [numbered, q2]
    have h2 := hret h₁ ; rw [e] at h2; exact h2 _ (Fr.keep (by assumption))
end
end Mine
end
theorem Mine.anew_S_small {M : Model} {A : Around} {E : Value → Shared → Prop} {s : Shared} {env : Env} {Q : Flow → Shared → Prop} (h : Q .next s) : wpAny M A (execs [] env) Q E s := by
  w_top off
  first | (walk1; fail) | (w_top off; exact wpAny_execs_nil h)
section
namespace Mine
section
variable {w : World} {dp un : Nat} {gd : Option (List Code)} {base : Heap} {fr : List Env} {s : Shared} {Q E : Value → Shared → Prop}
local macro_rules | `(tactic| walk_at "m33 enter") => `(tactic| ((case k6 => k_is); (case k7 => k_is); (case k8 => omega); (case k9 => (intro kX9; first | exact BindsTo.of_eq rfl | exact binds_K kX9 rfl (by k_is) rfl rfl rfl)); (case c5 => decide); (case kB => exact locs rfl); (case c2 => exact rfl); (case c3 => exact rfl); (case c4 => exact rfl)))
local macro_rules | `(tactic| walk_at "exec For Name Name cons nil") => `(tactic| (k_here; (rename Fr _ _ _ _ => lF'); (with_unfolding_all refine' For_invVF lF' ?k1 ?k2 ?_; (case k1 => exact rfl); (case k2 => exact rfl); k_whole)))
local macro_rules | `(tactic| walk_at "pyIter ref") => `(tactic| ((with_reducible show wpAny _ _ (pyIter (Value.ref _)) (fun it s₂ => LoopAtV _ _ _ _ _ _ _ _ _ it s₂) _ _); refine Stop.out ?_))
local macro_rules | `(tactic| walk_at "call type:type") => `(tactic| ((with_reducible show wpAny _ _ (call (Value.type "type") [Value.bytes _ _]) _ _ _); refine type_bytes ?_))
local macro_rules | `(tactic| walk_at "getMethod str") => `(tactic| ((with_reducible show wpAny _ _ (getMethod (Value.str _ _) (PySem.Str.ofString "encode") _) _ _ _); with_reducible refine encode_method ?_))
local macro_rules | `(tactic| units_room) => `(tactic| (simp only [Around.deeper_units]; omega))
local macro_rules | `(tactic| walk_at "m33 same") => `(tactic| (intro z hz; (try dsimp only); (repeat' split) <;> first | rfl | (exfalso; simp_all; done) | (simp_all; done)))

local macro_rules | `(tactic| walk_at "call builtin:str.encode") => `(tactic| (refine Stop.out ?_))
set_option maxRecDepth 100000 in
set_option maxHeartbeats 8000000 in
theorem truth_spec {b : Bool} (G : At w base fr s.heap) (hd1 : dp + 10 < recursionLimit) (hu1 : un + 100 < cLine)
    (hret : ∀ h' tk, s.heap.StaysIn h' → Q (.bool b) { s with heap := h', toks := tk }) :
    wpAny (model prg w) (AA dp un gd fr) (call (.ref 120) [.bool b]) Q E s := by
  k_dflt (refine' enter (binds := [(Str.ofString "x", .bool b)]) G ?k6 ?k7 ?k8 ?k9 ?kB ?c2 ?c3 ?c4 ?c5 ?_; walk_at "m33 enter")
  intro mean mg mb L' h₁ GB B X T D F N
  (try k_fold)
  k_steps
  all_goals (try dsimp only)
  · have e : b = true := by assumption
    subst e
    exact hret _ _ (Fr.keep (by assumption))
  · have e : b = false := by assumption
    subst e
    exact hret _ _ (Fr.keep (by assumption))
set_option maxRecDepth 100000 in
set_option maxHeartbeats 8000000 in
theorem ascii_spec {x : Array UInt8} {t : Tok} (G : At w base fr s.heap) (hd1 : dp + 10 < recursionLimit) (hu1 : un + 100 < cLine)
    (hret : ∀ t h' tk, s.heap.StaysIn h' → Q (.bytes x t) { s with heap := h', toks := tk }) :
    wpAny (model prg w) (AA dp un gd fr) (call (.ref 106) [.bytes x t]) Q E s := by
  k_dflt (refine' enter (binds := [(Str.ofString "data", .bytes x t)]) G ?k6 ?k7 ?k8 ?k9 ?kB ?c2 ?c3 ?c4 ?c5 ?_; walk_at "m33 enter")
  intro mean mg mb L' h₁ GB B X T D F N
  (try k_fold)
  k_steps
  all_goals (try dsimp only)
  exact hret _ _ _ (Fr.keep (by assumption))
set_option maxRecDepth 100000 in
set_option maxHeartbeats 8000000 in
theorem buffer_spec {x : Array UInt8} {t : Tok} (G : At w base fr s.heap) (hd1 : dp + 10 < recursionLimit) (hu1 : un + 100 < cLine)
    (hret : ∀ t h' tk, s.heap.StaysIn h' → Q (.bytes x t) { s with heap := h', toks := tk }) :
    wpAny (model prg w) (AA dp un gd fr) (call (.ref 113) [.bytes x t]) Q E s := by
  k_dflt (refine' enter (binds := [(Str.ofString "data", .bytes x t)]) G ?k6 ?k7 ?k8 ?k9 ?kB ?c2 ?c3 ?c4 ?c5 ?_; walk_at "m33 enter")
  intro mean mg mb L' h₁ GB B X T D F N
  (try k_fold)
  k_steps
  all_goals (try dsimp only)
  exact hret _ _ _ (Fr.keep (by assumption))
set_option maxRecDepth 100000 in
set_option maxHeartbeats 8000000 in
theorem bfdS_spec {x : Str} {t : Tok} (G : At w base fr s.heap) (hd1 : dp + 10 < recursionLimit) (hu1 : un + 100 < cLine) (hx : ∀ c ∈ x.cps.toList, c < 128) (hz : x.length ≤ 40)
    (hret : ∀ t h' tk, s.heap.StaysIn h' → Q (.bytes (x.cps.map (·.toUInt8)) t) { s with heap := h', toks := tk }) :
    wpAny (model prg w) (AA dp un gd fr) (call (.ref 86) [.str x t]) Q E s := by
  k_dflt (refine' enter (binds := [(Str.ofString "s", .str x t)]) G ?k6 ?k7 ?k8 ?k9 ?kB ?c2 ?c3 ?c4 ?c5 ?_; walk_at "m33 enter")
  intro mean mg mb L' h₁ GB B X T D F N
  (try k_fold)
  k_steps
  unfold Stop
  refine encode_call hx (by rw [sizeLine_eq]; omega) ?_
  intro t' k
  dsimp only
  exact hret _ _ _ (Fr.keep (by assumption))
set_option maxRecDepth 100000 in
set_option maxHeartbeats 8000000 in
theorem bfdB_spec {x : Array UInt8} {t : Tok} (G : At w base fr s.heap) (hd1 : dp + 10 < recursionLimit) (hu1 : un + 100 < cLine)
    (hret : ∀ t h' tk, s.heap.StaysIn h' → Q (.bytes x t) { s with heap := h', toks := tk }) :
    wpAny (model prg w) (AA dp un gd fr) (call (.ref 86) [.bytes x t]) Q E s := by
  k_dflt (refine' enter (binds := [(Str.ofString "s", .bytes x t)]) G ?k6 ?k7 ?k8 ?k9 ?kB ?c2 ?c3 ?c4 ?c5 ?_; walk_at "m33 enter")
  intro mean mg mb L' h₁ GB B X T D F N
  (try k_fold)
  k_steps
  all_goals (try dsimp only)
  exact hret _ _ _ (Fr.keep (by assumption))
end
end Mine
end
section
namespace Mine
open PySem.Sre (isDigit M)

/-- the pattern's code -/
def reCode : Array Nat := #[14, 8, 1, 2, 4294967295, 1, 1, 46, 0, 16, 46, 24, 9, 1, 4294967295, 13, 4, 8, 0, 0, 1, 6, 5, 1]

/-- a dot, then digits alone, one at least -/
def hitAt : List Nat → Bool
  | c :: d :: r => c == 46 && (d :: r).all isDigit
  | _ => false
def hit : List Nat → Bool
  | [] => false
  | c :: r => hitAt (c :: r) || hit r

abbrev fr0 (o : Bool) (s : Nat) : Sre.Frame := { wait := .nextStart, pc := 9, pos := s, outermost := o }
abbrev frG (o : Bool) (p : Nat) (n : Int) : Sre.Frame := { wait := .giveBack, pc := 11, pos := p, outermost := o, count := n }

abbrev mkM (l : List Nat) (start pc pos handed : Nat) (o : Bool) (frames : List Sre.Frame) (ans : Option Bool) (seen : Sre.Seen) (w : Nat) : M :=
  { code := reCode, text := l.toArray, lim := l.length, start := start, lastStart := l.length, pc := pc, pos := pos, handed := handed, outermost := o, marks := #[], frames := frames, weight := w, answer := ans, seen := seen }

/-- it comes to an end within N steps -/
def Ends (N : Nat) (m : M) (r : Sre.Outcome) : Prop := ∃ k, k ≤ N ∧ (M.runFor k m).outcome = some r

theorem Ends.step {N : Nat} {m : M} {r : Sre.Outcome} (h0 : m.outcome = none) (h : Ends N m.step r) : Ends (N + 1) m r := by
  obtain ⟨k, hk, e⟩ := h
  refine ⟨k + 1, by omega, ?_⟩
  show (if m.outcome.isSome = true then m else M.runFor k m.step).outcome = _
  rw [h0]
  exact e
theorem Ends.mono {N N' : Nat} {m : M} {r : Sre.Outcome} (h : Ends N m r) (hN : N ≤ N') : Ends N' m r := by
  obtain ⟨k, hk, e⟩ := h
  exact ⟨k, by omega, e⟩
theorem Ends.now {m : M} {r : Sre.Outcome} (h : m.outcome = some r) : Ends 0 m r := ⟨0, Nat.le_refl _, h⟩

section
variable {l : List Nat} {start s handed w n p : Nat} {o o' o2 : Bool} {seen : Sre.Seen} {N : Nat} {r : Sre.Outcome}

theorem ends_fail : Ends 1 (mkM l start 9 s handed o [] (some false) seen w) .failed := Ends.step rfl (Ends.now rfl)
theorem ends_match : Ends 1 (mkM l start 9 s handed o [] (some true) seen w) .matched := Ends.step rfl (Ends.now rfl)

/-- the answer 'no' to an outermost attempt -/
theorem step_no (h : s < l.length) : (mkM l start n p handed o [fr0 o' s] (some false) seen 1).step = mkM l (s + 1) 9 (s + 1) (s + 1) false [fr0 false (s + 1)] none seen 1 := by
  show (if false = true then _ else if s < l.length then _ else _) = _
  rw [if_neg (by decide), if_pos h]
  rfl
theorem step_no_end (h : ¬ s < l.length) : (mkM l start n p handed o [fr0 o' s] (some false) seen 1).step = mkM l start 9 s handed o' [] (some false) seen 0 := by
  show (if false = true then _ else if s < l.length then _ else _) = _
  rw [if_neg (by decide), if_neg h]
  rfl
theorem step_yes : (mkM l start n p handed o [fr0 o' s] (some true) seen 1).step = mkM l start 9 s handed o' [] (some true) seen 0 := rfl

/-- an attempt at s: the dot -/
theorem step_lit_end (h : l.length ≤ s) : ∃ seen', (mkM l start 9 s handed o [fr0 o' s] none seen 1).step = mkM l start 9 s handed o [fr0 o' s] (some false) seen' 1 := by
  refine ⟨seen.add 16, ?_⟩
  show (if s ≥ l.length then _ else _) = _
  rw [if_pos h]
  rfl
theorem step_lit {c : Nat} (h : l[s]? = some c) : ∃ seen', (mkM l start 9 s handed o [fr0 o' s] none seen 1).step =
    if c = 46 then mkM l start 11 (s + 1) handed o [fr0 o' s] none seen' 1 else mkM l start 9 s handed o [fr0 o' s] (some false) seen' 1 := by
  obtain ⟨hs, e⟩ := List.getElem?_eq_some_iff.mp h
  refine ⟨seen.add 16, ?_⟩
  show (if s ≥ l.length then _ else (match Sre.accepts reCode 9 (l.toArray.getD s 0) (seen.add 16) with | .error why => _ | .ok (false, seen) => _ | .ok (true, seen) => _)) = _
  rw [if_neg (by omega)]
  have e2 : l.toArray.getD s 0 = c := by simp [Array.getD, hs, e]
  rw [e2]
  have e3 : Sre.accepts reCode 9 c (seen.add 16) = .ok (c == 46, seen.add 16) := rfl
  rw [e3]
  by_cases hc : c = 46
  · subst hc; rfl
  · rw [if_neg hc, show (c == 46) = false by simpa using hc]; rfl

/-- the digits at the head -/
def dg (r : List Nat) : Nat := (r.takeWhile isDigit).length
theorem acc_digit (c : Nat) (seen : Sre.Seen) : ∃ seen', Sre.accepts reCode 15 c seen = .ok (isDigit c, seen') := by
  show ∃ seen', (do if ← Sre.category 0 c then pure (true, ((seen.add 8).add 55)) else Sre.inSet reCode c 23 19 true ((seen.add 8).add 55) : Except String (Bool × Sre.Seen)) = _
  have e : Sre.category 0 c = .ok (isDigit c) := by
    show Except.ok (isDigit c != false) = _
    cases isDigit c <;> rfl
  rw [e]
  cases isDigit c with
  | true => exact ⟨_, rfl⟩
  | false => exact ⟨_, rfl⟩
theorem run_digits : ∀ (r : List Nat) (p found : Nat) (seen : Sre.Seen), l.drop p = r → ∃ seen', Sre.run reCode l.toArray 15 r.length p found seen = .ok (found + dg r, seen')
  | [], p, found, seen, _ => ⟨seen, rfl⟩
  | c :: r, p, found, seen, h => by
    have hc : l.toArray.getD p 0 = c := by
      have : l[p]? = some c := by rw [← List.head?_drop, h]; rfl
      obtain ⟨hs, e⟩ := List.getElem?_eq_some_iff.mp this
      simp [Array.getD, hs, e]
    have hr : l.drop (p + 1) = r := by rw [← List.drop_drop, h]; rfl
    obtain ⟨seen1, e1⟩ := acc_digit c seen
    show ∃ seen', (do let (yes, seen) ← Sre.accepts reCode 15 (l.toArray.getD p 0) seen; if yes then Sre.run reCode l.toArray 15 r.length (p + 1) (found + 1) seen else pure (found, seen) : Except String (Nat × Sre.Seen)) = _
    rw [hc, e1]
    cases hd : isDigit c with
    | true =>
      obtain ⟨seen2, e2⟩ := run_digits r (p + 1) (found + 1) seen1 hr
      refine ⟨seen2, ?_⟩
      have e3 : dg (c :: r) = dg r + 1 := by simp [dg, List.takeWhile_cons, hd]
      rw [e3, show found + (dg r + 1) = found + 1 + dg r by omega]
      exact e2
    | false =>
      refine ⟨seen1, ?_⟩
      have e3 : dg (c :: r) = 0 := by simp [dg, List.takeWhile_cons, hd]
      rw [e3]; rfl

/-- behind the dot: the digits -/
theorem step_rep_short (h : l.length ≤ s + 1) : ∃ seen', (mkM l start 11 (s + 1) handed o [fr0 o' s] none seen 1).step = mkM l start 11 (s + 1) handed o [fr0 o' s] (some false) seen' 1 := by
  refine ⟨seen.add 24, ?_⟩
  show (if ((1 : Nat) : Int) > (l.length : Int) - ((s + 1 : Nat) : Int) then _ else _) = _
  rw [if_pos (by omega)]
  rfl
theorem step_rep (h : s + 1 < l.length) (hz : l.length ≤ 1000) : ∃ seen', (mkM l start 11 (s + 1) handed o [fr0 o' s] none seen 1).step =
    if dg (l.drop (s + 1)) = 0 then mkM l start 11 (s + 1) handed o [fr0 o' s] (some false) seen' 1
    else mkM l start 21 (s + 1 + dg (l.drop (s + 1))) (s + 1 + dg (l.drop (s + 1))) o [frG o (s + 1 + dg (l.drop (s + 1))) (dg (l.drop (s + 1))), fr0 o' s] none seen' 2 := by
  obtain ⟨seen', e⟩ := run_digits (l := l) (l.drop (s + 1)) (s + 1) 0 ((seen.add 24).add 13) rfl
  refine ⟨seen', ?_⟩
  show (if ((1 : Nat) : Int) > (l.length : Int) - ((s + 1 : Nat) : Int) then _ else
    match Sre.run reCode l.toArray 15 (min 4294967295 ((l.length : Int) - ((s + 1 : Nat) : Int)).toNat) (s + 1) 0 ((seen.add 24).add 13) with
    | .error why => _
    | .ok (n, seen) => _) = _
  rw [if_neg (by omega)]
  have e2 : min 4294967295 ((l.length : Int) - ((s + 1 : Nat) : Int)).toNat = (l.drop (s + 1)).length := by rw [List.length_drop]; omega
  rw [e2, e]
  dsimp only
  rw [Nat.zero_add]
  show (if dg (l.drop (s + 1)) < 1 then _ else _) = _
  by_cases hd : dg (l.drop (s + 1)) = 0
  · rw [if_pos (by omega), if_pos hd]; rfl
  · rw [if_neg (by omega), if_neg hd]; rfl

/-- the end of the text, or not -/
theorem step_at (hz : ∀ c ∈ l, c ≠ 10) {fs : List Sre.Frame} : ∃ seen', (mkM l start 21 p handed o fs none seen w).step = if p = l.length then mkM l start 23 p handed o fs none seen' w else mkM l start 21 p handed o fs (some false) seen' w := by
  refine ⟨(seen.add 6).add (43 + 5), ?_⟩
  show (if (p == l.length || (p + 1 == l.length && l.toArray.getD p 0 == 10)) = true then _ else _) = _
  have h10 : (l.toArray.getD p 0 == 10) = false := by
    by_cases hs : p < l.length
    · have : l[p] ≠ 10 := hz _ (List.getElem_mem hs)
      simp [Array.getD, hs, this]
    · simp [Array.getD, hs]
  rw [h10, Bool.and_false, Bool.or_false]
  by_cases hp : p = l.length
  · rw [if_pos (by simpa using hp), if_pos hp]; rfl
  · rw [if_neg (by simpa using hp), if_neg hp]; rfl
theorem step_success {fs : List Sre.Frame} : ∃ seen', (mkM l start 23 p handed o fs none seen w).step = mkM l start 23 p p o fs (some true) seen' w := by
  refine ⟨seen.add 1, ?_⟩
  show (if (o && ((false && p != l.length) || (false && p == start))) = true then _ else _) = _
  rw [if_neg (by simp)]
  rfl
theorem step_back_yes {c : Int} : (mkM l start n p handed o [frG o2 s c, fr0 o' w] (some true) seen 2).step = mkM l start 11 s handed o2 [fr0 o' w] (some true) seen 1 := rfl
theorem step_back_no {c : Int} (hc : 1 ≤ c) : (mkM l start n p handed o [frG o2 s c, fr0 o' w] (some false) seen 2).step =
    if c = 1 then mkM l start 11 s handed o2 [fr0 o' w] (some false) seen 1 else mkM l start 21 (s - 1) (s - 1) o2 [frG o2 (s - 1) (c - 1), fr0 o' w] none seen 2 := by
  show (if false = true then _ else if c - 1 < ((1 : Nat) : Int) then _ else _) = _
  rw [if_neg (by decide)]
  by_cases h1 : c = 1
  · rw [if_pos (by omega), if_pos h1]; rfl
  · rw [if_neg (by omega), if_neg h1]; rfl

theorem go_no {K : Nat} (h : s < l.length) (ih : ∀ start handed o seen, Ends K (mkM l start 9 (s + 1) handed o [fr0 false (s + 1)] none seen 1) r) :
    Ends (K + 1) (mkM l start n p handed o [fr0 o' s] (some false) seen 1) r := Ends.step rfl (by rw [step_no h]; exact ih _ _ _ _)
theorem go_back {K : Nat} (hz : ∀ c ∈ l, c ≠ 10) (k : ∀ start n p handed o seen, Ends K (mkM l start n p handed o [fr0 o' s] (some false) seen 1) r) :
    ∀ (c p : Nat) (start handed : Nat) (o o2 : Bool) (seen : Sre.Seen), 1 ≤ c → p < l.length → Ends (K + 2 * c) (mkM l start 21 p handed o [frG o2 p (c : Int), fr0 o' s] none seen 2) r
  | 0, _, _, _, _, _, _, h, _ => absurd h (by decide)
  | c + 1, p, start, handed, o, o2, seen, _, hp => by
    obtain ⟨seen1, e1⟩ := step_at (l := l) (start := start) (handed := handed) (o := o) (seen := seen) (p := p) (w := 2) hz (fs := [frG o2 p ((c + 1 : Nat) : Int), fr0 o' s])
    rw [show K + 2 * (c + 1) = K + 2 * c + 1 + 1 by omega]
    refine Ends.step rfl ?_
    rw [e1, if_neg (by omega)]
    refine Ends.step rfl ?_
    rw [step_back_no (by omega)]
    by_cases h1 : c = 0
    · subst h1
      rw [if_pos (by rfl)]
      exact (k _ _ _ _ _ _).mono (by omega)
    · rw [if_neg (by omega), show (((c + 1 : Nat) : Int) - 1) = ((c : Nat) : Int) by omega]
      exact go_back hz k c (p - 1) _ _ _ _ _ (by omega) (by omega)

theorem dg_le (r : List Nat) : dg r ≤ r.length := by
  unfold dg
  exact (List.takeWhile_sublist _).length_le
theorem dg_all : ∀ r : List Nat, dg r = r.length ↔ r.all isDigit = true
  | [] => by simp [dg]
  | c :: r => by
    have ih := dg_all r
    have h1 := dg_le r
    unfold dg at *
    cases hd : isDigit c with
    | true =>
      have e : (List.takeWhile isDigit (c :: r)).length = (List.takeWhile isDigit r).length + 1 := by simp [List.takeWhile_cons, hd]
      rw [e, List.length_cons, List.all_cons, hd, Bool.true_and, ← ih]
      omega
    | false => simp [List.takeWhile_cons, hd]
theorem hitAt_dot (r : List Nat) (h : r ≠ []) : hitAt (46 :: r) = decide (dg r = r.length) := by
  cases r with
  | nil => exact absurd rfl h
  | cons d r =>
    show (46 == 46 && (d :: r).all isDigit) = _
    rw [show ((46 : Nat) == 46) = true from rfl, Bool.true_and]
    by_cases hd : dg (d :: r) = (d :: r).length
    · rw [decide_eq_true hd, (dg_all _).mp hd]
    · rw [decide_eq_false hd]
      cases h2 : (d :: r).all isDigit with
      | false => rfl
      | true => exact absurd ((dg_all _).mpr h2) hd

def bnd (l : List Nat) : Nat := 2 * l.length + 10
theorem search_ends (hz : ∀ c ∈ l, c ≠ 10) (hl : l.length ≤ 1000) : ∀ (k s start handed : Nat) (o o' : Bool) (seen : Sre.Seen), s + k = l.length →
    Ends ((k + 1) * bnd l) (mkM l start 9 s handed o [fr0 o' s] none seen 1) (if hit (l.drop s) = true then .matched else .failed)
  | 0, s, start, handed, o, o', seen, hk => by
    obtain ⟨seen1, e1⟩ := step_lit_end (l := l) (start := start) (s := s) (handed := handed) (o := o) (o' := o') (seen := seen) (by omega)
    have hd : l.drop s = [] := List.drop_eq_nil_of_le (by omega)
    rw [hd, if_neg (by simp [hit])]
    refine Ends.mono (N := 1 + 1 + 1) ?_ (by unfold bnd; omega)
    refine Ends.step rfl ?_
    rw [e1]
    refine Ends.step rfl ?_
    rw [step_no_end (by omega)]
    exact ends_fail
  | k + 1, s, start, handed, o, o', seen, hk => by
    have hs : s < l.length := by omega
    have ih := fun start handed o seen => search_ends hz hl k (s + 1) start handed o false seen (by omega)
    have hc : l[s]? = some l[s] := by simp [hs]
    generalize l[s] = c at hc
    have hd : l.drop s = c :: l.drop (s + 1) := drop_at hc
    obtain ⟨seen1, e1⟩ := step_lit (l := l) (start := start) (s := s) (handed := handed) (o := o) (o' := o') (seen := seen) hc
    rw [hd]
    have hb : (k + 1 + 1) * bnd l = (k + 1) * bnd l + bnd l := by rw [Nat.succ_mul]
    rw [hb]
    by_cases h46 : c = 46
    · subst h46
      by_cases hend : l.length ≤ s + 1
      · have hd2 : l.drop (s + 1) = [] := List.drop_eq_nil_of_le hend
        have hh : hit (46 :: l.drop (s + 1)) = hit (l.drop (s + 1)) := by rw [hd2]; rfl
        rw [hh]
        obtain ⟨seen2, e2⟩ := step_rep_short (l := l) (start := start) (s := s) (handed := handed) (o := o) (o' := o') (seen := seen1) hend
        refine Ends.mono (N := (k + 1) * bnd l + 1 + 1 + 1) ?_ (by unfold bnd; omega)
        refine Ends.step rfl ?_
        rw [e1, if_pos rfl]
        refine Ends.step rfl ?_
        rw [e2]
        exact go_no hs ih
      · obtain ⟨seen2, e2⟩ := step_rep (l := l) (start := start) (s := s) (handed := handed) (o := o) (o' := o') (seen := seen1) (by omega) hl
        have hne : l.drop (s + 1) ≠ [] := by rw [Ne, List.drop_eq_nil_iff]; omega
        have hlen : (l.drop (s + 1)).length = l.length - (s + 1) := List.length_drop
        have hle := dg_le (l.drop (s + 1))
        have hh : hit (46 :: l.drop (s + 1)) = (decide (dg (l.drop (s + 1)) = (l.drop (s + 1)).length) || hit (l.drop (s + 1))) := by
          rw [hit, hitAt_dot _ hne]
        by_cases hall : dg (l.drop (s + 1)) = (l.drop (s + 1)).length
        · rw [hh, decide_eq_true hall, Bool.true_or, if_pos rfl]
          refine Ends.mono (N := 1 + 1 + 1 + 1 + 1 + 1 + 1) ?_ (by unfold bnd; omega)
          refine Ends.step rfl ?_
          rw [e1, if_pos rfl]
          refine Ends.step rfl ?_
          rw [e2, if_neg (by omega)]
          obtain ⟨seen3, e3⟩ := step_at (l := l) (start := start) (handed := s + 1 + dg (l.drop (s + 1))) (o := o) (seen := seen2) (p := s + 1 + dg (l.drop (s + 1))) (w := 2) hz (fs := [frG o (s + 1 + dg (l.drop (s + 1))) (dg (l.drop (s + 1))), fr0 o' s])
          refine Ends.step rfl ?_
          rw [e3, if_pos (by omega)]
          obtain ⟨seen4, e4⟩ := step_success (l := l) (start := start) (handed := s + 1 + dg (l.drop (s + 1))) (o := o) (seen := seen3) (p := s + 1 + dg (l.drop (s + 1))) (w := 2) (fs := [frG o (s + 1 + dg (l.drop (s + 1))) (dg (l.drop (s + 1))), fr0 o' s])
          refine Ends.step rfl ?_
          rw [e4]
          refine Ends.step rfl ?_
          rw [step_back_yes]
          refine Ends.step rfl ?_
          rw [step_yes]
          exact ends_match
        · rw [hh, decide_eq_false hall, Bool.false_or]
          refine Ends.mono (N := (k + 1) * bnd l + 1 + 2 * dg (l.drop (s + 1)) + 1 + 1) ?_ (by unfold bnd; omega)
          refine Ends.step rfl ?_
          rw [e1, if_pos rfl]
          refine Ends.step rfl ?_
          rw [e2]
          by_cases h0 : dg (l.drop (s + 1)) = 0
          · rw [if_pos h0]
            exact (go_no hs ih).mono (by omega)
          · rw [if_neg h0]
            exact go_back hz (fun _ _ _ _ _ _ => go_no hs ih) _ _ _ _ _ _ _ (by omega) (by omega)
    · have hh : hit (c :: l.drop (s + 1)) = hit (l.drop (s + 1)) := by
        rw [hit]
        have : hitAt (c :: l.drop (s + 1)) = false := by
          cases l.drop (s + 1) with
          | nil => rfl
          | cons d r => show (c == 46 && _) = false; rw [show (c == 46) = false by simpa using h46]; rfl
        rw [this, Bool.false_or]
      rw [hh]
      refine Ends.mono (N := (k + 1) * bnd l + 1 + 1) ?_ (by unfold bnd; omega)
      refine Ends.step rfl ?_
      rw [e1, if_neg h46]
      exact go_no hs ih

/-- the machine as search starts it -/
theorem forSearch_ends (hz : ∀ c ∈ l, c ≠ 10) (hl : l.length ≤ 1000) : Ends ((l.length + 1) * bnd l + 1) (Sre.forSearch reCode l.toArray 0 0 l.length false) (if hit l = true then .matched else .failed) := by
  by_cases h2 : l.length < 2
  · have hh : hit l = false := by
      match l, h2 with
      | [], _ => rfl
      | [c], _ => rfl
    rw [hh, if_neg (by decide)]
    have e : (Sre.forSearch reCode l.toArray 0 0 l.length false).step.outcome = some .failed := by
      have e1 : Sre.forSearch reCode l.toArray 0 0 l.length false = { mkM l 0 9 0 0 true [] (some false) (({} : Sre.Seen).add 14) 0 with lastStart := 0 } := by
        show (if (decide (0 > l.length) || decide (l.length - 0 < 2)) = true then _ else _) = _
        rw [if_pos (by simp; omega)]
        rfl
      rw [e1]; rfl
    refine ⟨1, by omega, ?_⟩
    have e0 : (Sre.forSearch reCode l.toArray 0 0 l.length false).outcome = none := by
      show (if (decide (0 > l.length) || decide (l.length - 0 < 2)) = true then _ else _ : M).outcome = none
      rw [if_pos (by simp; omega)]
      rfl
    show (if (Sre.forSearch reCode l.toArray 0 0 l.length false).outcome.isSome = true then _ else M.runFor 0 (Sre.forSearch reCode l.toArray 0 0 l.length false).step).outcome = _
    rw [e0]; exact e
  · have e1 : Sre.forSearch reCode l.toArray 0 0 l.length false = mkM l 0 9 0 0 true [fr0 true 0] none (({} : Sre.Seen).add 14) 1 := by
      show (if (decide (0 > l.length) || decide (l.length - 0 < 2)) = true then _ else _) = _
      rw [if_neg (by simp; omega)]
      rfl
    rw [e1]
    have := search_ends hz hl l.length 0 0 0 true true (({} : Sre.Seen).add 14) (by omega)
    rw [List.drop_zero] at this
    exact this.mono (by omega)
end
end Mine
end
theorem Mine.anew_S_row {M : Model} {A : Around} {E : Value → Shared → Prop} {s : Shared} {env : Env} {Q : Flow → Shared → Prop} (h : Q .next s) : wpAny M A (execs [] env) Q E s := by
  w_top off
  first | (walk1; fail) | (w_top off; exact wpAny_execs_nil h)
section
namespace Mine
section
variable {w : World} {dp un : Nat} {gd : Option (List Code)} {base : Heap} {fr : List Env} {s : Shared} {Q E : Value → Shared → Prop}
local macro_rules | `(tactic| walk_at "m33 enter") => `(tactic| ((case k6 => k_is); (case k7 => k_is); (case k8 => omega); (case k9 => (intro kX9; first | exact BindsTo.of_eq rfl | exact binds_K kX9 rfl (by k_is) rfl rfl rfl)); (case c5 => decide); (case kB => exact locs rfl); (case c2 => exact rfl); (case c3 => exact rfl); (case c4 => exact rfl)))
local macro_rules | `(tactic| walk_at "exec For Name Name cons nil") => `(tactic| (k_here; (rename Fr _ _ _ _ => lF'); (with_unfolding_all refine' For_invVF lF' ?k1 ?k2 ?_; (case k1 => exact rfl); (case k2 => exact rfl); k_whole)))
local macro_rules | `(tactic| walk_at "pyIter ref") => `(tactic| ((with_reducible show wpAny _ _ (pyIter (Value.ref _)) (fun it s₂ => LoopAtV _ _ _ _ _ _ _ _ _ it s₂) _ _); refine Stop.out ?_))
local macro_rules | `(tactic| walk_at "m33 same") => `(tactic| (intro z hz; (try dsimp only); (repeat' split) <;> first | rfl | (exfalso; simp_all; done) | (simp_all; done)))

theorem row_push {ns out : List Int} {i : Nat} {n : Int} {a : Array Value} {l : List Int} {v : List Value} (hx : ns[i]? = some n) (hP : IntsAre a.toList out) (hO : out ++ rowGo (ns.drop i) = rowGo ns) (hol : out.length ≤ 5 * i) (ho : ∀ m ∈ out, 0 ≤ m ∧ m < 64)
    (he : (if n % 6 = 0 then [62] else if n % 6 = 1 then [37, 40, 28, 26, 37] else if n % 6 = 2 then [52 + n / 6 % 10] else if n % 6 = 3 then [63] else [n / 6 % 62]) = l) (hv : IntsAre v l) :
    ∃ o, IntsAre (a.toList ++ v) o ∧ o ++ rowGo (ns.drop (i + 1)) = rowGo ns ∧ o.length ≤ 5 * (i + 1) ∧ (∀ m ∈ o, 0 ≤ m ∧ m < 64) := by
  rw [drop_at hx, rowGo, he] at hO
  have ap : ∀ {v1 : List Value} {l1 : List Int}, IntsAre v1 l1 → IntsAre (v1 ++ v) (l1 ++ l) := by
    intro v1 l1 h1
    induction h1 with
    | nil => exact hv
    | cons n t _ ih => exact .cons _ _ ih
  refine ⟨out ++ l, ap hP, by rw [List.append_assoc]; exact hO, ?_, ?_⟩
  · have : l.length ≤ 5 := by rw [← he]; (repeat' split) <;> simp
    simp; omega
  · intro m hm
    rcases List.mem_append.mp hm with q | q
    · exact ho m q
    · rw [← he] at q
      revert q
      (repeat' split) <;> intro q <;> simp at q <;> omega

local macro_rules | `(tactic| walk_at "call builtin:list.extend") => `(tactic| (k_here; k_dflt (refine' kl_extend ?F ?N ?b ?e ?ne ?U ?d ?z ?y ?_; (case F => k_asm); (case N => k_asm); (case b => k_mem); (case U => k_upd); (case e => exact rfl); (case ne => simp); (case d => (refine extend_door ?_; simp only [sizeLine_eq, List.size_toArray, List.length_cons, List.length_nil]; omega)); (case z => (simp only [sizeLine_eq, Array.length_toList]; omega)); (case y => (simp only [sizeLine_eq, List.size_toArray, List.length_cons, List.length_nil]; omega))); intro h' F' N'; (try k_sweep)))
local macro_rules | `(tactic| walk_at "call ref") => `(tactic| (k_here; refine Stop.out ?_))
theorem emod6 (n : Int) : n.fmod 6 = n % 6 := Int.fmod_eq_emod_of_nonneg _ (by decide)

set_option maxRecDepth 100000 in
set_option maxHeartbeats 8000000 in
theorem row_spec {l : Addr} {vs : List Value} {ns : List Int} (G : At w base fr s.heap) (hd1 : dp + 20 < recursionLimit) (hu1 : un + 200 < cLine)
    (hl : s.heap.IsList l vs.toArray) (hi : IntsAre vs ns) (hn : ∀ n ∈ ns, 0 ≤ n ∧ n < 1860) (hlen : ns.length ≤ 12)
    (hret : ∀ l' a' k' h' tk, s.heap.StaysIn h' → s.heap.get? l' = none → h'.get? l' = some (listOf a' k') → IntsAre a'.toList (rowOf ns) → Q (.ref l') { s with heap := h', toks := tk }) :
    wpAny (model prg w) (AA dp un gd fr) (call (.ref 201) [.ref l]) Q E s := by
  k_dflt (refine' enter (binds := [(Str.ofString "numbers", .ref l)]) G ?k6 ?k7 ?k8 ?k9 ?kB ?c2 ?c3 ?c4 ?c5 ?_; walk_at "m33 enter")
  intro mean mg mb L' h₁ GB B X T D F N
  (try k_fold)
  k_steps
  unfold Stop
  (with_reducible rename Fr _ _ _ _ => lF)
  (with_reducible rename News _ _ _ _ => lN)
  refine loopM_ints (σ := Array Value × Nat) (fun st m => m)
    (fun st D => [(D, listOf st.1 st.2)])
    (fun i st => ∃ out, IntsAre st.1.toList out ∧ out ++ rowGo (ns.drop i) = rowGo ns ∧ out.length ≤ 5 * i ∧ (∀ m ∈ out, 0 ≤ m ∧ m < 64))
    (#[], 0) _ _ ?h0 hl hi lF lN ?_ ?_ ?_
  · exact rfl
  · exact ⟨[], .nil, rfl, Nat.le_refl _, by simp⟩
  · rintro i v ⟨a, k⟩ h tk own hin ⟨n, t, hx, rfl⟩ ⟨out, hP, hO, hol, ho⟩ hoff F N
    obtain ⟨hb1, hb2⟩ := hn n (List.mem_of_getElem? hx)
    have hsz : a.size ≤ 60 := by have := hP.length; simp at this; omega
    clear lF lN
    dsimp only [List.map, List.cons_append, List.nil_append] at N F hoff hO ⊢
    (try k_fold)
    k_steps
    · refine endS (by assumption) (by assumption) (_, _) ?_ (by intro z hz; simp only [if_neg hz]) (by intro p hp; rw [List.mem_singleton.mp hp]; exact List.Mem.head _) (by intro p hp; exact List.Mem.tail _ hp) rfl
      dsimp only; rw [List.concat_eq_append]
      refine row_push hx hP hO hol ho ?_ (.cons _ _ .nil)
      simp only [emod6] at *; rw [if_pos (by assumption)]
    · refine endS (by assumption) (by assumption) (_, _) ?_ (by intro z hz; simp only [if_neg hz]) (by intro p hp; rw [List.mem_singleton.mp hp]; exact List.Mem.tail _ (List.Mem.head _)) (by intro p hp; exact List.Mem.tail _ (List.Mem.tail _ hp)) rfl
      dsimp only
      refine row_push hx hP hO hol ho ?_ (.cons _ _ (.cons _ _ (.cons _ _ (.cons _ _ (.cons _ _ .nil)))))
      simp only [emod6] at *; rw [if_neg (by assumption), if_pos (by assumption)]
    · refine endS (by assumption) (by assumption) (_, _) ?_ (by intro z hz; simp only [if_neg hz]) (by intro p hp; rw [List.mem_singleton.mp hp]; exact List.Mem.head _) (by intro p hp; exact List.Mem.tail _ hp) rfl
      dsimp only; rw [List.concat_eq_append]
      refine row_push hx hP hO hol ho ?_ (.cons _ _ .nil)
      simp only [emod6] at *; rw [if_neg (by assumption), if_neg (by assumption), if_pos (by assumption)]
      rw [Int.fmod_eq_emod_of_nonneg _ (by decide), Int.fdiv_eq_ediv_of_nonneg _ (by decide)]
    · refine endS (by assumption) (by assumption) (_, _) ?_ (by intro z hz; simp only [if_neg hz]) (by intro p hp; rw [List.mem_singleton.mp hp]; exact List.Mem.head _) (by intro p hp; exact List.Mem.tail _ hp) rfl
      dsimp only; rw [List.concat_eq_append]
      refine row_push hx hP hO hol ho ?_ (.cons _ _ .nil)
      simp only [emod6] at *; rw [if_neg (by assumption), if_neg (by assumption), if_neg (by assumption), if_pos (by assumption)]
    · refine endS (by assumption) (by assumption) (_, _) ?_ (by intro z hz; simp only [if_neg hz]) (by intro p hp; rw [List.mem_singleton.mp hp]; exact List.Mem.head _) (by intro p hp; exact List.Mem.tail _ hp) rfl
      dsimp only; rw [List.concat_eq_append]
      refine row_push hx hP hO hol ho ?_ (.cons _ _ .nil)
      simp only [emod6] at *; rw [if_neg (by assumption), if_neg (by assumption), if_neg (by assumption), if_neg (by assumption)]
      rw [Int.fmod_eq_emod_of_nonneg _ (by decide), Int.fdiv_eq_ediv_of_nonneg _ (by decide)]
  · rintro ⟨a, k⟩ u h tk ⟨out, hP, hO, hol, ho⟩ F N
    clear lF lN
    dsimp only at N F hP ⊢
    have e : out = rowGo ns := by simpa [rowGo] using hO
    subst e
    k_steps
    unfold Stop
    (with_reducible rename Fr _ _ _ _ => lF)
    (with_reducible rename News _ _ _ _ => lN)
    refine whole_spec (At.push GB B D lF rfl rfl) (by show dp + 1 + 10 < recursionLimit; omega) (by show un + 3 + 100 < cLine; omega) (News.get lN (.head _)) (by simpa using ‹IntsAre _ (List.take _ _)›) ?_ ?_ ?_
    · intro m hm; exact ho m (List.mem_of_mem_take hm)
    · simp; omega
    · intro l2 a2 k2 h2 tk2 st hg hI hfr
      refine hret l2 a2 k2 h2 tk2 (fun b o e => st b o (lF.keep b o e)) ?_ hg hI
      rcases hfr with q | q
      · rw [q]; exact News.fresh lN (.head _)
      · cases hq : s.heap.get? l2 with
        | none => rfl
        | some o => rw [lF.keep _ _ hq] at q; cases q
end
end Mine
end
theorem Mine.anew_S_named {M : Model} {A : Around} {E : Value → Shared → Prop} {s : Shared} {env : Env} {Q : Flow → Shared → Prop} (h : Q .next s) : wpAny M A (execs [] env) Q E s := by
  w_top off
  first | (walk1; fail) | (w_top off; exact wpAny_execs_nil h)
section
namespace Mine
section
variable {w : World} {dp un : Nat} {gd : Option (List Code)} {base : Heap} {fr : List Env} {s : Shared} {Q E : Value → Shared → Prop}
local macro_rules | `(tactic| walk_at "m33 enter") => `(tactic| ((case k6 => k_is); (case k7 => k_is); (case k8 => omega); (case k9 => (intro kX9; first | exact BindsTo.of_eq rfl | exact binds_K kX9 rfl (by k_is) rfl rfl rfl)); (case c5 => decide); (case kB => exact locs rfl); (case c2 => exact rfl); (case c3 => exact rfl); (case c4 => exact rfl)))
local macro_rules | `(tactic| walk_at "exec For Name Name cons nil") => `(tactic| (k_here; (rename Fr _ _ _ _ => lF'); (with_unfolding_all refine' For_invVF lF' ?k1 ?k2 ?_; (case k1 => exact rfl); (case k2 => exact rfl); k_whole)))
local macro_rules | `(tactic| walk_at "pyIter ref") => `(tactic| ((with_reducible show wpAny _ _ (pyIter (Value.ref _)) (fun it s₂ => LoopAtV _ _ _ _ _ _ _ _ _ it s₂) _ _); refine Stop.out ?_))
local macro_rules | `(tactic| units_room) => `(tactic| (simp only [Around.deeper_units]; omega))
local macro_rules | `(tactic| walk_at "m33 same") => `(tactic| (intro z hz; (try dsimp only); (repeat' split) <;> first | rfl | (exfalso; simp_all; done) | (simp_all; done)))

local macro_rules | `(tactic| walk_at "call ref") => `(tactic| (k_here; refine Stop.out ?_))
set_option maxRecDepth 100000 in
set_option maxHeartbeats 8000000 in
theorem named_spec {l : Addr} {vs : List Value} {ns : List Int} {pads : Int} {tp : Tok} (G : At w base fr s.heap) (hd1 : dp + 20 < recursionLimit) (hu1 : un + 200 < cLine)
    (hl : s.heap.IsList l vs.toArray) (hi : IntsAre vs ns) (hn : ∀ n ∈ ns, 0 ≤ n ∧ n < 64) (hlen : ns.length ≤ 12)
    (hret : ∀ h' tk, s.heap.StaysIn h' → Q (.bool (named ns pads)) { s with heap := h', toks := tk }) :
    wpAny (model prg w) (AA dp un gd fr) (call (.ref 215) [.ref l, .int pads tp]) Q E s := by
  have hq : ∀ b h' tk, b = named ns pads → s.heap.StaysIn h' → Q (.bool b) { s with heap := h', toks := tk } := fun b h' tk e => by rw [e]; exact hret h' tk
  k_dflt (refine' enter (binds := [(Str.ofString "end", .ref l), (Str.ofString "pads", .int pads tp)]) G ?k6 ?k7 ?k8 ?k9 ?kB ?c2 ?c3 ?c4 ?c5 ?_; walk_at "m33 enter")
  intro mean mg mb L' h₁ GB B X T D F N
  (try k_fold)
  cases ns with
  | nil =>
    k_steps
    exact hq _ _ _ (by rfl) (Fr.keep (by assumption))
  | cons q r =>
    have hpos : 0 < (q :: r).length := by simp
    have e1 : (q :: r).getD (-1 + ((q :: r).length : Int)).toNat 0 = (q :: r).getLastD 0 := by
      have e : (-1 + ((q :: r).length : Int)).toNat = (q :: r).length - 1 := by omega
      rw [e]
      simp [List.getLastD, List.getLast_eq_getElem, List.getD, List.getElem?_eq_getElem]
    have e0 : (q :: r).getD (Int.toNat 0) 0 = q := rfl
    k_steps
    · exact absurd (by assumption : decide (q :: r = []) = true) (by simp)
    · unfold Stop
      (with_reducible rename Fr _ _ _ _ => lF)
      refine numbered_spec (At.push GB B D lF rfl rfl) (by show dp + 1 + 10 < recursionLimit; omega) (by show un + 3 + 100 < cLine; omega) (hl.at fun o e => lF.keep l o e) hi hn hlen ?_
      intro h2 tk2 st
      have F2 := Fr.stays lF st
      clear lF
      dsimp only at F2 ⊢
      k_steps
      refine hq _ _ _ ?_ (Fr.keep (by assumption))
      have h1 : (q :: r).getD (Int.toNat 0) 0 ≠ 62 := by assumption
      have h2 : (q :: r).getD (-1 + ((q :: r).length : Int)).toNat 0 ≠ 62 := by assumption
      rw [e0] at h1; rw [e1] at h2
      have h3 : (q :: r).headD 0 ≠ 62 := h1
      unfold named
      rw [decide_eq_true h3, decide_eq_true h2, decide_eq_true (by simp : q :: r ≠ [])]; simp
    · refine hq _ _ _ ?_ (Fr.keep (by assumption))
      have h2 : (q :: r).getD (-1 + ((q :: r).length : Int)).toNat 0 = 62 := by assumption
      rw [h2]; rw [e1] at h2
      simp only [named, h2]; simp
    · refine hq _ _ _ ?_ (Fr.keep (by assumption))
      have h2 : (q :: r).getD (Int.toNat 0) 0 = 62 := by assumption
      rw [h2]; rw [e0] at h2
      simp [named, h2]
end
end Mine
end
theorem Mine.anew_S_a2b {M : Model} {A : Around} {E : Value → Shared → Prop} {s : Shared} {env : Env} {Q : Flow → Shared → Prop} (h : Q .next s) : wpAny M A (execs [] env) Q E s := by
  w_top off
  first | (walk1; fail) | (w_top off; exact wpAny_execs_nil h)
section
namespace Mine
section
variable {w : World} {dp un : Nat} {gd : Option (List Code)} {base : Heap} {fr : List Env} {s : Shared} {Q E : Value → Shared → Prop}
local macro_rules | `(tactic| walk_at "m33 enter") => `(tactic| ((case k6 => k_is); (case k7 => k_is); (case k8 => omega); (case k9 => (intro kX9; first | exact BindsTo.of_eq rfl | exact binds_K kX9 rfl (by k_is) rfl rfl rfl)); (case c5 => decide); (case kB => exact locs rfl); (case c2 => exact rfl); (case c3 => exact rfl); (case c4 => exact rfl)))
local macro_rules | `(tactic| walk_at "exec For Name Name cons nil") => `(tactic| (k_here; (rename Fr _ _ _ _ => lF'); (with_unfolding_all refine' For_invVF lF' ?k1 ?k2 ?_; (case k1 => exact rfl); (case k2 => exact rfl); k_whole)))
local macro_rules | `(tactic| walk_at "pyIter ref") => `(tactic| ((with_reducible show wpAny _ _ (pyIter (Value.ref _)) (fun it s₂ => LoopAtV _ _ _ _ _ _ _ _ _ it s₂) _ _); refine Stop.out ?_))
local macro_rules | `(tactic| walk_at "call type:type") => `(tactic| ((with_reducible show wpAny _ _ (call (Value.type "type") [Value.bytes _ _]) _ _ _); refine type_bytes ?_))
local macro_rules | `(tactic| walk_at "getMethod str") => `(tactic| ((with_reducible show wpAny _ _ (getMethod (Value.str _ _) (PySem.Str.ofString "encode") _) _ _ _); with_reducible refine encode_method ?_))
local macro_rules | `(tactic| walk_at "storeName") => `(tactic| (k_here; k_dflt (first
  | ((with_reducible show wpAny _ _ (storeName _ _ (Value.int _ _)) _ _ _); refine' store_int ?F ?N ?_ ?a ?b; (case F => k_asm); (case N => k_asm); (case a => rfl); (case b => rfl); k_whole; intro t' tk' h' F' N'; (try dsimp only); (try k_sweep))
  | ((with_reducible show wpAny _ _ (storeName _ _ (Value.str _ _)) _ _ _); refine' store_str ?F ?N ?_ ?a ?b; (case F => k_asm); (case N => k_asm); (case a => rfl); (case b => rfl); k_whole; intro t' tk' h' F' N'; (try dsimp only); (try k_sweep))
  | ((with_reducible show wpAny _ _ (storeName _ _ (Value.bytes _ _)) _ _ _); refine' store_bytes ?F ?N ?_ ?a ?b; (case F => k_asm); (case N => k_asm); (case a => rfl); (case b => rfl); k_whole; intro t' tk' h' F' N'; (try dsimp only); (try k_sweep)))))
local macro_rules | `(tactic| walk_at "m33 go") => `(tactic| repeat' ((fail_if_success (with_reducible refine stopQ ?_)); first | (k_unfold; (try dsimp only)) | walk1 | (dsimp only; walk1) | (dsimp only; k_unfold; (try dsimp only)) | (leave1; walk_say "STEP leave1"; try dsimp only) | fail "no step"))
local macro_rules | `(tactic| walk_at "InvEndN") => `(tactic| refine Stop.out ?_)
local macro_rules | `(tactic| walk_at "InvEndA") => `(tactic| refine Stop.out ?_)
local macro_rules | `(tactic| units_room) => `(tactic| (simp only [Around.deeper_units]; omega))
local macro_rules | `(tactic| walk_at "m33 same") => `(tactic| (intro z hz; (try dsimp only); (repeat' split) <;> first | rfl | (exfalso; simp_all; done) | (simp_all; done)))

local macro_rules | `(tactic| walk_at "call ref") => `(tactic| (k_here; refine Stop.out ?_))
local macro_rules | `(tactic| walk_at "pyIter bytes") => `(tactic| ((with_reducible show wpAny _ _ (pyIter (Value.bytes _ _)) (fun it s₂ => LoopAtV _ _ _ _ _ _ _ _ _ it s₂) _ _); refine Stop.out ?_))

/-- what holds between two turns of the reader -/
def A2P (b : Array UInt8) (i : Nat) (ii p l q : Int) (a : Array Value) : Prop :=
  ∃ out, IntsAre a.toList out ∧ a2bGo ((bInts b).drop i) q l p out = a2bGo (bInts b) 0 0 0 [] ∧ out.length ≤ i ∧ (∀ n ∈ out, 0 ≤ n ∧ n < 256) ∧ 0 ≤ p ∧ p ≤ (i : Int) ∧ ii = (i : Int) ∧
    (q = 0 ∧ l = 0 ∨ q = 1 ∧ 0 ≤ l ∧ l < 64 ∨ q = 2 ∧ 0 ≤ l ∧ l < 16 ∨ q = 3 ∧ 0 ≤ l ∧ l < 4)

theorem a2_pad {b : Array UInt8} {i : Nat} {n : UInt8} {ii p l q : Int} {a : Array Value} (hP : A2P b i ii p l q a) (hx : b[i]? = some n) (h : (n.toNat : Int) = 61) : A2P b (i + 1) (ii + 1) (p + 1) l q a := by
  obtain ⟨out, hI, hO, hol, hob, hp0, hp1, hii, hq⟩ := hP
  rw [drop_at (bInts_at hx), a2bGo, if_pos h] at hO
  exact ⟨out, hI, hO, by omega, hob, by omega, by omega, by omega, hq⟩

section
variable {b : Array UInt8} {i : Nat} {n : UInt8} {ii p l q v : Int} {a : Array Value} {t : Tok} (hP : A2P b i ii p l q a) (hx : b[i]? = some n) (h61 : (n.toNat : Int) ≠ 61) (hv : b64v (n.toNat : Int) = v)
include hP hx h61 hv
theorem a2_skip (h : 64 ≤ v) : A2P b (i + 1) (ii + 1) p l q a := by
  obtain ⟨out, hI, hO, hol, hob, hp0, hp1, hii, hq⟩ := hP
  rw [drop_at (bInts_at hx), a2bGo, if_neg h61, hv, if_pos h] at hO
  exact ⟨out, hI, hO, by omega, hob, by omega, by omega, by omega, hq⟩
theorem a2_q0 (h : v < 64) (h0 : q = 0) : A2P b (i + 1) (ii + 1) 0 v 1 a := by
  have hv0 : 0 ≤ v := by rw [← hv]; unfold b64v; (repeat' split) <;> omega
  obtain ⟨out, hI, hO, hol, hob, hp0, hp1, hii, hq⟩ := hP
  rw [drop_at (bInts_at hx), a2bGo, if_neg h61, hv, if_neg (by omega), if_pos h0] at hO
  exact ⟨out, hI, hO, by omega, hob, by omega, by omega, by omega, by omega⟩
theorem a2_q1 (h : v < 64) (h0 : q = 1) : A2P b (i + 1) (ii + 1) 0 (Builtin.bitAnd v 15) 2 (a.push (.int (Builtin.bitOr (l * 2 ^ Int.toNat 2) (v.fdiv (2 ^ Int.toNat 4))) t)) := by
  have hv0 : 0 ≤ v := by rw [← hv]; unfold b64v; (repeat' split) <;> omega
  obtain ⟨out, hI, hO, hol, hob, hp0, hp1, hii, hq⟩ := hP
  rw [drop_at (bInts_at hx), a2bGo, if_neg h61, hv, if_neg (by omega), if_neg (by omega), if_pos h0] at hO
  have e1 : v.fdiv (2 ^ Int.toNat 4) = v / 16 := Int.fdiv_eq_ediv_of_nonneg _ (by decide)
  have e2 : Builtin.bitOr (l * 2 ^ Int.toNat 2) (v / 16) = l * 4 + v / 16 := bitOr_add 2 (by omega) (by omega) (by show v / 16 < 4; omega)
  rw [e1, e2, bitAnd_m4]
  refine ⟨_, ints_push hI, hO, by simp; omega, ?_, by omega, by omega, by omega, by omega⟩
  intro m hm
  rcases List.mem_append.mp hm with g | g
  · exact hob m g
  · rw [List.mem_singleton.mp g]; omega
theorem a2_q2 (h : v < 64) (h0 : q = 2) : A2P b (i + 1) (ii + 1) 0 (Builtin.bitAnd v 3) 3 (a.push (.int (Builtin.bitOr (l * 2 ^ Int.toNat 4) (v.fdiv (2 ^ Int.toNat 2))) t)) := by
  have hv0 : 0 ≤ v := by rw [← hv]; unfold b64v; (repeat' split) <;> omega
  obtain ⟨out, hI, hO, hol, hob, hp0, hp1, hii, hq⟩ := hP
  rw [drop_at (bInts_at hx), a2bGo, if_neg h61, hv, if_neg (by omega), if_neg (by omega), if_neg (by omega), if_pos h0] at hO
  have e1 : v.fdiv (2 ^ Int.toNat 2) = v / 4 := Int.fdiv_eq_ediv_of_nonneg _ (by decide)
  have e2 : Builtin.bitOr (l * 2 ^ Int.toNat 4) (v / 4) = l * 16 + v / 4 := bitOr_add 4 (by omega) (by omega) (by show v / 4 < 16; omega)
  rw [e1, e2, bitAnd_m2]
  refine ⟨_, ints_push hI, hO, by simp; omega, ?_, by omega, by omega, by omega, by omega⟩
  intro m hm
  rcases List.mem_append.mp hm with g | g
  · exact hob m g
  · rw [List.mem_singleton.mp g]; omega
theorem a2_q3 (h : v < 64) (h0 : q = 3) : A2P b (i + 1) (ii + 1) 0 0 0 (a.push (.int (Builtin.bitOr (l * 2 ^ Int.toNat 6) v) t)) := by
  have hv0 : 0 ≤ v := by rw [← hv]; unfold b64v; (repeat' split) <;> omega
  obtain ⟨out, hI, hO, hol, hob, hp0, hp1, hii, hq⟩ := hP
  rw [drop_at (bInts_at hx), a2bGo, if_neg h61, hv, if_neg (by omega), if_neg (by omega), if_neg (by omega), if_neg (by omega)] at hO
  have e2 : Builtin.bitOr (l * 2 ^ Int.toNat 6) v = l * 64 + v := bitOr_add 6 (by omega) (by omega) (by show v < 64; omega)
  rw [e2]
  refine ⟨_, ints_push hI, hO, by simp; omega, ?_, by omega, by omega, by omega, by omega⟩
  intro m hm
  rcases List.mem_append.mp hm with g | g
  · exact hob m g
  · rw [List.mem_singleton.mp g]; omega
end

set_option maxRecDepth 100000 in
set_option maxHeartbeats 8000000 in
theorem a2b_spec {b : Array UInt8} {t : Tok} (G : At w base fr s.heap) (hd1 : dp + 20 < recursionLimit) (hu1 : un + 200 < cLine) (hz : b.size ≤ 40)
    (hret : ∀ out t h' tk, a2b (bInts b) = some out → s.heap.StaysIn h' → Q (.bytes (byteArr out) t) { s with heap := h', toks := tk })
    (hexc : a2b (bInts b) = none → ∀ e t vs news h' tk, RaisedS base s.heap fr e (.ref 96) t vs news h' → s.heap.UpToSlots h' → E (.ref e) { s with heap := h', toks := tk }) :
    wpAny (model prg w) (AA dp un gd fr) (call (.ref 135) [.bytes b t] [(Str.ofString "strict_mode", .bool false)]) Q E s := by
  k_dflt (refine' enter (binds := [(Str.ofString "data", .bytes b t), (Str.ofString "strict_mode", .bool false)]) G ?k6 ?k7 ?k8 ?k9 ?kB ?c2 ?c3 ?c4 ?c5 ?_; walk_at "m33 enter")
  intro mean mg mb L' h₁ GB B X T D F N
  (try k_fold)
  walk_at "m33 go"
  unfold Stop
  refine ascii_spec (At.push GB B D F rfl rfl) (by show dp + 1 + 10 < recursionLimit; omega) (by show un + 3 + 100 < cLine; omega) ?_
  intro t2 h2 tk2 st
  have F2 := Fr.stays F st
  have N2 := News.stays N st
  clear F N
  dsimp only at F2 N2 ⊢
  walk_at "m33 go"
  unfold Stop
  (with_reducible rename Fr _ _ _ _ => lF)
  (with_reducible rename News _ _ _ _ => lN)
  refine truth_spec (At.push GB B D lF rfl rfl) (by show dp + 1 + 10 < recursionLimit; omega) (by show un + 3 + 100 < cLine; omega) ?_
  intro h3 tk3 st3
  have F3 := Fr.stays lF st3
  have N3 := News.stays lN st3
  clear lF lN
  dsimp only at F3 N3 ⊢
  walk_at "m33 go"
  unfold Stop
  (with_reducible rename Fr _ _ _ _ => lF)
  (with_reducible rename News _ _ _ _ => lN)
  refine loopM_bytes (σ := (Int × Tok × Int × Tok × Int × Tok × Int × Tok) × Array Value × Nat)
    (fun st m y => if y = Str.ofString "i" then some (.int st.1.1 st.1.2.1) else if y = Str.ofString "pads" then some (.int st.1.2.2.1 st.1.2.2.2.1) else if y = Str.ofString "leftchar" then some (.int st.1.2.2.2.2.1 st.1.2.2.2.2.2.1) else if y = Str.ofString "quad_pos" then some (.int st.1.2.2.2.2.2.2.1 st.1.2.2.2.2.2.2.2) else m y)
    (fun st D => [(D, listOf st.2.1 st.2.2)])
    (fun i st => A2P b i st.1.1 st.1.2.2.1 st.1.2.2.2.2.1 st.1.2.2.2.2.2.2.1 st.2.1)
    ((0, _, 0, _, 0, _, 0, _), #[], 0) _ _ ?h0 lF lN ?_ ?_ ?_
  · exact rfl
  · exact ⟨[], .nil, rfl, Nat.le_refl _, by simp, by simp, by simp, by simp, by simp⟩
  · rintro i v ⟨⟨ii, ti, p, tp, l, tl, q, tq⟩, a, k⟩ h tk own hin ⟨n, tn, hx, rfl⟩ hP hoff F N
    have hP0 := hP
    obtain ⟨out, hI, hO, hol, hob, hp0, hp1, hii, hq⟩ := hP0
    have hsz : a.size ≤ 40 := by have := hI.length; simp at this; omega
    have hn1 : (0 : Int) ≤ (n.toNat : Int) := by omega
    have hn2 : (n.toNat : Int) < 256 := by have := n.toNat_lt; omega
    clear lF lN
    dsimp only [List.map, List.cons_append, List.nil_append] at N F hoff hO hP hp0 hp1 hii hq ⊢
    (try k_fold)
    walk_at "m33 go"
    · refine endS (by assumption) (by assumption) ((ii + 1, _, p + 1, _, l, _, q, _), _, _) ?_ (same4 (by exact rfl) (by exact rfl) (by exact rfl) (by exact rfl) (by intro z h0 h1 h2 h3 h4; simp only [if_neg h0, if_neg h1, if_neg h2, if_neg h3, if_neg h4])) (by intro p hp; rw [List.mem_singleton.mp hp]; exact List.Mem.head _) (by intro p hp; exact List.Mem.tail _ hp) rfl
      exact a2_pad hP hx (by assumption)
    · refine endS (by assumption) (by assumption) ((ii + 1, _, p + 1, _, l, _, q, _), _, _) ?_ (same4 (by exact rfl) (by exact rfl) (by exact rfl) (by exact rfl) (by intro z h0 h1 h2 h3 h4; simp only [if_neg h0, if_neg h1, if_neg h2, if_neg h3, if_neg h4])) (by intro p hp; rw [List.mem_singleton.mp hp]; exact List.Mem.head _) (by intro p hp; exact List.Mem.tail _ hp) rfl
      exact a2_pad hP hx (by assumption)
    · refine endS (by assumption) (by assumption) ((ii + 1, _, p + 1, _, l, _, q, _), _, _) ?_ (same4 (by exact rfl) (by exact rfl) (by exact rfl) (by exact rfl) (by intro z h0 h1 h2 h3 h4; simp only [if_neg h0, if_neg h1, if_neg h2, if_neg h3, if_neg h4])) (by intro p hp; rw [List.mem_singleton.mp hp]; exact List.Mem.head _) (by intro p hp; exact List.Mem.tail _ hp) rfl
      exact a2_pad hP hx (by assumption)
    · unfold Stop
      refine b64v_spec (At.push GB B D F rfl rfl) (by show dp + 1 + 10 < recursionLimit; omega) (by show un + 3 + 100 < cLine; omega) ?_
      intro t4 h4 tk4 st4
      have F4 := Fr.stays F st4
      have N4 := News.stays N st4
      have hv0 : 0 ≤ b64v (n.toNat : Int) := by unfold b64v; (repeat' split) <;> omega
      have hv1 : b64v (n.toNat : Int) ≤ 64 := by unfold b64v; (repeat' split) <;> omega
      clear F N
      generalize hv : b64v (n.toNat : Int) = v at hv0 hv1 ⊢
      have h61 : (n.toNat : Int) ≠ 61 := by assumption
      dsimp only at F4 N4 ⊢
      have hl0 : 0 ≤ l := by omega
      have hl1 : l < 64 := by omega
      have hq0 : 0 ≤ q := by omega
      have hq3 : q ≤ 3 := by omega
      walk_at "m33 go"
      · refine endS (by assumption) (by assumption) ((ii + 1, _, p, _, l, _, q, _), _, _) ?_ (same4 (by exact rfl) (by exact rfl) (by exact rfl) (by exact rfl) (by intro z h0 h1 h2 h3 h4; simp only [if_neg h0, if_neg h1, if_neg h2, if_neg h3, if_neg h4])) (by intro p hp; rw [List.mem_singleton.mp hp]; exact List.Mem.head _) (by intro p hp; exact List.Mem.tail _ hp) rfl
        exact a2_skip (v := v) hP hx h61 hv (by assumption)
      · refine endS (by assumption) (by assumption) ((ii + 1, _, 0, _, v, _, 1, _), _, _) ?_ (same4 (by exact rfl) (by exact rfl) (by exact rfl) (by exact rfl) (by intro z h0 h1 h2 h3 h4; simp only [if_neg h0, if_neg h1, if_neg h2, if_neg h3, if_neg h4])) (by intro p hp; rw [List.mem_singleton.mp hp]; exact List.Mem.head _) (by intro p hp; exact List.Mem.tail _ hp) rfl
        exact a2_q0 (v := v) hP hx h61 hv (by omega) (by assumption)
      · refine endS (by assumption) (by assumption) ((ii + 1, _, 0, _, Builtin.bitAnd v 15, _, 2, _), _, _) ?_ (same4 (by exact rfl) (by exact rfl) (by exact rfl) (by exact rfl) (by intro z h0 h1 h2 h3 h4; simp only [if_neg h0, if_neg h1, if_neg h2, if_neg h3, if_neg h4])) (by intro p hp; rw [List.mem_singleton.mp hp]; exact List.Mem.head _) (by intro p hp; exact List.Mem.tail _ hp) rfl
        exact a2_q1 (v := v) hP hx h61 hv (by omega) (by assumption)
      · refine endS (by assumption) (by assumption) ((ii + 1, _, 0, _, Builtin.bitAnd v 3, _, 3, _), _, _) ?_ (same4 (by exact rfl) (by exact rfl) (by exact rfl) (by exact rfl) (by intro z h0 h1 h2 h3 h4; simp only [if_neg h0, if_neg h1, if_neg h2, if_neg h3, if_neg h4])) (by intro p hp; rw [List.mem_singleton.mp hp]; exact List.Mem.head _) (by intro p hp; exact List.Mem.tail _ hp) rfl
        exact a2_q2 (v := v) hP hx h61 hv (by omega) (by assumption)
      · refine endS (by assumption) (by assumption) ((ii + 1, _, 0, _, 0, _, 0, _), _, _) ?_ (same4 (by exact rfl) (by exact rfl) (by exact rfl) (by exact rfl) (by intro z h0 h1 h2 h3 h4; simp only [if_neg h0, if_neg h1, if_neg h2, if_neg h3, if_neg h4])) (by intro p hp; rw [List.mem_singleton.mp hp]; exact List.Mem.head _) (by intro p hp; exact List.Mem.tail _ hp) rfl
        exact a2_q3 (v := v) hP hx h61 hv (by omega) (by omega)
      · refine endS (by assumption) (by assumption) ((ii + 1, _, 0, _, v, _, 1, _), _, _) ?_ (same4 (by exact rfl) (by exact rfl) (by exact rfl) (by exact rfl) (by intro z h0 h1 h2 h3 h4; simp only [if_neg h0, if_neg h1, if_neg h2, if_neg h3, if_neg h4])) (by intro p hp; rw [List.mem_singleton.mp hp]; exact List.Mem.head _) (by intro p hp; exact List.Mem.tail _ hp) rfl
        exact a2_q0 (v := v) hP hx h61 hv (by omega) (by assumption)
      · refine endS (by assumption) (by assumption) ((ii + 1, _, 0, _, Builtin.bitAnd v 15, _, 2, _), _, _) ?_ (same4 (by exact rfl) (by exact rfl) (by exact rfl) (by exact rfl) (by intro z h0 h1 h2 h3 h4; simp only [if_neg h0, if_neg h1, if_neg h2, if_neg h3, if_neg h4])) (by intro p hp; rw [List.mem_singleton.mp hp]; exact List.Mem.head _) (by intro p hp; exact List.Mem.tail _ hp) rfl
        exact a2_q1 (v := v) hP hx h61 hv (by omega) (by assumption)
      · refine endS (by assumption) (by assumption) ((ii + 1, _, 0, _, Builtin.bitAnd v 3, _, 3, _), _, _) ?_ (same4 (by exact rfl) (by exact rfl) (by exact rfl) (by exact rfl) (by intro z h0 h1 h2 h3 h4; simp only [if_neg h0, if_neg h1, if_neg h2, if_neg h3, if_neg h4])) (by intro p hp; rw [List.mem_singleton.mp hp]; exact List.Mem.head _) (by intro p hp; exact List.Mem.tail _ hp) rfl
        exact a2_q2 (v := v) hP hx h61 hv (by omega) (by assumption)
      · refine endS (by assumption) (by assumption) ((ii + 1, _, 0, _, 0, _, 0, _), _, _) ?_ (same4 (by exact rfl) (by exact rfl) (by exact rfl) (by exact rfl) (by intro z h0 h1 h2 h3 h4; simp only [if_neg h0, if_neg h1, if_neg h2, if_neg h3, if_neg h4])) (by intro p hp; rw [List.mem_singleton.mp hp]; exact List.Mem.head _) (by intro p hp; exact List.Mem.tail _ hp) rfl
        exact a2_q3 (v := v) hP hx h61 hv (by omega) (by omega)
  · rintro ⟨⟨ii, ti, p, tp, l, tl, q, tq⟩, a, k⟩ u h tk hP F N
    obtain ⟨out, hI, hO, hol, hob, hp0, hp1, hii, hq⟩ := hP
    have hsz : a.size ≤ 40 := by have := hI.length; simp at this; omega
    clear lF lN
    dsimp only at N F hO hI hp0 hp1 hii hq ⊢
    obtain ⟨va⟩ := a
    have hdr : (bInts b).drop b.size = [] := by rw [← bInts_length]; simp
    rw [hdr, a2bGo] at hO
    have hval : a2b (bInts b) = if q = 1 then none else if q ≠ 0 ∧ q + p < 4 then none else some out := by
      unfold a2b; rw [← hO]
    walk_at "m33 go"
    · refine hexc (by rw [hval, if_pos (by assumption)]) _ _ _ _ _ _ (by assumption) (by assumption)
    · refine hexc (by rw [hval, if_neg (by assumption), if_pos ⟨by assumption, by assumption⟩]) _ _ _ _ _ _ (by assumption) (by assumption)
    · refine hret out _ _ _ (by rw [hval, if_neg (by assumption), if_neg (by intro h9; omega)]) (Fr.keep (by assumption))
    · refine hret out _ _ _ (by rw [hval, if_neg (by assumption), if_neg (by intro h9; omega)]) (Fr.keep (by assumption))
end
end Mine
end
theorem Mine.anew_S_b2a {M : Model} {A : Around} {E : Value → Shared → Prop} {s : Shared} {env : Env} {Q : Flow → Shared → Prop} (h : Q .next s) : wpAny M A (execs [] env) Q E s := by
  w_top off
  first | (walk1; fail) | (w_top off; exact wpAny_execs_nil h)
section
namespace Mine
section
variable {w : World} {dp un : Nat} {gd : Option (List Code)} {base : Heap} {fr : List Env} {s : Shared} {Q E : Value → Shared → Prop}
local macro_rules | `(tactic| walk_at "m33 enter") => `(tactic| ((case k6 => k_is); (case k7 => k_is); (case k8 => omega); (case k9 => (intro kX9; first | exact BindsTo.of_eq rfl | exact binds_K kX9 rfl (by k_is) rfl rfl rfl)); (case c5 => decide); (case kB => exact locs rfl); (case c2 => exact rfl); (case c3 => exact rfl); (case c4 => exact rfl)))
local macro_rules | `(tactic| walk_at "exec For Name Name cons nil") => `(tactic| (k_here; (rename Fr _ _ _ _ => lF'); (with_unfolding_all refine' For_invVF lF' ?k1 ?k2 ?_; (case k1 => exact rfl); (case k2 => exact rfl); k_whole)))
local macro_rules | `(tactic| walk_at "pyIter ref") => `(tactic| ((with_reducible show wpAny _ _ (pyIter (Value.ref _)) (fun it s₂ => LoopAtV _ _ _ _ _ _ _ _ _ it s₂) _ _); refine Stop.out ?_))
local macro_rules | `(tactic| walk_at "call type:type") => `(tactic| ((with_reducible show wpAny _ _ (call (Value.type "type") [Value.bytes _ _]) _ _ _); refine type_bytes ?_))
local macro_rules | `(tactic| walk_at "getMethod str") => `(tactic| ((with_reducible show wpAny _ _ (getMethod (Value.str _ _) (PySem.Str.ofString "encode") _) _ _ _); with_reducible refine encode_method ?_))
local macro_rules | `(tactic| walk_at "storeName") => `(tactic| (k_here; k_dflt (first
  | ((with_reducible show wpAny _ _ (storeName _ _ (Value.int _ _)) _ _ _); refine' store_int ?F ?N ?_ ?a ?b; (case F => k_asm); (case N => k_asm); (case a => rfl); (case b => rfl); k_whole; intro t' tk' h' F' N'; (try dsimp only); (try k_sweep))
  | ((with_reducible show wpAny _ _ (storeName _ _ (Value.str _ _)) _ _ _); refine' store_str ?F ?N ?_ ?a ?b; (case F => k_asm); (case N => k_asm); (case a => rfl); (case b => rfl); k_whole; intro t' tk' h' F' N'; (try dsimp only); (try k_sweep))
  | ((with_reducible show wpAny _ _ (storeName _ _ (Value.bytes _ _)) _ _ _); refine' store_bytes ?F ?N ?_ ?a ?b; (case F => k_asm); (case N => k_asm); (case a => rfl); (case b => rfl); k_whole; intro t' tk' h' F' N'; (try dsimp only); (try k_sweep)))))
local macro_rules | `(tactic| walk_at "m33 go") => `(tactic| repeat' ((fail_if_success (with_reducible refine stopQ ?_)); first | (k_unfold; (try dsimp only)) | walk1 | (dsimp only; walk1) | (dsimp only; k_unfold; (try dsimp only)) | (leave1; walk_say "STEP leave1"; try dsimp only) | fail "no step"))
local macro_rules | `(tactic| walk_at "InvEndN") => `(tactic| refine Stop.out ?_)
local macro_rules | `(tactic| walk_at "InvEndA") => `(tactic| refine Stop.out ?_)
local macro_rules | `(tactic| units_room) => `(tactic| (simp only [Around.deeper_units]; omega))
local macro_rules | `(tactic| walk_at "m33 same") => `(tactic| (intro z hz; (try dsimp only); (repeat' split) <;> first | rfl | (exfalso; simp_all; done) | (simp_all; done)))
local macro_rules | `(tactic| walk_at "call ref") => `(tactic| (k_here; refine Stop.out ?_))
local macro_rules | `(tactic| walk_at "pyIter bytes") => `(tactic| ((with_reducible show wpAny _ _ (pyIter (Value.bytes _ _)) (fun it s₂ => LoopAtV _ _ _ _ _ _ _ _ _ it s₂) _ _); refine Stop.out ?_))

local macro_rules | `(tactic| walk_at "subscriptTail") => `(tactic| ((with_reducible show wpAny _ _ (subscriptTail _ _ (Value.bytes _ 416) (Value.int _ _)) _ _ _); (refine b64_item ?q0 ?q1 ?_ ?q2; (case q2 => with_unfolding_all rfl); (case q0 => (first | (simp only [bitAnd_m6]; omega) | (simp only [bitAnd_m2, bitAnd_m4]; simp; omega))); (case q1 => (first | (simp only [bitAnd_m6]; omega) | (simp only [bitAnd_m2, bitAnd_m4]; simp; omega)))); intro t' tk'; (try dsimp only)))
local macro_rules | `(tactic| walk_at "binaryOp LShift int int") => `(tactic| (refine lshift_int_small ?a ?b ?c ?_; (case a => decide); (case b => decide); (case c => first | omega | (simp only [bitAnd_m2, bitAnd_m4]; omega))))
local macro_rules | `(tactic| walk_at "call type:bytes") => `(tactic| refine Stop.out ?_)
/-- what holds between two turns of the writer -/
def B2P (b : Array UInt8) (i : Nat) (lc lb : Int) (a : Array Value) : Prop :=
  ∃ out, IntsAre a.toList (out.map c64) ∧ b2aGo ((bInts b).drop i) lb lc out = b2aGo (bInts b) 0 0 [] ∧ out.length ≤ 2 * i ∧ (∀ n ∈ out, 0 ≤ n ∧ n < 64) ∧ 0 ≤ lc ∧ lc < 65536 ∧ (lb = 0 ∨ lb = 2 ∨ lb = 4)

theorem c64_in {f : Int} (h0 : 0 ≤ f) (h1 : f < 64) : 0 ≤ c64 f ∧ c64 f < 256 := by
  unfold c64; (repeat' split) <;> omega
theorem c64_all {out : List Int} (h : ∀ n ∈ out, 0 ≤ n ∧ n < 64) : ∀ n ∈ out.map c64, 0 ≤ n ∧ n < 256 := by
  intro n hn
  obtain ⟨f, hf, rfl⟩ := List.mem_map.mp hn
  exact c64_in (h f hf).1 (h f hf).2
theorem x_eq {lc n : Int} (h0 : 0 ≤ lc) (h1 : 0 ≤ n) (h2 : n < 256) : Builtin.bitAnd (Builtin.bitOr (lc * 2 ^ Int.toNat 8) n) 65535 = (lc * 256 + n) % 65536 := by
  rw [bitAnd_m16]
  have e := bitOr_add (l := lc) (v := n) 8 h0 h1 (by omega)
  exact congrArg (· % 65536) e
section
variable {b : Array UInt8} {i : Nat} {n : UInt8} {lc : Int} {a : Array Value} {t t2 : Tok}
theorem push_c64 {out : List Int} {f : Int} (h : IntsAre a.toList (out.map c64)) : IntsAre (a.push (.int (c64 f) t)).toList ((out ++ [f]).map c64) := by
  rw [List.map_append]; exact ints_push h
theorem b2_0 (hP : B2P b i lc 0 a) (hx : b[i]? = some n) : B2P b (i + 1) (Builtin.bitAnd (Builtin.bitOr (lc * 2 ^ Int.toNat 8) (n.toNat : Int)) 65535) (0 + 8 - 6)
    (a.push (.int (c64 (Builtin.bitAnd ((Builtin.bitAnd (Builtin.bitOr (lc * 2 ^ Int.toNat 8) (n.toNat : Int)) 65535).fdiv (2 ^ (0 + 8 - 6 : Int).toNat)) 63)) t)) := by
  obtain ⟨out, hI, hO, hol, hob, hlc0, hlc1, _⟩ := hP
  have hn2 : (n.toNat : Int) < 256 := by have := n.toNat_lt; omega
  rw [drop_at (bInts_at hx), b2aGo, if_pos rfl] at hO
  rw [x_eq hlc0 (by omega) hn2, bitAnd_m6, Int.fdiv_eq_ediv_of_nonneg _ (by decide)]
  refine ⟨_, push_c64 hI, hO, by simp; omega, ?_, by omega, by omega, by omega⟩
  intro m hm
  rcases List.mem_append.mp hm with g | g
  · exact hob m g
  · rw [List.mem_singleton.mp g]; omega
theorem b2_2 (hP : B2P b i lc 2 a) (hx : b[i]? = some n) : B2P b (i + 1) (Builtin.bitAnd (Builtin.bitOr (lc * 2 ^ Int.toNat 8) (n.toNat : Int)) 65535) (2 + 8 - 6)
    (a.push (.int (c64 (Builtin.bitAnd ((Builtin.bitAnd (Builtin.bitOr (lc * 2 ^ Int.toNat 8) (n.toNat : Int)) 65535).fdiv (2 ^ (2 + 8 - 6 : Int).toNat)) 63)) t)) := by
  obtain ⟨out, hI, hO, hol, hob, hlc0, hlc1, _⟩ := hP
  have hn2 : (n.toNat : Int) < 256 := by have := n.toNat_lt; omega
  rw [drop_at (bInts_at hx), b2aGo, if_neg (by decide), if_pos rfl] at hO
  rw [x_eq hlc0 (by omega) hn2, bitAnd_m6, Int.fdiv_eq_ediv_of_nonneg _ (by decide)]
  refine ⟨_, push_c64 hI, hO, by simp; omega, ?_, by omega, by omega, by omega⟩
  intro m hm
  rcases List.mem_append.mp hm with g | g
  · exact hob m g
  · rw [List.mem_singleton.mp g]; omega
theorem b2_4 (hP : B2P b i lc 4 a) (hx : b[i]? = some n) : B2P b (i + 1) (Builtin.bitAnd (Builtin.bitOr (lc * 2 ^ Int.toNat 8) (n.toNat : Int)) 65535) (4 + 8 - 6 - 6)
    ((a.push (.int (c64 (Builtin.bitAnd ((Builtin.bitAnd (Builtin.bitOr (lc * 2 ^ Int.toNat 8) (n.toNat : Int)) 65535).fdiv (2 ^ (4 + 8 - 6 : Int).toNat)) 63)) t)).push
      (.int (c64 (Builtin.bitAnd ((Builtin.bitAnd (Builtin.bitOr (lc * 2 ^ Int.toNat 8) (n.toNat : Int)) 65535).fdiv (2 ^ (4 + 8 - 6 - 6 : Int).toNat)) 63)) t2)) := by
  obtain ⟨out, hI, hO, hol, hob, hlc0, hlc1, _⟩ := hP
  have hn2 : (n.toNat : Int) < 256 := by have := n.toNat_lt; omega
  rw [drop_at (bInts_at hx), b2aGo, if_neg (by decide), if_neg (by decide)] at hO
  rw [x_eq hlc0 (by omega) hn2, bitAnd_m6, bitAnd_m6, Int.fdiv_eq_ediv_of_nonneg _ (by decide), Int.fdiv_eq_ediv_of_nonneg _ (by decide)]
  refine ⟨_, push_c64 (push_c64 hI), ?_, by simp; omega, ?_, by omega, by omega, by omega⟩
  · rw [← hO]
    have e1 : (2 : Int) ^ (4 + 8 - 6 : Int).toNat = 64 := rfl
    have e2 : (2 : Int) ^ (4 + 8 - 6 - 6 : Int).toNat = 1 := rfl
    rw [e1, e2, Int.ediv_one]; rfl
  · intro m hm
    rcases List.mem_append.mp hm with g | g
    · rcases List.mem_append.mp g with g | g
      · exact hob m g
      · rw [List.mem_singleton.mp g]; omega
    · rw [List.mem_singleton.mp g]; omega
end

set_option maxRecDepth 100000 in
set_option maxHeartbeats 8000000 in
theorem b2a_spec {b : Array UInt8} {t : Tok} (G : At w base fr s.heap) (hd1 : dp + 20 < recursionLimit) (hu1 : un + 200 < cLine) (hz : b.size ≤ 40)
    (hret : ∀ t h' tk, s.heap.StaysIn h' → Q (.bytes (byteArr (b2a (bInts b))) t) { s with heap := h', toks := tk }) :
    wpAny (model prg w) (AA dp un gd fr) (call (.ref 143) [.bytes b t] [(Str.ofString "newline", .bool false)]) Q E s := by
  have hq : ∀ v t h' tk, v = byteArr (b2a (bInts b)) → s.heap.StaysIn h' → Q (.bytes v t) { s with heap := h', toks := tk } := fun v t h' tk e => by rw [e]; exact hret t h' tk
  k_dflt (refine' enter (binds := [(Str.ofString "data", .bytes b t), (Str.ofString "newline", .bool false)]) G ?k6 ?k7 ?k8 ?k9 ?kB ?c2 ?c3 ?c4 ?c5 ?_; walk_at "m33 enter")
  intro mean mg mb L' h₁ GB B X T D F N
  (try k_fold)
  walk_at "m33 go"
  unfold Stop
  refine buffer_spec (At.push GB B D F rfl rfl) (by show dp + 1 + 10 < recursionLimit; omega) (by show un + 3 + 100 < cLine; omega) ?_
  intro t2 h2 tk2 st
  have F2 := Fr.stays F st
  have N2 := News.stays N st
  clear F N
  dsimp only at F2 N2 ⊢
  walk_at "m33 go"
  unfold Stop
  (with_reducible rename Fr _ _ _ _ => lF)
  (with_reducible rename News _ _ _ _ => lN)
  refine truth_spec (At.push GB B D lF rfl rfl) (by show dp + 1 + 10 < recursionLimit; omega) (by show un + 3 + 100 < cLine; omega) ?_
  intro h3 tk3 st3
  have F3 := Fr.stays lF st3
  have N3 := News.stays lN st3
  clear lF lN
  dsimp only at F3 N3 ⊢
  walk_at "m33 go"
  unfold Stop
  (with_reducible rename Fr _ _ _ _ => lF)
  (with_reducible rename News _ _ _ _ => lN)
  refine loopM_bytes (σ := (Int × Tok × Int × Tok) × Array Value × Nat)
    (fun st m y => if y = Str.ofString "leftchar" then some (.int st.1.1 st.1.2.1) else if y = Str.ofString "leftbits" then some (.int st.1.2.2.1 st.1.2.2.2) else m y)
    (fun st D => [(D, listOf st.2.1 st.2.2)])
    (fun i st => B2P b i st.1.1 st.1.2.2.1 st.2.1)
    ((0, _, 0, _), #[], 0) _ _ ?h0 lF lN ?_ ?_ ?_
  · exact rfl
  · exact ⟨[], .nil, rfl, by simp, by simp, by simp, by simp, by simp⟩
  · rintro i v ⟨⟨lc, tc, lb, tb⟩, a, k⟩ h tk own hin ⟨n, tn, hx, rfl⟩ hP hoff F N
    have hP0 := hP
    obtain ⟨out, hI, hO, hol, hob, hlc0, hlc1, hlb⟩ := hP0
    have hsz : a.size ≤ 80 := by have := hI.length; simp at this; omega
    have hn1 : (0 : Int) ≤ (n.toNat : Int) := by omega
    have hn2 : (n.toNat : Int) < 256 := by have := n.toNat_lt; omega
    clear lF lN
    dsimp only [List.map, List.cons_append, List.nil_append] at N F hoff hO hP hlc0 hlc1 hlb ⊢
    (try k_fold)
    rcases hlb with q0 | q0 | q0 <;> subst q0
    · walk_at "m33 go"
      unfold Stop
      refine endS (by assumption) (by assumption) ((Builtin.bitAnd (Builtin.bitOr (lc * 2 ^ Int.toNat 8) (n.toNat : Int)) 65535, _, 0 + 8 - 6, _), _, _) ?_ (same2 (by exact rfl) (by exact rfl) (by intro z h0 h1 h2; simp only [if_neg h0, if_neg h1, if_neg h2])) (by intro p hp; rw [List.mem_singleton.mp hp]; exact List.Mem.head _) (by intro p hp; exact List.Mem.tail _ hp) rfl
      exact b2_0 hP hx
    · walk_at "m33 go"
      unfold Stop
      refine endS (by assumption) (by assumption) ((Builtin.bitAnd (Builtin.bitOr (lc * 2 ^ Int.toNat 8) (n.toNat : Int)) 65535, _, 2 + 8 - 6, _), _, _) ?_ (same2 (by exact rfl) (by exact rfl) (by intro z h0 h1 h2; simp only [if_neg h0, if_neg h1, if_neg h2])) (by intro p hp; rw [List.mem_singleton.mp hp]; exact List.Mem.head _) (by intro p hp; exact List.Mem.tail _ hp) rfl
      exact b2_2 hP hx
    · walk_at "m33 go"
      unfold Stop
      refine endS (by assumption) (by assumption) ((Builtin.bitAnd (Builtin.bitOr (lc * 2 ^ Int.toNat 8) (n.toNat : Int)) 65535, _, 4 + 8 - 6 - 6, _), _, _) ?_ (same2 (by exact rfl) (by exact rfl) (by intro z h0 h1 h2; simp only [if_neg h0, if_neg h1, if_neg h2])) (by intro p hp; rw [List.mem_singleton.mp hp]; exact List.Mem.head _) (by intro p hp; exact List.Mem.tail _ hp) rfl
      exact b2_4 hP hx
  · rintro ⟨⟨lc, tc, lb, tb⟩, a, k⟩ u h tk hP F N
    obtain ⟨out, hI, hO, hol, hob, hlc0, hlc1, hlb⟩ := hP
    have hsz : a.size ≤ 80 := by have := hI.length; simp at this; omega
    clear lF lN
    dsimp only at N F hO hI hlc0 hlc1 hlb ⊢
    obtain ⟨va⟩ := a
    have hdr : (bInts b).drop b.size = [] := by rw [← bInts_length]; simp
    rw [hdr, b2aGo] at hO
    have hval : b2a (bInts b) = out.map c64 ++ (if lb = 2 then [c64 (lc % 4 * 16), 61, 61] else if lb = 4 then [c64 (lc % 16 * 4), 61] else []) := by
      unfold b2a; rw [← hO]
    rcases hlb with q0 | q0 | q0 <;> subst q0
    · walk_at "m33 go"
      unfold Stop
      refine bytes_arr (News.isList (by assumption) (.head _)) hI ?_ ?_ rfl ?_
      · exact c64_all hob
      · rw [sizeLine_eq]; simp at hsz ⊢; omega
      · intro h5 t5 k5 st5
        refine hq _ _ _ _ ?_ (fun b o e => st5 b o (Fr.keep (by assumption) b o e))
        exact congrArg byteArr (by rw [hval]; simp)
    · walk_at "m33 go"
      unfold Stop
      refine bytes_arr (News.isList (by assumption) (.head _)) (ints_push (ints_push (ints_push hI))) ?_ ?_ rfl ?_
      · intro m hm
        simp only [List.mem_append, List.mem_singleton, bitAnd_m2] at hm
        rcases hm with ((g | g) | g) | g
        · exact c64_all hob m g
        · rw [g]; exact c64_in (by simp; omega) (by simp; omega)
        · omega
        · omega
      · rw [sizeLine_eq]; simp at hsz ⊢; omega
      · intro h5 t5 k5 st5
        refine hq _ _ _ _ ?_ (fun b o e => st5 b o (Fr.keep (by assumption) b o e))
        exact congrArg byteArr (by rw [hval]; simp [bitAnd_m2])
    · walk_at "m33 go"
      unfold Stop
      refine bytes_arr (News.isList (by assumption) (.head _)) (ints_push (ints_push hI)) ?_ ?_ rfl ?_
      · intro m hm
        simp only [List.mem_append, List.mem_singleton, bitAnd_m4] at hm
        rcases hm with (g | g) | g
        · exact c64_all hob m g
        · rw [g]; exact c64_in (by simp; omega) (by simp; omega)
        · omega
      · rw [sizeLine_eq]; simp at hsz ⊢; omega
      · intro h5 t5 k5 st5
        refine hq _ _ _ _ ?_ (fun b o e => st5 b o (Fr.keep (by assumption) b o e))
        exact congrArg byteArr (by rw [hval]; simp [bitAnd_m4])
end
end Mine
end
theorem Mine.anew_S_read {M : Model} {A : Around} {E : Value → Shared → Prop} {s : Shared} {env : Env} {Q : Flow → Shared → Prop} (h : Q .next s) : wpAny M A (execs [] env) Q E s := by
  w_top off
  first | (walk1; fail) | (w_top off; exact wpAny_execs_nil h)
section
namespace Mine
section
variable {w : World} {dp un : Nat} {gd : Option (List Code)} {base : Heap} {fr : List Env} {s : Shared} {Q E : Value → Shared → Prop}
local macro_rules | `(tactic| walk_at "m33 enter") => `(tactic| ((case k6 => k_is); (case k7 => k_is); (case k8 => omega); (case k9 => (intro kX9; first | exact BindsTo.of_eq rfl | exact binds_K kX9 rfl (by k_is) rfl rfl rfl)); (case c5 => decide); (case kB => exact locs rfl); (case c2 => exact rfl); (case c3 => exact rfl); (case c4 => exact rfl)))
local macro_rules | `(tactic| walk_at "exec For Name Name cons nil") => `(tactic| (k_here; (rename Fr _ _ _ _ => lF'); (with_unfolding_all refine' For_invVF lF' ?k1 ?k2 ?_; (case k1 => exact rfl); (case k2 => exact rfl); k_whole)))
local macro_rules | `(tactic| walk_at "pyIter ref") => `(tactic| ((with_reducible show wpAny _ _ (pyIter (Value.ref _)) (fun it s₂ => LoopAtV _ _ _ _ _ _ _ _ _ it s₂) _ _); refine Stop.out ?_))
local macro_rules | `(tactic| walk_at "call type:type") => `(tactic| ((with_reducible show wpAny _ _ (call (Value.type "type") [Value.bytes _ _]) _ _ _); refine type_bytes ?_))
local macro_rules | `(tactic| walk_at "getMethod str") => `(tactic| ((with_reducible show wpAny _ _ (getMethod (Value.str _ _) (PySem.Str.ofString "encode") _) _ _ _); with_reducible refine encode_method ?_))
local macro_rules | `(tactic| walk_at "storeName") => `(tactic| (k_here; k_dflt (first
  | ((with_reducible show wpAny _ _ (storeName _ _ (Value.int _ _)) _ _ _); refine' store_int ?F ?N ?_ ?a ?b; (case F => k_asm); (case N => k_asm); (case a => rfl); (case b => rfl); k_whole; intro t' tk' h' F' N'; (try dsimp only); (try k_sweep))
  | ((with_reducible show wpAny _ _ (storeName _ _ (Value.str _ _)) _ _ _); refine' store_str ?F ?N ?_ ?a ?b; (case F => k_asm); (case N => k_asm); (case a => rfl); (case b => rfl); k_whole; intro t' tk' h' F' N'; (try dsimp only); (try k_sweep))
  | ((with_reducible show wpAny _ _ (storeName _ _ (Value.bytes _ _)) _ _ _); refine' store_bytes ?F ?N ?_ ?a ?b; (case F => k_asm); (case N => k_asm); (case a => rfl); (case b => rfl); k_whole; intro t' tk' h' F' N'; (try dsimp only); (try k_sweep)))))
local macro_rules | `(tactic| walk_at "m33 go") => `(tactic| repeat' ((fail_if_success (with_reducible refine stopQ ?_)); first | (k_unfold; (try dsimp only)) | walk1 | (dsimp only; walk1) | (dsimp only; k_unfold; (try dsimp only)) | (leave1; walk_say "STEP leave1"; try dsimp only) | fail "no step"))
local macro_rules | `(tactic| walk_at "InvEndN") => `(tactic| refine Stop.out ?_)
local macro_rules | `(tactic| walk_at "InvEndA") => `(tactic| refine Stop.out ?_)
local macro_rules | `(tactic| walk_at "getMethod bytes") => `(tactic| ((with_reducible show wpAny _ _ (getMethod (Value.bytes _ _) (PySem.Str.ofString "translate") _) _ _ _); with_reducible refine translate_method ?_))
local macro_rules | `(tactic| walk_at "getMethod type:bytes") => `(tactic| (k_here; refine' method_type ?F ?X ?m (by decide +kernel) ?e ?h ?_; (case F => k_asm); (case X => k_asm); (case m => exact type_of_bytes); (case e => k_dflt k_is); (case h => k_handed)))
local macro_rules | `(tactic| walk_at "call builtin:bytes.maketrans") => `(tactic| (k_dflt (refine maketrans_call ?_); intro t' tk'; (try dsimp only)))
local macro_rules | `(tactic| units_room) => `(tactic| (simp only [Around.deeper_units]; omega))
local macro_rules | `(tactic| walk_at "m33 same") => `(tactic| (intro z hz; (try dsimp only); (repeat' split) <;> first | rfl | (exfalso; simp_all; done) | (simp_all; done)))
local macro_rules | `(tactic| walk_at "call ref") => `(tactic| (k_here; refine Stop.out ?_))

theorem fmod4n (n : Nat) : ((n : Int)).fmod 4 = ((n % 4 : Nat) : Int) := by
  rw [Int.fmod_eq_emod_of_nonneg _ (by decide)]; omega

set_option maxRecDepth 100000 in
set_option maxHeartbeats 8000000 in
theorem read_spec {l : Addr} {vs : List Value} {ns : List Int} {pads : Int} {tp : Tok} (G : At w base fr s.heap) (hd1 : dp + 20 < recursionLimit) (hu1 : un + 200 < cLine)
    (hl : s.heap.IsList l vs.toArray) (hi : IntsAre vs ns) (hn : ∀ n ∈ ns, 0 ≤ n ∧ n < 64) (hlen : ns.length ≤ 12) (hp : 0 ≤ pads) (hp2 : pads ≤ 2)
    (hret : ∀ t h' tk, s.heap.StaysIn h' → Q (optV (readOf ns pads) t) { s with heap := h', toks := tk }) :
    wpAny (model prg w) (AA dp un gd fr) (call (.ref 187) [.ref l, .int pads tp]) Q E s := by
  have hq : ∀ v t h' tk, v = optV (readOf ns pads) t → s.heap.StaysIn h' → Q v { s with heap := h', toks := tk } := fun v t h' tk e => by rw [e]; exact hret t h' tk
  k_dflt (refine' enter (binds := [(Str.ofString "row", .ref l), (Str.ofString "pads", .int pads tp)]) G ?k6 ?k7 ?k8 ?k9 ?kB ?c2 ?c3 ?c4 ?c5 ?_; walk_at "m33 enter")
  intro mean mg mb L' h₁ GB B X T D F N
  (try k_fold)
  walk_at "m33 go"
  all_goals (try dsimp only)
  all_goals rw [fmod4n] at *
  · refine hq _ 0 _ _ ?_ (Fr.keep (by assumption))
    unfold readOf; rw [if_pos (by omega)]; rfl
  · refine hq _ 0 _ _ ?_ (Fr.keep (by assumption))
    unfold readOf; rw [if_pos (by omega)]; rfl
  · unfold Stop
    (with_reducible rename Fr _ _ _ _ => lF)
    refine octets_spec (At.push GB B D lF rfl rfl) (by show dp + 1 + 10 < recursionLimit; omega) (by show un + 3 + 100 < cLine; omega) (hl.at fun o e => lF.keep l o e) hi hn hlen ?_
    intro t6 h6 tk6 st6
    have e1 : ∀ t', Value.bytes (byteArr (octs ns)) t' = optV (readOf ns pads) t' := fun t' => by unfold readOf; rw [if_neg (by omega)]; rfl
    exact hq _ _ _ _ (e1 _) (fun b o e => st6 b o (lF.keep b o e))
  · unfold Stop
    (with_reducible rename Fr _ _ _ _ => lF)
    refine octets_spec (At.push GB B D lF rfl rfl) (by show dp + 1 + 10 < recursionLimit; omega) (by show un + 3 + 100 < cLine; omega) (hl.at fun o e => lF.keep l o e) hi hn hlen ?_
    intro t6 h6 tk6 st6
    have e1 : ∀ t', Value.bytes (byteArr (octs ns)) t' = optV (readOf ns pads) t' := fun t' => by unfold readOf; rw [if_neg (by omega)]; rfl
    exact hq _ _ _ _ (e1 _) (fun b o e => st6 b o (lF.keep b o e))
end
end Mine
end
section
set_option maxRecDepth 100000
namespace Mine
open PySem.Sre (M)

theorem runFor_done {m : M} (h : m.outcome.isSome = true) : ∀ k, M.runFor k m = m
  | 0 => rfl
  | k + 1 => by show (if m.outcome.isSome = true then m else _) = m; rw [if_pos h]
theorem runFor_add : ∀ (a b : Nat) (m : M), M.runFor (a + b) m = M.runFor b (M.runFor a m)
  | 0, b, m => by rw [Nat.zero_add]; rfl
  | a + 1, b, m => by
    rw [show a + 1 + b = (a + b) + 1 by omega]
    show (if m.outcome.isSome = true then m else M.runFor (a + b) m.step) = M.runFor b (if m.outcome.isSome = true then m else M.runFor a m.step)
    by_cases h : m.outcome.isSome = true
    · rw [if_pos h, if_pos h, runFor_done h]
    · rw [if_neg h, if_neg h, runFor_add a b]

section
variable {Mo : Model} {prog : Program} {w : World} {A : Around} {E : Value → Shared → Prop} {s : Shared} {t : Tok} {x : Str}
open Builtin.Re in
theorem drive_wp {r : Sre.Outcome} {Q : M → Shared → Prop} (hQ : ∀ m', m'.outcome = some r → Q m' s) : ∀ (turns : Nat) (m : M), 1 ≤ turns → Ends (4 * turns) m r → wpAny Mo A (reDrive turns m) Q E s
  | 0, _, h, _ => absurd h (by decide)
  | turns + 1, m, _, ⟨k, hk, e⟩ => by
    show wpAny Mo A (if (M.runFor 4 m).outcome.isSome = true then pure (M.runFor 4 m) else do rule "sre.turn"; reDrive turns (M.runFor 4 m)) Q E s
    by_cases h : (M.runFor 4 m).outcome.isSome = true
    · rw [if_pos h]
      refine wpAny_pure (hQ _ ?_)
      by_cases h4 : k ≤ 4
      · have : M.runFor 4 m = M.runFor k m := by
          rw [show 4 = k + (4 - k) by omega, runFor_add, runFor_done (by rw [e]; rfl)]
        rw [this]; exact e
      · have : M.runFor k m = M.runFor 4 m := by
          rw [show k = 4 + (k - 4) by omega, runFor_add, runFor_done h]
        rw [← this]; exact e
    · rw [if_neg h]
      have h4 : 4 < k := by
        refine Nat.lt_of_not_le fun h5 => h ?_
        have : M.runFor 4 m = M.runFor k m := by
          rw [show 4 = k + (4 - k) by omega, runFor_add, runFor_done (by rw [e]; rfl)]
        rw [this, e]; rfl
      refine wpAny_bind (wpAny_rule (drive_wp hQ turns _ (by omega) ⟨k - 4, by omega, ?_⟩))
      rw [← runFor_add, show 4 + (k - 4) = k by omega]; exact e

open Builtin.Re in
theorem run_end {m : M} {r : Sre.Outcome} {N : Nat} {Q : Option M → Shared → Prop} (h : Ends N m r) (hN : N ≤ 1000000000)
    (hm : r = .matched → ∀ m', m'.outcome = some r → Q (some m') s) (hf : r = .failed → Q none s) (hr : r = .matched ∨ r = .failed) : wpAny Mo A (reRunToEnd m) Q E s := by
  unfold reRunToEnd
  refine wpAny_bind (drive_wp (r := r) ?_ (2 ^ 64) m (by decide) (h.mono (by omega)))
  intro m' e
  refine wpAny_bind (wpAny_forIn_list (s := s) _ (fun _ _ s' => s' = s) _ ?_ ?_ _ _ rfl)
  · rintro i rest b s' rfl
    split
    · exact wpAny_bind (wpAny_rule (wpAny_pure rfl))
    · exact wpAny_pure rfl
  · rintro b s' rfl
    rw [e]
    rcases hr with h | h
    · subst h; exact wpAny_pure (hm rfl m' e)
    · subst h; exact wpAny_pure (hf rfl)

abbrev codeVals : Array Value := #[.int 14 0, .int 8 0, .int 1 0, .int 2 0, .int 4294967295 0, .int 1 0, .int 1 0, .int 46 0, .int 0 0, .int 16 0, .int 46 0, .int 24 0, .int 9 0, .int 1 0, .int 4294967295 0, .int 13 0, .int 4 0, .int 8 0, .int 0 0, .int 0 0, .int 1 0, .int 6 0, .int 5 0, .int 1 0]
abbrev patObj : Obj := { cls := .type "re.Pattern", data := .fields #[.str (Str.ofString "\\.\\d+$") 292, .int 256 319, .int 0 0, .none, .none, .ref 42, .int 0 0] }
abbrev codeObj : Obj := { cls := .type "tuple", data := .seq codeVals }

open Builtin.Re in
theorem target_wp {Q : ReTarget → Shared → Prop} (h43 : s.heap.get? 43 = some patObj) (h42 : s.heap.get? 42 = some codeObj) (hz : x.length ≤ 1000)
    (h : Q { pattern := .ref 43, string := .str x t, code := reCode, text := x.cps, kind := 0, groups := 0, pos := 0, lim := x.cps.size } s) :
    wpAny Mo A (reTarget "re.Pattern.search" "search" ⟨[.ref 43, .str x t], []⟩) Q E s := by
  unfold reTarget
  dsimp only
  refine wpAny_bind (wpAny_of_eq (show reNamed "re.Pattern.search" "search" ["string", "pos", "endpos"] 1 [.str x t] [] = pure [some (.str x t), none, none] by kernel_rfl) ?_)
  dsimp only
  refine wpAny_bind (wpAny_pure ?_)
  refine wpAny_bind (wpAny_pure ?_)
  have hf : wpAny Mo A (fieldsOf (.ref 43)) (fun fs s' => fs = #[.str (Str.ofString "\\.\\d+$") 292, .int 256 319, .int 0 0, .none, .none, .ref 42, .int 0 0] ∧ s' = s) E s := by
    unfold fieldsOf
    exact wpAny_bind (wpAny_load h43 (wpAny_pure ⟨rfl, rfl⟩))
  refine wpAny_bind (wpAny_mono hf ?_ fun _ _ e => e)
  rintro fs s' ⟨rfl, rfl⟩
  refine wpAny_bind (wpAny_of_eq (show reTextOf (.str x t) = pure (x.cps, 0) from rfl) ?_)
  dsimp only
  rw [if_neg (by simp), if_neg (by decide)]
  refine wpAny_bind (wpAny_of_eq (show reNoCollectionInside (.str x t) 0 = pure () from rfl) ?_)
  have hc : wpAny Mo A (reRawItems (.ref 42)) (fun is s'' => is = codeVals.map reRawOf ∧ s'' = s') E s' := by
    unfold reRawItems seqItems?
    exact wpAny_bind (wpAny_bind (wpAny_load h42 (wpAny_pure (wpAny_pure ⟨rfl, rfl⟩))))
  refine wpAny_bind (wpAny_mono hc ?_ fun _ _ e => e)
  rintro is s'' ⟨rfl, rfl⟩
  refine wpAny_pure ?_
  have e1 : (codeVals.map reRawOf).map (·.toNat) = reCode := by decide +kernel
  have e2 : min ((2 : Int) ^ 63 - 1).toNat x.cps.size = x.cps.size := Nat.min_eq_right (by have : x.cps.size ≤ 1000 := hz; omega)
  have e3 : min (0 : Int).toNat x.cps.size = 0 := by simp
  rw [e1, e2, e3]
  exact h

abbrev matchObj (x : Str) (t : Tok) (d : Value) (st : Addr) : Obj := { cls := .type "re.Match", data := .fields #[.str x t, .ref 43, .int 0 0, .int (x.cps.size : Int) 0, d, .ref st] }
theorem fresh_push (h : Heap) (o : Obj) : h.get? (h.push o).objs.size = none := by
  cases hq : h.get? (h.push o).objs.size with
  | none => rfl
  | some o' => exact absurd (Heap.lt_size (Heap.get?_push_of_some o hq)) (Nat.lt_irrefl _)
/-- an object that is a match -/
def IsMatch (h : Heap) (a : Addr) : Prop := ∃ o, h.get? a = some o ∧ o.cls = .type "re.Match"

open Builtin.Re in
theorem search_wp {R : Result → Shared → Prop} (h43 : s.heap.get? 43 = some patObj) (h42 : s.heap.get? 42 = some codeObj) (hz : x.length ≤ 1000) (h10 : ∀ c ∈ x.cps.toList, c ≠ 10)
    (hm : hit x.cps.toList = true → ∀ a h' k, s.heap.StaysIn h' → s.heap.get? a = none → IsMatch h' a → R (.ok (.ret (.ref a))) { s with heap := h', toks := k }) (hf : hit x.cps.toList = false → R (.ok (.ret .none)) s) :
    wpAny (model prog w) A.in1 (Builtin.«re.Pattern.search» ⟨[.ref 43, .str x t], []⟩) (fun fin s' => match fin with | .done f => R (.ok f) s' | .again c' => c'.quiet = true ∧ codeAny (model prog w) A c' R s') (fun e s' => R (.error e) s') s := by
  unfold Builtin.«re.Pattern.search»
  refine wpAny_bind (target_wp h43 h42 hz ?_)
  unfold reAnswer
  have he := forSearch_ends (l := x.cps.toList) h10 (by have : x.cps.size ≤ 1000 := hz; simpa using this)
  have hl : x.cps.toList.length ≤ 1000 := by have : x.cps.size ≤ 1000 := hz; simpa using this
  have hb : (x.cps.toList.length + 1) * bnd x.cps.toList + 1 ≤ 1000000000 := by
    have h1 : (x.cps.toList.length + 1) * bnd x.cps.toList ≤ 1001 * 2010 := Nat.mul_le_mul (by omega) (by unfold bnd; omega)
    omega
  rw [Array.toArray_toList, Array.length_toList] at he
  refine wpAny_bind (run_end he hb ?_ ?_ ?_)
  · intro hr m' hm'
    have hh : hit x.cps.toList = true := by
      cases hq : hit x.cps.toList with
      | true => rfl
      | false => rw [hq, if_neg (by decide)] at hr; cases hr
    dsimp only
    unfold reNewMatch
    dsimp only
    rw [if_neg (by simp)]
    refine wpAny_bind (wpAny_bind ?_)
    refine wpAny_newObj_type ?_ (show (2 : Nat) ≤ sizeLine by decide)
    refine wpAny_newObj_type ?_
    refine wpAny_pure (hm hh _ _ _ ?_ ?_ ⟨_, Heap.get?_push_size _ rfl, rfl⟩)
    · exact fun b o e => Heap.get?_push_of_some _ (Heap.get?_push_of_some _ e)
    · exact fresh_push _ _
  · intro hr
    have hh : hit x.cps.toList = false := by
      cases hq : hit x.cps.toList with
      | false => rfl
      | true => rw [hq, if_pos rfl] at hr; cases hr
    exact wpAny_pure (hf hh)
  · cases hit x.cps.toList with
    | true => exact .inl rfl
    | false => exact .inr rfl

theorem slot_search : Slot "re.Pattern" "search" "re.Pattern.search" :=
  .of (owner := "re.Pattern") (n := "search") (by rw [typeLookup_type, builtinLookup_eq_fast]; kernel_rfl) (by decide +kernel) (by decide +kernel) (by decide +kernel)
    (by first | exact .inl (by decide +kernel) | exact .inr (by decide +kernel)) (by rw [isSubtype_type]; kernel_rfl)
theorem type_search : typeOf (.builtin "re.Pattern.search") = pure (.type "method_descriptor") := by show builtinType _ = _; rw [builtinType_eq_fast]; kernel_rfl
theorem entry_search : entryFor table "re.Pattern.search" = some Builtin.«re.Pattern.search» := entryFor_of_tree (by kernel_rfl)
theorem args_search (a b : Value) : argsOk "re.Pattern.search" ⟨[a, b], []⟩ := by unfold argsOk; kernel_rfl
theorem search_call {Q : Value → Shared → Prop} (h43 : s.heap.get? 43 = some patObj) (h42 : s.heap.get? 42 = some codeObj) (hz : x.length ≤ 1000) (h10 : ∀ c ∈ x.cps.toList, c ≠ 10)
    (hm : hit x.cps.toList = true → ∀ a h' k, s.heap.StaysIn h' → s.heap.get? a = none → IsMatch h' a → Q (.ref a) { s with heap := h', toks := k }) (hf : hit x.cps.toList = false → Q .none s) :
    wpAny (model prog w) A (call (.builtin "re.Pattern.search") [.ref 43, .str x t]) Q E s := by
  refine call_meets (S := fun _ R s' => s'.heap.get? 43 = some patObj ∧ s'.heap.get? 42 = some codeObj ∧ (hit x.cps.toList = true → ∀ a h' k, s'.heap.StaysIn h' → s'.heap.get? a = none → IsMatch h' a → R (.ok (.ret (.ref a))) { s' with heap := h', toks := k }) ∧ (hit x.cps.toList = false → R (.ok (.ret .none)) s'))
    slot_search ⟨_, h43, rfl⟩ entry_search (args_search _ _) ?_ ⟨h43, h42, hm, hf⟩
  rintro prog w A R s ⟨g43, g42, gm, gf⟩
  exact search_wp g43 g42 hz h10 gm gf

theorem plainAttrs_pat : PlainAttrs "re.Pattern" :=
  ⟨⟨"object.__getattribute__", by rw [typeLookup_type, builtinLookup_eq_fast]; kernel_rfl, by decide +kernel⟩, by rw [typeLookup_type, builtinLookup_eq_fast]; kernel_rfl⟩
theorem search_method_of {pl : Sem Bool} {Q : Value × List Value → Shared → Prop} {name : PySem.Str} {id : String} (slot : Slot "re.Pattern" name id) (ty : typeOf (.builtin id) = pure (.type "method_descriptor"))
    (h43 : s.heap.get? 43 = some patObj) (h : Q (.builtin id, [.ref 43]) s) : wpAny Mo A (getMethod (.ref 43) name pl) Q E s :=
  getMethod_builtin ⟨_, h43, rfl⟩ plainAttrs_pat slot ty (fun a e => by cases e; exact ⟨_, h43, rfl⟩) h
theorem search_method {pl : Sem Bool} {Q : Value × List Value → Shared → Prop} (h43 : s.heap.get? 43 = some patObj) (h : Q (.builtin "re.Pattern.search", [.ref 43]) s) :
    wpAny Mo A (getMethod (.ref 43) "search" pl) Q E s := by
  with_reducible exact search_method_of slot_search type_search h43 h
theorem noBool_match : typeLookup (.type "re.Match") "__bool__" = pure none := by rw [typeLookup_type, builtinLookup_eq_fast]; kernel_rfl
theorem noLen_match : typeLookup (.type "re.Match") "__len__" = pure none := by rw [typeLookup_type, builtinLookup_eq_fast]; kernel_rfl
theorem truthy_match {a : Addr} {Q : Bool → Shared → Prop} (hm : IsMatch s.heap a) (h : Q true s) : wpAny (model prog w) A (truthy (.ref a)) Q E s := by
  obtain ⟨o, ho, hc⟩ := hm
  have hT : s.TypeIs (.ref a) "re.Match" := ⟨o, ho, hc⟩
  unfold truthy
  first
    | refine wpAny_bind (wpAny_callSpecial?_none (name := Str.ofString "__bool__") hT noBool_match ?_)
    | refine wpAny_bind (wpAny_pure (wpAny_bind (wpAny_callSpecial?_none (name := Str.ofString "__bool__") hT noBool_match ?_)))
  first
    | refine wpAny_bind (wpAny_specialOf (name := Str.ofString "__len__") hT noLen_match ?_)
    | refine wpAny_bind (wpAny_pure (wpAny_bind (wpAny_specialOf (name := Str.ofString "__len__") hT noLen_match ?_)))
  first
    | exact wpAny_pure h
    | exact wpAny_bind (wpAny_pure (wpAny_pure h))
end
end Mine
end
theorem Mine.anew_S_enc {M : Model} {A : Around} {E : Value → Shared → Prop} {s : Shared} {env : Env} {Q : Flow → Shared → Prop} (h : Q .next s) : wpAny M A (execs [] env) Q E s := by
  w_top off
  first | (walk1; fail) | (w_top off; exact wpAny_execs_nil h)
section
namespace Mine
section
variable {w : World} {dp un : Nat} {gd : Option (List Code)} {base : Heap} {fr : List Env} {s : Shared} {Q E : Value → Shared → Prop}
local macro_rules | `(tactic| walk_at "m33 enter") => `(tactic| ((case k6 => k_is); (case k7 => k_is); (case k8 => omega); (case k9 => (intro kX9; first | exact BindsTo.of_eq rfl | exact binds_K kX9 rfl (by k_is) rfl rfl rfl)); (case c5 => decide); (case kB => exact locs rfl); (case c2 => exact rfl); (case c3 => exact rfl); (case c4 => exact rfl)))
local macro_rules | `(tactic| walk_at "exec For Name Name cons nil") => `(tactic| (k_here; (rename Fr _ _ _ _ => lF'); (with_unfolding_all refine' For_invVF lF' ?k1 ?k2 ?_; (case k1 => exact rfl); (case k2 => exact rfl); k_whole)))
local macro_rules | `(tactic| walk_at "pyIter ref") => `(tactic| ((with_reducible show wpAny _ _ (pyIter (Value.ref _)) (fun it s₂ => LoopAtV _ _ _ _ _ _ _ _ _ it s₂) _ _); refine Stop.out ?_))
local macro_rules | `(tactic| walk_at "call type:type") => `(tactic| ((with_reducible show wpAny _ _ (call (Value.type "type") [Value.bytes _ _]) _ _ _); refine type_bytes ?_))
local macro_rules | `(tactic| walk_at "getMethod str") => `(tactic| ((with_reducible show wpAny _ _ (getMethod (Value.str _ _) (PySem.Str.ofString "encode") _) _ _ _); with_reducible refine encode_method ?_))
local macro_rules | `(tactic| walk_at "storeName") => `(tactic| (k_here; k_dflt (first
  | ((with_reducible show wpAny _ _ (storeName _ _ (Value.int _ _)) _ _ _); refine' store_int ?F ?N ?_ ?a ?b; (case F => k_asm); (case N => k_asm); (case a => rfl); (case b => rfl); k_whole; intro t' tk' h' F' N'; (try dsimp only); (try k_sweep))
  | ((with_reducible show wpAny _ _ (storeName _ _ (Value.str _ _)) _ _ _); refine' store_str ?F ?N ?_ ?a ?b; (case F => k_asm); (case N => k_asm); (case a => rfl); (case b => rfl); k_whole; intro t' tk' h' F' N'; (try dsimp only); (try k_sweep))
  | ((with_reducible show wpAny _ _ (storeName _ _ (Value.bytes _ _)) _ _ _); refine' store_bytes ?F ?N ?_ ?a ?b; (case F => k_asm); (case N => k_asm); (case a => rfl); (case b => rfl); k_whole; intro t' tk' h' F' N'; (try dsimp only); (try k_sweep)))))
local macro_rules | `(tactic| walk_at "m33 go") => `(tactic| repeat' ((fail_if_success (with_reducible refine stopQ ?_)); first | (k_unfold; (try dsimp only)) | walk1 | (dsimp only; walk1) | (dsimp only; k_unfold; (try dsimp only)) | (leave1; walk_say "STEP leave1"; try dsimp only) | fail "no step"))
local macro_rules | `(tactic| walk_at "InvEndN") => `(tactic| refine Stop.out ?_)
local macro_rules | `(tactic| walk_at "InvEndA") => `(tactic| refine Stop.out ?_)
local macro_rules | `(tactic| walk_at "getMethod bytes") => `(tactic| ((with_reducible show wpAny _ _ (getMethod (Value.bytes _ _) (PySem.Str.ofString "translate") _) _ _ _); with_reducible refine translate_method ?_))
local macro_rules | `(tactic| walk_at "getMethod type:bytes") => `(tactic| (k_here; refine' method_type ?F ?X ?m (by decide +kernel) ?e ?h ?_; (case F => k_asm); (case X => k_asm); (case m => exact type_of_bytes); (case e => k_dflt k_is); (case h => k_handed)))
local macro_rules | `(tactic| walk_at "call builtin:bytes.maketrans") => `(tactic| (k_dflt (refine maketrans_call ?_); intro t' tk'; (try dsimp only)))
local macro_rules | `(tactic| units_room) => `(tactic| (simp only [Around.deeper_units]; omega))
local macro_rules | `(tactic| walk_at "m33 same") => `(tactic| (intro z hz; (try dsimp only); (repeat' split) <;> first | rfl | (exfalso; simp_all; done) | (simp_all; done)))
local macro_rules | `(tactic| walk_at "call builtin:bytes.translate") => `(tactic| refine Stop.out ?_)
local macro_rules | `(tactic| walk_at "call ref") => `(tactic| (k_here; refine Stop.out ?_))

theorem b2aGo_length : ∀ (bs : List Int) (lb lc : Int) (out : List Int), (b2aGo bs lb lc out).1.length ≤ out.length + 2 * bs.length
  | [], _, _, out => by simp [b2aGo]
  | b :: r, lb, lc, out => by
    rw [b2aGo]
    have h := b2aGo_length r
    split
    · refine Nat.le_trans (h _ _ _) ?_; simp; omega
    · split
      · refine Nat.le_trans (h _ _ _) ?_; simp; omega
      · refine Nat.le_trans (h _ _ _) ?_; simp; omega
theorem b2a_length (bs : List Int) : (b2a bs).length ≤ 2 * bs.length + 3 := by
  unfold b2a
  have h := b2aGo_length bs 0 0 []
  rw [show b2aGo bs 0 0 [] = ((b2aGo bs 0 0 []).1, (b2aGo bs 0 0 []).2.1, (b2aGo bs 0 0 []).2.2) from rfl]
  dsimp only
  rw [List.length_append, List.length_map]
  simp at h
  (repeat' split) <;> simp <;> omega
/-- what b64encode gives -/
def encB (b : Array UInt8) : Array UInt8 := (byteArr (b2a (bInts b))).map fun c => (mkTab 43 47 46 45).getD c.toNat c

set_option maxRecDepth 100000 in
set_option maxHeartbeats 8000000 in
theorem encode_spec {b : Array UInt8} {t t2 : Tok} (G : At w base fr s.heap) (hd1 : dp + 30 < recursionLimit) (hu1 : un + 300 < cLine) (hz : b.size ≤ 40)
    (hret : ∀ t h' tk, s.heap.StaysIn h' → Q (.bytes (encB b) t) { s with heap := h', toks := tk }) :
    wpAny (model prg w) (AA dp un gd fr) (call (.ref 151) [.bytes b t, .bytes #[46, 45] t2]) Q E s := by
  k_dflt (refine' enter (binds := [(Str.ofString "s", .bytes b t), (Str.ofString "altchars", .bytes #[46, 45] t2)]) G ?k6 ?k7 ?k8 ?k9 ?kB ?c2 ?c3 ?c4 ?c5 ?_; walk_at "m33 enter")
  intro mean mg mb L' h₁ GB B X T D F N
  (try k_fold)
  walk_at "m33 go"
  unfold Stop
  refine b2a_spec (At.push GB B D F rfl rfl) (by show dp + 1 + 20 < recursionLimit; omega) (by show un + 3 + 200 < cLine; omega) hz ?_
  intro t3 h3 tk3 st
  have F2 := Fr.stays F st
  have N2 := News.stays N st
  clear F N
  dsimp only at F2 N2 ⊢
  walk_at "m33 go"
  unfold Stop
  refine translate_call ?_ (mkTab_size _ _ _ _) ?_
  · rw [byteArr_size, sizeLine_eq]; have := b2a_length (bInts b); rw [bInts_length] at this; omega
  · intro t4 k4
    dsimp only
    exact hret _ _ _ (Fr.keep (by assumption))
end
end Mine
end
theorem Mine.anew_S_dec {M : Model} {A : Around} {E : Value → Shared → Prop} {s : Shared} {env : Env} {Q : Flow → Shared → Prop} (h : Q .next s) : wpAny M A (execs [] env) Q E s := by
  w_top off
  first | (walk1; fail) | (w_top off; exact wpAny_execs_nil h)
section
namespace Mine
section
variable {w : World} {dp un : Nat} {gd : Option (List Code)} {base : Heap} {fr : List Env} {s : Shared} {Q E : Value → Shared → Prop}
local macro_rules | `(tactic| walk_at "m33 enter") => `(tactic| ((case k6 => k_is); (case k7 => k_is); (case k8 => omega); (case k9 => (intro kX9; first | exact BindsTo.of_eq rfl | exact binds_K kX9 rfl (by k_is) rfl rfl rfl)); (case c5 => decide); (case kB => exact locs rfl); (case c2 => exact rfl); (case c3 => exact rfl); (case c4 => exact rfl)))
local macro_rules | `(tactic| walk_at "exec For Name Name cons nil") => `(tactic| (k_here; (rename Fr _ _ _ _ => lF'); (with_unfolding_all refine' For_invVF lF' ?k1 ?k2 ?_; (case k1 => exact rfl); (case k2 => exact rfl); k_whole)))
local macro_rules | `(tactic| walk_at "pyIter ref") => `(tactic| ((with_reducible show wpAny _ _ (pyIter (Value.ref _)) (fun it s₂ => LoopAtV _ _ _ _ _ _ _ _ _ it s₂) _ _); refine Stop.out ?_))
local macro_rules | `(tactic| walk_at "call type:type") => `(tactic| ((with_reducible show wpAny _ _ (call (Value.type "type") [Value.bytes _ _]) _ _ _); refine type_bytes ?_))
local macro_rules | `(tactic| walk_at "getMethod str") => `(tactic| ((with_reducible show wpAny _ _ (getMethod (Value.str _ _) (PySem.Str.ofString "encode") _) _ _ _); with_reducible refine encode_method ?_))
local macro_rules | `(tactic| walk_at "storeName") => `(tactic| (k_here; k_dflt (first
  | ((with_reducible show wpAny _ _ (storeName _ _ (Value.int _ _)) _ _ _); refine' store_int ?F ?N ?_ ?a ?b; (case F => k_asm); (case N => k_asm); (case a => rfl); (case b => rfl); k_whole; intro t' tk' h' F' N'; (try dsimp only); (try k_sweep))
  | ((with_reducible show wpAny _ _ (storeName _ _ (Value.str _ _)) _ _ _); refine' store_str ?F ?N ?_ ?a ?b; (case F => k_asm); (case N => k_asm); (case a => rfl); (case b => rfl); k_whole; intro t' tk' h' F' N'; (try dsimp only); (try k_sweep))
  | ((with_reducible show wpAny _ _ (storeName _ _ (Value.bytes _ _)) _ _ _); refine' store_bytes ?F ?N ?_ ?a ?b; (case F => k_asm); (case N => k_asm); (case a => rfl); (case b => rfl); k_whole; intro t' tk' h' F' N'; (try dsimp only); (try k_sweep)))))
local macro_rules | `(tactic| walk_at "m33 go") => `(tactic| repeat' ((fail_if_success (with_reducible refine stopQ ?_)); first | (k_unfold; (try dsimp only)) | walk1 | (dsimp only; walk1) | (dsimp only; k_unfold; (try dsimp only)) | (leave1; walk_say "STEP leave1"; try dsimp only) | fail "no step"))
local macro_rules | `(tactic| walk_at "InvEndN") => `(tactic| refine Stop.out ?_)
local macro_rules | `(tactic| walk_at "InvEndA") => `(tactic| refine Stop.out ?_)
local macro_rules | `(tactic| walk_at "getMethod bytes") => `(tactic| ((with_reducible show wpAny _ _ (getMethod (Value.bytes _ _) (PySem.Str.ofString "translate") _) _ _ _); with_reducible refine translate_method ?_))
local macro_rules | `(tactic| walk_at "getMethod type:bytes") => `(tactic| (k_here; refine' method_type ?F ?X ?m (by decide +kernel) ?e ?h ?_; (case F => k_asm); (case X => k_asm); (case m => exact type_of_bytes); (case e => k_dflt k_is); (case h => k_handed)))
local macro_rules | `(tactic| walk_at "call builtin:bytes.maketrans") => `(tactic| (k_dflt (refine maketrans_call ?_); intro t' tk'; (try dsimp only)))
local macro_rules | `(tactic| units_room) => `(tactic| (simp only [Around.deeper_units]; omega))
local macro_rules | `(tactic| walk_at "m33 same") => `(tactic| (intro z hz; (try dsimp only); (repeat' split) <;> first | rfl | (exfalso; simp_all; done) | (simp_all; done)))
local macro_rules | `(tactic| walk_at "call builtin:bytes.translate") => `(tactic| refine Stop.out ?_)
local macro_rules | `(tactic| walk_at "call ref") => `(tactic| (k_here; refine Stop.out ?_))
/-- what b64decode reads of a text -/
def decT (x : Str) : Option (List Int) := a2b (bInts ((x.cps.map (·.toUInt8)).map fun c => (mkTab 46 45 43 47).getD c.toNat c))

set_option maxRecDepth 100000 in
set_option maxHeartbeats 8000000 in
theorem decode_spec {x : Str} {t t2 : Tok} (G : At w base fr s.heap) (hd1 : dp + 30 < recursionLimit) (hu1 : un + 300 < cLine) (hx : ∀ c ∈ x.cps.toList, c < 128) (hz : x.length ≤ 40)
    (hret : ∀ out t h' tk, decT x = some out → s.heap.StaysIn h' → Q (.bytes (byteArr out) t) { s with heap := h', toks := tk })
    (hexc : decT x = none → ∀ e t vs news h' tk, RaisedS base s.heap fr e (.ref 96) t vs news h' → s.heap.UpToSlots h' → E (.ref e) { s with heap := h', toks := tk }) :
    wpAny (model prg w) (AA dp un gd fr) (call (.ref 159) [.str x t, .bytes #[46, 45] t2]) Q E s := by
  k_dflt (refine' enter (binds := [(Str.ofString "s", .str x t), (Str.ofString "altchars", .bytes #[46, 45] t2), (Str.ofString "validate", .bool false)]) G ?k6 ?k7 ?k8 ?k9 ?kB ?c2 ?c3 ?c4 ?c5 ?_; walk_at "m33 enter")
  intro mean mg mb L' h₁ GB B X T D F N
  (try k_fold)
  walk_at "m33 go"
  unfold Stop
  refine bfdS_spec (At.push GB B D F rfl rfl) (by show dp + 1 + 10 < recursionLimit; omega) (by show un + 3 + 100 < cLine; omega) hx hz ?_
  intro t3 h3 tk3 st
  have F2 := Fr.stays F st
  have N2 := News.stays N st
  clear F N
  dsimp only at F2 N2 ⊢
  walk_at "m33 go"
  unfold Stop
  (with_reducible rename Fr _ _ _ _ => lF)
  (with_reducible rename News _ _ _ _ => lN)
  refine bfdB_spec (At.push GB B D lF rfl rfl) (by show dp + 1 + 10 < recursionLimit; omega) (by show un + 3 + 100 < cLine; omega) ?_
  intro t4 h4 tk4 st4
  have F3 := Fr.stays lF st4
  have N3 := News.stays lN st4
  clear lF lN
  dsimp only at F3 N3 ⊢
  walk_at "m33 go"
  unfold Stop
  refine translate_call ?_ (mkTab_size _ _ _ _) ?_
  · rw [Array.size_map, sizeLine_eq]; show x.length ≤ _; omega
  intro t5 k5
  dsimp only
  walk_at "m33 go"
  unfold Stop
  (with_reducible rename Fr _ _ _ _ => lF)
  (with_reducible rename News _ _ _ _ => lN)
  refine a2b_spec (At.push GB B D lF rfl rfl) (by show dp + 1 + 20 < recursionLimit; omega) (by show un + 3 + 200 < cLine; omega) ?_ ?_ ?_
  · rw [Array.size_map, Array.size_map]; exact hz
  · intro out t6 h6 tk6 hv st6
    have F4 := Fr.stays lF st6
    exact hret out _ _ _ hv (Fr.keep F4)
  · intro hv e6 t6 vs6 news6 h6 tk6 R6 U6
    dsimp only at R6 U6 ⊢
    walk_at "m33 go"
    exact hexc hv _ _ _ _ _ _ (by assumption) (by assumption)
end
end Mine
end
theorem Mine.anew_S_hdn {M : Model} {A : Around} {E : Value → Shared → Prop} {s : Shared} {env : Env} {Q : Flow → Shared → Prop} (h : Q .next s) : wpAny M A (execs [] env) Q E s := by
  w_top off
  first | (walk1; fail) | (w_top off; exact wpAny_execs_nil h)
section
namespace Mine
section
variable {w : World} {dp un : Nat} {gd : Option (List Code)} {base : Heap} {fr : List Env} {s : Shared} {Q E : Value → Shared → Prop}
local macro_rules | `(tactic| walk_at "m33 enter") => `(tactic| ((case k6 => k_is); (case k7 => k_is); (case k8 => omega); (case k9 => (intro kX9; first | exact BindsTo.of_eq rfl | exact binds_K kX9 rfl (by k_is) rfl rfl rfl)); (case c5 => decide); (case kB => exact locs rfl); (case c2 => exact rfl); (case c3 => exact rfl); (case c4 => exact rfl)))
local macro_rules | `(tactic| walk_at "exec For Name Name cons nil") => `(tactic| (k_here; (rename Fr _ _ _ _ => lF'); (with_unfolding_all refine' For_invVF lF' ?k1 ?k2 ?_; (case k1 => exact rfl); (case k2 => exact rfl); k_whole)))
local macro_rules | `(tactic| walk_at "pyIter ref") => `(tactic| ((with_reducible show wpAny _ _ (pyIter (Value.ref _)) (fun it s₂ => LoopAtV _ _ _ _ _ _ _ _ _ it s₂) _ _); refine Stop.out ?_))
local macro_rules | `(tactic| walk_at "call type:type") => `(tactic| ((with_reducible show wpAny _ _ (call (Value.type "type") [Value.bytes _ _]) _ _ _); refine type_bytes ?_))
local macro_rules | `(tactic| walk_at "getMethod str") => `(tactic| ((with_reducible show wpAny _ _ (getMethod (Value.str _ _) (PySem.Str.ofString "encode") _) _ _ _); with_reducible refine encode_method ?_))
local macro_rules | `(tactic| walk_at "storeName") => `(tactic| (k_here; k_dflt (first
  | ((with_reducible show wpAny _ _ (storeName _ _ (Value.int _ _)) _ _ _); refine' store_int ?F ?N ?_ ?a ?b; (case F => k_asm); (case N => k_asm); (case a => rfl); (case b => rfl); k_whole; intro t' tk' h' F' N'; (try dsimp only); (try k_sweep))
  | ((with_reducible show wpAny _ _ (storeName _ _ (Value.str _ _)) _ _ _); refine' store_str ?F ?N ?_ ?a ?b; (case F => k_asm); (case N => k_asm); (case a => rfl); (case b => rfl); k_whole; intro t' tk' h' F' N'; (try dsimp only); (try k_sweep))
  | ((with_reducible show wpAny _ _ (storeName _ _ (Value.bytes _ _)) _ _ _); refine' store_bytes ?F ?N ?_ ?a ?b; (case F => k_asm); (case N => k_asm); (case a => rfl); (case b => rfl); k_whole; intro t' tk' h' F' N'; (try dsimp only); (try k_sweep)))))
local macro_rules | `(tactic| walk_at "m33 go") => `(tactic| repeat' ((fail_if_success (with_reducible refine stopQ ?_)); first | (k_unfold; (try dsimp only)) | walk1 | (dsimp only; walk1) | (dsimp only; k_unfold; (try dsimp only)) | (leave1; walk_say "STEP leave1"; try dsimp only) | fail "no step"))
local macro_rules | `(tactic| walk_at "InvEndN") => `(tactic| refine Stop.out ?_)
local macro_rules | `(tactic| walk_at "InvEndA") => `(tactic| refine Stop.out ?_)
local macro_rules | `(tactic| walk_at "getMethod bytes") => `(tactic| ((with_reducible show wpAny _ _ (getMethod (Value.bytes _ _) (PySem.Str.ofString "translate") _) _ _ _); with_reducible refine translate_method ?_))
local macro_rules | `(tactic| walk_at "getMethod type:bytes") => `(tactic| (k_here; refine' method_type ?F ?X ?m (by decide +kernel) ?e ?h ?_; (case F => k_asm); (case X => k_asm); (case m => exact type_of_bytes); (case e => k_dflt k_is); (case h => k_handed)))
local macro_rules | `(tactic| walk_at "call builtin:bytes.maketrans") => `(tactic| (k_dflt (refine maketrans_call ?_); intro t' tk'; (try dsimp only)))
local macro_rules | `(tactic| units_room) => `(tactic| (simp only [Around.deeper_units]; omega))
local macro_rules | `(tactic| walk_at "m33 same") => `(tactic| (intro z hz; (try dsimp only); (repeat' split) <;> first | rfl | (exfalso; simp_all; done) | (simp_all; done)))
local macro_rules | `(tactic| walk_at "getMethod ref") => `(tactic| ((with_reducible show wpAny _ _ (getMethod (Value.ref 43) (PySem.Str.ofString "search") _) _ _ _); with_reducible refine search_method (Fr.keep (by assumption) _ _ (by assumption)) ?_))
local macro_rules | `(tactic| walk_at "call builtin:re.Pattern.search") => `(tactic| refine Stop.out ?_)

local macro_rules | `(tactic| walk_at "truthy ref") => `(tactic| refine truthy_match (by assumption) ?_)
/-- does the pattern hit -/
def hitS (x : Str) : Bool := hit x.cps.toList
set_option maxRecDepth 100000 in
set_option maxHeartbeats 8000000 in
theorem lib_spec {x : Str} {t : Tok} (G : At w base fr s.heap) (hd1 : dp + 10 < recursionLimit) (hu1 : un + 100 < cLine) (hz : x.length ≤ 40) (h10 : ∀ c ∈ x.cps.toList, c ≠ 10)
    (hret : ∀ h' tk, s.heap.StaysIn h' → Q (.bool (!hitS x)) { s with heap := h', toks := tk }) :
    wpAny (model prg w) (AA dp un gd fr) (call (.ref 64) [.str x t]) Q E s := by
  have hq : ∀ b h' tk, b = (!hitS x) → s.heap.StaysIn h' → Q (.bool b) { s with heap := h', toks := tk } := fun b h' tk e => by rw [e]; exact hret h' tk
  k_dflt (refine' enter (binds := [(Str.ofString "text", .str x t)]) G ?k6 ?k7 ?k8 ?k9 ?kB ?c2 ?c3 ?c4 ?c5 ?_; walk_at "m33 enter")
  intro mean mg mb L' h₁ GB B X T D F N
  have h43 : s.heap.get? 43 = some patObj := X _ _ (by k_is)
  have h42 : s.heap.get? 42 = some codeObj := X _ _ (by k_is)
  (try k_fold)
  walk_at "m33 go"
  unfold Stop
  refine search_call (F.keep _ _ h43) (F.keep _ _ h42) (by omega) h10 ?_ ?_
  · intro hh a h2 k2 st fr2 hm
    have F2 := Fr.stays F st
    have N2 := News.stays N st
    clear F N
    dsimp only at F2 N2 ⊢
    walk_at "m33 go"
    dsimp only
    refine hq _ _ _ ?_ (Fr.keep (by assumption))
    show false = !hit _; rw [hh]; rfl
  · intro hh
    walk_at "m33 go"
    refine hq _ _ _ ?_ (Fr.keep (by assumption))
    show true = !hit _; rw [hh]; rfl

theorem str1_eq (c : Nat) : ((⟨#[c]⟩ : Str) == Str.ofString ".") = decide (c = 46) := by
  by_cases h : c = 46
  · subst h; decide
  · rw [decide_eq_false h]
    refine beq_false_of_ne fun e => h ?_
    have : (⟨#[c]⟩ : Str).cps = (Str.ofString ".").cps := by rw [e]
    have h2 : (#[c] : Array Nat) = #[46] := this
    simpa using h2
theorem char_at {x : Str} {i : Int} {j : Nat} (h : seqIndex? i x.length = some j) : Txt.item x i = ⟨#[x.cps.toList.getD j 0]⟩ := by
  unfold Txt.item Txt.charAt
  rw [h]
  simp [List.getD, Array.getElem?_toList]
theorem item_first {x : Str} (h : x.cps.toList ≠ []) : (Txt.item x 0 == Str.ofString ".") = decide (x.cps.toList.headD 0 = 46) := by
  have hpos : 0 < x.length := by obtain ⟨⟨l⟩⟩ := x; exact List.length_pos_iff.mpr h
  rw [char_at (j := 0) (by simp [seqIndex?]; omega), str1_eq]
  cases hl : x.cps.toList with
  | nil => exact absurd hl h
  | cons c r => rfl
theorem item_last {x : Str} (h : x.cps.toList ≠ []) : (Txt.item x (-1) == Str.ofString ".") = decide (x.cps.toList.getLastD 0 = 46) := by
  have hpos : 0 < x.length := by obtain ⟨⟨l⟩⟩ := x; exact List.length_pos_iff.mpr h
  have hlen : x.length = x.cps.toList.length := by obtain ⟨⟨l⟩⟩ := x; rfl
  have hi : seqIndex? (-1) x.length = some (x.cps.toList.length - 1) := by
    rw [← hlen]
    unfold seqIndex?
    have e1 : (if (-1 : Int) < 0 then -1 + (x.length : Int) else -1) = -1 + (x.length : Int) := if_pos (by decide)
    dsimp only
    rw [e1, if_pos (by simp; omega)]
    congr 1; omega
  rw [char_at hi, str1_eq]
  cases hl : x.cps.toList with
  | nil => exact absurd hl h
  | cons c r => simp [List.getLastD, List.getLast_eq_getElem, List.getD]
/-- is it a host's name -/
def hdnS (x : Str) : Bool := !hitS x && decide (x.cps.toList ≠ []) && decide (x.cps.toList.headD 0 ≠ 46) && decide (x.cps.toList.getLastD 0 ≠ 46)
set_option maxRecDepth 100000 in
set_option maxHeartbeats 8000000 in
theorem hdn_spec {x : Str} {t : Tok} (G : At w base fr s.heap) (hd1 : dp + 10 < recursionLimit) (hu1 : un + 100 < cLine) (hz : x.length ≤ 40) (h10 : ∀ c ∈ x.cps.toList, c ≠ 10)
    (hret : ∀ h' tk, s.heap.StaysIn h' → Q (.bool (hdnS x)) { s with heap := h', toks := tk }) :
    wpAny (model prg w) (AA dp un gd fr) (call (.ref 50) [.str x t]) Q E s := by
  have hq : ∀ b h' tk, b = hdnS x → s.heap.StaysIn h' → Q (.bool b) { s with heap := h', toks := tk } := fun b h' tk e => by rw [e]; exact hret h' tk
  k_dflt (refine' enter (binds := [(Str.ofString "text", .str x t)]) G ?k6 ?k7 ?k8 ?k9 ?kB ?c2 ?c3 ?c4 ?c5 ?_; walk_at "m33 enter")
  intro mean mg mb L' h₁ GB B X T D F N
  have h43 : s.heap.get? 43 = some patObj := X _ _ (by k_is)
  have h42 : s.heap.get? 42 = some codeObj := X _ _ (by k_is)
  (try k_fold)
  walk_at "m33 go"
  unfold Stop
  refine search_call (F.keep _ _ h43) (F.keep _ _ h42) (by omega) h10 ?_ ?_
  · intro hh a h2 k2 st fr2 hm
    have F2 := Fr.stays F st
    have N2 := News.stays N st
    clear F N
    dsimp only at F2 N2 ⊢
    walk_at "m33 go"
    dsimp only
    refine hq _ _ _ ?_ (Fr.keep (by assumption))
    have : hitS x = true := hh
    simp [hdnS, this]
  · intro hh
    have hh2 : hitS x = false := hh
    by_cases hne : x.cps.toList = []
    · have hx0 : x = Str.ofString "" := by
        obtain ⟨⟨l⟩⟩ := x
        have : l = [] := hne
        subst this; rfl
      subst hx0
      walk_at "m33 go"
      all_goals (try dsimp only)
      · exact hq _ _ _ (by rfl) (Fr.keep (by assumption))
    · have hpos : 0 < x.length := by
        obtain ⟨⟨l⟩⟩ := x
        exact List.length_pos_iff.mpr hne
      walk_at "m33 go"
      all_goals (try dsimp only)
      · have e : (x == Str.ofString "") = true := by assumption
        exact absurd (show x.cps.toList = [] by rw [beq_iff_eq.mp e]; rfl) hne
      · refine hq _ _ _ ?_ (Fr.keep (by assumption))
        have e : (Txt.item x 0 == Str.ofString ".") = true := by assumption
        rw [item_first hne] at e
        simp only [hdnS, of_decide_eq_true e]; simp
      · refine hq _ _ _ ?_ (Fr.keep (by assumption))
        have e : (Txt.item x (-1) == Str.ofString ".") = true := by assumption
        rw [item_last hne] at e
        simp only [hdnS, of_decide_eq_true e]; simp
      · refine hq _ _ _ ?_ (Fr.keep (by assumption))
        have e : (Txt.item x 0 == Str.ofString ".") = false := by assumption
        have e2 : (Txt.item x (-1) == Str.ofString ".") = false := by assumption
        rw [item_first hne] at e
        rw [item_last hne] at e2
        unfold hdnS
        rw [hh2, decide_eq_true (of_decide_eq_false e), decide_eq_true (of_decide_eq_false e2), decide_eq_true hne]; rfl
end
end Mine
end
theorem Mine.anew_S_told {M : Model} {A : Around} {E : Value → Shared → Prop} {s : Shared} {env : Env} {Q : Flow → Shared → Prop} (h : Q .next s) : wpAny M A (execs [] env) Q E s := by
  w_top off
  first | (walk1; fail) | (w_top off; exact wpAny_execs_nil h)
section
namespace Mine
section
variable {w : World} {dp un : Nat} {gd : Option (List Code)} {base : Heap} {fr : List Env} {s : Shared} {Q E : Value → Shared → Prop}
local macro_rules | `(tactic| walk_at "m33 enter") => `(tactic| ((case k6 => k_is); (case k7 => k_is); (case k8 => omega); (case k9 => (intro kX9; first | exact BindsTo.of_eq rfl | exact binds_K kX9 rfl (by k_is) rfl rfl rfl)); (case c5 => decide); (case kB => exact locs rfl); (case c2 => exact rfl); (case c3 => exact rfl); (case c4 => exact rfl)))
local macro_rules | `(tactic| walk_at "exec For Name Name cons nil") => `(tactic| (k_here; (rename Fr _ _ _ _ => lF'); (with_unfolding_all refine' For_invVF lF' ?k1 ?k2 ?_; (case k1 => exact rfl); (case k2 => exact rfl); k_whole)))
local macro_rules | `(tactic| walk_at "pyIter ref") => `(tactic| ((with_reducible show wpAny _ _ (pyIter (Value.ref _)) (fun it s₂ => LoopAtV _ _ _ _ _ _ _ _ _ it s₂) _ _); refine Stop.out ?_))
local macro_rules | `(tactic| walk_at "call type:type") => `(tactic| ((with_reducible show wpAny _ _ (call (Value.type "type") [Value.bytes _ _]) _ _ _); refine type_bytes ?_))
local macro_rules | `(tactic| walk_at "getMethod str") => `(tactic| ((with_reducible show wpAny _ _ (getMethod (Value.str _ _) (PySem.Str.ofString "encode") _) _ _ _); with_reducible refine encode_method ?_))
local macro_rules | `(tactic| walk_at "storeName") => `(tactic| (k_here; k_dflt (first
  | ((with_reducible show wpAny _ _ (storeName _ _ (Value.int _ _)) _ _ _); refine' store_int ?F ?N ?_ ?a ?b; (case F => k_asm); (case N => k_asm); (case a => rfl); (case b => rfl); k_whole; intro t' tk' h' F' N'; (try dsimp only); (try k_sweep))
  | ((with_reducible show wpAny _ _ (storeName _ _ (Value.str _ _)) _ _ _); refine' store_str ?F ?N ?_ ?a ?b; (case F => k_asm); (case N => k_asm); (case a => rfl); (case b => rfl); k_whole; intro t' tk' h' F' N'; (try dsimp only); (try k_sweep))
  | ((with_reducible show wpAny _ _ (storeName _ _ (Value.bytes _ _)) _ _ _); refine' store_bytes ?F ?N ?_ ?a ?b; (case F => k_asm); (case N => k_asm); (case a => rfl); (case b => rfl); k_whole; intro t' tk' h' F' N'; (try dsimp only); (try k_sweep)))))
local macro_rules | `(tactic| walk_at "m33 go") => `(tactic| repeat' ((fail_if_success (with_reducible refine stopQ ?_)); first | (k_unfold; (try dsimp only)) | walk1 | (dsimp only; walk1) | (dsimp only; k_unfold; (try dsimp only)) | (leave1; walk_say "STEP leave1"; try dsimp only) | fail "no step"))
local macro_rules | `(tactic| walk_at "InvEndN") => `(tactic| refine Stop.out ?_)
local macro_rules | `(tactic| walk_at "InvEndA") => `(tactic| refine Stop.out ?_)
local macro_rules | `(tactic| walk_at "getMethod bytes") => `(tactic| ((with_reducible show wpAny _ _ (getMethod (Value.bytes _ _) (PySem.Str.ofString "translate") _) _ _ _); with_reducible refine translate_method ?_))
local macro_rules | `(tactic| walk_at "getMethod type:bytes") => `(tactic| (k_here; refine' method_type ?F ?X ?m (by decide +kernel) ?e ?h ?_; (case F => k_asm); (case X => k_asm); (case m => exact type_of_bytes); (case e => k_dflt k_is); (case h => k_handed)))
local macro_rules | `(tactic| walk_at "call builtin:bytes.maketrans") => `(tactic| (k_dflt (refine maketrans_call ?_); intro t' tk'; (try dsimp only)))
local macro_rules | `(tactic| units_room) => `(tactic| (simp only [Around.deeper_units]; omega))
local macro_rules | `(tactic| walk_at "m33 same") => `(tactic| (intro z hz; (try dsimp only); (repeat' split) <;> first | rfl | (exfalso; simp_all; done) | (simp_all; done)))
local macro_rules | `(tactic| walk_at "call ref") => `(tactic| (k_here; refine Stop.out ?_))

set_option maxRecDepth 100000 in
set_option maxHeartbeats 8000000 in
theorem told_spec {x : Str} {t : Tok} (G : At w base fr s.heap) (hd1 : dp + 40 < recursionLimit) (hu1 : un + 400 < cLine) (hx : ∀ c ∈ x.cps.toList, c < 128) (hz : x.length ≤ 40)
    (hret : ∀ t g' h' tk, KtsTurn (fr.filterMap (·.frame)) s.heap g' → g'.StaysIn h' → Q (optV (decT x) t) { s with heap := h', toks := tk }) :
    wpAny (model prg w) (AA dp un gd fr) (call (.ref 194) [.str x t]) Q E s := by
  have hq : ∀ v t g' h' tk, v = optV (decT x) t → KtsTurn (fr.filterMap (·.frame)) s.heap g' → g'.StaysIn h' → Q v { s with heap := h', toks := tk } := fun v t g' h' tk e => by rw [e]; exact hret t g' h' tk
  k_dflt (refine' enter (binds := [(Str.ofString "text", .str x t)]) G ?k6 ?k7 ?k8 ?k9 ?kB ?c2 ?c3 ?c4 ?c5 ?_; walk_at "m33 enter")
  intro mean mg mb L' h₁ GB B X T D F N
  (try k_fold)
  walk_at "m33 go"
  unfold Stop
  refine decode_spec (At.push GB B D F rfl rfl) (by show dp + 1 + 30 < recursionLimit; omega) (by show un + 3 + 300 < cLine; omega) hx hz ?_ ?_
  · intro out t6 h6 tk6 hv st6
    have F2 := Fr.stays F st6
    have N2 := News.stays N st6
    clear F N
    dsimp only at F2 N2 ⊢
    walk_at "m33 go"
    have e1 : ∀ t', Value.bytes (byteArr out) t' = optV (decT x) t' := fun t' => by rw [hv]; rfl
    refine hq _ _ _ _ _ (e1 _) KtsTurn.refl (Fr.keep (by assumption))
  · intro hv e6 t6 vs6 news6 h6 tk6 R6 U6
    dsimp only at R6 U6 ⊢
    have XB := GB.X
    have TB := GB.T
    walk_at "m33 go"
    dsimp only
    refine hq _ 0 _ _ _ ?_ (by assumption) (Fr.keep (by assumption))
    rw [hv]; rfl
end
end Mine
end
theorem Mine.anew_S_udm {M : Model} {A : Around} {E : Value → Shared → Prop} {s : Shared} {env : Env} {Q : Flow → Shared → Prop} (h : Q .next s) : wpAny M A (execs [] env) Q E s := by
  w_top off
  first | (walk1; fail) | (w_top off; exact wpAny_execs_nil h)
section
namespace Mine
section
variable {w : World} {dp un : Nat} {gd : Option (List Code)} {base : Heap} {fr : List Env} {s : Shared} {Q E : Value → Shared → Prop}
local macro_rules | `(tactic| walk_at "m33 enter") => `(tactic| ((case k6 => k_is); (case k7 => k_is); (case k8 => omega); (case k9 => (intro kX9; first | exact BindsTo.of_eq rfl | exact binds_K kX9 rfl (by k_is) rfl rfl rfl)); (case c5 => decide); (case kB => exact locs rfl); (case c2 => exact rfl); (case c3 => exact rfl); (case c4 => exact rfl)))
local macro_rules | `(tactic| walk_at "exec For Name Name cons nil") => `(tactic| (k_here; (rename Fr _ _ _ _ => lF'); (with_unfolding_all refine' For_invVF lF' ?k1 ?k2 ?_; (case k1 => exact rfl); (case k2 => exact rfl); k_whole)))
local macro_rules | `(tactic| walk_at "pyIter ref") => `(tactic| ((with_reducible show wpAny _ _ (pyIter (Value.ref _)) (fun it s₂ => LoopAtV _ _ _ _ _ _ _ _ _ it s₂) _ _); refine Stop.out ?_))
local macro_rules | `(tactic| walk_at "call type:type") => `(tactic| ((with_reducible show wpAny _ _ (call (Value.type "type") [Value.bytes _ _]) _ _ _); refine type_bytes ?_))
local macro_rules | `(tactic| walk_at "getMethod str") => `(tactic| ((with_reducible show wpAny _ _ (getMethod (Value.str _ _) (PySem.Str.ofString "encode") _) _ _ _); with_reducible refine encode_method ?_))
local macro_rules | `(tactic| walk_at "storeName") => `(tactic| (k_here; k_dflt (first
  | ((with_reducible show wpAny _ _ (storeName _ _ (Value.int _ _)) _ _ _); refine' store_int ?F ?N ?_ ?a ?b; (case F => k_asm); (case N => k_asm); (case a => rfl); (case b => rfl); k_whole; intro t' tk' h' F' N'; (try dsimp only); (try k_sweep))
  | ((with_reducible show wpAny _ _ (storeName _ _ (Value.str _ _)) _ _ _); refine' store_str ?F ?N ?_ ?a ?b; (case F => k_asm); (case N => k_asm); (case a => rfl); (case b => rfl); k_whole; intro t' tk' h' F' N'; (try dsimp only); (try k_sweep))
  | ((with_reducible show wpAny _ _ (storeName _ _ (Value.bytes _ _)) _ _ _); refine' store_bytes ?F ?N ?_ ?a ?b; (case F => k_asm); (case N => k_asm); (case a => rfl); (case b => rfl); k_whole; intro t' tk' h' F' N'; (try dsimp only); (try k_sweep)))))
local macro_rules | `(tactic| walk_at "m33 go") => `(tactic| repeat' ((fail_if_success (with_reducible refine stopQ ?_)); first | (k_unfold; (try dsimp only)) | walk1 | (dsimp only; walk1) | (dsimp only; k_unfold; (try dsimp only)) | (leave1; walk_say "STEP leave1"; try dsimp only) | fail "no step"))
local macro_rules | `(tactic| walk_at "InvEndN") => `(tactic| refine Stop.out ?_)
local macro_rules | `(tactic| walk_at "InvEndA") => `(tactic| refine Stop.out ?_)
local macro_rules | `(tactic| walk_at "getMethod bytes") => `(tactic| ((with_reducible show wpAny _ _ (getMethod (Value.bytes _ _) (PySem.Str.ofString "translate") _) _ _ _); with_reducible refine translate_method ?_))
local macro_rules | `(tactic| walk_at "getMethod type:bytes") => `(tactic| (k_here; refine' method_type ?F ?X ?m (by decide +kernel) ?e ?h ?_; (case F => k_asm); (case X => k_asm); (case m => exact type_of_bytes); (case e => k_dflt k_is); (case h => k_handed)))
local macro_rules | `(tactic| walk_at "call builtin:bytes.maketrans") => `(tactic| (k_dflt (refine maketrans_call ?_); intro t' tk'; (try dsimp only)))
local macro_rules | `(tactic| units_room) => `(tactic| (simp only [Around.deeper_units]; omega))
local macro_rules | `(tactic| walk_at "m33 same") => `(tactic| (intro z hz; (try dsimp only); (repeat' split) <;> first | rfl | (exfalso; simp_all; done) | (simp_all; done)))
local macro_rules | `(tactic| walk_at "call ref") => `(tactic| (k_here; refine Stop.out ?_))

/-- what user_domain_match gives, the two texts in small letters -/
def udmS (X Y : Str) : Bool := if (!hitS X && !hitS Y) = true then (if Txt.startswith Y (Str.ofString ".") = true then Txt.endswith X Y else X == Y) else X == Y

set_option maxRecDepth 100000 in
set_option maxHeartbeats 8000000 in
theorem udm_spec {x y X Y : Str} {t t2 : Tok} (G : At w base fr s.heap) (hd1 : dp + 20 < recursionLimit) (hu1 : un + 200 < cLine) (hz : x.length ≤ 40) (hzy : y.length ≤ 40)
    (eX : Txt.lower x = X) (eY : Txt.lower y = Y) (zX : X.length ≤ 40) (zY : Y.length ≤ 40) (nX : ∀ c ∈ X.cps.toList, c ≠ 10) (nY : ∀ c ∈ Y.cps.toList, c ≠ 10)
    (hret : ∀ h' tk, s.heap.StaysIn h' → Q (.bool (udmS X Y)) { s with heap := h', toks := tk }) :
    wpAny (model prg w) (AA dp un gd fr) (call (.ref 71) [.str x t, .str y t2]) Q E s := by
  have hq : ∀ b h' tk, b = udmS X Y → s.heap.StaysIn h' → Q (.bool b) { s with heap := h', toks := tk } := fun b h' tk e => by rw [e]; exact hret h' tk
  k_dflt (refine' enter (binds := [(Str.ofString "A", .str x t), (Str.ofString "B", .str y t2)]) G ?k6 ?k7 ?k8 ?k9 ?kB ?c2 ?c3 ?c4 ?c5 ?_; walk_at "m33 enter")
  intro mean mg mb L' h₁ GB B X0 T D F N
  (try k_fold)
  walk_at "m33 go"
  unfold Stop
  rw [eX, eY] at *
  (with_reducible rename Fr _ _ _ _ => lF)
  (with_reducible rename News _ _ _ _ => lN)
  refine lib_spec (At.push GB B D lF rfl rfl) (by show dp + 1 + 10 < recursionLimit; omega) (by show un + 3 + 100 < cLine; omega) zX nX ?_
  intro h2 tk2 st
  have F2 := Fr.stays lF st
  have N2 := News.stays lN st
  clear lF lN
  dsimp only at F2 N2 ⊢
  cases hX : hitS X with
  | true =>
    walk_at "m33 go"
    all_goals (try dsimp only)
    all_goals (refine hq _ _ _ ?_ (Fr.keep (by assumption)); simp only [udmS, hX, Bool.not_true, Bool.not_false, Bool.and_true, Bool.true_and, Bool.false_and, Bool.and_false, Bool.false_eq_true, if_false, if_true]; first | (symm; assumption) | (rw [show Txt.startswith Y (Str.ofString ".") = true by assumption, if_pos rfl]; symm; assumption) | (rw [show Txt.startswith Y (Str.ofString ".") = false by assumption, if_neg (by decide)]; symm; assumption))
  | false =>
    walk_at "m33 go"
    unfold Stop
    (with_reducible rename Fr _ _ _ _ => lF)
    (with_reducible rename News _ _ _ _ => lN)
    refine lib_spec (At.push GB B D lF rfl rfl) (by show dp + 1 + 10 < recursionLimit; omega) (by show un + 3 + 100 < cLine; omega) zY nY ?_
    intro h3 tk3 st3
    have F3 := Fr.stays lF st3
    have N3 := News.stays lN st3
    clear lF lN
    dsimp only at F3 N3 ⊢
    cases hY : hitS Y with
    | true =>
      walk_at "m33 go"
      all_goals (try dsimp only)
      all_goals (refine hq _ _ _ ?_ (Fr.keep (by assumption)); simp only [udmS, hX, hY, Bool.not_true, Bool.not_false, Bool.and_true, Bool.true_and, Bool.false_and, Bool.and_false, Bool.false_eq_true, if_false, if_true]; first | (symm; assumption) | (rw [show Txt.startswith Y (Str.ofString ".") = true by assumption, if_pos rfl]; symm; assumption) | (rw [show Txt.startswith Y (Str.ofString ".") = false by assumption, if_neg (by decide)]; symm; assumption))
    | false =>
      walk_at "m33 go"
      all_goals (try dsimp only)
      all_goals (refine hq _ _ _ ?_ (Fr.keep (by assumption)); simp only [udmS, hX, hY, Bool.not_true, Bool.not_false, Bool.and_true, Bool.true_and, Bool.false_and, Bool.and_false, Bool.false_eq_true, if_false, if_true]; first | (symm; assumption) | (rw [show Txt.startswith Y (Str.ofString ".") = true by assumption, if_pos rfl]; symm; assumption) | (rw [show Txt.startswith Y (Str.ofString ".") = false by assumption, if_neg (by decide)]; symm; assumption))
end
end Mine
end
theorem Mine.anew_S_dm {M : Model} {A : Around} {E : Value → Shared → Prop} {s : Shared} {env : Env} {Q : Flow → Shared → Prop} (h : Q .next s) : wpAny M A (execs [] env) Q E s := by
  w_top off
  first | (walk1; fail) | (w_top off; exact wpAny_execs_nil h)
section
namespace Mine
section
variable {w : World} {dp un : Nat} {gd : Option (List Code)} {base : Heap} {fr : List Env} {s : Shared} {Q E : Value → Shared → Prop}
local macro_rules | `(tactic| walk_at "m33 enter") => `(tactic| ((case k6 => k_is); (case k7 => k_is); (case k8 => omega); (case k9 => (intro kX9; first | exact BindsTo.of_eq rfl | exact binds_K kX9 rfl (by k_is) rfl rfl rfl)); (case c5 => decide); (case kB => exact locs rfl); (case c2 => exact rfl); (case c3 => exact rfl); (case c4 => exact rfl)))
local macro_rules | `(tactic| walk_at "exec For Name Name cons nil") => `(tactic| (k_here; (rename Fr _ _ _ _ => lF'); (with_unfolding_all refine' For_invVF lF' ?k1 ?k2 ?_; (case k1 => exact rfl); (case k2 => exact rfl); k_whole)))
local macro_rules | `(tactic| walk_at "pyIter ref") => `(tactic| ((with_reducible show wpAny _ _ (pyIter (Value.ref _)) (fun it s₂ => LoopAtV _ _ _ _ _ _ _ _ _ it s₂) _ _); refine Stop.out ?_))
local macro_rules | `(tactic| walk_at "call type:type") => `(tactic| ((with_reducible show wpAny _ _ (call (Value.type "type") [Value.bytes _ _]) _ _ _); refine type_bytes ?_))
local macro_rules | `(tactic| walk_at "getMethod str") => `(tactic| ((with_reducible show wpAny _ _ (getMethod (Value.str _ _) (PySem.Str.ofString "encode") _) _ _ _); with_reducible refine encode_method ?_))
local macro_rules | `(tactic| walk_at "storeName") => `(tactic| (k_here; k_dflt (first
  | ((with_reducible show wpAny _ _ (storeName _ _ (Value.int _ _)) _ _ _); refine' store_int ?F ?N ?_ ?a ?b; (case F => k_asm); (case N => k_asm); (case a => rfl); (case b => rfl); k_whole; intro t' tk' h' F' N'; (try dsimp only); (try k_sweep))
  | ((with_reducible show wpAny _ _ (storeName _ _ (Value.str _ _)) _ _ _); refine' store_str ?F ?N ?_ ?a ?b; (case F => k_asm); (case N => k_asm); (case a => rfl); (case b => rfl); k_whole; intro t' tk' h' F' N'; (try dsimp only); (try k_sweep))
  | ((with_reducible show wpAny _ _ (storeName _ _ (Value.bytes _ _)) _ _ _); refine' store_bytes ?F ?N ?_ ?a ?b; (case F => k_asm); (case N => k_asm); (case a => rfl); (case b => rfl); k_whole; intro t' tk' h' F' N'; (try dsimp only); (try k_sweep)))))
local macro_rules | `(tactic| walk_at "m33 go") => `(tactic| repeat' ((fail_if_success (with_reducible refine stopQ ?_)); first | (k_unfold; (try dsimp only)) | walk1 | (dsimp only; walk1) | (dsimp only; k_unfold; (try dsimp only)) | (leave1; walk_say "STEP leave1"; try dsimp only) | fail "no step"))
local macro_rules | `(tactic| walk_at "InvEndN") => `(tactic| refine Stop.out ?_)
local macro_rules | `(tactic| walk_at "InvEndA") => `(tactic| refine Stop.out ?_)
local macro_rules | `(tactic| walk_at "getMethod bytes") => `(tactic| ((with_reducible show wpAny _ _ (getMethod (Value.bytes _ _) (PySem.Str.ofString "translate") _) _ _ _); with_reducible refine translate_method ?_))
local macro_rules | `(tactic| walk_at "getMethod type:bytes") => `(tactic| (k_here; refine' method_type ?F ?X ?m (by decide +kernel) ?e ?h ?_; (case F => k_asm); (case X => k_asm); (case m => exact type_of_bytes); (case e => k_dflt k_is); (case h => k_handed)))
local macro_rules | `(tactic| walk_at "call builtin:bytes.maketrans") => `(tactic| (k_dflt (refine maketrans_call ?_); intro t' tk'; (try dsimp only)))
local macro_rules | `(tactic| units_room) => `(tactic| (simp only [Around.deeper_units]; omega))
local macro_rules | `(tactic| walk_at "m33 same") => `(tactic| (intro z hz; (try dsimp only); (repeat' split) <;> first | rfl | (exfalso; simp_all; done) | (simp_all; done)))
local macro_rules | `(tactic| walk_at "call ref") => `(tactic| (k_here; refine Stop.out ?_))

/-- what domain_match gives, the two texts in small letters -/
def dmS (X Y : Str) : Bool := if (X == Y) = true then true else hdnS X && decide (Txt.rfind X Y ≠ -1) && decide (Txt.rfind X Y ≠ 0) && Txt.startswith Y (Str.ofString ".") && hdnS (Txt.slice Y (some 1) none)

set_option maxRecDepth 100000 in
set_option maxHeartbeats 8000000 in
theorem dm_spec {x y X Y : Str} {t t2 : Tok} (G : At w base fr s.heap) (hd1 : dp + 20 < recursionLimit) (hu1 : un + 200 < cLine) (hz : x.length ≤ 40) (hzy : y.length ≤ 40)
    (eX : Txt.lower x = X) (eY : Txt.lower y = Y) (zX : X.length ≤ 40) (zY : Y.length ≤ 40) (nX : ∀ c ∈ X.cps.toList, c ≠ 10) (nS : ∀ c ∈ (Txt.slice Y (some 1) none).cps.toList, c ≠ 10)
    (hret : ∀ h' tk, s.heap.StaysIn h' → Q (.bool (dmS X Y)) { s with heap := h', toks := tk }) :
    wpAny (model prg w) (AA dp un gd fr) (call (.ref 57) [.str x t, .str y t2]) Q E s := by
  have hq : ∀ b h' tk, b = dmS X Y → s.heap.StaysIn h' → Q (.bool b) { s with heap := h', toks := tk } := fun b h' tk e => by rw [e]; exact hret h' tk
  k_dflt (refine' enter (binds := [(Str.ofString "A", .str x t), (Str.ofString "B", .str y t2)]) G ?k6 ?k7 ?k8 ?k9 ?kB ?c2 ?c3 ?c4 ?c5 ?_; walk_at "m33 enter")
  intro mean mg mb L' h₁ GB B X0 T D F N
  (try k_fold)
  walk_at "m33 go"
  · dsimp only
    rw [eX, eY] at *
    refine hq _ _ _ ?_ (Fr.keep (by assumption))
    unfold dmS; rw [if_pos (by assumption)]
  unfold Stop
  rw [eX, eY] at *
  have hne : (X == Y) = false := by assumption
  (with_reducible rename Fr _ _ _ _ => lF)
  (with_reducible rename News _ _ _ _ => lN)
  refine hdn_spec (At.push GB B D lF rfl rfl) (by show dp + 1 + 10 < recursionLimit; omega) (by show un + 3 + 100 < cLine; omega) zX nX ?_
  intro h2 tk2 st
  have F2 := Fr.stays lF st
  have N2 := News.stays lN st
  clear lF lN
  dsimp only at F2 N2 ⊢
  cases hX : hdnS X with
  | false =>
    walk_at "m33 go"
    all_goals (try dsimp only)
    refine hq _ _ _ ?_ (Fr.keep (by assumption))
    unfold dmS; rw [hne, if_neg (by decide), hX]; rfl
  | true =>
    walk_at "m33 go"
    all_goals (try dsimp only)
    · refine hq _ _ _ ?_ (Fr.keep (by assumption))
      have e : Txt.rfind X Y = -1 := by assumption
      unfold dmS; rw [hne, if_neg (by decide), hX, e]; rfl
    · refine hq _ _ _ ?_ (Fr.keep (by assumption))
      have e : Txt.rfind X Y = 0 := by assumption
      unfold dmS; rw [hne, if_neg (by decide), hX, e]; rfl
    · unfold Stop
      have e1 : Txt.rfind X Y ≠ -1 := by assumption
      have e2 : Txt.rfind X Y ≠ 0 := by assumption
      have e3 : Txt.startswith Y (Str.ofString ".") = true := by assumption
      (with_reducible rename Fr _ _ _ _ => lF)
      (with_reducible rename News _ _ _ _ => lN)
      refine hdn_spec (At.push GB B D lF rfl rfl) (by show dp + 1 + 10 < recursionLimit; omega) (by show un + 3 + 100 < cLine; omega) (by omega) nS ?_
      intro h3 tk3 st3
      have F3 := Fr.stays lF st3
      have N3 := News.stays lN st3
      clear lF lN
      dsimp only at F3 N3 ⊢
      cases hS : hdnS (Txt.slice Y (some 1) none) with
      | false =>
        walk_at "m33 go"
        all_goals (try dsimp only)
        refine hq _ _ _ ?_ (Fr.keep (by assumption))
        unfold dmS; rw [hne, if_neg (by decide), hX, decide_eq_true e1, decide_eq_true e2, e3, hS]; rfl
      | true =>
        walk_at "m33 go"
        all_goals (try dsimp only)
        refine hq _ _ _ ?_ (Fr.keep (by assumption))
        unfold dmS; rw [hne, if_neg (by decide), hX, decide_eq_true e1, decide_eq_true e2, e3, hS]; rfl
    · refine hq _ _ _ ?_ (Fr.keep (by assumption))
      have e3 : Txt.startswith Y (Str.ofString ".") = false := by assumption
      unfold dmS; rw [hne, if_neg (by decide), hX, e3]; simp
end
end Mine
end
theorem Mine.anew_S_reach {M : Model} {A : Around} {E : Value → Shared → Prop} {s : Shared} {env : Env} {Q : Flow → Shared → Prop} (h : Q .next s) : wpAny M A (execs [] env) Q E s := by
  w_top off
  first | (walk1; fail) | (w_top off; exact wpAny_execs_nil h)
section
namespace Mine
section
variable {w : World} {dp un : Nat} {gd : Option (List Code)} {base : Heap} {fr : List Env} {s : Shared} {Q E : Value → Shared → Prop}
local macro_rules | `(tactic| walk_at "m33 enter") => `(tactic| ((case k6 => k_is); (case k7 => k_is); (case k8 => omega); (case k9 => (intro kX9; first | exact BindsTo.of_eq rfl | exact binds_K kX9 rfl (by k_is) rfl rfl rfl)); (case c5 => decide); (case kB => exact locs rfl); (case c2 => exact rfl); (case c3 => exact rfl); (case c4 => exact rfl)))
local macro_rules | `(tactic| walk_at "exec For Name Name cons nil") => `(tactic| (k_here; (rename Fr _ _ _ _ => lF'); (with_unfolding_all refine' For_invVF lF' ?k1 ?k2 ?_; (case k1 => exact rfl); (case k2 => exact rfl); k_whole)))
local macro_rules | `(tactic| walk_at "pyIter ref") => `(tactic| ((with_reducible show wpAny _ _ (pyIter (Value.ref _)) (fun it s₂ => LoopAtV _ _ _ _ _ _ _ _ _ it s₂) _ _); refine Stop.out ?_))
local macro_rules | `(tactic| walk_at "call type:type") => `(tactic| ((with_reducible show wpAny _ _ (call (Value.type "type") [Value.bytes _ _]) _ _ _); refine type_bytes ?_))
local macro_rules | `(tactic| walk_at "getMethod str") => `(tactic| ((with_reducible show wpAny _ _ (getMethod (Value.str _ _) (PySem.Str.ofString "encode") _) _ _ _); with_reducible refine encode_method ?_))
local macro_rules | `(tactic| walk_at "storeName") => `(tactic| (k_here; k_dflt (first
  | ((with_reducible show wpAny _ _ (storeName _ _ (Value.int _ _)) _ _ _); refine' store_int ?F ?N ?_ ?a ?b; (case F => k_asm); (case N => k_asm); (case a => rfl); (case b => rfl); k_whole; intro t' tk' h' F' N'; (try dsimp only); (try k_sweep))
  | ((with_reducible show wpAny _ _ (storeName _ _ (Value.str _ _)) _ _ _); refine' store_str ?F ?N ?_ ?a ?b; (case F => k_asm); (case N => k_asm); (case a => rfl); (case b => rfl); k_whole; intro t' tk' h' F' N'; (try dsimp only); (try k_sweep))
  | ((with_reducible show wpAny _ _ (storeName _ _ (Value.bytes _ _)) _ _ _); refine' store_bytes ?F ?N ?_ ?a ?b; (case F => k_asm); (case N => k_asm); (case a => rfl); (case b => rfl); k_whole; intro t' tk' h' F' N'; (try dsimp only); (try k_sweep)))))
local macro_rules | `(tactic| walk_at "m33 go") => `(tactic| repeat' ((fail_if_success (with_reducible refine stopQ ?_)); first | (k_unfold; (try dsimp only)) | walk1 | (dsimp only; walk1) | (dsimp only; k_unfold; (try dsimp only)) | (leave1; walk_say "STEP leave1"; try dsimp only) | fail "no step"))
local macro_rules | `(tactic| walk_at "InvEndN") => `(tactic| refine Stop.out ?_)
local macro_rules | `(tactic| walk_at "InvEndA") => `(tactic| refine Stop.out ?_)
local macro_rules | `(tactic| walk_at "getMethod bytes") => `(tactic| ((with_reducible show wpAny _ _ (getMethod (Value.bytes _ _) (PySem.Str.ofString "translate") _) _ _ _); with_reducible refine translate_method ?_))
local macro_rules | `(tactic| walk_at "getMethod type:bytes") => `(tactic| (k_here; refine' method_type ?F ?X ?m (by decide +kernel) ?e ?h ?_; (case F => k_asm); (case X => k_asm); (case m => exact type_of_bytes); (case e => k_dflt k_is); (case h => k_handed)))
local macro_rules | `(tactic| walk_at "call builtin:bytes.maketrans") => `(tactic| (k_dflt (refine maketrans_call ?_); intro t' tk'; (try dsimp only)))
local macro_rules | `(tactic| units_room) => `(tactic| (simp only [Around.deeper_units]; omega))
local macro_rules | `(tactic| walk_at "m33 same") => `(tactic| (intro z hz; (try dsimp only); (repeat' split) <;> first | rfl | (exfalso; simp_all; done) | (simp_all; done)))
local macro_rules | `(tactic| walk_at "call ref") => `(tactic| (k_here; refine Stop.out ?_))

/-- what is left behind the first dot -/
def restS (x : Str) : Str := Txt.slice x (some (Txt.find x (Str.ofString ".") + 1)) none
/-- what reach gives -/
def reachS (x : Str) : Str := if 0 ≤ Txt.find x (Str.ofString ".") ∧ hdnS x = true ∧ (0 ≤ Txt.find (restS x) (Str.ofString ".") ∨ restS x = Str.ofString "local") then Str.ofString "." ++ restS x else x

set_option maxRecDepth 100000 in
set_option maxHeartbeats 8000000 in
theorem reach_spec {x : Str} {t : Tok} (G : At w base fr s.heap) (hd1 : dp + 20 < recursionLimit) (hu1 : un + 200 < cLine) (hz : x.length ≤ 40) (nX : ∀ c ∈ x.cps.toList, c ≠ 10)
    (hret : ∀ t h' tk, s.heap.StaysIn h' → Q (.str (reachS x) t) { s with heap := h', toks := tk }) :
    wpAny (model prg w) (AA dp un gd fr) (call (.ref 78) [.str x t]) Q E s := by
  have hq : ∀ v t h' tk, v = reachS x → s.heap.StaysIn h' → Q (.str v t) { s with heap := h', toks := tk } := fun v t h' tk e => by rw [e]; exact hret t h' tk
  k_dflt (refine' enter (binds := [(Str.ofString "h", .str x t)]) G ?k6 ?k7 ?k8 ?k9 ?kB ?c2 ?c3 ?c4 ?c5 ?_; walk_at "m33 enter")
  intro mean mg mb L' h₁ GB B X0 T D F N
  (try k_fold)
  walk_at "m33 go"
  · unfold Stop
    (with_reducible rename Fr _ _ _ _ => lF)
    (with_reducible rename News _ _ _ _ => lN)
    refine hdn_spec (At.push GB B D lF rfl rfl) (by show dp + 1 + 10 < recursionLimit; omega) (by show un + 3 + 100 < cLine; omega) hz nX ?_
    intro h2 tk2 st
    have F2 := Fr.stays lF st
    have N2 := News.stays lN st
    clear lF lN
    dsimp only at F2 N2 ⊢
    cases hX : hdnS x with
    | false =>
      walk_at "m33 go"
      all_goals (try dsimp only)
      refine hq _ _ _ _ ?_ (Fr.keep (by assumption))
      unfold reachS; rw [if_neg (by rintro ⟨_, h, _⟩; rw [hX] at h; cases h)]
    | true =>
      walk_at "m33 go"
      all_goals (try dsimp only)
      · refine hq _ _ _ _ ?_ (Fr.keep (by assumption))
        unfold reachS; rw [if_pos ⟨by assumption, hX, .inl (by assumption)⟩]; rfl
      · refine hq _ _ _ _ ?_ (Fr.keep (by assumption))
        unfold reachS; rw [if_pos ⟨by assumption, hX, .inr (beq_iff_eq.mp (by assumption))⟩]; rfl
      · refine hq _ _ _ _ ?_ (Fr.keep (by assumption))
        have e : (restS x == Str.ofString "local") = false := by assumption
        unfold reachS; rw [if_neg]
        rintro ⟨_, _, h | h⟩
        · exact absurd h (by assumption)
        · rw [h] at e; exact absurd e (by decide)
  · dsimp only
    refine hq _ _ _ _ ?_ (Fr.keep (by assumption))
    unfold reachS; rw [if_neg (by rintro ⟨h, _⟩; exact absurd h (by assumption))]
end
end Mine
end
section
namespace Mine

/-- the statements and the scope of the def at an address -/
noncomputable def bodyOf (P : Params) (f : Addr) : List Stmt := match (hd.heap_39 P).lookup f with
  | some o => (match o.data with
    | .func fd => (match fd.body with | .stmts b => b | _ => [])
    | _ => [])
  | none => []
noncomputable def scopeOf (P : Params) (f : Addr) : Scope := match (hd.heap_39 P).lookup f with
  | some o => (match o.data with
    | .func fd => fd.scope
    | _ => default)
  | none => default
noncomputable def stmtOf (P : Params) (f : Addr) (i : Nat) : Stmt := (bodyOf P f).getD i (.Pass default)

/-- the law's own frame -/
abbrev LE (sc : Scope) (L : Addr) : Env := envOfC (Str.ofString "law") sc L 220 (.ref 219)
/-- what holds of the ground in the law's frame -/
structure LCtx (w : World) (dp un : Nat) (gd : Option (List Code)) (base : Heap) (fr : List Env) (mean : ExcName → Option Value) (mg mb : Str → Option Value) (h₀ : Heap) : Prop where
  G : GB w base mean mg mb
  B : Below (AA dp un gd fr) base fr h₀
  X : (hd.heap_39 w.params).In h₀
  T : Top hd.view_39 (looseW hd.view_39 LS) mean mg mb h₀
  D : KtsDicts (fr.filterMap (·.frame)) h₀

theorem len_arr {prog : Program} {w : World} {A : Around} {E : Value → Shared → Prop} {s : Shared} {t : Tok} {ns : List Int} {Q : Value → Shared → Prop} (hz : ns.length ≤ 1000) (h : ∀ t k, Q (.int (ns.length : Int) t) ⟨s.heap, s.gens, s.drawn, k, s.os⟩) :
    wpAny (model prog w) A (call (.builtin "len") [.bytes (byteArr ns) t]) Q E s :=
  len_bytes (by rw [byteArr_size]; omega) (by rw [byteArr_size]; exact h _ _)

theorem enterC {w : World} {dp un : Nat} {gd : Option (List Code)} {base : Heap} {fr : List Env} {s : Shared} {R : Result → Shared → Prop} {name : Str} {params : Arguments} {body : List Stmt} {scope : Scope} {doc pm cdv oc : Value} {od : Option Addr} {osl : Array (Option Value)} {f : Addr} {pos : List Value} {binds : List (Str × Value)}
    (G : At w base fr s.heap)
    (ho : (hd.heap_39 w.params).lookup f = some ⟨oc, od, .func (Calls.docDef name params body scope pm cdv doc), osl⟩) (hcd : codeIn (hd.heap_39 w.params) cdv name = true) (hroom : dp < recursionLimit)
    (hbind : bindArgs (Calls.docDef name params body scope pm cdv doc) ⟨pos, []⟩ = pure binds) (hkind : (binds.all fun y => scope.names.lookup y.1 == some .local || scope.names.lookup y.1 == some .cell) = true)
    (hnd : ((cellsFrom 0 scope.names []).map (·.1)).Nodup)
    (hco : scope.isCoroutine = false) (hgen : scope.isGenerator = false) (hk : scope.kind = .function)
    (h : ∀ mean mg mb L' h₁ tk cells, GB w base mean mg mb → Below (AA dp un gd fr) base fr s.heap → (hd.heap_39 w.params).In s.heap → Top hd.view_39 (looseW hd.view_39 LS) mean mg mb s.heap → KtsDicts (fr.filterMap (·.frame)) s.heap →
      Fr s.heap L' h₁ (bindL (envOfC name scope L' f cdv).kindOf binds fun _ => none) → News s.heap L' h₁ cells → CellsAre (bindC (envOfC name scope L' f cdv).kindOf binds fun _ => none) (cellsFrom (L' + 1) scope.names []) cells →
      wpAny (model prg w) ((AA dp un gd fr).deeper (envOfC name scope L' f cdv)) (execs body (envOfC name scope L' f cdv))
        (fun fl s' => Stop (R (.ok (.ret (match fl with | .ret v => v | _ => .none))) s'))
        (fun e s' => wpAny (model prg w) ((AA dp un gd fr).deeper (envOfC name scope L' f cdv)) (leaving (envOfC name scope L' f cdv) e) (fun _ s'' => Stop (R (.error e) s'')) (fun e' s'' => Stop (R (.error e') s'')) s')
        { s with heap := h₁, toks := tk }) :
    codeAny (model prg w) (AA dp un gd fr) (.call (.ref f) ⟨pos, []⟩) R s := by
  obtain ⟨⟨mean, mg, mb, GBh⟩, hst, hfr, hD⟩ := G
  have X : (hd.heap_39 w.params).In s.heap := GBh.X.keeps hst
  have T := GBh.T.keeps hst
  refine call_cellsN (name := name) (params := params) (body := body) (scope := scope) (pm := pm) (cd := cdv) (doc := doc) (binds := binds) hroom (X _ _ ho) rfl T.nolimit (codeRec_of X hcd) hbind (kindsX hkind _) hnd (fun h₁ tk cells F N Y => ?_) hco hgen hk
  exact h mean mg mb s.heap.objs.size h₁ tk cells GBh ⟨rfl, hst, hfr⟩ X T hD F N Y
end Mine
end
theorem Mine.anew_L_A {M : Model} {A : Around} {E : Value → Shared → Prop} {s : Shared} {env : Env} {Q : Flow → Shared → Prop} (h : Q .next s) : wpAny M A (execs [] env) Q E s := by
  w_top off
  first | (walk1; fail) | (w_top off; exact wpAny_execs_nil h)
section
namespace Mine
section
variable {w : World} {dp un : Nat} {gd : Option (List Code)} {base : Heap} {fr : List Env} {s : Shared} {Q E : Value → Shared → Prop}
local macro_rules | `(tactic| walk_at "m33 enter") => `(tactic| ((case k6 => k_is); (case k7 => k_is); (case k8 => omega); (case k9 => (intro kX9; first | exact BindsTo.of_eq rfl | exact binds_K kX9 rfl (by k_is) rfl rfl rfl)); (case c5 => decide); (case kB => exact locs rfl); (case c2 => exact rfl); (case c3 => exact rfl); (case c4 => exact rfl)))
local macro_rules | `(tactic| walk_at "exec For Name Name cons nil") => `(tactic| (k_here; (rename Fr _ _ _ _ => lF'); (with_unfolding_all refine' For_invVF lF' ?k1 ?k2 ?_; (case k1 => exact rfl); (case k2 => exact rfl); k_whole)))
local macro_rules | `(tactic| walk_at "pyIter ref") => `(tactic| ((with_reducible show wpAny _ _ (pyIter (Value.ref _)) (fun it s₂ => LoopAtV _ _ _ _ _ _ _ _ _ it s₂) _ _); refine Stop.out ?_))
local macro_rules | `(tactic| walk_at "call type:type") => `(tactic| ((with_reducible show wpAny _ _ (call (Value.type "type") [Value.bytes _ _]) _ _ _); refine type_bytes ?_))
local macro_rules | `(tactic| walk_at "getMethod str") => `(tactic| ((with_reducible show wpAny _ _ (getMethod (Value.str _ _) (PySem.Str.ofString "encode") _) _ _ _); with_reducible refine encode_method ?_))
local macro_rules | `(tactic| walk_at "storeName") => `(tactic| (k_here; k_dflt (first
  | ((with_reducible show wpAny _ _ (storeName _ _ (Value.int _ _)) _ _ _); refine' store_int ?F ?N ?_ ?a ?b; (case F => k_asm); (case N => k_asm); (case a => rfl); (case b => rfl); k_whole; intro t' tk' h' F' N'; (try dsimp only); (try k_sweep))
  | ((with_reducible show wpAny _ _ (storeName _ _ (Value.str _ _)) _ _ _); refine' store_str ?F ?N ?_ ?a ?b; (case F => k_asm); (case N => k_asm); (case a => rfl); (case b => rfl); k_whole; intro t' tk' h' F' N'; (try dsimp only); (try k_sweep))
  | ((with_reducible show wpAny _ _ (storeName _ _ (Value.bytes _ _)) _ _ _); refine' store_bytes ?F ?N ?_ ?a ?b; (case F => k_asm); (case N => k_asm); (case a => rfl); (case b => rfl); k_whole; intro t' tk' h' F' N'; (try dsimp only); (try k_sweep)))))
local macro_rules | `(tactic| walk_at "m33 go") => `(tactic| repeat' ((fail_if_success (with_reducible refine stopQ ?_)); first | (k_unfold; (try dsimp only)) | walk1 | (dsimp only; walk1) | (dsimp only; k_unfold; (try dsimp only)) | (leave1; walk_say "STEP leave1"; try dsimp only) | fail "no step"))
local macro_rules | `(tactic| walk_at "InvEndN") => `(tactic| refine Stop.out ?_)
local macro_rules | `(tactic| walk_at "InvEndA") => `(tactic| refine Stop.out ?_)
local macro_rules | `(tactic| walk_at "getMethod bytes") => `(tactic| ((with_reducible show wpAny _ _ (getMethod (Value.bytes _ _) (PySem.Str.ofString "translate") _) _ _ _); with_reducible refine translate_method ?_))
local macro_rules | `(tactic| walk_at "getMethod type:bytes") => `(tactic| (k_here; refine' method_type ?F ?X ?m (by decide +kernel) ?e ?h ?_; (case F => k_asm); (case X => k_asm); (case m => exact type_of_bytes); (case e => k_dflt k_is); (case h => k_handed)))
local macro_rules | `(tactic| walk_at "call builtin:bytes.maketrans") => `(tactic| (k_dflt (refine maketrans_call ?_); intro t' tk'; (try dsimp only)))
local macro_rules | `(tactic| units_room) => `(tactic| (simp only [Around.deeper_units]; omega))
local macro_rules | `(tactic| walk_at "m33 same") => `(tactic| (intro z hz; (try dsimp only); (repeat' split) <;> first | rfl | (exfalso; simp_all; done) | (simp_all; done)))
variable {mean : ExcName → Option Value} {mg mb : Str → Option Value} {L : Addr} {h : Heap} {m₀ : Str → Option Value} {tk : Nat} {rest : List Stmt} {sc : Scope} {Qf : Flow → Shared → Prop}
local macro_rules | `(tactic| walk_at "call ref") => `(tactic| (k_here; refine Stop.out ?_))
local macro_rules | `(tactic| walk_at "call builtin:len") => `(tactic| ((with_reducible show wpAny _ _ (call (Value.builtin "len") [Value.bytes (byteArr _) _]) _ _ _); refine len_arr (by omega) ?_; intro t' tk'; (try dsimp only)))
local macro_rules | `(tactic| walk_at "storeName") => `(tactic| (k_here; k_dflt ((with_reducible show wpAny _ _ (storeName _ _ (Value.int _ _)) _ _ _); refine' store_cint ?F ?N ?c ?U ?d ?_ ?a ?b; (case a => rfl); (case b => rfl); (case F => k_asm); (case N => k_asm); (case c => rfl); (case U => k_updF); (case d => k_asm); k_whole; intro t' tk' h' o' F' N' d'; (try dsimp only at N'); (try dsimp only); (try k_sweep))))

set_option maxRecDepth 100000 in
set_option maxHeartbeats 8000000 in
theorem segOP {st1 st2 : Stmt} {R : Addr} {arr : Array Value} {k : Nat} {row : List Int} {o1 o2 : Obj} {p : Int} (hsc : sc = scopeOf w.params 220) (hs1 : st1 = stmtOf w.params 220 1) (hs2 : st2 = stmtOf w.params 220 2)
    (hd1 : dp + 50 < recursionLimit) (hu1 : un + 500 < cLine) (C : LCtx w dp un gd base fr mean mg mb s.heap)
    (F : Fr s.heap L h m₀) (N : News s.heap L h [(R, listOf arr k), (L + 1 + 1, o2), (L + 1, o1)]) (c1 : o1.data = .cell (some (.ref R))) (c2 : o2.data = .cell none)
    (hi : IntsAre arr.toList row) (hr : ∀ n ∈ row, 0 ≤ n ∧ n < 64) (hl : row.length ≤ 12) (ho : (octs row).length ≤ 12) (hp : (-((octs row).length : Int)).fmod 3 = p)
    (hnext : ∀ t t2 h' tk' o2', Fr s.heap L h' (fun z => if z = Str.ofString "octets" then some (.bytes (byteArr (octs row)) t) else m₀ z) → News s.heap L h' [(R, listOf arr k), (L + 1 + 1, o2'), (L + 1, o1)] → o2'.data = .cell (some (.int p t2)) →
      wpAny (model prg w) ((AA dp un gd fr).deeper (LE sc L)) (execs rest (LE sc L)) Qf E { s with heap := h', toks := tk' }) :
    wpAny (model prg w) ((AA dp un gd fr).deeper (LE sc L)) (execs (st1 :: st2 :: rest) (LE sc L)) Qf E { s with heap := h, toks := tk } := by
  conv at hsc => rhs; whnf
  conv at hs1 => rhs; whnf
  conv at hs2 => rhs; whnf
  subst hsc hs1 hs2
  obtain ⟨GB, B, X, T, D⟩ := C
  walk_at "m33 go"
  unfold Stop
  refine octets_spec (vs := arr.toList) (At.push GB B D F rfl rfl) (by show dp + 1 + 10 < recursionLimit; omega) (by show un + 3 + 100 < cLine; omega) (by simpa using News.isList N (.head _)) hi hr hl ?_
  intro t2 h2 tk2 st
  have F2 := Fr.stays F st
  have N2 := News.stays N st
  clear F N st
  dsimp only at F2 N2 ⊢
  walk_at "m33 go"
  rw [hp] at *
  exact hnext _ _ _ _ _ (by assumption) (by assumption) (by assumption)

set_option maxRecDepth 100000 in
set_option maxHeartbeats 8000000 in
theorem seg34 {st3 st4 : Stmt} {R : Addr} {arr : Array Value} {k : Nat} {row : List Int} {o1 o2 : Obj} {p : Int} {tp : Tok} (hsc : sc = scopeOf w.params 220) (hs3 : st3 = stmtOf w.params 220 3) (hs4 : st4 = stmtOf w.params 220 4)
    (hd1 : dp + 50 < recursionLimit) (hu1 : un + 500 < cLine) (C : LCtx w dp un gd base fr mean mg mb s.heap)
    (F : Fr s.heap L h m₀) (N : News s.heap L h [(R, listOf arr k), (L + 1 + 1, o2), (L + 1, o1)]) (c1 : o1.data = .cell (some (.ref R))) (c2 : o2.data = .cell (some (.int p tp)))
    (hi : IntsAre arr.toList row) (hr : ∀ n ∈ row, 0 ≤ n ∧ n < 64) (hl : row.length ≤ 12) (hp0 : 0 ≤ p) (hp2 : p ≤ 2) (zS : (signs row).length ≤ 12) (zM : (Txt.mul (Str.ofString "=") p).length ≤ 2)
    (hnext : ∀ t t2 h' tk', Fr s.heap L h' (fun z => if z = Str.ofString "great" then some (.str (Txt.upper (signs row ++ Txt.mul (Str.ofString "=") p)) t) else if z = Str.ofString "host" then some (.str (signs row ++ Txt.mul (Str.ofString "=") p) t2) else m₀ z) → News s.heap L h' [(R, listOf arr k), (L + 1 + 1, o2), (L + 1, o1)] →
      wpAny (model prg w) ((AA dp un gd fr).deeper (LE sc L)) (execs rest (LE sc L)) Qf E { s with heap := h', toks := tk' }) :
    wpAny (model prg w) ((AA dp un gd fr).deeper (LE sc L)) (execs (st3 :: st4 :: rest) (LE sc L)) Qf E { s with heap := h, toks := tk } := by
  conv at hsc => rhs; whnf
  conv at hs3 => rhs; whnf
  conv at hs4 => rhs; whnf
  subst hsc hs3 hs4
  obtain ⟨GB, B, X, T, D⟩ := C
  walk_at "m33 go"
  unfold Stop
  refine signs_spec (vs := arr.toList) (At.push GB B D F rfl rfl) (by show dp + 1 + 10 < recursionLimit; omega) (by show un + 3 + 100 < cLine; omega) (by simpa using News.isList N (.head _)) hi hr hl ?_
  intro t2 h2 tk2 st
  have F2 := Fr.stays F st
  have N2 := News.stays N st
  clear F N st
  dsimp only at F2 N2 ⊢
  walk_at "m33 go"
  exact hnext _ _ _ _ (by assumption) (by assumption)
end
end Mine
end
theorem Mine.anew_L_B {M : Model} {A : Around} {E : Value → Shared → Prop} {s : Shared} {env : Env} {Q : Flow → Shared → Prop} (h : Q .next s) : wpAny M A (execs [] env) Q E s := by
  w_top off
  first | (walk1; fail) | (w_top off; exact wpAny_execs_nil h)
section
namespace Mine
section
variable {w : World} {dp un : Nat} {gd : Option (List Code)} {base : Heap} {fr : List Env} {s : Shared} {Q E : Value → Shared → Prop}
local macro_rules | `(tactic| walk_at "m33 enter") => `(tactic| ((case k6 => k_is); (case k7 => k_is); (case k8 => omega); (case k9 => (intro kX9; first | exact BindsTo.of_eq rfl | exact binds_K kX9 rfl (by k_is) rfl rfl rfl)); (case c5 => decide); (case kB => exact locs rfl); (case c2 => exact rfl); (case c3 => exact rfl); (case c4 => exact rfl)))
local macro_rules | `(tactic| walk_at "exec For Name Name cons nil") => `(tactic| (k_here; (rename Fr _ _ _ _ => lF'); (with_unfolding_all refine' For_invVF lF' ?k1 ?k2 ?_; (case k1 => exact rfl); (case k2 => exact rfl); k_whole)))
local macro_rules | `(tactic| walk_at "pyIter ref") => `(tactic| ((with_reducible show wpAny _ _ (pyIter (Value.ref _)) (fun it s₂ => LoopAtV _ _ _ _ _ _ _ _ _ it s₂) _ _); refine Stop.out ?_))
local macro_rules | `(tactic| walk_at "call type:type") => `(tactic| ((with_reducible show wpAny _ _ (call (Value.type "type") [Value.bytes _ _]) _ _ _); refine type_bytes ?_))
local macro_rules | `(tactic| walk_at "getMethod str") => `(tactic| ((with_reducible show wpAny _ _ (getMethod (Value.str _ _) (PySem.Str.ofString "encode") _) _ _ _); with_reducible refine encode_method ?_))
local macro_rules | `(tactic| walk_at "storeName") => `(tactic| (k_here; k_dflt (first
  | ((with_reducible show wpAny _ _ (storeName _ _ (Value.int _ _)) _ _ _); refine' store_int ?F ?N ?_ ?a ?b; (case F => k_asm); (case N => k_asm); (case a => rfl); (case b => rfl); k_whole; intro t' tk' h' F' N'; (try dsimp only); (try k_sweep))
  | ((with_reducible show wpAny _ _ (storeName _ _ (Value.str _ _)) _ _ _); refine' store_str ?F ?N ?_ ?a ?b; (case F => k_asm); (case N => k_asm); (case a => rfl); (case b => rfl); k_whole; intro t' tk' h' F' N'; (try dsimp only); (try k_sweep))
  | ((with_reducible show wpAny _ _ (storeName _ _ (Value.bytes _ _)) _ _ _); refine' store_bytes ?F ?N ?_ ?a ?b; (case F => k_asm); (case N => k_asm); (case a => rfl); (case b => rfl); k_whole; intro t' tk' h' F' N'; (try dsimp only); (try k_sweep)))))
local macro_rules | `(tactic| walk_at "m33 go") => `(tactic| repeat' ((fail_if_success (with_reducible refine stopQ ?_)); first | (k_unfold; (try dsimp only)) | walk1 | (dsimp only; walk1) | (dsimp only; k_unfold; (try dsimp only)) | (leave1; walk_say "STEP leave1"; try dsimp only) | fail "no step"))
local macro_rules | `(tactic| walk_at "InvEndN") => `(tactic| refine Stop.out ?_)
local macro_rules | `(tactic| walk_at "InvEndA") => `(tactic| refine Stop.out ?_)
local macro_rules | `(tactic| walk_at "getMethod bytes") => `(tactic| ((with_reducible show wpAny _ _ (getMethod (Value.bytes _ _) (PySem.Str.ofString "translate") _) _ _ _); with_reducible refine translate_method ?_))
local macro_rules | `(tactic| walk_at "getMethod type:bytes") => `(tactic| (k_here; refine' method_type ?F ?X ?m (by decide +kernel) ?e ?h ?_; (case F => k_asm); (case X => k_asm); (case m => exact type_of_bytes); (case e => k_dflt k_is); (case h => k_handed)))
local macro_rules | `(tactic| walk_at "call builtin:bytes.maketrans") => `(tactic| (k_dflt (refine maketrans_call ?_); intro t' tk'; (try dsimp only)))
local macro_rules | `(tactic| units_room) => `(tactic| (simp only [Around.deeper_units]; omega))
local macro_rules | `(tactic| walk_at "m33 same") => `(tactic| (intro z hz; (try dsimp only); (repeat' split) <;> first | rfl | (exfalso; simp_all; done) | (simp_all; done)))
variable {mean : ExcName → Option Value} {mg mb : Str → Option Value} {L : Addr} {h : Heap} {m₀ : Str → Option Value} {tk : Nat} {rest : List Stmt} {sc : Scope} {Qf : Flow → Shared → Prop}
local macro_rules | `(tactic| walk_at "call ref") => `(tactic| (k_here; refine Stop.out ?_))
local macro_rules | `(tactic| walk_at "call builtin:len") => `(tactic| ((with_reducible show wpAny _ _ (call (Value.builtin "len") [Value.bytes (byteArr _) _]) _ _ _); refine len_arr (by omega) ?_; intro t' tk'; (try dsimp only)))
local macro_rules | `(tactic| walk_at "storeName") => `(tactic| (k_here; k_dflt ((with_reducible show wpAny _ _ (storeName _ _ (Value.int _ _)) _ _ _); refine' store_cint ?F ?N ?c ?U ?d ?_ ?a ?b; (case a => rfl); (case b => rfl); (case F => k_asm); (case N => k_asm); (case c => rfl); (case U => k_updF); (case d => k_asm); k_whole; intro t' tk' h' o' F' N' d'; (try dsimp only at N'); (try dsimp only); (try k_sweep))))
local macro_rules | `(tactic| walk_at "call builtin:str.encode") => `(tactic| ((with_reducible show wpAny _ _ (call (Value.builtin "str.encode") [Value.str _ _, Value.str (Str.ofString "ascii") _]) _ _ _); refine' encode_call ?ca ?cb ?_; (case ca => k_asm); (case cb => (simp only [sizeLine_eq]; omega)); intro t' tk'; (try dsimp only)))

set_option maxRecDepth 100000 in
set_option maxHeartbeats 8000000 in
theorem seg56 {st5 st6 : Stmt} {R : Addr} {arr : Array Value} {k : Nat} {row : List Int} {o1 o2 : Obj} {p : Int} {t1 t2 t3 : Tok} {host great : Str} {oc : Array UInt8} (hsc : sc = scopeOf w.params 220) (hs5 : st5 = stmtOf w.params 220 5) (hs6 : st6 = stmtOf w.params 220 6)
    (hd1 : dp + 50 < recursionLimit) (hu1 : un + 500 < cLine) (C : LCtx w dp un gd base fr mean mg mb s.heap)
    (F : Fr s.heap L h (fun z => if z = Str.ofString "great" then some (.str great t1) else if z = Str.ofString "host" then some (.str host t2) else if z = Str.ofString "octets" then some (.bytes oc t3) else m₀ z)) (N : News s.heap L h [(R, listOf arr k), (L + 1 + 1, o2), (L + 1, o1)])
    (zo : oc.size ≤ 12) (hA : ∀ c ∈ host.cps.toList, c < 128) (zH : host.length ≤ 40) (hW : encB oc = host.cps.map (·.toUInt8))
    (hnext : ∀ t4 t1 t2 t3 h' tk', Fr s.heap L h' (fun z => if z = Str.ofString "written" then some (.bytes (encB oc) t4) else if z = Str.ofString "great" then some (.str great t1) else if z = Str.ofString "host" then some (.str host t2) else if z = Str.ofString "octets" then some (.bytes oc t3) else m₀ z) → News s.heap L h' [(R, listOf arr k), (L + 1 + 1, o2), (L + 1, o1)] →
      wpAny (model prg w) ((AA dp un gd fr).deeper (LE sc L)) (execs rest (LE sc L)) Qf E { s with heap := h', toks := tk' }) :
    wpAny (model prg w) ((AA dp un gd fr).deeper (LE sc L)) (execs (st5 :: st6 :: rest) (LE sc L)) Qf E { s with heap := h, toks := tk } := by
  conv at hsc => rhs; whnf
  conv at hs5 => rhs; whnf
  conv at hs6 => rhs; whnf
  subst hsc hs5 hs6
  obtain ⟨GB, B, X, T, D⟩ := C
  walk_at "m33 go"
  unfold Stop
  refine encode_spec (At.push GB B D F rfl rfl) (by show dp + 1 + 30 < recursionLimit; omega) (by show un + 3 + 300 < cLine; omega) (by omega) ?_
  intro t2 h2 tk2 st
  have F2 := Fr.stays F st
  have N2 := News.stays N st
  clear F N st
  dsimp only at F2 N2 ⊢
  walk_at "m33 go"
  · exact absurd ‹((encB oc).toList != _) = true› (by simp [hW])
  · exact hnext _ _ _ _ _ _ (by assumption) (by assumption)
end
end Mine
end
theorem Mine.anew_L_C {M : Model} {A : Around} {E : Value → Shared → Prop} {s : Shared} {env : Env} {Q : Flow → Shared → Prop} (h : Q .next s) : wpAny M A (execs [] env) Q E s := by
  w_top off
  first | (walk1; fail) | (w_top off; exact wpAny_execs_nil h)
section
namespace Mine
section
variable {w : World} {dp un : Nat} {gd : Option (List Code)} {base : Heap} {fr : List Env} {s : Shared} {Q E : Value → Shared → Prop}
local macro_rules | `(tactic| walk_at "m33 enter") => `(tactic| ((case k6 => k_is); (case k7 => k_is); (case k8 => omega); (case k9 => (intro kX9; first | exact BindsTo.of_eq rfl | exact binds_K kX9 rfl (by k_is) rfl rfl rfl)); (case c5 => decide); (case kB => exact locs rfl); (case c2 => exact rfl); (case c3 => exact rfl); (case c4 => exact rfl)))
local macro_rules | `(tactic| walk_at "exec For Name Name cons nil") => `(tactic| (k_here; (rename Fr _ _ _ _ => lF'); (with_unfolding_all refine' For_invVF lF' ?k1 ?k2 ?_; (case k1 => exact rfl); (case k2 => exact rfl); k_whole)))
local macro_rules | `(tactic| walk_at "pyIter ref") => `(tactic| ((with_reducible show wpAny _ _ (pyIter (Value.ref _)) (fun it s₂ => LoopAtV _ _ _ _ _ _ _ _ _ it s₂) _ _); refine Stop.out ?_))
local macro_rules | `(tactic| walk_at "call type:type") => `(tactic| ((with_reducible show wpAny _ _ (call (Value.type "type") [Value.bytes _ _]) _ _ _); refine type_bytes ?_))
local macro_rules | `(tactic| walk_at "getMethod str") => `(tactic| ((with_reducible show wpAny _ _ (getMethod (Value.str _ _) (PySem.Str.ofString "encode") _) _ _ _); with_reducible refine encode_method ?_))
local macro_rules | `(tactic| walk_at "storeName") => `(tactic| (k_here; k_dflt (first
  | ((with_reducible show wpAny _ _ (storeName _ _ (Value.int _ _)) _ _ _); refine' store_int ?F ?N ?_ ?a ?b; (case F => k_asm); (case N => k_asm); (case a => rfl); (case b => rfl); k_whole; intro t' tk' h' F' N'; (try dsimp only); (try k_sweep))
  | ((with_reducible show wpAny _ _ (storeName _ _ (Value.str _ _)) _ _ _); refine' store_str ?F ?N ?_ ?a ?b; (case F => k_asm); (case N => k_asm); (case a => rfl); (case b => rfl); k_whole; intro t' tk' h' F' N'; (try dsimp only); (try k_sweep))
  | ((with_reducible show wpAny _ _ (storeName _ _ (Value.bytes _ _)) _ _ _); refine' store_bytes ?F ?N ?_ ?a ?b; (case F => k_asm); (case N => k_asm); (case a => rfl); (case b => rfl); k_whole; intro t' tk' h' F' N'; (try dsimp only); (try k_sweep)))))
local macro_rules | `(tactic| walk_at "m33 go") => `(tactic| repeat' ((fail_if_success (with_reducible refine stopQ ?_)); first | (k_unfold; (try dsimp only)) | walk1 | (dsimp only; walk1) | (dsimp only; k_unfold; (try dsimp only)) | (leave1; walk_say "STEP leave1"; try dsimp only) | fail "no step"))
local macro_rules | `(tactic| walk_at "InvEndN") => `(tactic| refine Stop.out ?_)
local macro_rules | `(tactic| walk_at "InvEndA") => `(tactic| refine Stop.out ?_)
local macro_rules | `(tactic| walk_at "getMethod bytes") => `(tactic| ((with_reducible show wpAny _ _ (getMethod (Value.bytes _ _) (PySem.Str.ofString "translate") _) _ _ _); with_reducible refine translate_method ?_))
local macro_rules | `(tactic| walk_at "getMethod type:bytes") => `(tactic| (k_here; refine' method_type ?F ?X ?m (by decide +kernel) ?e ?h ?_; (case F => k_asm); (case X => k_asm); (case m => exact type_of_bytes); (case e => k_dflt k_is); (case h => k_handed)))
local macro_rules | `(tactic| walk_at "call builtin:bytes.maketrans") => `(tactic| (k_dflt (refine maketrans_call ?_); intro t' tk'; (try dsimp only)))
local macro_rules | `(tactic| units_room) => `(tactic| (simp only [Around.deeper_units]; omega))
local macro_rules | `(tactic| walk_at "m33 same") => `(tactic| (intro z hz; (try dsimp only); (repeat' split) <;> first | rfl | (exfalso; simp_all; done) | (simp_all; done)))
variable {mean : ExcName → Option Value} {mg mb : Str → Option Value} {L : Addr} {h : Heap} {m₀ : Str → Option Value} {tk : Nat} {rest : List Stmt} {sc : Scope} {Qf : Flow → Shared → Prop}
local macro_rules | `(tactic| walk_at "call ref") => `(tactic| (k_here; refine Stop.out ?_))
local macro_rules | `(tactic| walk_at "call builtin:len") => `(tactic| ((with_reducible show wpAny _ _ (call (Value.builtin "len") [Value.bytes (byteArr _) _]) _ _ _); refine len_arr (by omega) ?_; intro t' tk'; (try dsimp only)))
local macro_rules | `(tactic| walk_at "storeName") => `(tactic| (k_here; k_dflt ((with_reducible show wpAny _ _ (storeName _ _ (Value.int _ _)) _ _ _); refine' store_cint ?F ?N ?c ?U ?d ?_ ?a ?b; (case a => rfl); (case b => rfl); (case F => k_asm); (case N => k_asm); (case c => rfl); (case U => k_updF); (case d => k_asm); k_whole; intro t' tk' h' o' F' N' d'; (try dsimp only at N'); (try dsimp only); (try k_sweep))))
local macro_rules | `(tactic| walk_at "call builtin:str.encode") => `(tactic| ((with_reducible show wpAny _ _ (call (Value.builtin "str.encode") [Value.str _ _, Value.str (Str.ofString "ascii") _]) _ _ _); refine' encode_call ?ca ?cb ?_; (case ca => k_asm); (case cb => (simp only [sizeLine_eq]; omega)); intro t' tk'; (try dsimp only)))

theorem Fr.turn {h₀ h g' h' : Heap} {L : Addr} {m : Str → Option Value} (F : Fr h₀ L h m) (T : KtsTurn [L] h g') (st : g'.StaysIn h') : Fr h₀ L h' m := by
  refine ⟨?_, fun b o e => st b o (T.other b o (F.keep b o e) ?_), F.above⟩
  · obtain ⟨o, es, ep, ho, hr⟩ := F.ns
    obtain ⟨sl, hs⟩ := T.frame L o ho (.head _)
    exact ⟨_, es, ep, st _ _ hs, hr⟩
  · intro hm
    rw [List.mem_singleton.mp hm, kts_self F] at e
    cases e
theorem News.turn {h₀ h g' h' : Heap} {L : Addr} {news : List (Addr × Obj)} (N : News h₀ L h news) (T : KtsTurn [L] h g') (st : g'.StaysIn h') : News h₀ L h' news :=
  fun p hp => ⟨st _ _ (T.other _ _ (N p hp).1 (fun hm => (N p hp).2.1 (List.mem_singleton.mp hm))), (N p hp).2⟩
def down (f : Int) : Int := if 26 ≤ f ∧ f < 52 then f - 26 else f
theorem ints_down {ys : List Value} {row : List Int} (h : CarriedAll ys (List.map (fun a => if 26 ≤ a then if a < 52 then PyData.int (a - 26) else PyData.int a else PyData.int a) (List.filter (fun _ => true) row))) : IntsAre ys (row.map down) := by
  refine CarriedAll.intsOf (f := down) ?_
  have e : List.filter (fun _ => true) row = row := by simp
  rw [e] at h
  refine (congrArg (CarriedAll ys) (List.map_congr_left fun a _ => ?_)).mp h
  unfold down
  by_cases h1 : 26 ≤ a <;> by_cases h2 : a < 52 <;> simp [h1, h2]

set_option maxRecDepth 100000 in
set_option maxHeartbeats 8000000 in
theorem seg7 {st7 : Stmt} {R : Addr} {arr : Array Value} {k : Nat} {row : List Int} {o1 o2 : Obj} {p : Int} {t1 t2 : Tok} {host great : Str} (hsc : sc = scopeOf w.params 220) (hs7 : st7 = stmtOf w.params 220 7)
    (hd1 : dp + 50 < recursionLimit) (hu1 : un + 500 < cLine) (C : LCtx w dp un gd base [] mean mg mb s.heap)
    (F : Fr s.heap L h (fun z => if z = Str.ofString "great" then some (.str great t1) else if z = Str.ofString "host" then some (.str host t2) else m₀ z)) (N : News s.heap L h [(R, listOf arr k), (L + 1 + 1, o2), (L + 1, o1)])
    (c1 : o1.data = .cell (some (.ref R))) (hi : IntsAre arr.toList row) (hr : ∀ n ∈ row, 0 ≤ n ∧ n < 64) (hl : row.length ≤ 12)
    (hA : ∀ c ∈ great.cps.toList, c < 128) (zH : great.length ≤ 40) (hT : decT great = some (octs (row.map down)))
    (hnext : ∀ t1 t2 h' tk', Fr s.heap L h' (fun z => if z = Str.ofString "great" then some (.str great t1) else if z = Str.ofString "host" then some (.str host t2) else m₀ z) → News s.heap L h' [(R, listOf arr k), (L + 1 + 1, o2), (L + 1, o1)] →
      wpAny (model prg w) ((AA dp un gd []).deeper (LE sc L)) (execs rest (LE sc L)) Qf E { s with heap := h', toks := tk' }) :
    wpAny (model prg w) ((AA dp un gd []).deeper (LE sc L)) (execs (st7 :: rest) (LE sc L)) Qf E { s with heap := h, toks := tk } := by
  conv at hsc => rhs; whnf
  conv at hs7 => rhs; whnf
  subst hsc hs7
  obtain ⟨GB, B, X, T, D⟩ := C
  walk_at "m33 go"
  unfold Stop
  refine told_spec (At.push GB B D F rfl rfl) (by show dp + 1 + 40 < recursionLimit; omega) (by show un + 3 + 400 < cLine; omega) hA zH ?_
  intro t2 g2 h2 tk2 tu st
  have F2 := Fr.turn F tu st
  have N2 := News.turn N tu st
  clear F N st tu
  rw [hT]
  dsimp only [optV] at F2 N2 ⊢
  walk_at "m33 go"
  unfold Stop
  (with_reducible rename Fr _ _ _ _ => lF)
  (with_reducible rename News _ _ _ _ => lN)
  rename CarriedAll _ _ => hc
  have hy := ints_down hc
  clear hc
  have hr2 : ∀ n ∈ row.map down, 0 ≤ n ∧ n < 64 := by
    intro n hn
    obtain ⟨q, hq, rfl⟩ := List.mem_map.mp hn
    have := hr q hq
    unfold down; split <;> omega
  refine octets_spec (At.push GB B D lF rfl rfl) (by show dp + 1 + 10 < recursionLimit; omega) (by show un + 3 + 100 < cLine; omega) (by assumption) hy hr2 (by simpa using hl) ?_
  intro t3 h3 tk3 st
  have F3 := Fr.stays lF st
  have N3 := News.stays lN st
  clear lF lN st
  dsimp only at F3 N3 ⊢
  walk_at "m33 go"
  · exact absurd ‹(_ != _) = true› (by simp)
  · exact hnext _ _ _ _ (by assumption) (by assumption)
end
end Mine
end
theorem Mine.anew_L_D {M : Model} {A : Around} {E : Value → Shared → Prop} {s : Shared} {env : Env} {Q : Flow → Shared → Prop} (h : Q .next s) : wpAny M A (execs [] env) Q E s := by
  w_top off
  first | (walk1; fail) | (w_top off; exact wpAny_execs_nil h)
section
namespace Mine
section
variable {w : World} {dp un : Nat} {gd : Option (List Code)} {base : Heap} {fr : List Env} {s : Shared} {Q E : Value → Shared → Prop}
local macro_rules | `(tactic| walk_at "m33 enter") => `(tactic| ((case k6 => k_is); (case k7 => k_is); (case k8 => omega); (case k9 => (intro kX9; first | exact BindsTo.of_eq rfl | exact binds_K kX9 rfl (by k_is) rfl rfl rfl)); (case c5 => decide); (case kB => exact locs rfl); (case c2 => exact rfl); (case c3 => exact rfl); (case c4 => exact rfl)))
local macro_rules | `(tactic| walk_at "exec For Name Name cons nil") => `(tactic| (k_here; (rename Fr _ _ _ _ => lF'); (with_unfolding_all refine' For_invVF lF' ?k1 ?k2 ?_; (case k1 => exact rfl); (case k2 => exact rfl); k_whole)))
local macro_rules | `(tactic| walk_at "pyIter ref") => `(tactic| ((with_reducible show wpAny _ _ (pyIter (Value.ref _)) (fun it s₂ => LoopAtV _ _ _ _ _ _ _ _ _ it s₂) _ _); refine Stop.out ?_))
local macro_rules | `(tactic| walk_at "call type:type") => `(tactic| ((with_reducible show wpAny _ _ (call (Value.type "type") [Value.bytes _ _]) _ _ _); refine type_bytes ?_))
local macro_rules | `(tactic| walk_at "getMethod str") => `(tactic| ((with_reducible show wpAny _ _ (getMethod (Value.str _ _) (PySem.Str.ofString "encode") _) _ _ _); with_reducible refine encode_method ?_))
local macro_rules | `(tactic| walk_at "storeName") => `(tactic| (k_here; k_dflt (first
  | ((with_reducible show wpAny _ _ (storeName _ _ (Value.int _ _)) _ _ _); refine' store_int ?F ?N ?_ ?a ?b; (case F => k_asm); (case N => k_asm); (case a => rfl); (case b => rfl); k_whole; intro t' tk' h' F' N'; (try dsimp only); (try k_sweep))
  | ((with_reducible show wpAny _ _ (storeName _ _ (Value.str _ _)) _ _ _); refine' store_str ?F ?N ?_ ?a ?b; (case F => k_asm); (case N => k_asm); (case a => rfl); (case b => rfl); k_whole; intro t' tk' h' F' N'; (try dsimp only); (try k_sweep))
  | ((with_reducible show wpAny _ _ (storeName _ _ (Value.bytes _ _)) _ _ _); refine' store_bytes ?F ?N ?_ ?a ?b; (case F => k_asm); (case N => k_asm); (case a => rfl); (case b => rfl); k_whole; intro t' tk' h' F' N'; (try dsimp only); (try k_sweep)))))
local macro_rules | `(tactic| walk_at "m33 go") => `(tactic| repeat' ((fail_if_success (with_reducible refine stopQ ?_)); first | (k_unfold; (try dsimp only)) | walk1 | (dsimp only; walk1) | (dsimp only; k_unfold; (try dsimp only)) | (leave1; walk_say "STEP leave1"; try dsimp only) | fail "no step"))
local macro_rules | `(tactic| walk_at "InvEndN") => `(tactic| refine Stop.out ?_)
local macro_rules | `(tactic| walk_at "InvEndA") => `(tactic| refine Stop.out ?_)
local macro_rules | `(tactic| walk_at "getMethod bytes") => `(tactic| ((with_reducible show wpAny _ _ (getMethod (Value.bytes _ _) (PySem.Str.ofString "translate") _) _ _ _); with_reducible refine translate_method ?_))
local macro_rules | `(tactic| walk_at "getMethod type:bytes") => `(tactic| (k_here; refine' method_type ?F ?X ?m (by decide +kernel) ?e ?h ?_; (case F => k_asm); (case X => k_asm); (case m => exact type_of_bytes); (case e => k_dflt k_is); (case h => k_handed)))
local macro_rules | `(tactic| walk_at "call builtin:bytes.maketrans") => `(tactic| (k_dflt (refine maketrans_call ?_); intro t' tk'; (try dsimp only)))
local macro_rules | `(tactic| units_room) => `(tactic| (simp only [Around.deeper_units]; omega))
local macro_rules | `(tactic| walk_at "m33 same") => `(tactic| (intro z hz; (try dsimp only); (repeat' split) <;> first | rfl | (exfalso; simp_all; done) | (simp_all; done)))
variable {mean : ExcName → Option Value} {mg mb : Str → Option Value} {L : Addr} {h : Heap} {m₀ : Str → Option Value} {tk : Nat} {rest : List Stmt} {sc : Scope} {Qf : Flow → Shared → Prop}
local macro_rules | `(tactic| walk_at "call ref") => `(tactic| (k_here; refine Stop.out ?_))
local macro_rules | `(tactic| walk_at "call builtin:len") => `(tactic| ((with_reducible show wpAny _ _ (call (Value.builtin "len") [Value.bytes (byteArr _) _]) _ _ _); refine len_arr (by omega) ?_; intro t' tk'; (try dsimp only)))
local macro_rules | `(tactic| walk_at "storeName") => `(tactic| (k_here; k_dflt ((with_reducible show wpAny _ _ (storeName _ _ (Value.int _ _)) _ _ _); refine' store_cint ?F ?N ?c ?U ?d ?_ ?a ?b; (case a => rfl); (case b => rfl); (case F => k_asm); (case N => k_asm); (case c => rfl); (case U => k_updF); (case d => k_asm); k_whole; intro t' tk' h' o' F' N' d'; (try dsimp only at N'); (try dsimp only); (try k_sweep))))
local macro_rules | `(tactic| walk_at "call builtin:str.encode") => `(tactic| ((with_reducible show wpAny _ _ (call (Value.builtin "str.encode") [Value.str _ _, Value.str (Str.ofString "ascii") _]) _ _ _); refine' encode_call ?ca ?cb ?_; (case ca => k_asm); (case cb => (simp only [sizeLine_eq]; omega)); intro t' tk'; (try dsimp only)))

/-- what is left behind each 62 -/
def behind : List Int → List (List Int)
  | [] => []
  | f :: r => if f = 62 then r :: behind r else behind r
/-- a list of figures in the ledger -/
def EndAt (Ls : List (Addr × Obj)) (v : Value) (e : List Int) : Prop := ∃ a arr k, v = .ref a ∧ (a, listOf arr k) ∈ Ls ∧ IntsAre arr.toList e
inductive EndsAt (Ls : List (Addr × Obj)) : List Value → List (List Int) → Prop
  | nil : EndsAt Ls [] []
  | cons {v e vs es} : EndAt Ls v e → EndsAt Ls vs es → EndsAt Ls (v :: vs) (e :: es)
theorem EndAt.mono {Ls Ls' : List (Addr × Obj)} {v : Value} {e : List Int} (h : EndAt Ls v e) (sub : ∀ p ∈ Ls, p ∈ Ls') : EndAt Ls' v e := by
  obtain ⟨a, arr, k, rfl, hm, hi⟩ := h
  exact ⟨a, arr, k, rfl, sub _ hm, hi⟩
theorem EndsAt.mono {Ls Ls' : List (Addr × Obj)} {vs : List Value} {es : List (List Int)} (h : EndsAt Ls vs es) (sub : ∀ p ∈ Ls, p ∈ Ls') : EndsAt Ls' vs es := by
  induction h with
  | nil => exact .nil
  | cons h _ ih => exact .cons (h.mono sub) ih
theorem EndsAt.snoc {Ls : List (Addr × Obj)} {vs : List Value} {es : List (List Int)} {v : Value} {e : List Int} (h : EndsAt Ls vs es) (h1 : EndAt Ls v e) : EndsAt Ls (vs ++ [v]) (es ++ [e]) := by
  induction h with
  | nil => exact .cons h1 .nil
  | cons h _ ih => exact .cons h ih
theorem EndsAt.length {Ls : List (Addr × Obj)} {vs : List Value} {es : List (List Int)} (h : EndsAt Ls vs es) : vs.length = es.length := by
  induction h with
  | nil => rfl
  | cons h _ ih => simp [ih]
theorem EndsAt.get {Ls : List (Addr × Obj)} {vs : List Value} {es : List (List Int)} (h : EndsAt Ls vs es) : ∀ {i : Nat} {e : List Int}, es[i]? = some e → ∃ v, vs[i]? = some v ∧ EndAt Ls v e := by
  induction h with
  | nil => intro i e q; simp at q
  | cons h _ ih =>
    intro i e q
    cases i with
    | zero => simp at q; subst q; exact ⟨_, rfl, h⟩
    | succ i => simp at q ⊢; exact ih q

theorem restT {prog : Program} {A : Around} {h₀ : Heap} {m : Str → Option Value} {env : Env} {ct elt : Expr} {x : Str} {scope : Scope} {cl : List (Str × Addr)} {s : Shared} {S : List (Addr × Obj) → Prop} {P : Nat → Value → Prop} {Fin : List Value → List (Addr × Obj) → Prop} {n : Nat}
    (Iv : Nat → List Value → List (Addr × Obj) → Prop)
    (hfin : ∀ ys news, Iv n ys news → Fin ys news)
    (hstep : ∀ i ys news, i < n → Iv i ys news → ∀ v I oI C oC D m₂ h tk (E' : Value → Shared → Prop), P i v → LCg.NsObj oC m₂ → m₂ x = some v → Fr h₀ L h m → News h₀ L h ((I, oI) :: (C, oC) :: (D, LCg.lst ys) :: news) → LCg.Off3 I C D news → ((@Ne Nat I C) ∧ (@Ne Nat I D) ∧ (@Ne Nat C D)) →
      wpAny (model prog w) A (isTrue ct (compEnvC scope cl C env) (eval ct (compEnvC scope cl C env))) (fun ok s' => if ok = true then
        wpAny (model prog w) A (eval elt (compEnvC scope cl C env)) (LCg.CompEnd h₀ L m { s with heap := h, toks := tk } I oI C oC D (LCg.lst ys) S (fun y news' => Iv (i + 1) (ys ++ [y]) news')) E' s'
        else LCg.CompEnd h₀ L m { s with heap := h, toks := tk } I oI C oC D (LCg.lst ys) S (fun _ news' => Iv (i + 1) ys news') Value.none s') E' { s with heap := h, toks := tk }) :
    ∀ k i ys news, i + k = n → Iv i ys news → LCt.CompRestT prog w A h₀ L m env ct elt x scope cl s S P Fin k i ys news := by
  intro k
  induction k with
  | zero => intro i ys news hk hI; exact LCt.CompRestT.zero (hfin _ _ ((by omega : i = n) ▸ hI))
  | succ k ih =>
    intro i ys news hk hI
    refine LCt.CompRestT.succ ?_
    intro v I oI C oC D m₂ h tk E' hv hC hx F N off ne
    refine wpAny_mono (hstep i ys news (by omega) hI v I oI C oC D m₂ h tk E' hv hC hx F N off ne) (fun ok s' q => ?_) fun _ _ e => e
    split at q
    · rw [if_pos ‹_›]
      refine wpAny_mono q (fun y s2 q => ?_) fun _ _ e => e
      obtain ⟨h', tk, news', e, F', N', off', hS, r⟩ := q
      exact ⟨h', tk, news', e, F', N', off', hS, ih _ _ _ (by omega) r⟩
    · rw [if_neg ‹_›]
      obtain ⟨h', tk, news', e, F', N', off', hS, r⟩ := q
      exact ⟨h', tk, news', e, F', N', off', hS, ih _ _ _ (by omega) r⟩

local macro_rules | `(tactic| walk_at "eval ListComp") => `(tactic| (k_here; k_dflt (refine LCt.ListComp_T (F₀ := by k_asm) (by with_unfolding_all rfl) (by decide) (by rfl) (by decide) (by rfl) ?_)))
local macro_rules | `(tactic| walk_at "CompSrcT") => `(tactic| (k_here; refine Stop.out ?_))
local macro_rules | `(tactic| walk_at "CompEnd") => `(tactic| (k_here; refine Stop.out ?_))

local macro_rules | `(tactic| walk_at "binaryOp Add ref ref") => `(tactic| (k_here; refine Stop.out ?_))
theorem behind_len : ∀ row : List Int, (behind row).length ≤ row.length
  | [] => Nat.le_refl _
  | f :: r => by
    have := behind_len r
    unfold behind; split <;> simp <;> omega
theorem behind_at {row : List Int} {i : Nat} (hin : i < row.length) : behind (row.drop i) = (if row.getD (0 + (i : Int)).toNat 0 = 62 then [row.drop (i + 1)] else []) ++ behind (row.drop (i + 1)) := by
  have e : (0 + (i : Int)).toNat = i := by omega
  have hx : row[i]? = some row[i] := by simp [hin]
  rw [e, drop_at hx, behind, List.getD, hx]
  simp only [Option.getD_some]
  split <;> rfl

local macro_rules | `(tactic| walk_at "subscriptTail Name Slice ref ref") => `(tactic| refine Stop.out ?_)
set_option maxRecDepth 100000 in
set_option maxHeartbeats 8000000 in
theorem seg8 {st8 : Stmt} {R : Addr} {arr : Array Value} {k : Nat} {row : List Int} {o1 o2 : Obj} (hsc : sc = scopeOf w.params 220) (hs8 : st8 = stmtOf w.params 220 8)
    (hd1 : dp + 50 < recursionLimit) (hu1 : un + 500 < cLine) (C : LCtx w dp un gd base fr mean mg mb s.heap)
    (F : Fr s.heap L h m₀) (N : News s.heap L h [(R, listOf arr k), (L + 1 + 1, o2), (L + 1, o1)])
    (c1 : o1.data = .cell (some (.ref R))) (hi : IntsAre arr.toList row) (hr : ∀ n ∈ row, 0 ≤ n ∧ n < 64) (hl : row.length ≤ 12)
    (hnext : ∀ Es ea ke Ls h' tk', Fr s.heap L h' (fun z => if z = Str.ofString "ends" then some (.ref Es) else m₀ z) → News s.heap L h' ((Es, listOf ea ke) :: (L + 1 + 1, o2) :: (L + 1, o1) :: Ls) → (R, listOf arr k) ∈ Ls → EndsAt Ls ea.toList (row :: behind row) →
      wpAny (model prg w) ((AA dp un gd fr).deeper (LE sc L)) (execs rest (LE sc L)) Qf E { s with heap := h', toks := tk' }) :
    wpAny (model prg w) ((AA dp un gd fr).deeper (LE sc L)) (execs (st8 :: rest) (LE sc L)) Qf E { s with heap := h, toks := tk } := by
  conv at hsc => rhs; whnf
  conv at hs8 => rhs; whnf
  subst hsc hs8
  obtain ⟨GB, B, X, T, D⟩ := C
  walk_at "m33 go"
  unfold Stop
  (with_reducible rename Fr _ _ _ _ => lF)
  (with_reducible rename News _ _ _ _ => lN)
  refine LCt.CompSrcT.range (n := row.length) rfl lF lN (by assumption) ?_ ?_ ?_ ?_
  · exact small_one (by decide) (by decide) (by omega) (by omega)
  · rw [rangeSize_nat]; omega
  · rw [sizeLine_eq]; omega
  · intro g
    refine restT (n := row.length) (fun i ys news => ∃ Ls es, news = [(_, W.listOf #[Value.ref R] 0), (R, W.listOf arr k), (L + 1 + 1, o2), (L + 1, o1)] ++ Ls ∧ EndsAt Ls ys es ∧ es ++ behind (row.drop i) = behind row) ?_ ?_ row.length 0 [] _ (by omega) ⟨[], [], by rfl, .nil, rfl⟩
    · rintro ys news ⟨Ls, es, rfl, hE, hes⟩
      clear lF lN
      walk_at "m33 go"
      unfold Stop
      (with_reducible rename Fr _ _ _ _ => lF)
      (with_reducible rename News _ _ _ _ => lN)
      have e1 : es = behind row := by simpa [behind] using hes
      subst e1
      have hy := hE.length
      have hy2 := behind_len row
      refine kmk_add_lit lF lN (News.isList lN (.tail _ (.head _))) (News.isList lN (.head _)) rfl ?_ ?_
      · intro D5 h5 F5 N5 l5
        clear lF lN
        walk_at "m33 go"
        (with_reducible rename News _ _ _ _ => lN)
        refine hnext D5 (List.toArray (#[Value.ref R].toList ++ ys.toArray.toList)) 0 ((R, listOf arr k) :: Ls) _ _ (by assumption) (fun p hp => lN p ?_) (.head _) ?_
        · simp only [List.mem_cons] at hp ⊢
          grind
        · simp only [List.toList_toArray, List.cons_append, List.nil_append]
          exact .cons ⟨R, arr, k, rfl, .head _, hi⟩ (hE.mono fun p hp => .tail _ hp)
      · rw [sizeLine_eq]; simp; omega
    · rintro i ys news hin ⟨Ls, es, rfl, hE, hes⟩ v I oI C oC D m₂ h' tk' E' ⟨t, rfl⟩ hC hx F' N' off ne
      clear lF lN
      dsimp only [List.cons_append, List.nil_append] at N' off ⊢
      simp only [LCg.Off3] at off
      rw [behind_at hin] at hes
      walk_at "m33 go"
      · unfold Stop
        dsimp only
        (with_reducible rename Fr _ _ _ _ => lF)
        (with_reducible rename News _ _ _ _ => lN)
        refine kmk_slice_ints (s := ⟨_, _, _, _, _⟩) (lo := some (0 + (i : Int) + 1)) (hi := none) lF lN (vs := arr.toList) (by simpa using News.isList lN (.tail _ (.tail _ (.tail _ (.tail _ (.head _)))))) (IsPart.int _ _) IsPart.none hi (kmk_from hi (by omega)) rfl ?_ (by with_unfolding_all rfl) (by intro _; with_unfolding_all rfl) (by rw [sizeLine_eq]; have := hi.length; simp at this ⊢; omega)
        intro D6 ws h6 lF6 lN6 l6 hD _ _
        dsimp only
        walk_at "m33 go"
        unfold Stop
        have e2 : (0 + (i : Int) + 1).toNat = i + 1 := by omega
        rw [e2] at hD
        rw [if_pos (by assumption)] at hes
        refine LCg.CompEnd.intro lF6 lN6 (_ :: _ :: _ :: _ :: (D6, W.listOf ws.toArray 0) :: Ls) (fun p hp => ?_) ⟨off.1, off.2.1, off.2.2.1, off.2.2.2.1, ⟨Nat.ne_of_gt (l6 (I, oI) (.head _)), Nat.ne_of_gt (l6 (C, oC) (.tail _ (.head _))), Nat.ne_of_gt (l6 (D, LCg.lst ys) (.tail _ (.tail _ (.head _))))⟩, off.2.2.2.2⟩ trivial ⟨_ :: Ls, es ++ [row.drop (i + 1)], rfl, (hE.mono fun p hp => .tail _ hp).snoc ⟨_, _, 0, rfl, .head _, by simpa using hD⟩, by simpa using hes⟩
        simp only [List.mem_cons] at hp ⊢
        grind
      · unfold Stop
        (with_reducible rename Fr _ _ _ _ => lF)
        (with_reducible rename News _ _ _ _ => lN)
        rw [if_neg (by assumption)] at hes
        exact LCg.CompEnd.intro lF lN (_ :: _ :: _ :: _ :: Ls) (fun p hp => hp) off trivial ⟨Ls, es, rfl, hE, hes⟩
end
end Mine
end
theorem Mine.anew_L_E {M : Model} {A : Around} {E : Value → Shared → Prop} {s : Shared} {env : Env} {Q : Flow → Shared → Prop} (h : Q .next s) : wpAny M A (execs [] env) Q E s := by
  w_top off
  first | (walk1; fail) | (w_top off; exact wpAny_execs_nil h)
section
namespace Mine
section
variable {w : World} {dp un : Nat} {gd : Option (List Code)} {base : Heap} {fr : List Env} {s : Shared} {Q E : Value → Shared → Prop}
local macro_rules | `(tactic| walk_at "m33 enter") => `(tactic| ((case k6 => k_is); (case k7 => k_is); (case k8 => omega); (case k9 => (intro kX9; first | exact BindsTo.of_eq rfl | exact binds_K kX9 rfl (by k_is) rfl rfl rfl)); (case c5 => decide); (case kB => exact locs rfl); (case c2 => exact rfl); (case c3 => exact rfl); (case c4 => exact rfl)))
local macro_rules | `(tactic| walk_at "exec For Name Name cons nil") => `(tactic| (k_here; (rename Fr _ _ _ _ => lF'); (with_unfolding_all refine' For_invVF lF' ?k1 ?k2 ?_; (case k1 => exact rfl); (case k2 => exact rfl); k_whole)))
local macro_rules | `(tactic| walk_at "pyIter ref") => `(tactic| ((with_reducible show wpAny _ _ (pyIter (Value.ref _)) (fun it s₂ => LoopAtV _ _ _ _ _ _ _ _ _ it s₂) _ _); refine Stop.out ?_))
local macro_rules | `(tactic| walk_at "call type:type") => `(tactic| ((with_reducible show wpAny _ _ (call (Value.type "type") [Value.bytes _ _]) _ _ _); refine type_bytes ?_))
local macro_rules | `(tactic| walk_at "getMethod str") => `(tactic| ((with_reducible show wpAny _ _ (getMethod (Value.str _ _) (PySem.Str.ofString "encode") _) _ _ _); with_reducible refine encode_method ?_))
local macro_rules | `(tactic| walk_at "storeName") => `(tactic| (k_here; k_dflt (first
  | ((with_reducible show wpAny _ _ (storeName _ _ (Value.int _ _)) _ _ _); refine' store_int ?F ?N ?_ ?a ?b; (case F => k_asm); (case N => k_asm); (case a => rfl); (case b => rfl); k_whole; intro t' tk' h' F' N'; (try dsimp only); (try k_sweep))
  | ((with_reducible show wpAny _ _ (storeName _ _ (Value.str _ _)) _ _ _); refine' store_str ?F ?N ?_ ?a ?b; (case F => k_asm); (case N => k_asm); (case a => rfl); (case b => rfl); k_whole; intro t' tk' h' F' N'; (try dsimp only); (try k_sweep))
  | ((with_reducible show wpAny _ _ (storeName _ _ (Value.bytes _ _)) _ _ _); refine' store_bytes ?F ?N ?_ ?a ?b; (case F => k_asm); (case N => k_asm); (case a => rfl); (case b => rfl); k_whole; intro t' tk' h' F' N'; (try dsimp only); (try k_sweep)))))
local macro_rules | `(tactic| walk_at "m33 go") => `(tactic| repeat' ((fail_if_success (with_reducible refine stopQ ?_)); first | (k_unfold; (try dsimp only)) | walk1 | (dsimp only; walk1) | (dsimp only; k_unfold; (try dsimp only)) | (leave1; walk_say "STEP leave1"; try dsimp only) | fail "no step"))
local macro_rules | `(tactic| walk_at "InvEndN") => `(tactic| refine Stop.out ?_)
local macro_rules | `(tactic| walk_at "InvEndA") => `(tactic| refine Stop.out ?_)
local macro_rules | `(tactic| walk_at "getMethod bytes") => `(tactic| ((with_reducible show wpAny _ _ (getMethod (Value.bytes _ _) (PySem.Str.ofString "translate") _) _ _ _); with_reducible refine translate_method ?_))
local macro_rules | `(tactic| walk_at "getMethod type:bytes") => `(tactic| (k_here; refine' method_type ?F ?X ?m (by decide +kernel) ?e ?h ?_; (case F => k_asm); (case X => k_asm); (case m => exact type_of_bytes); (case e => k_dflt k_is); (case h => k_handed)))
local macro_rules | `(tactic| walk_at "call builtin:bytes.maketrans") => `(tactic| (k_dflt (refine maketrans_call ?_); intro t' tk'; (try dsimp only)))
local macro_rules | `(tactic| units_room) => `(tactic| (simp only [Around.deeper_units]; omega))
local macro_rules | `(tactic| walk_at "m33 same") => `(tactic| (intro z hz; (try dsimp only); (repeat' split) <;> first | rfl | (exfalso; simp_all; done) | (simp_all; done)))
variable {mean : ExcName → Option Value} {mg mb : Str → Option Value} {L : Addr} {h : Heap} {m₀ : Str → Option Value} {tk : Nat} {rest : List Stmt} {sc : Scope} {Qf : Flow → Shared → Prop}
local macro_rules | `(tactic| walk_at "call ref") => `(tactic| (k_here; refine Stop.out ?_))
local macro_rules | `(tactic| walk_at "call builtin:len") => `(tactic| ((with_reducible show wpAny _ _ (call (Value.builtin "len") [Value.bytes (byteArr _) _]) _ _ _); refine len_arr (by omega) ?_; intro t' tk'; (try dsimp only)))
local macro_rules | `(tactic| walk_at "storeName") => `(tactic| (k_here; k_dflt ((with_reducible show wpAny _ _ (storeName _ _ (Value.int _ _)) _ _ _); refine' store_cint ?F ?N ?c ?U ?d ?_ ?a ?b; (case a => rfl); (case b => rfl); (case F => k_asm); (case N => k_asm); (case c => rfl); (case U => k_updF); (case d => k_asm); k_whole; intro t' tk' h' o' F' N' d'; (try dsimp only at N'); (try dsimp only); (try k_sweep))))
local macro_rules | `(tactic| walk_at "call builtin:str.encode") => `(tactic| ((with_reducible show wpAny _ _ (call (Value.builtin "str.encode") [Value.str _ _, Value.str (Str.ofString "ascii") _]) _ _ _); refine' encode_call ?ca ?cb ?_; (case ca => k_asm); (case cb => (simp only [sizeLine_eq]; omega)); intro t' tk'; (try dsimp only)))

theorem restU {prog : Program} {A : Around} {h₀ : Heap} {m : Str → Option Value} {env : Env} {elt : Expr} {x : Str} {scope : Scope} {cl : List (Str × Addr)} {s : Shared} {S : List (Addr × Obj) → Prop} {P : Nat → Value → Prop} {Fin : List Value → List (Addr × Obj) → Prop} {n : Nat}
    (Iv : Nat → List Value → List (Addr × Obj) → Prop)
    (hfin : ∀ ys news, Iv n ys news → Fin ys news)
    (hstep : ∀ i ys news, i < n → Iv i ys news → ∀ v I oI C oC D m₂ h tk (E' : Value → Shared → Prop), P i v → LCg.NsObj oC m₂ → m₂ x = some v → Fr h₀ L h m → News h₀ L h ((I, oI) :: (C, oC) :: (D, LCg.lst ys) :: news) → LCg.Off3 I C D news → ((@Ne Nat I C) ∧ (@Ne Nat I D) ∧ (@Ne Nat C D)) →
      wpAny (model prog w) A (eval elt (compEnvC scope cl C env)) (LCg.CompEnd h₀ L m { s with heap := h, toks := tk } I oI C oC D (LCg.lst ys) S (fun y news' => Iv (i + 1) (ys ++ [y]) news')) E' { s with heap := h, toks := tk }) :
    ∀ k i ys news, i + k = n → Iv i ys news → LCg.CompRest prog w A h₀ L m env elt x scope cl s S P Fin k i ys news := by
  intro k
  induction k with
  | zero => intro i ys news hk hI; exact LCg.CompRest.zero (hfin _ _ ((by omega : i = n) ▸ hI))
  | succ k ih =>
    intro i ys news hk hI
    refine LCg.CompRest.succ ?_
    intro v I oI C oC D m₂ h tk E' hv hC hx F N off ne
    refine wpAny_mono (hstep i ys news (by omega) hI v I oI C oC D m₂ h tk E' hv hC hx F N off ne) (fun y s2 q => ?_) fun _ _ e => e
    obtain ⟨h', tk, news', e, F', N', off', hS, r⟩ := q
    exact ⟨h', tk, news', e, F', N', off', hS, ih _ _ _ (by omega) r⟩

local macro_rules | `(tactic| walk_at "exec Assign cons ListComp") => `(tactic| (k_here; k_dflt (refine LCg.Assign_ListComp_U (F₀ := by k_asm) (by rfl) (by with_unfolding_all rfl) (by with_unfolding_all rfl) (by decide) (by rfl) (by decide) (by rfl) (by rfl) (by rfl) ?_)))
local macro_rules | `(tactic| walk_at "CompSrc") => `(tactic| (k_here; refine Stop.out ?_))
local macro_rules | `(tactic| walk_at "CompEnd") => `(tactic| (k_here; refine Stop.out ?_))

set_option maxRecDepth 100000 in
set_option maxHeartbeats 8000000 in
theorem seg9 {st9 : Stmt} {Es : Addr} {ea : Array Value} {ke : Nat} {es : List (List Int)} {Ls : List (Addr × Obj)} {o1 o2 : Obj} {p : Int} {tp : Tok} (hsc : sc = scopeOf w.params 220) (hs9 : st9 = stmtOf w.params 220 9)
    (hd1 : dp + 50 < recursionLimit) (hu1 : un + 500 < cLine) (C : LCtx w dp un gd base fr mean mg mb s.heap)
    (F : Fr s.heap L h (fun z => if z = Str.ofString "ends" then some (.ref Es) else m₀ z)) (N : News s.heap L h ((Es, listOf ea ke) :: (L + 1 + 1, o2) :: (L + 1, o1) :: Ls))
    (c2 : o2.data = .cell (some (.int p tp))) (hE : EndsAt Ls ea.toList es) (hes : es.length ≤ 13) (hr : ∀ e ∈ es, (∀ n ∈ e, 0 ≤ n ∧ n < 64) ∧ e.length ≤ 12)
    (hnext : ∀ Ns na kn h' tk', Fr s.heap L h' (fun z => if z = Str.ofString "names" then some (.ref Ns) else if z = Str.ofString "ends" then some (.ref Es) else m₀ z) → News s.heap L h' ((Ns, listOf na kn) :: (Es, listOf ea ke) :: (L + 1 + 1, o2) :: (L + 1, o1) :: Ls) → na.toList = es.map (fun e => .bool (named e p)) →
      wpAny (model prg w) ((AA dp un gd fr).deeper (LE sc L)) (execs rest (LE sc L)) Qf E { s with heap := h', toks := tk' }) :
    wpAny (model prg w) ((AA dp un gd fr).deeper (LE sc L)) (execs (st9 :: rest) (LE sc L)) Qf E { s with heap := h, toks := tk } := by
  conv at hsc => rhs; whnf
  conv at hs9 => rhs; whnf
  subst hsc hs9
  obtain ⟨GB, B, X, T, D⟩ := C
  walk_at "m33 go"
  unfold Stop
  have hsz : ea.size = es.length := by have := hE.length; simpa using this
  refine LCg.CompSrc.ledger rfl F N (.head _) (by rw [sizeLine_eq]; omega) ?_
  intro g
  refine restU (n := ea.size) (fun i ys news => news = (Es, listOf ea ke) :: (L + 1 + 1, o2) :: (L + 1, o1) :: Ls ∧ ys = (es.take i).map (fun e => .bool (named e p))) ?_ ?_ ea.size 0 [] _ (by omega) ⟨rfl, by simp⟩
  · rintro ys news ⟨rfl, rfl⟩
    clear F N
    walk_at "m33 go"
    exact hnext _ _ _ _ _ (by assumption) (by assumption) (by simp [hsz])
  · rintro i ys news hin ⟨rfl, rfl⟩ v I oI C oC D9 m₂ h' tk' E' hv hC hx F' N' off ne
    clear F N
    have hie : es[i]? = some (es[i]'(by omega)) := List.getElem?_eq_getElem (by omega)
    obtain ⟨v', hv', a, ar, ka, rfl, hm, hi⟩ := hE.get hie
    obtain ⟨hr1, hr2⟩ := hr _ (List.mem_of_getElem? hie)
    have e1 : v = .ref a := by
      rw [Array.getElem?_toList, hv] at hv'
      exact Option.some.inj hv'
    subst e1
    generalize hoD : LCg.lst (List.map (fun e => Value.bool (named e p)) (List.take i es)) = oD at N' ⊢
    simp only [LCg.Off3] at off
    walk_at "m33 go"
    unfold Stop
    (with_reducible rename Fr _ _ _ _ => lF)
    (with_reducible rename News _ _ _ _ => lN)
    refine named_spec (vs := ar.toList) (At.push GB B D lF rfl rfl) (by show dp + 1 + 20 < recursionLimit; omega) (by show un + 3 + 200 < cLine; omega) (by simpa using News.isList lN (List.mem_of_mem_drop (i := 6) hm)) hi hr1 hr2 ?_
    intro h2 tk2 st
    have F2 := Fr.stays lF st
    have N2 := News.stays lN st
    refine LCg.CompEnd.intro F2 N2 _ (fun p hp => hp) off (.inr ⟨_, .head _, rfl, _, rfl⟩) ⟨rfl, ?_⟩
    rw [List.take_add_one, hie, List.map_append]; rfl
end
end Mine
end
theorem Mine.anew_L_F {M : Model} {A : Around} {E : Value → Shared → Prop} {s : Shared} {env : Env} {Q : Flow → Shared → Prop} (h : Q .next s) : wpAny M A (execs [] env) Q E s := by
  w_top off
  first | (walk1; fail) | (w_top off; exact wpAny_execs_nil h)
section
namespace Mine
section
variable {w : World} {dp un : Nat} {gd : Option (List Code)} {base : Heap} {fr : List Env} {s : Shared} {Q E : Value → Shared → Prop}
local macro_rules | `(tactic| walk_at "m33 enter") => `(tactic| ((case k6 => k_is); (case k7 => k_is); (case k8 => omega); (case k9 => (intro kX9; first | exact BindsTo.of_eq rfl | exact binds_K kX9 rfl (by k_is) rfl rfl rfl)); (case c5 => decide); (case kB => exact locs rfl); (case c2 => exact rfl); (case c3 => exact rfl); (case c4 => exact rfl)))
local macro_rules | `(tactic| walk_at "exec For Name Name cons nil") => `(tactic| (k_here; (rename Fr _ _ _ _ => lF'); (with_unfolding_all refine' For_invVF lF' ?k1 ?k2 ?_; (case k1 => exact rfl); (case k2 => exact rfl); k_whole)))
local macro_rules | `(tactic| walk_at "pyIter ref") => `(tactic| ((with_reducible show wpAny _ _ (pyIter (Value.ref _)) (fun it s₂ => LoopAtV _ _ _ _ _ _ _ _ _ it s₂) _ _); refine Stop.out ?_))
local macro_rules | `(tactic| walk_at "call type:type") => `(tactic| ((with_reducible show wpAny _ _ (call (Value.type "type") [Value.bytes _ _]) _ _ _); refine type_bytes ?_))
local macro_rules | `(tactic| walk_at "getMethod str") => `(tactic| ((with_reducible show wpAny _ _ (getMethod (Value.str _ _) (PySem.Str.ofString "encode") _) _ _ _); with_reducible refine encode_method ?_))
local macro_rules | `(tactic| walk_at "storeName") => `(tactic| (k_here; k_dflt (first
  | ((with_reducible show wpAny _ _ (storeName _ _ (Value.int _ _)) _ _ _); refine' store_int ?F ?N ?_ ?a ?b; (case F => k_asm); (case N => k_asm); (case a => rfl); (case b => rfl); k_whole; intro t' tk' h' F' N'; (try dsimp only); (try k_sweep))
  | ((with_reducible show wpAny _ _ (storeName _ _ (Value.str _ _)) _ _ _); refine' store_str ?F ?N ?_ ?a ?b; (case F => k_asm); (case N => k_asm); (case a => rfl); (case b => rfl); k_whole; intro t' tk' h' F' N'; (try dsimp only); (try k_sweep))
  | ((with_reducible show wpAny _ _ (storeName _ _ (Value.bytes _ _)) _ _ _); refine' store_bytes ?F ?N ?_ ?a ?b; (case F => k_asm); (case N => k_asm); (case a => rfl); (case b => rfl); k_whole; intro t' tk' h' F' N'; (try dsimp only); (try k_sweep)))))
local macro_rules | `(tactic| walk_at "m33 go") => `(tactic| repeat' ((fail_if_success (with_reducible refine stopQ ?_)); first | (k_unfold; (try dsimp only)) | walk1 | (dsimp only; walk1) | (dsimp only; k_unfold; (try dsimp only)) | (leave1; walk_say "STEP leave1"; try dsimp only) | fail "no step"))
local macro_rules | `(tactic| walk_at "InvEndN") => `(tactic| refine Stop.out ?_)
local macro_rules | `(tactic| walk_at "InvEndA") => `(tactic| refine Stop.out ?_)
local macro_rules | `(tactic| walk_at "getMethod bytes") => `(tactic| ((with_reducible show wpAny _ _ (getMethod (Value.bytes _ _) (PySem.Str.ofString "translate") _) _ _ _); with_reducible refine translate_method ?_))
local macro_rules | `(tactic| walk_at "getMethod type:bytes") => `(tactic| (k_here; refine' method_type ?F ?X ?m (by decide +kernel) ?e ?h ?_; (case F => k_asm); (case X => k_asm); (case m => exact type_of_bytes); (case e => k_dflt k_is); (case h => k_handed)))
local macro_rules | `(tactic| walk_at "call builtin:bytes.maketrans") => `(tactic| (k_dflt (refine maketrans_call ?_); intro t' tk'; (try dsimp only)))
local macro_rules | `(tactic| units_room) => `(tactic| (simp only [Around.deeper_units]; omega))
local macro_rules | `(tactic| walk_at "m33 same") => `(tactic| (intro z hz; (try dsimp only); (repeat' split) <;> first | rfl | (exfalso; simp_all; done) | (simp_all; done)))
variable {mean : ExcName → Option Value} {mg mb : Str → Option Value} {L : Addr} {h : Heap} {m₀ : Str → Option Value} {tk : Nat} {rest : List Stmt} {sc : Scope} {Qf : Flow → Shared → Prop}
local macro_rules | `(tactic| walk_at "call ref") => `(tactic| (k_here; refine Stop.out ?_))
local macro_rules | `(tactic| walk_at "call builtin:len") => `(tactic| ((with_reducible show wpAny _ _ (call (Value.builtin "len") [Value.bytes (byteArr _) _]) _ _ _); refine len_arr (by omega) ?_; intro t' tk'; (try dsimp only)))
local macro_rules | `(tactic| walk_at "storeName") => `(tactic| (k_here; k_dflt ((with_reducible show wpAny _ _ (storeName _ _ (Value.int _ _)) _ _ _); refine' store_cint ?F ?N ?c ?U ?d ?_ ?a ?b; (case a => rfl); (case b => rfl); (case F => k_asm); (case N => k_asm); (case c => rfl); (case U => k_updF); (case d => k_asm); k_whole; intro t' tk' h' o' F' N' d'; (try dsimp only at N'); (try dsimp only); (try k_sweep))))
local macro_rules | `(tactic| walk_at "call builtin:str.encode") => `(tactic| ((with_reducible show wpAny _ _ (call (Value.builtin "str.encode") [Value.str _ _, Value.str (Str.ofString "ascii") _]) _ _ _); refine' encode_call ?ca ?cb ?_; (case ca => k_asm); (case cb => (simp only [sizeLine_eq]; omega)); intro t' tk'; (try dsimp only)))

/-- what the walks ask of a text x whose small letters are X -/
structure OkS (x X : Str) : Prop where
  e : Txt.lower x = X
  z : x.length ≤ 40
  zX : X.length ≤ 40
  n : ∀ c ∈ x.cps.toList, c ≠ 10
  nX : ∀ c ∈ X.cps.toList, c ≠ 10
  nS : ∀ c ∈ (Txt.slice X (some 1) none).cps.toList, c ≠ 10
  a : ∀ c ∈ x.cps.toList, c < 128

set_option maxRecDepth 100000 in
set_option maxHeartbeats 8000000 in
theorem seg10 {st10 st11 : Stmt} {R Es Ns : Addr} {arr : Array Value} {k : Nat} {row : List Int} {oE oN : Obj} {Ls : List (Addr × Obj)} {o1 o2 : Obj} {p : Int} {tp t1 t2 : Tok} {great host low : Str} (hsc : sc = scopeOf w.params 220) (hs10 : st10 = stmtOf w.params 220 10) (hs11 : st11 = stmtOf w.params 220 11)
    (hd1 : dp + 50 < recursionLimit) (hu1 : un + 500 < cLine) (C : LCtx w dp un gd base fr mean mg mb s.heap)
    (F : Fr s.heap L h (fun z => if z = Str.ofString "names" then some (.ref Ns) else if z = Str.ofString "ends" then some (.ref Es) else if z = Str.ofString "great" then some (.str great t1) else if z = Str.ofString "host" then some (.str host t2) else m₀ z)) (N : News s.heap L h ((Ns, oN) :: (Es, oE) :: (L + 1 + 1, o2) :: (L + 1, o1) :: Ls))
    (c1 : o1.data = .cell (some (.ref R))) (c2 : o2.data = .cell (some (.int p tp))) (hR : (R, listOf arr k) ∈ Ls) (hi : IntsAre arr.toList row) (hr : ∀ n ∈ row, 0 ≤ n ∧ n < 64) (hl : row.length ≤ 12) (og : OkS great low) (oh : OkS host low) (hD : dmS low low = true) (hU : udmS low low = true)
    (hnext : ∀ t1 t2 h' tk', Fr s.heap L h' (fun z => if z = Str.ofString "plain" then some (.bool (!numbered row p)) else if z = Str.ofString "names" then some (.ref Ns) else if z = Str.ofString "ends" then some (.ref Es) else if z = Str.ofString "great" then some (.str great t1) else if z = Str.ofString "host" then some (.str host t2) else m₀ z) → News s.heap L h' ((Ns, oN) :: (Es, oE) :: (L + 1 + 1, o2) :: (L + 1, o1) :: Ls) →
      wpAny (model prg w) ((AA dp un gd fr).deeper (LE sc L)) (execs rest (LE sc L)) Qf E { s with heap := h', toks := tk' }) :
    wpAny (model prg w) ((AA dp un gd fr).deeper (LE sc L)) (execs (st10 :: st11 :: rest) (LE sc L)) Qf E { s with heap := h, toks := tk } := by
  conv at hsc => rhs; whnf
  conv at hs10 => rhs; whnf
  conv at hs11 => rhs; whnf
  subst hsc hs10 hs11
  obtain ⟨GB, B, X, T, D⟩ := C
  walk_at "m33 go"
  unfold Stop
  refine numbered_spec (vs := arr.toList) (At.push GB B D F rfl rfl) (by show dp + 1 + 10 < recursionLimit; omega) (by show un + 3 + 100 < cLine; omega) (by simpa using News.isList N (List.mem_of_mem_drop (i := 4) hR)) hi hr hl ?_
  intro h2 tk2 st
  have F2 := Fr.stays F st
  have N2 := News.stays N st
  clear F N st
  dsimp only at F2 N2 ⊢
  walk_at "m33 go"
  unfold Stop
  (with_reducible rename Fr _ _ _ _ => lF)
  (with_reducible rename News _ _ _ _ => lN)
  refine dm_spec (At.push GB B D lF rfl rfl) (by show dp + 1 + 20 < recursionLimit; omega) (by show un + 3 + 200 < cLine; omega) og.z oh.z og.e oh.e og.zX oh.zX og.nX oh.nS ?_
  intro h3 tk3 st
  have F3 := Fr.stays lF st
  have N3 := News.stays lN st
  clear lF lN st
  rw [hD]
  dsimp only at F3 N3 ⊢
  walk_at "m33 go"
  unfold Stop
  (with_reducible rename Fr _ _ _ _ => lF)
  (with_reducible rename News _ _ _ _ => lN)
  refine udm_spec (At.push GB B D lF rfl rfl) (by show dp + 1 + 20 < recursionLimit; omega) (by show un + 3 + 200 < cLine; omega) og.z oh.z og.e oh.e og.zX oh.zX og.nX oh.nX ?_
  intro h4 tk4 st
  have F4 := Fr.stays lF st
  have N4 := News.stays lN st
  clear lF lN st
  rw [hU]
  dsimp only at F4 N4 ⊢
  walk_at "m33 go"
  exact hnext _ _ _ _ (by assumption) (by assumption)
end
end Mine
end
theorem Mine.anew_L_G {M : Model} {A : Around} {E : Value → Shared → Prop} {s : Shared} {env : Env} {Q : Flow → Shared → Prop} (h : Q .next s) : wpAny M A (execs [] env) Q E s := by
  w_top off
  first | (walk1; fail) | (w_top off; exact wpAny_execs_nil h)
section
namespace Mine
section
variable {w : World} {dp un : Nat} {gd : Option (List Code)} {base : Heap} {fr : List Env} {s : Shared} {Q E : Value → Shared → Prop}
local macro_rules | `(tactic| walk_at "m33 enter") => `(tactic| ((case k6 => k_is); (case k7 => k_is); (case k8 => omega); (case k9 => (intro kX9; first | exact BindsTo.of_eq rfl | exact binds_K kX9 rfl (by k_is) rfl rfl rfl)); (case c5 => decide); (case kB => exact locs rfl); (case c2 => exact rfl); (case c3 => exact rfl); (case c4 => exact rfl)))
local macro_rules | `(tactic| walk_at "exec For Name Name cons nil") => `(tactic| (k_here; (rename Fr _ _ _ _ => lF'); (with_unfolding_all refine' For_invVF lF' ?k1 ?k2 ?_; (case k1 => exact rfl); (case k2 => exact rfl); k_whole)))
local macro_rules | `(tactic| walk_at "pyIter ref") => `(tactic| ((with_reducible show wpAny _ _ (pyIter (Value.ref _)) (fun it s₂ => LoopAtV _ _ _ _ _ _ _ _ _ it s₂) _ _); refine Stop.out ?_))
local macro_rules | `(tactic| walk_at "call type:type") => `(tactic| ((with_reducible show wpAny _ _ (call (Value.type "type") [Value.bytes _ _]) _ _ _); refine type_bytes ?_))
local macro_rules | `(tactic| walk_at "getMethod str") => `(tactic| ((with_reducible show wpAny _ _ (getMethod (Value.str _ _) (PySem.Str.ofString "encode") _) _ _ _); with_reducible refine encode_method ?_))
local macro_rules | `(tactic| walk_at "storeName") => `(tactic| (k_here; k_dflt (first
  | ((with_reducible show wpAny _ _ (storeName _ _ (Value.int _ _)) _ _ _); refine' store_int ?F ?N ?_ ?a ?b; (case F => k_asm); (case N => k_asm); (case a => rfl); (case b => rfl); k_whole; intro t' tk' h' F' N'; (try dsimp only); (try k_sweep))
  | ((with_reducible show wpAny _ _ (storeName _ _ (Value.str _ _)) _ _ _); refine' store_str ?F ?N ?_ ?a ?b; (case F => k_asm); (case N => k_asm); (case a => rfl); (case b => rfl); k_whole; intro t' tk' h' F' N'; (try dsimp only); (try k_sweep))
  | ((with_reducible show wpAny _ _ (storeName _ _ (Value.bytes _ _)) _ _ _); refine' store_bytes ?F ?N ?_ ?a ?b; (case F => k_asm); (case N => k_asm); (case a => rfl); (case b => rfl); k_whole; intro t' tk' h' F' N'; (try dsimp only); (try k_sweep)))))
local macro_rules | `(tactic| walk_at "m33 go") => `(tactic| repeat' ((fail_if_success (with_reducible refine stopQ ?_)); first | (k_unfold; (try dsimp only)) | walk1 | (dsimp only; walk1) | (dsimp only; k_unfold; (try dsimp only)) | (leave1; walk_say "STEP leave1"; try dsimp only) | fail "no step"))
local macro_rules | `(tactic| walk_at "InvEndN") => `(tactic| refine Stop.out ?_)
local macro_rules | `(tactic| walk_at "InvEndA") => `(tactic| refine Stop.out ?_)
local macro_rules | `(tactic| walk_at "getMethod bytes") => `(tactic| ((with_reducible show wpAny _ _ (getMethod (Value.bytes _ _) (PySem.Str.ofString "translate") _) _ _ _); with_reducible refine translate_method ?_))
local macro_rules | `(tactic| walk_at "getMethod type:bytes") => `(tactic| (k_here; refine' method_type ?F ?X ?m (by decide +kernel) ?e ?h ?_; (case F => k_asm); (case X => k_asm); (case m => exact type_of_bytes); (case e => k_dflt k_is); (case h => k_handed)))
local macro_rules | `(tactic| walk_at "call builtin:bytes.maketrans") => `(tactic| (k_dflt (refine maketrans_call ?_); intro t' tk'; (try dsimp only)))
local macro_rules | `(tactic| units_room) => `(tactic| (simp only [Around.deeper_units]; omega))
local macro_rules | `(tactic| walk_at "m33 same") => `(tactic| (intro z hz; (try dsimp only); (repeat' split) <;> first | rfl | (exfalso; simp_all; done) | (simp_all; done)))
variable {mean : ExcName → Option Value} {mg mb : Str → Option Value} {L : Addr} {h : Heap} {m₀ : Str → Option Value} {tk : Nat} {rest : List Stmt} {sc : Scope} {Qf : Flow → Shared → Prop}
local macro_rules | `(tactic| walk_at "call ref") => `(tactic| (k_here; refine Stop.out ?_))
local macro_rules | `(tactic| walk_at "call builtin:len") => `(tactic| ((with_reducible show wpAny _ _ (call (Value.builtin "len") [Value.bytes (byteArr _) _]) _ _ _); refine len_arr (by omega) ?_; intro t' tk'; (try dsimp only)))
local macro_rules | `(tactic| walk_at "storeName") => `(tactic| (k_here; k_dflt ((with_reducible show wpAny _ _ (storeName _ _ (Value.int _ _)) _ _ _); refine' store_cint ?F ?N ?c ?U ?d ?_ ?a ?b; (case a => rfl); (case b => rfl); (case F => k_asm); (case N => k_asm); (case c => rfl); (case U => k_updF); (case d => k_asm); k_whole; intro t' tk' h' o' F' N' d'; (try dsimp only at N'); (try dsimp only); (try k_sweep))))
local macro_rules | `(tactic| walk_at "call builtin:str.encode") => `(tactic| ((with_reducible show wpAny _ _ (call (Value.builtin "str.encode") [Value.str _ _, Value.str (Str.ofString "ascii") _]) _ _ _); refine' encode_call ?ca ?cb ?_; (case ca => k_asm); (case cb => (simp only [sizeLine_eq]; omega)); intro t' tk'; (try dsimp only)))

noncomputable def forBody : Stmt → List Stmt
  | .For _ _ b _ _ => b
  | _ => []
theorem loopS_range {σ : Type} {prog : Program} {A : Around} {env : Env} {h₀ : Heap} {x : Str} {body : List Stmt} {Q : Flow → Shared → Prop} {r : Addr} {n : Nat} {t u v : Tok} (mp : σ → Str → Option Value) (nw : σ → List (Addr × Obj)) (P : Nat → σ → Prop) (st₀ : σ)
    (hh : A.handled = none) (hr : IsRange s.heap r 0 n 1 t u v) (hn : n ≤ 1000) (F : Fr h₀ env.locals s.heap (mp st₀)) (N : News h₀ env.locals s.heap (nw st₀)) (hj : P 0 st₀)
    (turn : TurnS prog w A E s env h₀ x body Q mp nw P ((nw st₀).map (·.1)) n (fun i v => ∃ t, v = .int (0 + (i : Int)) t)) (done : DoneS s env h₀ x Q mp nw P n) :
    wpAny (model prog w) A (pyIter (.ref r)) (fun it s₂ => LoopAtV prog w A h₀ env x body Q E it s₂) E s := by
  refine wpAny_pyIter_range hr (small_one (by decide) (by decide) (by omega) (by omega)) ?_
  have W := LCg.range_walks (prog := prog) (w := w) (A := A) (I := s.heap.objs.size) hh 0 n
  have e : Builtin.Range.rangeSize 0 n 1 = (n : Int) := by rw [rangeSize_nat]; omega
  rw [e]
  refine loopS mp nw P st₀ W ?_ ?_ ?_ ?_ ?_ (F.push _) (fun p hp => ⟨Heap.get?_push_of_some _ (N p hp).1, (N p hp).2⟩) hj ?_ ?_
  · intro hm
    exact absurd F.ns.lt ((List.mem_singleton.mp hm) ▸ Nat.lt_irrefl _)
  · intro b' hb
    rw [List.mem_singleton.mp hb]
    exact next_is_new F
  · intro p hp hI
    exact absurd (Heap.lt_size (N p hp).1) ((List.mem_singleton.mp hI) ▸ Nat.lt_irrefl _)
  · intro p hp hI
    exact absurd (Heap.lt_size (N p hp).1) ((List.mem_singleton.mp hI) ▸ Nat.lt_irrefl _)
  · have e1 : (0 : Int) + (0 : Nat) * 1 = 0 := by omega
    have e2 : (n : Int) - (0 : Nat) = n := by omega
    show IsRangeIter _ _ _ _ _
    rw [e1, e2]
    exact Heap.get?_push_size _ rfl
  · exact turn
  · exact done

local macro_rules | `(tactic| walk_at "exec For Name Call cons nil") => `(tactic| (k_here; (rename Fr _ _ _ _ => lF'); (with_unfolding_all refine' For_invVF lF' ?k1 ?k2 ?_ (hE := by assumption); (case k1 => exact rfl); (case k2 => exact rfl); k_whole)))
local macro_rules | `(tactic| walk_at "exec For") => `(tactic| (k_here; (rename Fr _ _ _ _ => lF'); (with_unfolding_all refine' For_invVF lF' ?k1 ?k2 ?_ (hE := by assumption); (case k1 => exact rfl); (case k2 => exact rfl); k_whole)))

set_option maxRecDepth 100000 in
set_option maxHeartbeats 8000000 in
theorem seg12 {st12 : Stmt} {bd : List Stmt} {Es Ns : Addr} {oN : Obj} {ea : Array Value} {ke : Nat} {es : List (List Int)} {Ls : List (Addr × Obj)} {o1 o2 : Obj} {pl : Bool} {t1 t2 : Tok} {great host : Str} (hsc : sc = scopeOf w.params 220) (hs12 : st12 = stmtOf w.params 220 12)
    (hd1 : dp + 50 < recursionLimit) (hu1 : un + 500 < cLine) (C : LCtx w dp un gd base fr mean mg mb s.heap)
    (F : Fr s.heap L h (fun z => if z = Str.ofString "plain" then some (.bool pl) else if z = Str.ofString "names" then some (.ref Ns) else if z = Str.ofString "ends" then some (.ref Es) else if z = Str.ofString "great" then some (.str great t1) else if z = Str.ofString "host" then some (.str host t2) else m₀ z)) (N : News s.heap L h ((Ns, oN) :: (Es, listOf ea ke) :: (L + 1 + 1, o2) :: (L + 1, o1) :: Ls))
    (hPO : PassesOwn (model prg w) ((AA dp un gd fr).deeper (LE sc L)) (LE sc L) E) (hbd : bd = forBody (stmtOf w.params 220 12)) (hsz : ea.size = es.length) (hes : es.length ≤ 13)
    (hturn : ∀ (i : Nat) (t : Tok) (st : Str → Option Value) (own : List (Addr × Obj)) h tk (Qf : Flow → Shared → Prop), i < es.length → Fr s.heap L h (fun y => if y = Str.ofString "k" then some (.int (0 + (i : Int)) t) else (fun z => if z = Str.ofString "plain" then some (.bool pl) else if z = Str.ofString "names" then some (.ref Ns) else if z = Str.ofString "ends" then some (.ref Es) else if z = Str.ofString "great" then some (.str great t1) else if z = Str.ofString "host" then some (.str host t2) else st z) y) →
      News s.heap L h ((Ns, oN) :: (Es, listOf ea ke) :: (L + 1 + 1, o2) :: (L + 1, o1) :: (Ls ++ own)) →
      (∀ (t' : Tok) (m' : Str → Option Value) h' tk', Fr s.heap L h' (fun y => if y = Str.ofString "k" then some (.int (0 + (i : Int)) t') else (fun z => if z = Str.ofString "plain" then some (.bool pl) else if z = Str.ofString "names" then some (.ref Ns) else if z = Str.ofString "ends" then some (.ref Es) else if z = Str.ofString "great" then some (.str great t1) else if z = Str.ofString "host" then some (.str host t2) else m' z) y) → News s.heap L h' ((Ns, oN) :: (Es, listOf ea ke) :: (L + 1 + 1, o2) :: (L + 1, o1) :: (Ls ++ own)) → Qf .next { s with heap := h', toks := tk' }) →
      wpAny (model prg w) ((AA dp un gd fr).deeper (LE sc L)) (execs bd (LE sc L)) Qf E { s with heap := h, toks := tk })
    (hnext : ∀ (m' : Str → Option Value) h' tk', Fr s.heap L h' m' → News s.heap L h' ((Ns, oN) :: (Es, listOf ea ke) :: (L + 1 + 1, o2) :: (L + 1, o1) :: Ls) →
      wpAny (model prg w) ((AA dp un gd fr).deeper (LE sc L)) (execs rest (LE sc L)) Qf E { s with heap := h', toks := tk' }) :
    wpAny (model prg w) ((AA dp un gd fr).deeper (LE sc L)) (execs (st12 :: rest) (LE sc L)) Qf E { s with heap := h, toks := tk } := by
  conv at hsc => rhs; whnf
  conv at hs12 => rhs; whnf
  subst hsc hs12
  obtain ⟨GB, B, X, T, D⟩ := C
  walk_at "m33 go"
  unfold Stop
  (with_reducible rename Fr _ _ _ _ => lF)
  (with_reducible rename News _ _ _ _ => lN)
  conv at hbd => rhs; whnf
  subst hbd
  rename IsRange _ _ _ _ _ _ _ _ => hrg
  refine loopS_range (n := es.length) (fun (st : Str → Option Value) => (fun z => if z = Str.ofString "plain" then some (.bool pl) else if z = Str.ofString "names" then some (.ref Ns) else if z = Str.ofString "ends" then some (.ref Es) else if z = Str.ofString "great" then some (.str great t1) else if z = Str.ofString "host" then some (.str host t2) else st z)) (fun _ => (Ns, oN) :: (Es, listOf ea ke) :: (L + 1 + 1, o2) :: (L + 1, o1) :: Ls) (fun _ _ => True) m₀ rfl hrg (by omega) lF lN trivial ?_ ?_
  · rintro i v st h tk own hin ⟨t, rfl⟩ _ hoff F N
    refine hturn i t st own h tk _ hin F N ?_
    intro t' m' h' tk' F' N'
    exact endS F' N' (fun y => if y = Str.ofString "k" then some (.int (0 + (i : Int)) t') else m' y) trivial (by walk_at "m33 same") (fun p hp => by simp only [List.mem_cons, List.mem_append] at hp ⊢; grind) (fun p hp => by simp only [List.mem_cons, List.mem_append]; grind) rfl
  · intro st u h tk _ F N
    exact hnext _ _ _ F N
end
end Mine
end
theorem Mine.anew_L_H {M : Model} {A : Around} {E : Value → Shared → Prop} {s : Shared} {env : Env} {Q : Flow → Shared → Prop} (h : Q .next s) : wpAny M A (execs [] env) Q E s := by
  w_top off
  first | (walk1; fail) | (w_top off; exact wpAny_execs_nil h)
section
namespace Mine
section
variable {w : World} {dp un : Nat} {gd : Option (List Code)} {base : Heap} {fr : List Env} {s : Shared} {Q E : Value → Shared → Prop}
local macro_rules | `(tactic| walk_at "m33 enter") => `(tactic| ((case k6 => k_is); (case k7 => k_is); (case k8 => omega); (case k9 => (intro kX9; first | exact BindsTo.of_eq rfl | exact binds_K kX9 rfl (by k_is) rfl rfl rfl)); (case c5 => decide); (case kB => exact locs rfl); (case c2 => exact rfl); (case c3 => exact rfl); (case c4 => exact rfl)))
local macro_rules | `(tactic| walk_at "exec For Name Name cons nil") => `(tactic| (k_here; (rename Fr _ _ _ _ => lF'); (with_unfolding_all refine' For_invVF lF' ?k1 ?k2 ?_; (case k1 => exact rfl); (case k2 => exact rfl); k_whole)))
local macro_rules | `(tactic| walk_at "pyIter ref") => `(tactic| ((with_reducible show wpAny _ _ (pyIter (Value.ref _)) (fun it s₂ => LoopAtV _ _ _ _ _ _ _ _ _ it s₂) _ _); refine Stop.out ?_))
local macro_rules | `(tactic| walk_at "call type:type") => `(tactic| ((with_reducible show wpAny _ _ (call (Value.type "type") [Value.bytes _ _]) _ _ _); refine type_bytes ?_))
local macro_rules | `(tactic| walk_at "getMethod str") => `(tactic| ((with_reducible show wpAny _ _ (getMethod (Value.str _ _) (PySem.Str.ofString "encode") _) _ _ _); with_reducible refine encode_method ?_))
local macro_rules | `(tactic| walk_at "storeName") => `(tactic| (k_here; k_dflt (first
  | ((with_reducible show wpAny _ _ (storeName _ _ (Value.int _ _)) _ _ _); refine' store_int ?F ?N ?_ ?a ?b; (case F => k_asm); (case N => k_asm); (case a => rfl); (case b => rfl); k_whole; intro t' tk' h' F' N'; (try dsimp only); (try k_sweep))
  | ((with_reducible show wpAny _ _ (storeName _ _ (Value.str _ _)) _ _ _); refine' store_str ?F ?N ?_ ?a ?b; (case F => k_asm); (case N => k_asm); (case a => rfl); (case b => rfl); k_whole; intro t' tk' h' F' N'; (try dsimp only); (try k_sweep))
  | ((with_reducible show wpAny _ _ (storeName _ _ (Value.bytes _ _)) _ _ _); refine' store_bytes ?F ?N ?_ ?a ?b; (case F => k_asm); (case N => k_asm); (case a => rfl); (case b => rfl); k_whole; intro t' tk' h' F' N'; (try dsimp only); (try k_sweep)))))
local macro_rules | `(tactic| walk_at "m33 go") => `(tactic| repeat' ((fail_if_success (with_reducible refine stopQ ?_)); first | (k_unfold; (try dsimp only)) | walk1 | (dsimp only; walk1) | (dsimp only; k_unfold; (try dsimp only)) | (leave1; walk_say "STEP leave1"; try dsimp only) | fail "no step"))
local macro_rules | `(tactic| walk_at "InvEndN") => `(tactic| refine Stop.out ?_)
local macro_rules | `(tactic| walk_at "InvEndA") => `(tactic| refine Stop.out ?_)
local macro_rules | `(tactic| walk_at "getMethod bytes") => `(tactic| ((with_reducible show wpAny _ _ (getMethod (Value.bytes _ _) (PySem.Str.ofString "translate") _) _ _ _); with_reducible refine translate_method ?_))
local macro_rules | `(tactic| walk_at "getMethod type:bytes") => `(tactic| (k_here; refine' method_type ?F ?X ?m (by decide +kernel) ?e ?h ?_; (case F => k_asm); (case X => k_asm); (case m => exact type_of_bytes); (case e => k_dflt k_is); (case h => k_handed)))
local macro_rules | `(tactic| walk_at "call builtin:bytes.maketrans") => `(tactic| (k_dflt (refine maketrans_call ?_); intro t' tk'; (try dsimp only)))
local macro_rules | `(tactic| units_room) => `(tactic| (simp only [Around.deeper_units]; omega))
local macro_rules | `(tactic| walk_at "m33 same") => `(tactic| (intro z hz; (try dsimp only); (repeat' split) <;> first | rfl | (exfalso; simp_all; done) | (simp_all; done)))
variable {mean : ExcName → Option Value} {mg mb : Str → Option Value} {L : Addr} {h : Heap} {m₀ : Str → Option Value} {tk : Nat} {rest : List Stmt} {sc : Scope} {Qf : Flow → Shared → Prop}
local macro_rules | `(tactic| walk_at "call ref") => `(tactic| (k_here; refine Stop.out ?_))
local macro_rules | `(tactic| walk_at "call builtin:len") => `(tactic| ((with_reducible show wpAny _ _ (call (Value.builtin "len") [Value.bytes (byteArr _) _]) _ _ _); refine len_arr (by omega) ?_; intro t' tk'; (try dsimp only)))
local macro_rules | `(tactic| walk_at "storeName") => `(tactic| (k_here; k_dflt ((with_reducible show wpAny _ _ (storeName _ _ (Value.int _ _)) _ _ _); refine' store_cint ?F ?N ?c ?U ?d ?_ ?a ?b; (case a => rfl); (case b => rfl); (case F => k_asm); (case N => k_asm); (case c => rfl); (case U => k_updF); (case d => k_asm); k_whole; intro t' tk' h' o' F' N' d'; (try dsimp only at N'); (try dsimp only); (try k_sweep))))
local macro_rules | `(tactic| walk_at "call builtin:str.encode") => `(tactic| ((with_reducible show wpAny _ _ (call (Value.builtin "str.encode") [Value.str _ _, Value.str (Str.ofString "ascii") _]) _ _ _); refine' encode_call ?ca ?cb ?_; (case ca => k_asm); (case cb => (simp only [sizeLine_eq]; omega)); intro t' tk'; (try dsimp only)))

noncomputable def lStmt (P : Params) (j : Nat) : Stmt := (forBody (stmtOf P 220 12)).getD j (.Pass default)
local macro_rules | `(tactic| walk_at "subscriptTail Name Name ref int") => `(tactic| (k_here; refine Stop.out ?_))

set_option maxRecDepth 100000 in
set_option maxHeartbeats 8000000 in
theorem segb0 {st0 st1 : Stmt} {Es Ns : Addr} {na ea : Array Value} {kn ke : Nat} {es : List (List Int)} {Ls : List (Addr × Obj)} {o1 o2 : Obj} {pl : Bool} {p : Int} {tp t1 t2 : Tok} {great host : Str} {i : Nat} {tk0 : Tok} (hsc : sc = scopeOf w.params 220) (hs0 : st0 = lStmt w.params 0) (hs1 : st1 = lStmt w.params 1)
    (hd1 : dp + 50 < recursionLimit) (hu1 : un + 500 < cLine) (C : LCtx w dp un gd base fr mean mg mb s.heap)
    (F : Fr s.heap L h (fun z => if z = Str.ofString "k" then some (.int (0 + (i : Int)) tk0) else if z = Str.ofString "plain" then some (.bool pl) else if z = Str.ofString "names" then some (.ref Ns) else if z = Str.ofString "ends" then some (.ref Es) else if z = Str.ofString "great" then some (.str great t1) else if z = Str.ofString "host" then some (.str host t2) else m₀ z)) (N : News s.heap L h ((Ns, listOf na kn) :: (Es, listOf ea ke) :: (L + 1 + 1, o2) :: (L + 1, o1) :: Ls))
    (c2 : o2.data = .cell (some (.int p tp))) (hE : EndsAt Ls ea.toList es) (hes : es.length ≤ 13) (hr : ∀ e ∈ es, (∀ n ∈ e, 0 ≤ n ∧ n < 64) ∧ e.length ≤ 12) (hNa : na.toList = es.map (fun e => .bool (named e p))) (hp0 : 0 ≤ p) (hp2 : p ≤ 2)
    (hi : i < es.length) (zS : (signs (es.getD i [])).length ≤ 12) (zM : (Txt.mul (Str.ofString "=") p).length ≤ 2)
    (hnext : ∀ t4 t5 h' tk', Fr s.heap L h' (fun z => if z = Str.ofString "dots" then some (.int ((es.length : Int) - 1 - (0 + (i : Int))) t4) else if z = Str.ofString "rest" then some (.str (signs (es.getD i []) ++ Txt.mul (Str.ofString "=") p) t5) else if z = Str.ofString "k" then some (.int (0 + (i : Int)) tk0) else if z = Str.ofString "plain" then some (.bool pl) else if z = Str.ofString "names" then some (.ref Ns) else if z = Str.ofString "ends" then some (.ref Es) else if z = Str.ofString "great" then some (.str great t1) else if z = Str.ofString "host" then some (.str host t2) else m₀ z) → News s.heap L h' ((Ns, listOf na kn) :: (Es, listOf ea ke) :: (L + 1 + 1, o2) :: (L + 1, o1) :: Ls) →
      wpAny (model prg w) ((AA dp un gd fr).deeper (LE sc L)) (execs rest (LE sc L)) Qf E { s with heap := h', toks := tk' }) :
    wpAny (model prg w) ((AA dp un gd fr).deeper (LE sc L)) (execs (st0 :: st1 :: rest) (LE sc L)) Qf E { s with heap := h, toks := tk } := by
  conv at hsc => rhs; whnf
  conv at hs0 => rhs; whnf
  conv at hs1 => rhs; whnf
  subst hsc hs0 hs1
  obtain ⟨GB, B, X, T, D⟩ := C
  have hsz : ea.size = es.length := by have := hE.length; simpa using this
  have hie : es[i]? = some (es.getD i []) := by simp [List.getD, List.getElem?_eq_getElem hi]
  obtain ⟨v', hv', a, ar, ka, rfl, hm, hia⟩ := hE.get hie
  obtain ⟨hr1, hr2⟩ := hr _ (List.mem_of_getElem? hie)
  generalize es.getD i [] = e at *
  have hm2 : (a, listOf ar ka) ∈ ((Ns, listOf na kn) :: (Es, listOf ea ke) :: (L + 1 + 1, o2) :: (L + 1, o1) :: Ls) := .tail _ (.tail _ (.tail _ (.tail _ hm)))
  walk_at "m33 go"
  unfold Stop
  (with_reducible rename Fr _ _ _ _ => lF)
  (with_reducible rename News _ _ _ _ => lN)
  refine item_list (News.isList lN (.tail _ (.head _))) (by omega) (by omega) (x := .ref a) (by rw [← Array.getElem?_toList, show (0 + (i : Int)).toNat = i by omega]; exact hv') ?_
  walk_at "m33 go"
  unfold Stop
  refine signs_spec (vs := ar.toList) (At.push GB B D lF rfl rfl) (by show dp + 1 + 10 < recursionLimit; omega) (by show un + 3 + 100 < cLine; omega) (by simpa using News.isList lN hm2) hia hr1 hr2 ?_
  intro t2 h2 tk2 st
  have F2 := Fr.stays lF st
  have N2 := News.stays lN st
  clear lF lN st
  dsimp only at F2 N2 ⊢
  walk_at "m33 go"
  exact hnext _ _ _ _ (by assumption) (by assumption)
end
end Mine
end
theorem Mine.anew_L_I {M : Model} {A : Around} {E : Value → Shared → Prop} {s : Shared} {env : Env} {Q : Flow → Shared → Prop} (h : Q .next s) : wpAny M A (execs [] env) Q E s := by
  w_top off
  first | (walk1; fail) | (w_top off; exact wpAny_execs_nil h)
section
namespace Mine
section
variable {w : World} {dp un : Nat} {gd : Option (List Code)} {base : Heap} {fr : List Env} {s : Shared} {Q E : Value → Shared → Prop}
local macro_rules | `(tactic| walk_at "m33 enter") => `(tactic| ((case k6 => k_is); (case k7 => k_is); (case k8 => omega); (case k9 => (intro kX9; first | exact BindsTo.of_eq rfl | exact binds_K kX9 rfl (by k_is) rfl rfl rfl)); (case c5 => decide); (case kB => exact locs rfl); (case c2 => exact rfl); (case c3 => exact rfl); (case c4 => exact rfl)))
local macro_rules | `(tactic| walk_at "exec For Name Name cons nil") => `(tactic| (k_here; (rename Fr _ _ _ _ => lF'); (with_unfolding_all refine' For_invVF lF' ?k1 ?k2 ?_; (case k1 => exact rfl); (case k2 => exact rfl); k_whole)))
local macro_rules | `(tactic| walk_at "pyIter ref") => `(tactic| ((with_reducible show wpAny _ _ (pyIter (Value.ref _)) (fun it s₂ => LoopAtV _ _ _ _ _ _ _ _ _ it s₂) _ _); refine Stop.out ?_))
local macro_rules | `(tactic| walk_at "call type:type") => `(tactic| ((with_reducible show wpAny _ _ (call (Value.type "type") [Value.bytes _ _]) _ _ _); refine type_bytes ?_))
local macro_rules | `(tactic| walk_at "getMethod str") => `(tactic| ((with_reducible show wpAny _ _ (getMethod (Value.str _ _) (PySem.Str.ofString "encode") _) _ _ _); with_reducible refine encode_method ?_))
local macro_rules | `(tactic| walk_at "storeName") => `(tactic| (k_here; k_dflt (first
  | ((with_reducible show wpAny _ _ (storeName _ _ (Value.int _ _)) _ _ _); refine' store_int ?F ?N ?_ ?a ?b; (case F => k_asm); (case N => k_asm); (case a => rfl); (case b => rfl); k_whole; intro t' tk' h' F' N'; (try dsimp only); (try k_sweep))
  | ((with_reducible show wpAny _ _ (storeName _ _ (Value.str _ _)) _ _ _); refine' store_str ?F ?N ?_ ?a ?b; (case F => k_asm); (case N => k_asm); (case a => rfl); (case b => rfl); k_whole; intro t' tk' h' F' N'; (try dsimp only); (try k_sweep))
  | ((with_reducible show wpAny _ _ (storeName _ _ (Value.bytes _ _)) _ _ _); refine' store_bytes ?F ?N ?_ ?a ?b; (case F => k_asm); (case N => k_asm); (case a => rfl); (case b => rfl); k_whole; intro t' tk' h' F' N'; (try dsimp only); (try k_sweep)))))
local macro_rules | `(tactic| walk_at "m33 go") => `(tactic| repeat' ((fail_if_success (with_reducible refine stopQ ?_)); first | (k_unfold; (try dsimp only)) | walk1 | (dsimp only; walk1) | (dsimp only; k_unfold; (try dsimp only)) | (leave1; walk_say "STEP leave1"; try dsimp only) | fail "no step"))
local macro_rules | `(tactic| walk_at "InvEndN") => `(tactic| refine Stop.out ?_)
local macro_rules | `(tactic| walk_at "InvEndA") => `(tactic| refine Stop.out ?_)
local macro_rules | `(tactic| walk_at "getMethod bytes") => `(tactic| ((with_reducible show wpAny _ _ (getMethod (Value.bytes _ _) (PySem.Str.ofString "translate") _) _ _ _); with_reducible refine translate_method ?_))
local macro_rules | `(tactic| walk_at "getMethod type:bytes") => `(tactic| (k_here; refine' method_type ?F ?X ?m (by decide +kernel) ?e ?h ?_; (case F => k_asm); (case X => k_asm); (case m => exact type_of_bytes); (case e => k_dflt k_is); (case h => k_handed)))
local macro_rules | `(tactic| walk_at "call builtin:bytes.maketrans") => `(tactic| (k_dflt (refine maketrans_call ?_); intro t' tk'; (try dsimp only)))
local macro_rules | `(tactic| units_room) => `(tactic| (simp only [Around.deeper_units]; omega))
local macro_rules | `(tactic| walk_at "m33 same") => `(tactic| (intro z hz; (try dsimp only); (repeat' split) <;> first | rfl | (exfalso; simp_all; done) | (simp_all; done)))
variable {mean : ExcName → Option Value} {mg mb : Str → Option Value} {L : Addr} {h : Heap} {m₀ : Str → Option Value} {tk : Nat} {rest : List Stmt} {sc : Scope} {Qf : Flow → Shared → Prop}
local macro_rules | `(tactic| walk_at "call ref") => `(tactic| (k_here; refine Stop.out ?_))
local macro_rules | `(tactic| walk_at "call builtin:len") => `(tactic| ((with_reducible show wpAny _ _ (call (Value.builtin "len") [Value.bytes (byteArr _) _]) _ _ _); refine len_arr (by omega) ?_; intro t' tk'; (try dsimp only)))
local macro_rules | `(tactic| walk_at "storeName") => `(tactic| (k_here; k_dflt ((with_reducible show wpAny _ _ (storeName _ _ (Value.int _ _)) _ _ _); refine' store_cint ?F ?N ?c ?U ?d ?_ ?a ?b; (case a => rfl); (case b => rfl); (case F => k_asm); (case N => k_asm); (case c => rfl); (case U => k_updF); (case d => k_asm); k_whole; intro t' tk' h' o' F' N' d'; (try dsimp only at N'); (try dsimp only); (try k_sweep))))
local macro_rules | `(tactic| walk_at "call builtin:str.encode") => `(tactic| ((with_reducible show wpAny _ _ (call (Value.builtin "str.encode") [Value.str _ _, Value.str (Str.ofString "ascii") _]) _ _ _); refine' encode_call ?ca ?cb ?_; (case ca => k_asm); (case cb => (simp only [sizeLine_eq]; omega)); intro t' tk'; (try dsimp only)))

local macro_rules | `(tactic| walk_at "subscriptTail Name UnaryOp ref int") => `(tactic| (k_here; refine Stop.out ?_))
local macro_rules | `(tactic| walk_at "compareOp Eq ref ref") => `(tactic| (k_here; refine Stop.out ?_))
abbrev lcl : List Int := [37, 40, 28, 26, 37]

set_option maxRecDepth 100000 in
set_option maxHeartbeats 8000000 in
theorem segb2 {st2 : Stmt} {Es Ns : Addr} {na ea : Array Value} {kn ke : Nat} {es : List (List Int)} {Ls : List (Addr × Obj)} {o1 o2 : Obj} {pl : Bool} {p : Int} {tp t1 t2 : Tok} {great host : Str} {i : Nat} {tk0 t4 t5 : Tok} {dv : Int} {rs : Str} {el : List Int} (hsc : sc = scopeOf w.params 220) (hs2 : st2 = lStmt w.params 2)
    (hd1 : dp + 50 < recursionLimit) (hu1 : un + 500 < cLine) (C : LCtx w dp un gd base fr mean mg mb s.heap)
    (F : Fr s.heap L h (fun z => if z = Str.ofString "dots" then some (.int dv t4) else if z = Str.ofString "rest" then some (.str rs t5) else if z = Str.ofString "k" then some (.int (0 + (i : Int)) tk0) else if z = Str.ofString "plain" then some (.bool pl) else if z = Str.ofString "names" then some (.ref Ns) else if z = Str.ofString "ends" then some (.ref Es) else if z = Str.ofString "great" then some (.str great t1) else if z = Str.ofString "host" then some (.str host t2) else m₀ z)) (N : News s.heap L h ((Ns, listOf na kn) :: (Es, listOf ea ke) :: (L + 1 + 1, o2) :: (L + 1, o1) :: Ls))
    (c2 : o2.data = .cell (some (.int p tp))) (hE : EndsAt Ls ea.toList es) (hes : es.length ≤ 13) (hr : ∀ e ∈ es, (∀ n ∈ e, 0 ≤ n ∧ n < 64) ∧ e.length ≤ 12) (hNa : na.toList = es.map (fun e => .bool (named e p))) (hp0 : 0 ≤ p) (hp2 : p ≤ 2)
    (hel : es[es.length - 1]? = some el)
    (hnext : ∀ (t4 t5 : Tok) h' tk', Fr s.heap L h' (fun z => if z = Str.ofString "local" then some (.bool (decide (dv = 1) && decide (p = 0) && decide (el = lcl))) else if z = Str.ofString "dots" then some (.int dv t4) else if z = Str.ofString "rest" then some (.str rs t5) else if z = Str.ofString "k" then some (.int (0 + (i : Int)) tk0) else if z = Str.ofString "plain" then some (.bool pl) else if z = Str.ofString "names" then some (.ref Ns) else if z = Str.ofString "ends" then some (.ref Es) else if z = Str.ofString "great" then some (.str great t1) else if z = Str.ofString "host" then some (.str host t2) else m₀ z) → News s.heap L h' ((Ns, listOf na kn) :: (Es, listOf ea ke) :: (L + 1 + 1, o2) :: (L + 1, o1) :: Ls) →
      wpAny (model prg w) ((AA dp un gd fr).deeper (LE sc L)) (execs rest (LE sc L)) Qf E { s with heap := h', toks := tk' }) :
    wpAny (model prg w) ((AA dp un gd fr).deeper (LE sc L)) (execs (st2 :: rest) (LE sc L)) Qf E { s with heap := h, toks := tk } := by
  conv at hsc => rhs; whnf
  conv at hs2 => rhs; whnf
  subst hsc hs2
  obtain ⟨GB, B, X, T, D⟩ := C
  have hsz : ea.size = es.length := by have := hE.length; simpa using this
  have hq : ∀ b h' tk', b = (decide (dv = 1) && decide (p = 0) && decide (el = lcl)) → Fr s.heap L h' (fun z => if z = Str.ofString "local" then some (.bool b) else if z = Str.ofString "dots" then some (.int dv t4) else if z = Str.ofString "rest" then some (.str rs t5) else if z = Str.ofString "k" then some (.int (0 + (i : Int)) tk0) else if z = Str.ofString "plain" then some (.bool pl) else if z = Str.ofString "names" then some (.ref Ns) else if z = Str.ofString "ends" then some (.ref Es) else if z = Str.ofString "great" then some (.str great t1) else if z = Str.ofString "host" then some (.str host t2) else m₀ z) → News s.heap L h' ((Ns, listOf na kn) :: (Es, listOf ea ke) :: (L + 1 + 1, o2) :: (L + 1, o1) :: Ls) → _ := fun b h' tk' e F N => hnext t4 t5 h' tk' (e ▸ F) N
  clear hnext
  obtain ⟨v', hv', a, ar, ka, rfl, hm, hia⟩ := hE.get hel
  obtain ⟨hr1, hr2⟩ := hr _ (List.mem_of_getElem? hel)
  have hpos : 0 < es.length := by
    cases es with
    | nil => simp at hel
    | cons _ _ => simp
  have hm2 : (a, listOf ar ka) ∈ ((Ns, listOf na kn) :: (Es, listOf ea ke) :: (L + 1 + 1, o2) :: (L + 1, o1) :: Ls) := .tail _ (.tail _ (.tail _ (.tail _ hm)))
  walk_at "m33 go"
  · unfold Stop
    (with_reducible rename Fr _ _ _ _ => lF)
    (with_reducible rename News _ _ _ _ => lN)
    refine kde_neg (vs := ea.toList) (by simpa using News.isList lN (.tail _ (.head _))) (by decide) (by decide) (seqIndex?_neg_one (by simp; omega)) (by rw [Array.length_toList, hsz]; exact hv') ?_
    walk_at "m33 go"
    unfold Stop
    (with_reducible rename News _ _ _ _ => lN2)
    refine eq_intsK (News.isList lN2 (.tail _ hm2)) hia (News.isList lN2 (.head _)) (.cons _ _ (.cons _ _ (.cons _ _ (.cons _ _ (.cons _ _ .nil))))) (by simp only [Around.deeper_units]; omega) ?_
    walk_at "m33 go"
    (with_reducible rename News _ _ _ _ => lN3)
    refine hq _ _ _ ?_ (by assumption) (fun p hp => lN3 p (.tail _ hp))
    simp only [decide_eq_true (by assumption : dv = 1), decide_eq_true (by assumption : p = 0), Bool.true_and]
  · refine hq _ _ _ ?_ (by assumption) (by assumption)
    have hx1 : p ≠ 0 := by assumption
    rw [beq_false_of_ne hx1]; simp only [decide_eq_false hx1, Bool.and_false, Bool.false_and]
  · refine hq _ _ _ ?_ (by assumption) (by assumption)
    have hx1 : dv ≠ 1 := by assumption
    rw [beq_false_of_ne hx1]; simp only [decide_eq_false hx1, Bool.and_false, Bool.false_and]
end
end Mine
end
theorem Mine.anew_L_J {M : Model} {A : Around} {E : Value → Shared → Prop} {s : Shared} {env : Env} {Q : Flow → Shared → Prop} (h : Q .next s) : wpAny M A (execs [] env) Q E s := by
  w_top off
  first | (walk1; fail) | (w_top off; exact wpAny_execs_nil h)
section
namespace Mine
section
variable {w : World} {dp un : Nat} {gd : Option (List Code)} {base : Heap} {fr : List Env} {s : Shared} {Q E : Value → Shared → Prop}
local macro_rules | `(tactic| walk_at "m33 enter") => `(tactic| ((case k6 => k_is); (case k7 => k_is); (case k8 => omega); (case k9 => (intro kX9; first | exact BindsTo.of_eq rfl | exact binds_K kX9 rfl (by k_is) rfl rfl rfl)); (case c5 => decide); (case kB => exact locs rfl); (case c2 => exact rfl); (case c3 => exact rfl); (case c4 => exact rfl)))
local macro_rules | `(tactic| walk_at "exec For Name Name cons nil") => `(tactic| (k_here; (rename Fr _ _ _ _ => lF'); (with_unfolding_all refine' For_invVF lF' ?k1 ?k2 ?_; (case k1 => exact rfl); (case k2 => exact rfl); k_whole)))
local macro_rules | `(tactic| walk_at "pyIter ref") => `(tactic| ((with_reducible show wpAny _ _ (pyIter (Value.ref _)) (fun it s₂ => LoopAtV _ _ _ _ _ _ _ _ _ it s₂) _ _); refine Stop.out ?_))
local macro_rules | `(tactic| walk_at "call type:type") => `(tactic| ((with_reducible show wpAny _ _ (call (Value.type "type") [Value.bytes _ _]) _ _ _); refine type_bytes ?_))
local macro_rules | `(tactic| walk_at "getMethod str") => `(tactic| ((with_reducible show wpAny _ _ (getMethod (Value.str _ _) (PySem.Str.ofString "encode") _) _ _ _); with_reducible refine encode_method ?_))
local macro_rules | `(tactic| walk_at "storeName") => `(tactic| (k_here; k_dflt (first
  | ((with_reducible show wpAny _ _ (storeName _ _ (Value.int _ _)) _ _ _); refine' store_int ?F ?N ?_ ?a ?b; (case F => k_asm); (case N => k_asm); (case a => rfl); (case b => rfl); k_whole; intro t' tk' h' F' N'; (try dsimp only); (try k_sweep))
  | ((with_reducible show wpAny _ _ (storeName _ _ (Value.str _ _)) _ _ _); refine' store_str ?F ?N ?_ ?a ?b; (case F => k_asm); (case N => k_asm); (case a => rfl); (case b => rfl); k_whole; intro t' tk' h' F' N'; (try dsimp only); (try k_sweep))
  | ((with_reducible show wpAny _ _ (storeName _ _ (Value.bytes _ _)) _ _ _); refine' store_bytes ?F ?N ?_ ?a ?b; (case F => k_asm); (case N => k_asm); (case a => rfl); (case b => rfl); k_whole; intro t' tk' h' F' N'; (try dsimp only); (try k_sweep)))))
local macro_rules | `(tactic| walk_at "m33 go") => `(tactic| repeat' ((fail_if_success (with_reducible refine stopQ ?_)); first | (k_unfold; (try dsimp only)) | walk1 | (dsimp only; walk1) | (dsimp only; k_unfold; (try dsimp only)) | (leave1; walk_say "STEP leave1"; try dsimp only) | fail "no step"))
local macro_rules | `(tactic| walk_at "InvEndN") => `(tactic| refine Stop.out ?_)
local macro_rules | `(tactic| walk_at "InvEndA") => `(tactic| refine Stop.out ?_)
local macro_rules | `(tactic| walk_at "getMethod bytes") => `(tactic| ((with_reducible show wpAny _ _ (getMethod (Value.bytes _ _) (PySem.Str.ofString "translate") _) _ _ _); with_reducible refine translate_method ?_))
local macro_rules | `(tactic| walk_at "getMethod type:bytes") => `(tactic| (k_here; refine' method_type ?F ?X ?m (by decide +kernel) ?e ?h ?_; (case F => k_asm); (case X => k_asm); (case m => exact type_of_bytes); (case e => k_dflt k_is); (case h => k_handed)))
local macro_rules | `(tactic| walk_at "call builtin:bytes.maketrans") => `(tactic| (k_dflt (refine maketrans_call ?_); intro t' tk'; (try dsimp only)))
local macro_rules | `(tactic| units_room) => `(tactic| (simp only [Around.deeper_units]; omega))
local macro_rules | `(tactic| walk_at "m33 same") => `(tactic| (intro z hz; (try dsimp only); (repeat' split) <;> first | rfl | (exfalso; simp_all; done) | (simp_all; done)))
variable {mean : ExcName → Option Value} {mg mb : Str → Option Value} {L : Addr} {h : Heap} {m₀ : Str → Option Value} {tk : Nat} {rest : List Stmt} {sc : Scope} {Qf : Flow → Shared → Prop}
local macro_rules | `(tactic| walk_at "call ref") => `(tactic| (k_here; refine Stop.out ?_))
local macro_rules | `(tactic| walk_at "call builtin:len") => `(tactic| ((with_reducible show wpAny _ _ (call (Value.builtin "len") [Value.bytes (byteArr _) _]) _ _ _); refine len_arr (by omega) ?_; intro t' tk'; (try dsimp only)))
local macro_rules | `(tactic| walk_at "storeName") => `(tactic| (k_here; k_dflt ((with_reducible show wpAny _ _ (storeName _ _ (Value.int _ _)) _ _ _); refine' store_cint ?F ?N ?c ?U ?d ?_ ?a ?b; (case a => rfl); (case b => rfl); (case F => k_asm); (case N => k_asm); (case c => rfl); (case U => k_updF); (case d => k_asm); k_whole; intro t' tk' h' o' F' N' d'; (try dsimp only at N'); (try dsimp only); (try k_sweep))))
local macro_rules | `(tactic| walk_at "call builtin:str.encode") => `(tactic| ((with_reducible show wpAny _ _ (call (Value.builtin "str.encode") [Value.str _ _, Value.str (Str.ofString "ascii") _]) _ _ _); refine' encode_call ?ca ?cb ?_; (case ca => k_asm); (case cb => (simp only [sizeLine_eq]; omega)); intro t' tk'; (try dsimp only)))

local macro_rules | `(tactic| walk_at "subscriptTail Name Name ref int") => `(tactic| (k_here; refine Stop.out ?_))
local macro_rules | `(tactic| walk_at "subscriptTail Name BinOp ref int") => `(tactic| (k_here; refine Stop.out ?_))
theorem ite_dup {z a : Str} {x y m : Option Value} : (if z = a then x else if z = a then y else m) = if z = a then x else m := by split <;> rfl
theorem names_at {na : Array Value} {es : List (List Int)} {p : Int} {i : Nat} (h : na.toList = es.map (fun e => .bool (named e p))) (hi : i < es.length) : na[i]? = some (.bool (named (es.getD i []) p)) := by
  rw [← Array.getElem?_toList, h, List.getElem?_map, List.getElem?_eq_getElem hi]
  simp [List.getD, List.getElem?_eq_getElem hi]

set_option maxRecDepth 100000 in
set_option maxHeartbeats 8000000 in
theorem segb3 {st3 st4 : Stmt} {Es Ns : Addr} {na ea : Array Value} {kn ke : Nat} {es : List (List Int)} {Ls : List (Addr × Obj)} {o1 o2 : Obj} {pl : Bool} {p : Int} {tp t1 t2 : Tok} {great host : Str} {i : Nat} {tk0 t4 t5 : Tok} {dv : Int} {rs : Str} {lc : Bool} (hsc : sc = scopeOf w.params 220) (hs3 : st3 = lStmt w.params 3) (hs4 : st4 = lStmt w.params 4)
    (hd1 : dp + 50 < recursionLimit) (hu1 : un + 500 < cLine) (C : LCtx w dp un gd base fr mean mg mb s.heap)
    (F : Fr s.heap L h (fun z => if z = Str.ofString "local" then some (.bool lc) else if z = Str.ofString "dots" then some (.int dv t4) else if z = Str.ofString "rest" then some (.str rs t5) else if z = Str.ofString "k" then some (.int (0 + (i : Int)) tk0) else if z = Str.ofString "plain" then some (.bool pl) else if z = Str.ofString "names" then some (.ref Ns) else if z = Str.ofString "ends" then some (.ref Es) else if z = Str.ofString "great" then some (.str great t1) else if z = Str.ofString "host" then some (.str host t2) else m₀ z)) (N : News s.heap L h ((Ns, listOf na kn) :: (Es, listOf ea ke) :: (L + 1 + 1, o2) :: (L + 1, o1) :: Ls))
    (c2 : o2.data = .cell (some (.int p tp))) (hE : EndsAt Ls ea.toList es) (hes : es.length ≤ 13) (hr : ∀ e ∈ es, (∀ n ∈ e, 0 ≤ n ∧ n < 64) ∧ e.length ≤ 12) (hNa : na.toList = es.map (fun e => .bool (named e p))) (hp0 : 0 ≤ p) (hp2 : p ≤ 2)
    (hi : i < es.length) (hdv : dv = (es.length : Int) - 1 - i) (hlc : lc = true → dv = 1) (zS : (signs (es.getD (i + 1) [])).length ≤ 12) (zM : (Txt.mul (Str.ofString "=") p).length ≤ 2)
    (hnext : ∀ (t6 t4 t5 : Tok) h' tk', Fr s.heap L h' (fun z => if z = Str.ofString "due" then some (.str (if (named (es.getD i []) p && (decide (1 < dv) || lc)) = true then Str.ofString "." ++ signs (es.getD (i + 1) []) ++ Txt.mul (Str.ofString "=") p else rs) t6) else if z = Str.ofString "local" then some (.bool lc) else if z = Str.ofString "dots" then some (.int dv t4) else if z = Str.ofString "rest" then some (.str rs t5) else if z = Str.ofString "k" then some (.int (0 + (i : Int)) tk0) else if z = Str.ofString "plain" then some (.bool pl) else if z = Str.ofString "names" then some (.ref Ns) else if z = Str.ofString "ends" then some (.ref Es) else if z = Str.ofString "great" then some (.str great t1) else if z = Str.ofString "host" then some (.str host t2) else m₀ z) → News s.heap L h' ((Ns, listOf na kn) :: (Es, listOf ea ke) :: (L + 1 + 1, o2) :: (L + 1, o1) :: Ls) →
      wpAny (model prg w) ((AA dp un gd fr).deeper (LE sc L)) (execs rest (LE sc L)) Qf E { s with heap := h', toks := tk' }) :
    wpAny (model prg w) ((AA dp un gd fr).deeper (LE sc L)) (execs (st3 :: st4 :: rest) (LE sc L)) Qf E { s with heap := h, toks := tk } := by
  conv at hsc => rhs; whnf
  conv at hs3 => rhs; whnf
  conv at hs4 => rhs; whnf
  subst hsc hs3 hs4
  obtain ⟨GB, B, X, T, D⟩ := C
  have hsz : ea.size = es.length := by have := hE.length; simpa using this
  have hq : ∀ v t6 h' tk', v = (if (named (es.getD i []) p && (decide (1 < dv) || lc)) = true then Str.ofString "." ++ signs (es.getD (i + 1) []) ++ Txt.mul (Str.ofString "=") p else rs) → Fr s.heap L h' (fun z => if z = Str.ofString "due" then some (.str v t6) else if z = Str.ofString "local" then some (.bool lc) else if z = Str.ofString "dots" then some (.int dv t4) else if z = Str.ofString "rest" then some (.str rs t5) else if z = Str.ofString "k" then some (.int (0 + (i : Int)) tk0) else if z = Str.ofString "plain" then some (.bool pl) else if z = Str.ofString "names" then some (.ref Ns) else if z = Str.ofString "ends" then some (.ref Es) else if z = Str.ofString "great" then some (.str great t1) else if z = Str.ofString "host" then some (.str host t2) else m₀ z) → News s.heap L h' ((Ns, listOf na kn) :: (Es, listOf ea ke) :: (L + 1 + 1, o2) :: (L + 1, o1) :: Ls) → _ := fun v t6 h' tk' e F N => hnext t6 t4 t5 h' tk' (e ▸ F) N
  clear hnext
  have e0 : (0 + (i : Int)).toNat = i := by omega
  have hn := names_at hNa hi
  walk_at "m33 go"
  unfold Stop
  (with_reducible rename Fr _ _ _ _ => lF)
  (with_reducible rename News _ _ _ _ => lN)
  refine item_list (News.isList lN (.head _)) (by omega) (by omega) (x := .bool (named (es.getD i []) p)) (by rw [e0]; exact hn) ?_
  generalize named (es.getD i []) p = nb at *
  walk_at "m33 go"
  · unfold Stop
    have hi1 : i + 1 < es.length := by first | omega | (have := hlc (by assumption); omega)
    have hie : es[i + 1]? = some (es.getD (i + 1) []) := by simp [List.getD, List.getElem?_eq_getElem hi1]
    obtain ⟨v', hv', a, ar, ka, rfl, hm, hia⟩ := hE.get hie
    obtain ⟨hr1, hr2⟩ := hr _ (List.mem_of_getElem? hie)
    refine item_list (News.isList lN (.tail _ (.head _))) (by omega) (by omega) (x := .ref a) (by rw [← Array.getElem?_toList, show (0 + (i : Int) + 1).toNat = i + 1 by omega]; exact hv') ?_
    walk_at "m33 go"
    unfold Stop
    refine signs_spec (vs := ar.toList) (At.push GB B D lF rfl rfl) (by show dp + 1 + 10 < recursionLimit; omega) (by show un + 3 + 100 < cLine; omega) (by simpa using News.isList lN (.tail _ (.tail _ (.tail _ (.tail _ hm))))) hia hr1 hr2 ?_
    intro t2 h2 tk2 st
    have F2 := Fr.stays lF st
    have N2 := News.stays lN st
    clear lF lN st
    dsimp only at F2 N2 ⊢
    walk_at "m33 go"
    (with_reducible rename Fr _ _ _ _ => lF5)
    simp only [ite_dup] at lF5
    refine hq _ _ _ _ ?_ (by assumption) (by assumption)
    rw [if_pos (by rw [‹nb = true›, decide_eq_true ‹1 < dv›]; rfl)]
  · unfold Stop
    have hi1 : i + 1 < es.length := by first | omega | (have := hlc (by assumption); omega)
    have hie : es[i + 1]? = some (es.getD (i + 1) []) := by simp [List.getD, List.getElem?_eq_getElem hi1]
    obtain ⟨v', hv', a, ar, ka, rfl, hm, hia⟩ := hE.get hie
    obtain ⟨hr1, hr2⟩ := hr _ (List.mem_of_getElem? hie)
    refine item_list (News.isList lN (.tail _ (.head _))) (by omega) (by omega) (x := .ref a) (by rw [← Array.getElem?_toList, show (0 + (i : Int) + 1).toNat = i + 1 by omega]; exact hv') ?_
    walk_at "m33 go"
    unfold Stop
    refine signs_spec (vs := ar.toList) (At.push GB B D lF rfl rfl) (by show dp + 1 + 10 < recursionLimit; omega) (by show un + 3 + 100 < cLine; omega) (by simpa using News.isList lN (.tail _ (.tail _ (.tail _ (.tail _ hm))))) hia hr1 hr2 ?_
    intro t2 h2 tk2 st
    have F2 := Fr.stays lF st
    have N2 := News.stays lN st
    clear lF lN st
    dsimp only at F2 N2 ⊢
    walk_at "m33 go"
    (with_reducible rename Fr _ _ _ _ => lF5)
    simp only [ite_dup] at lF5
    refine hq _ _ _ _ ?_ (by assumption) (by assumption)
    rw [if_pos (by rw [‹nb = true›, ‹lc = true›]; simp)]
  · refine hq _ _ _ _ ?_ (by assumption) (by assumption)
    rw [if_neg (by rw [‹lc = false›, decide_eq_false ‹¬ 1 < dv›]; simp)]
  · refine hq _ _ _ _ ?_ (by assumption) (by assumption)
    rw [if_neg (by rw [‹nb = false›]; simp)]
end
end Mine
end
theorem Mine.anew_L_K {M : Model} {A : Around} {E : Value → Shared → Prop} {s : Shared} {env : Env} {Q : Flow → Shared → Prop} (h : Q .next s) : wpAny M A (execs [] env) Q E s := by
  w_top off
  first | (walk1; fail) | (w_top off; exact wpAny_execs_nil h)
section
namespace Mine
section
variable {w : World} {dp un : Nat} {gd : Option (List Code)} {base : Heap} {fr : List Env} {s : Shared} {Q E : Value → Shared → Prop}
local macro_rules | `(tactic| walk_at "m33 enter") => `(tactic| ((case k6 => k_is); (case k7 => k_is); (case k8 => omega); (case k9 => (intro kX9; first | exact BindsTo.of_eq rfl | exact binds_K kX9 rfl (by k_is) rfl rfl rfl)); (case c5 => decide); (case kB => exact locs rfl); (case c2 => exact rfl); (case c3 => exact rfl); (case c4 => exact rfl)))
local macro_rules | `(tactic| walk_at "exec For Name Name cons nil") => `(tactic| (k_here; (rename Fr _ _ _ _ => lF'); (with_unfolding_all refine' For_invVF lF' ?k1 ?k2 ?_; (case k1 => exact rfl); (case k2 => exact rfl); k_whole)))
local macro_rules | `(tactic| walk_at "pyIter ref") => `(tactic| ((with_reducible show wpAny _ _ (pyIter (Value.ref _)) (fun it s₂ => LoopAtV _ _ _ _ _ _ _ _ _ it s₂) _ _); refine Stop.out ?_))
local macro_rules | `(tactic| walk_at "call type:type") => `(tactic| ((with_reducible show wpAny _ _ (call (Value.type "type") [Value.bytes _ _]) _ _ _); refine type_bytes ?_))
local macro_rules | `(tactic| walk_at "getMethod str") => `(tactic| ((with_reducible show wpAny _ _ (getMethod (Value.str _ _) (PySem.Str.ofString "encode") _) _ _ _); with_reducible refine encode_method ?_))
local macro_rules | `(tactic| walk_at "storeName") => `(tactic| (k_here; k_dflt (first
  | ((with_reducible show wpAny _ _ (storeName _ _ (Value.int _ _)) _ _ _); refine' store_int ?F ?N ?_ ?a ?b; (case F => k_asm); (case N => k_asm); (case a => rfl); (case b => rfl); k_whole; intro t' tk' h' F' N'; (try dsimp only); (try k_sweep))
  | ((with_reducible show wpAny _ _ (storeName _ _ (Value.str _ _)) _ _ _); refine' store_str ?F ?N ?_ ?a ?b; (case F => k_asm); (case N => k_asm); (case a => rfl); (case b => rfl); k_whole; intro t' tk' h' F' N'; (try dsimp only); (try k_sweep))
  | ((with_reducible show wpAny _ _ (storeName _ _ (Value.bytes _ _)) _ _ _); refine' store_bytes ?F ?N ?_ ?a ?b; (case F => k_asm); (case N => k_asm); (case a => rfl); (case b => rfl); k_whole; intro t' tk' h' F' N'; (try dsimp only); (try k_sweep)))))
local macro_rules | `(tactic| walk_at "m33 go") => `(tactic| repeat' ((fail_if_success (with_reducible refine stopQ ?_)); first | (k_unfold; (try dsimp only)) | walk1 | (dsimp only; walk1) | (dsimp only; k_unfold; (try dsimp only)) | (leave1; walk_say "STEP leave1"; try dsimp only) | fail "no step"))
local macro_rules | `(tactic| walk_at "InvEndN") => `(tactic| refine Stop.out ?_)
local macro_rules | `(tactic| walk_at "InvEndA") => `(tactic| refine Stop.out ?_)
local macro_rules | `(tactic| walk_at "getMethod bytes") => `(tactic| ((with_reducible show wpAny _ _ (getMethod (Value.bytes _ _) (PySem.Str.ofString "translate") _) _ _ _); with_reducible refine translate_method ?_))
local macro_rules | `(tactic| walk_at "getMethod type:bytes") => `(tactic| (k_here; refine' method_type ?F ?X ?m (by decide +kernel) ?e ?h ?_; (case F => k_asm); (case X => k_asm); (case m => exact type_of_bytes); (case e => k_dflt k_is); (case h => k_handed)))
local macro_rules | `(tactic| walk_at "call builtin:bytes.maketrans") => `(tactic| (k_dflt (refine maketrans_call ?_); intro t' tk'; (try dsimp only)))
local macro_rules | `(tactic| units_room) => `(tactic| (simp only [Around.deeper_units]; omega))
local macro_rules | `(tactic| walk_at "m33 same") => `(tactic| (intro z hz; (try dsimp only); (repeat' split) <;> first | rfl | (exfalso; simp_all; done) | (simp_all; done)))
variable {mean : ExcName → Option Value} {mg mb : Str → Option Value} {L : Addr} {h : Heap} {m₀ : Str → Option Value} {tk : Nat} {rest : List Stmt} {sc : Scope} {Qf : Flow → Shared → Prop}
local macro_rules | `(tactic| walk_at "call ref") => `(tactic| (k_here; refine Stop.out ?_))
local macro_rules | `(tactic| walk_at "call builtin:len") => `(tactic| ((with_reducible show wpAny _ _ (call (Value.builtin "len") [Value.bytes (byteArr _) _]) _ _ _); refine len_arr (by omega) ?_; intro t' tk'; (try dsimp only)))
local macro_rules | `(tactic| walk_at "storeName") => `(tactic| (k_here; k_dflt ((with_reducible show wpAny _ _ (storeName _ _ (Value.int _ _)) _ _ _); refine' store_cint ?F ?N ?c ?U ?d ?_ ?a ?b; (case a => rfl); (case b => rfl); (case F => k_asm); (case N => k_asm); (case c => rfl); (case U => k_updF); (case d => k_asm); k_whole; intro t' tk' h' o' F' N' d'; (try dsimp only at N'); (try dsimp only); (try k_sweep))))
local macro_rules | `(tactic| walk_at "call builtin:str.encode") => `(tactic| ((with_reducible show wpAny _ _ (call (Value.builtin "str.encode") [Value.str _ _, Value.str (Str.ofString "ascii") _]) _ _ _); refine' encode_call ?ca ?cb ?_; (case ca => k_asm); (case cb => (simp only [sizeLine_eq]; omega)); intro t' tk'; (try dsimp only)))

local macro_rules | `(tactic| walk_at "subscriptTail Name Name ref int") => `(tactic| (k_here; refine Stop.out ?_))

set_option maxRecDepth 100000 in
set_option maxHeartbeats 8000000 in
theorem segb5 {st5 : Stmt} {Es Ns : Addr} {na ea : Array Value} {kn ke : Nat} {es : List (List Int)} {Ls : List (Addr × Obj)} {o1 o2 : Obj} {pl : Bool} {p : Int} {tp t1 t2 : Tok} {great host : Str} {i : Nat} {tk0 t4 t5 t6 : Tok} {dv : Int} {rs ds rl : Str} {lc : Bool} (hsc : sc = scopeOf w.params 220) (hs5 : st5 = lStmt w.params 5)
    (hd1 : dp + 50 < recursionLimit) (hu1 : un + 500 < cLine) (C : LCtx w dp un gd base [] mean mg mb s.heap)
    (F : Fr s.heap L h (fun z => if z = Str.ofString "due" then some (.str ds t6) else if z = Str.ofString "local" then some (.bool lc) else if z = Str.ofString "dots" then some (.int dv t4) else if z = Str.ofString "rest" then some (.str rs t5) else if z = Str.ofString "k" then some (.int (0 + (i : Int)) tk0) else if z = Str.ofString "plain" then some (.bool pl) else if z = Str.ofString "names" then some (.ref Ns) else if z = Str.ofString "ends" then some (.ref Es) else if z = Str.ofString "great" then some (.str great t1) else if z = Str.ofString "host" then some (.str host t2) else m₀ z)) (N : News s.heap L h ((Ns, listOf na kn) :: (Es, listOf ea ke) :: (L + 1 + 1, o2) :: (L + 1, o1) :: Ls))
    (c2 : o2.data = .cell (some (.int p tp))) (hE : EndsAt Ls ea.toList es) (hes : es.length ≤ 13) (hr : ∀ e ∈ es, (∀ n ∈ e, 0 ≤ n ∧ n < 64) ∧ e.length ≤ 12) (hNa : na.toList = es.map (fun e => .bool (named e p))) (hp0 : 0 ≤ p) (hp2 : p ≤ 2)
    (hi : i < es.length) (ok : OkS rs rl) (hre : reachS rs = ds) (hto : decT rs = readOf (es.getD i []) p)
    (hnext : ∀ (t6 t4 t5 : Tok) h' tk', Fr s.heap L h' (fun z => if z = Str.ofString "due" then some (.str ds t6) else if z = Str.ofString "local" then some (.bool lc) else if z = Str.ofString "dots" then some (.int dv t4) else if z = Str.ofString "rest" then some (.str rs t5) else if z = Str.ofString "k" then some (.int (0 + (i : Int)) tk0) else if z = Str.ofString "plain" then some (.bool pl) else if z = Str.ofString "names" then some (.ref Ns) else if z = Str.ofString "ends" then some (.ref Es) else if z = Str.ofString "great" then some (.str great t1) else if z = Str.ofString "host" then some (.str host t2) else m₀ z) → News s.heap L h' ((Ns, listOf na kn) :: (Es, listOf ea ke) :: (L + 1 + 1, o2) :: (L + 1, o1) :: Ls) →
      wpAny (model prg w) ((AA dp un gd []).deeper (LE sc L)) (execs rest (LE sc L)) Qf E { s with heap := h', toks := tk' }) :
    wpAny (model prg w) ((AA dp un gd []).deeper (LE sc L)) (execs (st5 :: rest) (LE sc L)) Qf E { s with heap := h, toks := tk } := by
  conv at hsc => rhs; whnf
  conv at hs5 => rhs; whnf
  subst hsc hs5
  obtain ⟨GB, B, X, T, D⟩ := C
  have hsz : ea.size = es.length := by have := hE.length; simpa using this
  have hie : es[i]? = some (es.getD i []) := by simp [List.getD, List.getElem?_eq_getElem hi]
  obtain ⟨v', hv', a, ar, ka, rfl, hm, hia⟩ := hE.get hie
  obtain ⟨hr1, hr2⟩ := hr _ (List.mem_of_getElem? hie)
  generalize es.getD i [] = e at *
  walk_at "m33 go"
  unfold Stop
  (with_reducible rename Fr _ _ _ _ => lF)
  (with_reducible rename News _ _ _ _ => lN)
  refine reach_spec (At.push GB B D lF rfl rfl) (by show dp + 1 + 20 < recursionLimit; omega) (by show un + 3 + 200 < cLine; omega) ok.z ok.n ?_
  intro t2 h2 tk2 st
  have F2 := Fr.stays lF st
  have N2 := News.stays lN st
  clear lF lN st
  rw [hre]
  dsimp only at F2 N2 ⊢
  walk_at "m33 go"
  · exact absurd ‹(ds != ds) = true› (by simp)
  unfold Stop
  (with_reducible rename Fr _ _ _ _ => lF)
  (with_reducible rename News _ _ _ _ => lN)
  refine told_spec (At.push GB B D lF rfl rfl) (by show dp + 1 + 40 < recursionLimit; omega) (by show un + 3 + 400 < cLine; omega) ok.a ok.z ?_
  intro t3 g3 h3 tk3 tu st
  have F3 := Fr.turn lF tu st
  have N3 := News.turn lN tu st
  clear lF lN st tu
  rw [hto]
  dsimp only at F3 N3 ⊢
  walk_at "m33 go"
  unfold Stop
  (with_reducible rename Fr _ _ _ _ => lF)
  (with_reducible rename News _ _ _ _ => lN)
  refine item_list (News.isList lN (.tail _ (.head _))) (by omega) (by omega) (x := .ref a) (by rw [← Array.getElem?_toList, show (0 + (i : Int)).toNat = i by omega]; exact hv') ?_
  walk_at "m33 go"
  unfold Stop
  refine read_spec (vs := ar.toList) (At.push GB B D lF rfl rfl) (by show dp + 1 + 20 < recursionLimit; omega) (by show un + 3 + 200 < cLine; omega) (by simpa using News.isList lN (.tail _ (.tail _ (.tail _ (.tail _ hm))))) hia hr1 hr2 hp0 hp2 ?_
  intro t4 h4 tk4 st
  have F4 := Fr.stays lF st
  have N4 := News.stays lN st
  clear lF lN st hto
  dsimp only at F4 N4 ⊢
  cases readOf e p with
  | none =>
    dsimp only [optV]
    walk_at "m33 go"
    exact hnext _ _ _ _ _ (by assumption) (by assumption)
  | some out =>
    dsimp only [optV]
    walk_at "m33 go"
    · exact absurd ‹(_ != _) = true› (by simp)
    · exact hnext _ _ _ _ _ (by assumption) (by assumption)
end
end Mine
end
theorem Mine.anew_L_M {M : Model} {A : Around} {E : Value → Shared → Prop} {s : Shared} {env : Env} {Q : Flow → Shared → Prop} (h : Q .next s) : wpAny M A (execs [] env) Q E s := by
  w_top off
  first | (walk1; fail) | (w_top off; exact wpAny_execs_nil h)
section
namespace Mine
section
variable {w : World} {dp un : Nat} {gd : Option (List Code)} {base : Heap} {fr : List Env} {s : Shared} {Q E : Value → Shared → Prop}
local macro_rules | `(tactic| walk_at "m33 enter") => `(tactic| ((case k6 => k_is); (case k7 => k_is); (case k8 => omega); (case k9 => (intro kX9; first | exact BindsTo.of_eq rfl | exact binds_K kX9 rfl (by k_is) rfl rfl rfl)); (case c5 => decide); (case kB => exact locs rfl); (case c2 => exact rfl); (case c3 => exact rfl); (case c4 => exact rfl)))
local macro_rules | `(tactic| walk_at "exec For Name Name cons nil") => `(tactic| (k_here; (rename Fr _ _ _ _ => lF'); (with_unfolding_all refine' For_invVF lF' ?k1 ?k2 ?_; (case k1 => exact rfl); (case k2 => exact rfl); k_whole)))
local macro_rules | `(tactic| walk_at "pyIter ref") => `(tactic| ((with_reducible show wpAny _ _ (pyIter (Value.ref _)) (fun it s₂ => LoopAtV _ _ _ _ _ _ _ _ _ it s₂) _ _); refine Stop.out ?_))
local macro_rules | `(tactic| walk_at "call type:type") => `(tactic| ((with_reducible show wpAny _ _ (call (Value.type "type") [Value.bytes _ _]) _ _ _); refine type_bytes ?_))
local macro_rules | `(tactic| walk_at "getMethod str") => `(tactic| ((with_reducible show wpAny _ _ (getMethod (Value.str _ _) (PySem.Str.ofString "encode") _) _ _ _); with_reducible refine encode_method ?_))
local macro_rules | `(tactic| walk_at "storeName") => `(tactic| (k_here; k_dflt (first
  | ((with_reducible show wpAny _ _ (storeName _ _ (Value.int _ _)) _ _ _); refine' store_int ?F ?N ?_ ?a ?b; (case F => k_asm); (case N => k_asm); (case a => rfl); (case b => rfl); k_whole; intro t' tk' h' F' N'; (try dsimp only); (try k_sweep))
  | ((with_reducible show wpAny _ _ (storeName _ _ (Value.str _ _)) _ _ _); refine' store_str ?F ?N ?_ ?a ?b; (case F => k_asm); (case N => k_asm); (case a => rfl); (case b => rfl); k_whole; intro t' tk' h' F' N'; (try dsimp only); (try k_sweep))
  | ((with_reducible show wpAny _ _ (storeName _ _ (Value.bytes _ _)) _ _ _); refine' store_bytes ?F ?N ?_ ?a ?b; (case F => k_asm); (case N => k_asm); (case a => rfl); (case b => rfl); k_whole; intro t' tk' h' F' N'; (try dsimp only); (try k_sweep)))))
local macro_rules | `(tactic| walk_at "m33 go") => `(tactic| repeat' ((fail_if_success (with_reducible refine stopQ ?_)); first | (k_unfold; (try dsimp only)) | walk1 | (dsimp only; walk1) | (dsimp only; k_unfold; (try dsimp only)) | (leave1; walk_say "STEP leave1"; try dsimp only) | fail "no step"))
local macro_rules | `(tactic| walk_at "InvEndN") => `(tactic| refine Stop.out ?_)
local macro_rules | `(tactic| walk_at "InvEndA") => `(tactic| refine Stop.out ?_)
local macro_rules | `(tactic| walk_at "getMethod bytes") => `(tactic| ((with_reducible show wpAny _ _ (getMethod (Value.bytes _ _) (PySem.Str.ofString "translate") _) _ _ _); with_reducible refine translate_method ?_))
local macro_rules | `(tactic| walk_at "getMethod type:bytes") => `(tactic| (k_here; refine' method_type ?F ?X ?m (by decide +kernel) ?e ?h ?_; (case F => k_asm); (case X => k_asm); (case m => exact type_of_bytes); (case e => k_dflt k_is); (case h => k_handed)))
local macro_rules | `(tactic| walk_at "call builtin:bytes.maketrans") => `(tactic| (k_dflt (refine maketrans_call ?_); intro t' tk'; (try dsimp only)))
local macro_rules | `(tactic| units_room) => `(tactic| (simp only [Around.deeper_units]; omega))
local macro_rules | `(tactic| walk_at "m33 same") => `(tactic| (intro z hz; (try dsimp only); (repeat' split) <;> first | rfl | (exfalso; simp_all; done) | (simp_all; done)))
variable {mean : ExcName → Option Value} {mg mb : Str → Option Value} {L : Addr} {h : Heap} {m₀ : Str → Option Value} {tk : Nat} {rest : List Stmt} {sc : Scope} {Qf : Flow → Shared → Prop}
local macro_rules | `(tactic| walk_at "call ref") => `(tactic| (k_here; refine Stop.out ?_))
local macro_rules | `(tactic| walk_at "call builtin:len") => `(tactic| ((with_reducible show wpAny _ _ (call (Value.builtin "len") [Value.bytes (byteArr _) _]) _ _ _); refine len_arr (by omega) ?_; intro t' tk'; (try dsimp only)))
local macro_rules | `(tactic| walk_at "storeName") => `(tactic| (k_here; k_dflt ((with_reducible show wpAny _ _ (storeName _ _ (Value.int _ _)) _ _ _); refine' store_cint ?F ?N ?c ?U ?d ?_ ?a ?b; (case a => rfl); (case b => rfl); (case F => k_asm); (case N => k_asm); (case c => rfl); (case U => k_updF); (case d => k_asm); k_whole; intro t' tk' h' o' F' N' d'; (try dsimp only at N'); (try dsimp only); (try k_sweep))))
local macro_rules | `(tactic| walk_at "call builtin:str.encode") => `(tactic| ((with_reducible show wpAny _ _ (call (Value.builtin "str.encode") [Value.str _ _, Value.str (Str.ofString "ascii") _]) _ _ _); refine' encode_call ?ca ?cb ?_; (case ca => k_asm); (case cb => (simp only [sizeLine_eq]; omega)); intro t' tk'; (try dsimp only)))

noncomputable def ifBody : Stmt → List Stmt
  | .If _ b _ _ => b
  | _ => []
noncomputable def iStmt (P : Params) (j : Nat) : Stmt := (ifBody (lStmt P 6)).getD j (.Pass default)
local macro_rules | `(tactic| walk_at "subscriptTail Name Name ref int") => `(tactic| (k_here; refine Stop.out ?_))

set_option maxRecDepth 100000 in
set_option maxHeartbeats 8000000 in
theorem segc0 {st0 st1 st2 : Stmt} {Es Ns : Addr} {na ea : Array Value} {kn ke : Nat} {es : List (List Int)} {Ls : List (Addr × Obj)} {o1 o2 : Obj} {pl : Bool} {p : Int} {tp t1 t2 : Tok} {great host : Str} {i : Nat} {tk0 t4 t5 t6 : Tok} {dv : Int} {rs ds rl : Str} {lc : Bool} (hsc : sc = scopeOf w.params 220) (hs0 : st0 = iStmt w.params 0) (hs1 : st1 = iStmt w.params 1) (hs2 : st2 = iStmt w.params 2)
    (hd1 : dp + 50 < recursionLimit) (hu1 : un + 500 < cLine) (C : LCtx w dp un gd base fr mean mg mb s.heap)
    (F : Fr s.heap L h (fun z => if z = Str.ofString "due" then some (.str ds t6) else if z = Str.ofString "local" then some (.bool lc) else if z = Str.ofString "dots" then some (.int dv t4) else if z = Str.ofString "rest" then some (.str rs t5) else if z = Str.ofString "k" then some (.int (0 + (i : Int)) tk0) else if z = Str.ofString "plain" then some (.bool pl) else if z = Str.ofString "names" then some (.ref Ns) else if z = Str.ofString "ends" then some (.ref Es) else if z = Str.ofString "great" then some (.str great t1) else if z = Str.ofString "host" then some (.str host t2) else m₀ z)) (N : News s.heap L h ((Ns, listOf na kn) :: (Es, listOf ea ke) :: (L + 1 + 1, o2) :: (L + 1, o1) :: Ls))
    (c2 : o2.data = .cell (some (.int p tp))) (hE : EndsAt Ls ea.toList es) (hes : es.length ≤ 13) (hr : ∀ e ∈ es, (∀ n ∈ e, 0 ≤ n ∧ n < 64) ∧ e.length ≤ 12) (hNa : na.toList = es.map (fun e => .bool (named e p))) (hp0 : 0 ≤ p) (hp2 : p ≤ 2)
    (hi : i < es.length) (zr : rs.length ≤ 40)
    (hnext : ∀ (t7 t6 t4 t5 : Tok) h' tk', Fr s.heap L h' (fun z => if z = Str.ofString "dotted" then some (.bool (decide ((es.getD i []).take 1 = [62]))) else if z = Str.ofString "same" then some (.bool ((Str.ofString "." ++ rs) == host)) else if z = Str.ofString "zone" then some (.str (Str.ofString "." ++ rs) t7) else if z = Str.ofString "due" then some (.str ds t6) else if z = Str.ofString "local" then some (.bool lc) else if z = Str.ofString "dots" then some (.int dv t4) else if z = Str.ofString "rest" then some (.str rs t5) else if z = Str.ofString "k" then some (.int (0 + (i : Int)) tk0) else if z = Str.ofString "plain" then some (.bool pl) else if z = Str.ofString "names" then some (.ref Ns) else if z = Str.ofString "ends" then some (.ref Es) else if z = Str.ofString "great" then some (.str great t1) else if z = Str.ofString "host" then some (.str host t2) else m₀ z) → News s.heap L h' ((Ns, listOf na kn) :: (Es, listOf ea ke) :: (L + 1 + 1, o2) :: (L + 1, o1) :: Ls) →
      wpAny (model prg w) ((AA dp un gd fr).deeper (LE sc L)) (execs rest (LE sc L)) Qf E { s with heap := h', toks := tk' }) :
    wpAny (model prg w) ((AA dp un gd fr).deeper (LE sc L)) (execs (st0 :: st1 :: st2 :: rest) (LE sc L)) Qf E { s with heap := h, toks := tk } := by
  conv at hsc => rhs; whnf
  conv at hs0 => rhs; whnf
  conv at hs1 => rhs; whnf
  conv at hs2 => rhs; whnf
  subst hsc hs0 hs1 hs2
  obtain ⟨GB, B, X, T, D⟩ := C
  have hsz : ea.size = es.length := by have := hE.length; simpa using this
  have hie : es[i]? = some (es.getD i []) := by simp [List.getD, List.getElem?_eq_getElem hi]
  obtain ⟨v', hv', a, ar, ka, rfl, hm, hia⟩ := hE.get hie
  obtain ⟨hr1, hr2⟩ := hr _ (List.mem_of_getElem? hie)
  generalize es.getD i [] = e at *
  walk_at "m33 go"
  unfold Stop
  (with_reducible rename Fr _ _ _ _ => lF)
  (with_reducible rename News _ _ _ _ => lN)
  refine item_list (News.isList lN (.tail _ (.head _))) (by omega) (by omega) (x := .ref a) (by rw [← Array.getElem?_toList, show (0 + (i : Int)).toNat = i by omega]; exact hv') ?_
  have hla := News.isList lN (.tail _ (.tail _ (.tail _ (.tail _ hm))))
  walk_at "m33 go"
  (with_reducible rename News _ _ _ _ => lN5)
  exact hnext _ _ _ _ _ _ (by assumption) (fun p hp => lN5 p (.tail _ (.tail _ hp)))
end
end Mine
end
theorem Mine.anew_L_N {M : Model} {A : Around} {E : Value → Shared → Prop} {s : Shared} {env : Env} {Q : Flow → Shared → Prop} (h : Q .next s) : wpAny M A (execs [] env) Q E s := by
  w_top off
  first | (walk1; fail) | (w_top off; exact wpAny_execs_nil h)
section
namespace Mine
section
variable {w : World} {dp un : Nat} {gd : Option (List Code)} {base : Heap} {fr : List Env} {s : Shared} {Q E : Value → Shared → Prop}
local macro_rules | `(tactic| walk_at "m33 enter") => `(tactic| ((case k6 => k_is); (case k7 => k_is); (case k8 => omega); (case k9 => (intro kX9; first | exact BindsTo.of_eq rfl | exact binds_K kX9 rfl (by k_is) rfl rfl rfl)); (case c5 => decide); (case kB => exact locs rfl); (case c2 => exact rfl); (case c3 => exact rfl); (case c4 => exact rfl)))
local macro_rules | `(tactic| walk_at "exec For Name Name cons nil") => `(tactic| (k_here; (rename Fr _ _ _ _ => lF'); (with_unfolding_all refine' For_invVF lF' ?k1 ?k2 ?_; (case k1 => exact rfl); (case k2 => exact rfl); k_whole)))
local macro_rules | `(tactic| walk_at "pyIter ref") => `(tactic| ((with_reducible show wpAny _ _ (pyIter (Value.ref _)) (fun it s₂ => LoopAtV _ _ _ _ _ _ _ _ _ it s₂) _ _); refine Stop.out ?_))
local macro_rules | `(tactic| walk_at "call type:type") => `(tactic| ((with_reducible show wpAny _ _ (call (Value.type "type") [Value.bytes _ _]) _ _ _); refine type_bytes ?_))
local macro_rules | `(tactic| walk_at "getMethod str") => `(tactic| ((with_reducible show wpAny _ _ (getMethod (Value.str _ _) (PySem.Str.ofString "encode") _) _ _ _); with_reducible refine encode_method ?_))
local macro_rules | `(tactic| walk_at "storeName") => `(tactic| (k_here; k_dflt (first
  | ((with_reducible show wpAny _ _ (storeName _ _ (Value.int _ _)) _ _ _); refine' store_int ?F ?N ?_ ?a ?b; (case F => k_asm); (case N => k_asm); (case a => rfl); (case b => rfl); k_whole; intro t' tk' h' F' N'; (try dsimp only); (try k_sweep))
  | ((with_reducible show wpAny _ _ (storeName _ _ (Value.str _ _)) _ _ _); refine' store_str ?F ?N ?_ ?a ?b; (case F => k_asm); (case N => k_asm); (case a => rfl); (case b => rfl); k_whole; intro t' tk' h' F' N'; (try dsimp only); (try k_sweep))
  | ((with_reducible show wpAny _ _ (storeName _ _ (Value.bytes _ _)) _ _ _); refine' store_bytes ?F ?N ?_ ?a ?b; (case F => k_asm); (case N => k_asm); (case a => rfl); (case b => rfl); k_whole; intro t' tk' h' F' N'; (try dsimp only); (try k_sweep)))))
local macro_rules | `(tactic| walk_at "m33 go") => `(tactic| repeat' ((fail_if_success (with_reducible refine stopQ ?_)); first | (k_unfold; (try dsimp only)) | walk1 | (dsimp only; walk1) | (dsimp only; k_unfold; (try dsimp only)) | (leave1; walk_say "STEP leave1"; try dsimp only) | fail "no step"))
local macro_rules | `(tactic| walk_at "InvEndN") => `(tactic| refine Stop.out ?_)
local macro_rules | `(tactic| walk_at "InvEndA") => `(tactic| refine Stop.out ?_)
local macro_rules | `(tactic| walk_at "getMethod bytes") => `(tactic| ((with_reducible show wpAny _ _ (getMethod (Value.bytes _ _) (PySem.Str.ofString "translate") _) _ _ _); with_reducible refine translate_method ?_))
local macro_rules | `(tactic| walk_at "getMethod type:bytes") => `(tactic| (k_here; refine' method_type ?F ?X ?m (by decide +kernel) ?e ?h ?_; (case F => k_asm); (case X => k_asm); (case m => exact type_of_bytes); (case e => k_dflt k_is); (case h => k_handed)))
local macro_rules | `(tactic| walk_at "call builtin:bytes.maketrans") => `(tactic| (k_dflt (refine maketrans_call ?_); intro t' tk'; (try dsimp only)))
local macro_rules | `(tactic| units_room) => `(tactic| (simp only [Around.deeper_units]; omega))
local macro_rules | `(tactic| walk_at "m33 same") => `(tactic| (intro z hz; (try dsimp only); (repeat' split) <;> first | rfl | (exfalso; simp_all; done) | (simp_all; done)))
variable {mean : ExcName → Option Value} {mg mb : Str → Option Value} {L : Addr} {h : Heap} {m₀ : Str → Option Value} {tk : Nat} {rest : List Stmt} {sc : Scope} {Qf : Flow → Shared → Prop}
local macro_rules | `(tactic| walk_at "call ref") => `(tactic| (k_here; refine Stop.out ?_))
local macro_rules | `(tactic| walk_at "call builtin:len") => `(tactic| ((with_reducible show wpAny _ _ (call (Value.builtin "len") [Value.bytes (byteArr _) _]) _ _ _); refine len_arr (by omega) ?_; intro t' tk'; (try dsimp only)))
local macro_rules | `(tactic| walk_at "storeName") => `(tactic| (k_here; k_dflt ((with_reducible show wpAny _ _ (storeName _ _ (Value.int _ _)) _ _ _); refine' store_cint ?F ?N ?c ?U ?d ?_ ?a ?b; (case a => rfl); (case b => rfl); (case F => k_asm); (case N => k_asm); (case c => rfl); (case U => k_updF); (case d => k_asm); k_whole; intro t' tk' h' o' F' N' d'; (try dsimp only at N'); (try dsimp only); (try k_sweep))))
local macro_rules | `(tactic| walk_at "call builtin:str.encode") => `(tactic| ((with_reducible show wpAny _ _ (call (Value.builtin "str.encode") [Value.str _ _, Value.str (Str.ofString "ascii") _]) _ _ _); refine' encode_call ?ca ?cb ?_; (case ca => k_asm); (case cb => (simp only [sizeLine_eq]; omega)); intro t' tk'; (try dsimp only)))

local macro_rules | `(tactic| walk_at "subscriptTail Name Name ref int") => `(tactic| (k_here; refine Stop.out ?_))
local macro_rules | `(tactic| walk_at "subscriptTail Name BinOp ref int") => `(tactic| (k_here; refine Stop.out ?_))
local macro_rules | `(tactic| walk_at "subscriptTail Name Constant ref int") => `(tactic| (k_here; refine Stop.out ?_))

set_option maxRecDepth 100000 in
set_option maxHeartbeats 8000000 in
theorem segc3 {st3 : Stmt} {Es Ns : Addr} {na ea : Array Value} {kn ke : Nat} {es : List (List Int)} {Ls : List (Addr × Obj)} {o1 o2 : Obj} {pl : Bool} {p : Int} {tp t1 t2 : Tok} {great host : Str} {i : Nat} {tk0 t4 t5 t6 t7 : Tok} {dv : Int} {rs ds low zl rl zs : Str} {lc dt sm : Bool} (hsc : sc = scopeOf w.params 220) (hs3 : st3 = iStmt w.params 3)
    (hd1 : dp + 50 < recursionLimit) (hu1 : un + 500 < cLine) (C : LCtx w dp un gd base fr mean mg mb s.heap)
    (F : Fr s.heap L h (fun z => if z = Str.ofString "dotted" then some (.bool dt) else if z = Str.ofString "same" then some (.bool sm) else if z = Str.ofString "zone" then some (.str zs t7) else if z = Str.ofString "due" then some (.str ds t6) else if z = Str.ofString "local" then some (.bool lc) else if z = Str.ofString "dots" then some (.int dv t4) else if z = Str.ofString "rest" then some (.str rs t5) else if z = Str.ofString "k" then some (.int (0 + (i : Int)) tk0) else if z = Str.ofString "plain" then some (.bool pl) else if z = Str.ofString "names" then some (.ref Ns) else if z = Str.ofString "ends" then some (.ref Es) else if z = Str.ofString "great" then some (.str great t1) else if z = Str.ofString "host" then some (.str host t2) else m₀ z)) (N : News s.heap L h ((Ns, listOf na kn) :: (Es, listOf ea ke) :: (L + 1 + 1, o2) :: (L + 1, o1) :: Ls))
    (c2 : o2.data = .cell (some (.int p tp))) (hE : EndsAt Ls ea.toList es) (hes : es.length ≤ 13) (hr : ∀ e ∈ es, (∀ n ∈ e, 0 ≤ n ∧ n < 64) ∧ e.length ≤ 12) (hNa : na.toList = es.map (fun e => .bool (named e p))) (hp0 : 0 ≤ p) (hp2 : p ≤ 2)
    (og : OkS great low) (oz : OkS zs zl) (hU : udmS low zl = (sm || pl))
    (hnext : ∀ (t7 t6 t4 t5 : Tok) h' tk', Fr s.heap L h' (fun z => if z = Str.ofString "dotted" then some (.bool dt) else if z = Str.ofString "same" then some (.bool sm) else if z = Str.ofString "zone" then some (.str zs t7) else if z = Str.ofString "due" then some (.str ds t6) else if z = Str.ofString "local" then some (.bool lc) else if z = Str.ofString "dots" then some (.int dv t4) else if z = Str.ofString "rest" then some (.str rs t5) else if z = Str.ofString "k" then some (.int (0 + (i : Int)) tk0) else if z = Str.ofString "plain" then some (.bool pl) else if z = Str.ofString "names" then some (.ref Ns) else if z = Str.ofString "ends" then some (.ref Es) else if z = Str.ofString "great" then some (.str great t1) else if z = Str.ofString "host" then some (.str host t2) else m₀ z) → News s.heap L h' ((Ns, listOf na kn) :: (Es, listOf ea ke) :: (L + 1 + 1, o2) :: (L + 1, o1) :: Ls) →
      wpAny (model prg w) ((AA dp un gd fr).deeper (LE sc L)) (execs rest (LE sc L)) Qf E { s with heap := h', toks := tk' }) :
    wpAny (model prg w) ((AA dp un gd fr).deeper (LE sc L)) (execs (st3 :: rest) (LE sc L)) Qf E { s with heap := h, toks := tk } := by
  conv at hsc => rhs; whnf
  conv at hs3 => rhs; whnf
  subst hsc hs3
  obtain ⟨GB, B, X, T, D⟩ := C
  walk_at "m33 go"
  unfold Stop
  (with_reducible rename Fr _ _ _ _ => lF)
  (with_reducible rename News _ _ _ _ => lN)
  refine udm_spec (At.push GB B D lF rfl rfl) (by show dp + 1 + 20 < recursionLimit; omega) (by show un + 3 + 200 < cLine; omega) og.z oz.z og.e oz.e og.zX oz.zX og.nX oz.nX ?_
  intro h2 tk2 st
  have F2 := Fr.stays lF st
  have N2 := News.stays lN st
  clear lF lN st
  rw [hU]
  dsimp only at F2 N2 ⊢
  walk_at "m33 go"
  · exact absurd ‹(_ != sm) = true› (by rw [‹sm = true›]; simp)
  · exact hnext _ _ _ _ _ _ (by assumption) (by assumption)
  · exact absurd ‹(_ != pl) = true› (by rw [‹sm = false›]; simp)
  · exact hnext _ _ _ _ _ _ (by assumption) (by assumption)

set_option maxRecDepth 100000 in
set_option maxHeartbeats 8000000 in
theorem segc5 {st5 : Stmt} {Es Ns : Addr} {na ea : Array Value} {kn ke : Nat} {es : List (List Int)} {Ls : List (Addr × Obj)} {o1 o2 : Obj} {pl : Bool} {p : Int} {tp t1 t2 : Tok} {great host : Str} {i : Nat} {tk0 t4 t5 t6 t7 : Tok} {dv : Int} {rs ds low zl rl zs : Str} {lc dt sm : Bool} (hsc : sc = scopeOf w.params 220) (hs5 : st5 = iStmt w.params 5)
    (hd1 : dp + 50 < recursionLimit) (hu1 : un + 500 < cLine) (C : LCtx w dp un gd base fr mean mg mb s.heap)
    (F : Fr s.heap L h (fun z => if z = Str.ofString "dotted" then some (.bool dt) else if z = Str.ofString "same" then some (.bool sm) else if z = Str.ofString "zone" then some (.str zs t7) else if z = Str.ofString "due" then some (.str ds t6) else if z = Str.ofString "local" then some (.bool lc) else if z = Str.ofString "dots" then some (.int dv t4) else if z = Str.ofString "rest" then some (.str rs t5) else if z = Str.ofString "k" then some (.int (0 + (i : Int)) tk0) else if z = Str.ofString "plain" then some (.bool pl) else if z = Str.ofString "names" then some (.ref Ns) else if z = Str.ofString "ends" then some (.ref Es) else if z = Str.ofString "great" then some (.str great t1) else if z = Str.ofString "host" then some (.str host t2) else m₀ z)) (N : News s.heap L h ((Ns, listOf na kn) :: (Es, listOf ea ke) :: (L + 1 + 1, o2) :: (L + 1, o1) :: Ls))
    (c2 : o2.data = .cell (some (.int p tp))) (hE : EndsAt Ls ea.toList es) (hes : es.length ≤ 13) (hr : ∀ e ∈ es, (∀ n ∈ e, 0 ≤ n ∧ n < 64) ∧ e.length ≤ 12) (hNa : na.toList = es.map (fun e => .bool (named e p))) (hp0 : 0 ≤ p) (hp2 : p ≤ 2)
    (og : OkS great low) (oz : OkS rs rl) (hU : udmS low rl = (dt && pl))
    (hnext : ∀ (t7 t6 t4 t5 : Tok) h' tk', Fr s.heap L h' (fun z => if z = Str.ofString "dotted" then some (.bool dt) else if z = Str.ofString "same" then some (.bool sm) else if z = Str.ofString "zone" then some (.str zs t7) else if z = Str.ofString "due" then some (.str ds t6) else if z = Str.ofString "local" then some (.bool lc) else if z = Str.ofString "dots" then some (.int dv t4) else if z = Str.ofString "rest" then some (.str rs t5) else if z = Str.ofString "k" then some (.int (0 + (i : Int)) tk0) else if z = Str.ofString "plain" then some (.bool pl) else if z = Str.ofString "names" then some (.ref Ns) else if z = Str.ofString "ends" then some (.ref Es) else if z = Str.ofString "great" then some (.str great t1) else if z = Str.ofString "host" then some (.str host t2) else m₀ z) → News s.heap L h' ((Ns, listOf na kn) :: (Es, listOf ea ke) :: (L + 1 + 1, o2) :: (L + 1, o1) :: Ls) →
      wpAny (model prg w) ((AA dp un gd fr).deeper (LE sc L)) (execs rest (LE sc L)) Qf E { s with heap := h', toks := tk' }) :
    wpAny (model prg w) ((AA dp un gd fr).deeper (LE sc L)) (execs (st5 :: rest) (LE sc L)) Qf E { s with heap := h, toks := tk } := by
  conv at hsc => rhs; whnf
  conv at hs5 => rhs; whnf
  subst hsc hs5
  obtain ⟨GB, B, X, T, D⟩ := C
  walk_at "m33 go"
  unfold Stop
  (with_reducible rename Fr _ _ _ _ => lF)
  (with_reducible rename News _ _ _ _ => lN)
  refine udm_spec (At.push GB B D lF rfl rfl) (by show dp + 1 + 20 < recursionLimit; omega) (by show un + 3 + 200 < cLine; omega) og.z oz.z og.e oz.e og.zX oz.zX og.nX oz.nX ?_
  intro h2 tk2 st
  have F2 := Fr.stays lF st
  have N2 := News.stays lN st
  clear lF lN st
  rw [hU]
  dsimp only at F2 N2 ⊢
  walk_at "m33 go"
  · exact absurd ‹(_ != pl) = true› (by rw [‹dt = true›]; simp)
  · exact hnext _ _ _ _ _ _ (by assumption) (by assumption)
  · exact absurd ‹(_ != dt) = true› (by rw [‹dt = false›]; simp)
  · exact hnext _ _ _ _ _ _ (by assumption) (by assumption)

set_option maxRecDepth 100000 in
set_option maxHeartbeats 8000000 in
theorem segc4 {st4 : Stmt} {Es Ns : Addr} {na ea : Array Value} {kn ke : Nat} {es : List (List Int)} {Ls : List (Addr × Obj)} {o1 o2 : Obj} {pl : Bool} {p : Int} {tp t1 t2 : Tok} {great host : Str} {i : Nat} {tk0 t4 t5 t6 t7 : Tok} {dv : Int} {rs ds low zl rl zs : Str} {lc dt sm : Bool} (hsc : sc = scopeOf w.params 220) (hs4 : st4 = iStmt w.params 4)
    (hd1 : dp + 50 < recursionLimit) (hu1 : un + 500 < cLine) (C : LCtx w dp un gd base fr mean mg mb s.heap)
    (F : Fr s.heap L h (fun z => if z = Str.ofString "dotted" then some (.bool dt) else if z = Str.ofString "same" then some (.bool sm) else if z = Str.ofString "zone" then some (.str zs t7) else if z = Str.ofString "due" then some (.str ds t6) else if z = Str.ofString "local" then some (.bool lc) else if z = Str.ofString "dots" then some (.int dv t4) else if z = Str.ofString "rest" then some (.str rs t5) else if z = Str.ofString "k" then some (.int (0 + (i : Int)) tk0) else if z = Str.ofString "plain" then some (.bool pl) else if z = Str.ofString "names" then some (.ref Ns) else if z = Str.ofString "ends" then some (.ref Es) else if z = Str.ofString "great" then some (.str great t1) else if z = Str.ofString "host" then some (.str host t2) else m₀ z)) (N : News s.heap L h ((Ns, listOf na kn) :: (Es, listOf ea ke) :: (L + 1 + 1, o2) :: (L + 1, o1) :: Ls))
    (c2 : o2.data = .cell (some (.int p tp))) (hE : EndsAt Ls ea.toList es) (hes : es.length ≤ 13) (hr : ∀ e ∈ es, (∀ n ∈ e, 0 ≤ n ∧ n < 64) ∧ e.length ≤ 12) (hNa : na.toList = es.map (fun e => .bool (named e p))) (hp0 : 0 ≤ p) (hp2 : p ≤ 2)
    (hi : i < es.length) (og : OkS great low) (oz : OkS zs zl) (hU : dmS low zl = (sm || (named (es.getD 0 []) p && named (es.getD i []) p)))
    (hnext : ∀ (t7 t6 t4 t5 : Tok) h' tk', Fr s.heap L h' (fun z => if z = Str.ofString "dotted" then some (.bool dt) else if z = Str.ofString "same" then some (.bool sm) else if z = Str.ofString "zone" then some (.str zs t7) else if z = Str.ofString "due" then some (.str ds t6) else if z = Str.ofString "local" then some (.bool lc) else if z = Str.ofString "dots" then some (.int dv t4) else if z = Str.ofString "rest" then some (.str rs t5) else if z = Str.ofString "k" then some (.int (0 + (i : Int)) tk0) else if z = Str.ofString "plain" then some (.bool pl) else if z = Str.ofString "names" then some (.ref Ns) else if z = Str.ofString "ends" then some (.ref Es) else if z = Str.ofString "great" then some (.str great t1) else if z = Str.ofString "host" then some (.str host t2) else m₀ z) → News s.heap L h' ((Ns, listOf na kn) :: (Es, listOf ea ke) :: (L + 1 + 1, o2) :: (L + 1, o1) :: Ls) →
      wpAny (model prg w) ((AA dp un gd fr).deeper (LE sc L)) (execs rest (LE sc L)) Qf E { s with heap := h', toks := tk' }) :
    wpAny (model prg w) ((AA dp un gd fr).deeper (LE sc L)) (execs (st4 :: rest) (LE sc L)) Qf E { s with heap := h, toks := tk } := by
  conv at hsc => rhs; whnf
  conv at hs4 => rhs; whnf
  subst hsc hs4
  obtain ⟨GB, B, X, T, D⟩ := C
  have hn0 := names_at (i := 0) hNa (by omega)
  have hnk := names_at hNa hi
  generalize named (es.getD 0 []) p = n0 at *
  generalize named (es.getD i []) p = nk at *
  walk_at "m33 go"
  unfold Stop
  (with_reducible rename Fr _ _ _ _ => lF)
  (with_reducible rename News _ _ _ _ => lN)
  refine dm_spec (At.push GB B D lF rfl rfl) (by show dp + 1 + 20 < recursionLimit; omega) (by show un + 3 + 200 < cLine; omega) og.z oz.z og.e oz.e og.zX oz.zX og.nX oz.nS ?_
  intro h2 tk2 st
  have F2 := Fr.stays lF st
  have N2 := News.stays lN st
  clear lF lN st
  rw [hU]
  dsimp only at F2 N2 ⊢
  walk_at "m33 go"
  · exact absurd ‹(_ != sm) = true› (by rw [‹sm = true›]; simp)
  · exact hnext _ _ _ _ _ _ (by assumption) (by assumption)
  · unfold Stop
    refine item_list (News.isList N2 (.head _)) (by omega) (by omega) (x := .bool n0) (by rw [show (0 : Int).toNat = 0 by omega]; exact hn0) ?_
    walk_at "m33 go"
    · unfold Stop
      refine item_list (News.isList N2 (.head _)) (by omega) (by omega) (x := .bool nk) (by rw [show (0 + (i : Int) : Int).toNat = i by omega]; exact hnk) ?_
      walk_at "m33 go"
      · exact absurd ‹(_ != nk) = true› (by rw [‹sm = false›, ‹n0 = true›]; simp)
      · exact hnext _ _ _ _ _ _ (by assumption) (by assumption)
    · exact absurd ‹(_ != n0) = true› (by rw [‹sm = false›, ‹n0 = false›]; simp)
    · exact hnext _ _ _ _ _ _ (by assumption) (by assumption)

set_option maxRecDepth 100000 in
set_option maxHeartbeats 8000000 in
theorem segc6 {st6 : Stmt} {Es Ns : Addr} {na ea : Array Value} {kn ke : Nat} {es : List (List Int)} {Ls : List (Addr × Obj)} {o1 o2 : Obj} {pl : Bool} {p : Int} {tp t1 t2 : Tok} {great host : Str} {i : Nat} {tk0 t4 t5 t6 t7 : Tok} {dv : Int} {rs ds low zl rl zs : Str} {lc dt sm : Bool} (hsc : sc = scopeOf w.params 220) (hs6 : st6 = iStmt w.params 6)
    (hd1 : dp + 50 < recursionLimit) (hu1 : un + 500 < cLine) (C : LCtx w dp un gd base fr mean mg mb s.heap)
    (F : Fr s.heap L h (fun z => if z = Str.ofString "dotted" then some (.bool dt) else if z = Str.ofString "same" then some (.bool sm) else if z = Str.ofString "zone" then some (.str zs t7) else if z = Str.ofString "due" then some (.str ds t6) else if z = Str.ofString "local" then some (.bool lc) else if z = Str.ofString "dots" then some (.int dv t4) else if z = Str.ofString "rest" then some (.str rs t5) else if z = Str.ofString "k" then some (.int (0 + (i : Int)) tk0) else if z = Str.ofString "plain" then some (.bool pl) else if z = Str.ofString "names" then some (.ref Ns) else if z = Str.ofString "ends" then some (.ref Es) else if z = Str.ofString "great" then some (.str great t1) else if z = Str.ofString "host" then some (.str host t2) else m₀ z)) (N : News s.heap L h ((Ns, listOf na kn) :: (Es, listOf ea ke) :: (L + 1 + 1, o2) :: (L + 1, o1) :: Ls))
    (c2 : o2.data = .cell (some (.int p tp))) (hE : EndsAt Ls ea.toList es) (hes : es.length ≤ 13) (hr : ∀ e ∈ es, (∀ n ∈ e, 0 ≤ n ∧ n < 64) ∧ e.length ≤ 12) (hNa : na.toList = es.map (fun e => .bool (named e p))) (hp0 : 0 ≤ p) (hp2 : p ≤ 2)
    (hi : i < es.length) (hdt : dt = true → i + 1 < es.length) (og : OkS great low) (oz : OkS rs rl) (hU : dmS low rl = (dt && named (es.getD 0 []) p && named (es.getD (i + 1) []) p))
    (hnext : ∀ (t7 t6 t4 t5 : Tok) h' tk', Fr s.heap L h' (fun z => if z = Str.ofString "dotted" then some (.bool dt) else if z = Str.ofString "same" then some (.bool sm) else if z = Str.ofString "zone" then some (.str zs t7) else if z = Str.ofString "due" then some (.str ds t6) else if z = Str.ofString "local" then some (.bool lc) else if z = Str.ofString "dots" then some (.int dv t4) else if z = Str.ofString "rest" then some (.str rs t5) else if z = Str.ofString "k" then some (.int (0 + (i : Int)) tk0) else if z = Str.ofString "plain" then some (.bool pl) else if z = Str.ofString "names" then some (.ref Ns) else if z = Str.ofString "ends" then some (.ref Es) else if z = Str.ofString "great" then some (.str great t1) else if z = Str.ofString "host" then some (.str host t2) else m₀ z) → News s.heap L h' ((Ns, listOf na kn) :: (Es, listOf ea ke) :: (L + 1 + 1, o2) :: (L + 1, o1) :: Ls) →
      wpAny (model prg w) ((AA dp un gd fr).deeper (LE sc L)) (execs rest (LE sc L)) Qf E { s with heap := h', toks := tk' }) :
    wpAny (model prg w) ((AA dp un gd fr).deeper (LE sc L)) (execs (st6 :: rest) (LE sc L)) Qf E { s with heap := h, toks := tk } := by
  conv at hsc => rhs; whnf
  conv at hs6 => rhs; whnf
  subst hsc hs6
  obtain ⟨GB, B, X, T, D⟩ := C
  have hn0 := names_at (i := 0) hNa (by omega)
  have hnk := fun q => names_at (i := i + 1) hNa (hdt q)
  generalize named (es.getD 0 []) p = n0 at *
  generalize named (es.getD (i + 1) []) p = nk at *
  walk_at "m33 go"
  unfold Stop
  (with_reducible rename Fr _ _ _ _ => lF)
  (with_reducible rename News _ _ _ _ => lN)
  refine dm_spec (At.push GB B D lF rfl rfl) (by show dp + 1 + 20 < recursionLimit; omega) (by show un + 3 + 200 < cLine; omega) og.z oz.z og.e oz.e og.zX oz.zX og.nX oz.nS ?_
  intro h2 tk2 st
  have F2 := Fr.stays lF st
  have N2 := News.stays lN st
  clear lF lN st
  rw [hU]
  dsimp only at F2 N2 ⊢
  walk_at "m33 go"
  · unfold Stop
    refine item_list (News.isList N2 (.head _)) (by omega) (by omega) (x := .bool n0) (by rw [show (0 : Int).toNat = 0 by omega]; exact hn0) ?_
    walk_at "m33 go"
    · unfold Stop
      refine item_list (News.isList N2 (.head _)) (by omega) (by omega) (x := .bool nk) (by rw [show (0 + (i : Int) + 1 : Int).toNat = i + 1 by omega]; exact hnk (by assumption)) ?_
      walk_at "m33 go"
      · exact absurd ‹(_ != nk) = true› (by rw [‹dt = true›, ‹n0 = true›]; simp)
      · exact hnext _ _ _ _ _ _ (by assumption) (by assumption)
    · exact absurd ‹(_ != n0) = true› (by rw [‹dt = true›, ‹n0 = false›]; simp)
    · exact hnext _ _ _ _ _ _ (by assumption) (by assumption)
  · exact absurd ‹(_ != dt) = true› (by rw [‹dt = false›]; simp)
  · exact hnext _ _ _ _ _ _ (by assumption) (by assumption)
end
end Mine
end
theorem Mine.anew_L_O {M : Model} {A : Around} {E : Value → Shared → Prop} {s : Shared} {env : Env} {Q : Flow → Shared → Prop} (h : Q .next s) : wpAny M A (execs [] env) Q E s := by
  w_top off
  first | (walk1; fail) | (w_top off; exact wpAny_execs_nil h)
section
namespace Mine
section
variable {w : World} {dp un : Nat} {gd : Option (List Code)} {base : Heap} {fr : List Env} {s : Shared} {Q E : Value → Shared → Prop}
local macro_rules | `(tactic| walk_at "m33 enter") => `(tactic| ((case k6 => k_is); (case k7 => k_is); (case k8 => omega); (case k9 => (intro kX9; first | exact BindsTo.of_eq rfl | exact binds_K kX9 rfl (by k_is) rfl rfl rfl)); (case c5 => decide); (case kB => exact locs rfl); (case c2 => exact rfl); (case c3 => exact rfl); (case c4 => exact rfl)))
local macro_rules | `(tactic| walk_at "exec For Name Name cons nil") => `(tactic| (k_here; (rename Fr _ _ _ _ => lF'); (with_unfolding_all refine' For_invVF lF' ?k1 ?k2 ?_; (case k1 => exact rfl); (case k2 => exact rfl); k_whole)))
local macro_rules | `(tactic| walk_at "pyIter ref") => `(tactic| ((with_reducible show wpAny _ _ (pyIter (Value.ref _)) (fun it s₂ => LoopAtV _ _ _ _ _ _ _ _ _ it s₂) _ _); refine Stop.out ?_))
local macro_rules | `(tactic| walk_at "call type:type") => `(tactic| ((with_reducible show wpAny _ _ (call (Value.type "type") [Value.bytes _ _]) _ _ _); refine type_bytes ?_))
local macro_rules | `(tactic| walk_at "getMethod str") => `(tactic| ((with_reducible show wpAny _ _ (getMethod (Value.str _ _) (PySem.Str.ofString "encode") _) _ _ _); with_reducible refine encode_method ?_))
local macro_rules | `(tactic| walk_at "storeName") => `(tactic| (k_here; k_dflt (first
  | ((with_reducible show wpAny _ _ (storeName _ _ (Value.int _ _)) _ _ _); refine' store_int ?F ?N ?_ ?a ?b; (case F => k_asm); (case N => k_asm); (case a => rfl); (case b => rfl); k_whole; intro t' tk' h' F' N'; (try dsimp only); (try k_sweep))
  | ((with_reducible show wpAny _ _ (storeName _ _ (Value.str _ _)) _ _ _); refine' store_str ?F ?N ?_ ?a ?b; (case F => k_asm); (case N => k_asm); (case a => rfl); (case b => rfl); k_whole; intro t' tk' h' F' N'; (try dsimp only); (try k_sweep))
  | ((with_reducible show wpAny _ _ (storeName _ _ (Value.bytes _ _)) _ _ _); refine' store_bytes ?F ?N ?_ ?a ?b; (case F => k_asm); (case N => k_asm); (case a => rfl); (case b => rfl); k_whole; intro t' tk' h' F' N'; (try dsimp only); (try k_sweep)))))
local macro_rules | `(tactic| walk_at "m33 go") => `(tactic| repeat' ((fail_if_success (with_reducible refine stopQ ?_)); first | (k_unfold; (try dsimp only)) | walk1 | (dsimp only; walk1) | (dsimp only; k_unfold; (try dsimp only)) | (leave1; walk_say "STEP leave1"; try dsimp only) | fail "no step"))
local macro_rules | `(tactic| walk_at "InvEndN") => `(tactic| refine Stop.out ?_)
local macro_rules | `(tactic| walk_at "InvEndA") => `(tactic| refine Stop.out ?_)
local macro_rules | `(tactic| walk_at "getMethod bytes") => `(tactic| ((with_reducible show wpAny _ _ (getMethod (Value.bytes _ _) (PySem.Str.ofString "translate") _) _ _ _); with_reducible refine translate_method ?_))
local macro_rules | `(tactic| walk_at "getMethod type:bytes") => `(tactic| (k_here; refine' method_type ?F ?X ?m (by decide +kernel) ?e ?h ?_; (case F => k_asm); (case X => k_asm); (case m => exact type_of_bytes); (case e => k_dflt k_is); (case h => k_handed)))
local macro_rules | `(tactic| walk_at "call builtin:bytes.maketrans") => `(tactic| (k_dflt (refine maketrans_call ?_); intro t' tk'; (try dsimp only)))
local macro_rules | `(tactic| units_room) => `(tactic| (simp only [Around.deeper_units]; omega))
local macro_rules | `(tactic| walk_at "m33 same") => `(tactic| (intro z hz; (try dsimp only); (repeat' split) <;> first | rfl | (exfalso; simp_all; done) | (simp_all; done)))
variable {mean : ExcName → Option Value} {mg mb : Str → Option Value} {L : Addr} {h : Heap} {m₀ : Str → Option Value} {tk : Nat} {rest : List Stmt} {sc : Scope} {Qf : Flow → Shared → Prop}
local macro_rules | `(tactic| walk_at "call ref") => `(tactic| (k_here; refine Stop.out ?_))
local macro_rules | `(tactic| walk_at "call builtin:len") => `(tactic| ((with_reducible show wpAny _ _ (call (Value.builtin "len") [Value.bytes (byteArr _) _]) _ _ _); refine len_arr (by omega) ?_; intro t' tk'; (try dsimp only)))
local macro_rules | `(tactic| walk_at "storeName") => `(tactic| (k_here; k_dflt ((with_reducible show wpAny _ _ (storeName _ _ (Value.int _ _)) _ _ _); refine' store_cint ?F ?N ?c ?U ?d ?_ ?a ?b; (case a => rfl); (case b => rfl); (case F => k_asm); (case N => k_asm); (case c => rfl); (case U => k_updF); (case d => k_asm); k_whole; intro t' tk' h' o' F' N' d'; (try dsimp only at N'); (try dsimp only); (try k_sweep))))
local macro_rules | `(tactic| walk_at "call builtin:str.encode") => `(tactic| ((with_reducible show wpAny _ _ (call (Value.builtin "str.encode") [Value.str _ _, Value.str (Str.ofString "ascii") _]) _ _ _); refine' encode_call ?ca ?cb ?_; (case ca => k_asm); (case cb => (simp only [sizeLine_eq]; omega)); intro t' tk'; (try dsimp only)))

local macro_rules | `(tactic| walk_at "execs cons") => `(tactic| (k_here; (with_reducible show wpAny _ _ (execs (Stmt.Assign _ _ _ :: _) _) _ _ _); refine Stop.out ?_))
theorem map_self {m : Str → Option Value} {n1 n2 n3 n4 n5 n6 : Str} {v1 v2 v3 v4 v5 v6 : Option Value} (h1 : m n1 = v1) (h2 : m n2 = v2) (h3 : m n3 = v3) (h4 : m n4 = v4) (h5 : m n5 = v5) (h6 : m n6 = v6) :
    m = fun z => if z = n1 then v1 else if z = n2 then v2 else if z = n3 then v3 else if z = n4 then v4 else if z = n5 then v5 else if z = n6 then v6 else m z := by
  funext z
  by_cases q1 : z = n1
  · rw [if_pos q1, q1, h1]
  rw [if_neg q1]
  by_cases q2 : z = n2
  · rw [if_pos q2, q2, h2]
  rw [if_neg q2]
  by_cases q3 : z = n3
  · rw [if_pos q3, q3, h3]
  rw [if_neg q3]
  by_cases q4 : z = n4
  · rw [if_pos q4, q4, h4]
  rw [if_neg q4]
  by_cases q5 : z = n5
  · rw [if_pos q5, q5, h5]
  rw [if_neg q5]
  by_cases q6 : z = n6
  · rw [if_pos q6, q6, h6]
  rw [if_neg q6]

set_option maxRecDepth 100000 in
set_option maxHeartbeats 8000000 in
theorem segb6 {st6 : Stmt} {Es Ns : Addr} {na ea : Array Value} {kn ke : Nat} {es : List (List Int)} {Ls : List (Addr × Obj)} {o1 o2 : Obj} {pl : Bool} {p : Int} {tp t1 t2 : Tok} {great host : Str} {inn : List Stmt} {i : Nat} {tk0 t4 t5 t6 : Tok} {dv : Int} {rs ds : Str} {lc : Bool} (hsc : sc = scopeOf w.params 220) (hs6 : st6 = lStmt w.params 6)
    (hd1 : dp + 50 < recursionLimit) (hu1 : un + 500 < cLine) (C : LCtx w dp un gd base fr mean mg mb s.heap)
    (F : Fr s.heap L h (fun z => if z = Str.ofString "due" then some (.str ds t6) else if z = Str.ofString "local" then some (.bool lc) else if z = Str.ofString "dots" then some (.int dv t4) else if z = Str.ofString "rest" then some (.str rs t5) else if z = Str.ofString "k" then some (.int (0 + (i : Int)) tk0) else if z = Str.ofString "plain" then some (.bool pl) else if z = Str.ofString "names" then some (.ref Ns) else if z = Str.ofString "ends" then some (.ref Es) else if z = Str.ofString "great" then some (.str great t1) else if z = Str.ofString "host" then some (.str host t2) else m₀ z)) (N : News s.heap L h ((Ns, listOf na kn) :: (Es, listOf ea ke) :: (L + 1 + 1, o2) :: (L + 1, o1) :: Ls))
    (c2 : o2.data = .cell (some (.int p tp))) (hE : EndsAt Ls ea.toList es) (hes : es.length ≤ 13) (hr : ∀ e ∈ es, (∀ n ∈ e, 0 ≤ n ∧ n < 64) ∧ e.length ≤ 12) (hNa : na.toList = es.map (fun e => .bool (named e p))) (hp0 : 0 ≤ p) (hp2 : p ≤ 2)
    (hinn : inn = ifBody (lStmt w.params 6))
    (hin : 0 < i → ∀ h' tk' (Qf' : Flow → Shared → Prop), Fr s.heap L h' (fun z => if z = Str.ofString "due" then some (.str ds t6) else if z = Str.ofString "local" then some (.bool lc) else if z = Str.ofString "dots" then some (.int dv t4) else if z = Str.ofString "rest" then some (.str rs t5) else if z = Str.ofString "k" then some (.int (0 + (i : Int)) tk0) else if z = Str.ofString "plain" then some (.bool pl) else if z = Str.ofString "names" then some (.ref Ns) else if z = Str.ofString "ends" then some (.ref Es) else if z = Str.ofString "great" then some (.str great t1) else if z = Str.ofString "host" then some (.str host t2) else m₀ z) → News s.heap L h' ((Ns, listOf na kn) :: (Es, listOf ea ke) :: (L + 1 + 1, o2) :: (L + 1, o1) :: Ls) → (∀ (m' : Str → Option Value) h' tk', Fr s.heap L h' (fun z => if z = Str.ofString "k" then some (.int (0 + (i : Int)) tk0) else if z = Str.ofString "plain" then some (.bool pl) else if z = Str.ofString "names" then some (.ref Ns) else if z = Str.ofString "ends" then some (.ref Es) else if z = Str.ofString "great" then some (.str great t1) else if z = Str.ofString "host" then some (.str host t2) else m' z) → News s.heap L h' ((Ns, listOf na kn) :: (Es, listOf ea ke) :: (L + 1 + 1, o2) :: (L + 1, o1) :: Ls) → Qf' .next { s with heap := h', toks := tk' }) →
      wpAny (model prg w) ((AA dp un gd fr).deeper (LE sc L)) (execs inn (LE sc L)) Qf' E { s with heap := h', toks := tk' })
    (hnext : ∀ (m' : Str → Option Value) h' tk', Fr s.heap L h' (fun z => if z = Str.ofString "k" then some (.int (0 + (i : Int)) tk0) else if z = Str.ofString "plain" then some (.bool pl) else if z = Str.ofString "names" then some (.ref Ns) else if z = Str.ofString "ends" then some (.ref Es) else if z = Str.ofString "great" then some (.str great t1) else if z = Str.ofString "host" then some (.str host t2) else m' z) → News s.heap L h' ((Ns, listOf na kn) :: (Es, listOf ea ke) :: (L + 1 + 1, o2) :: (L + 1, o1) :: Ls) →
      wpAny (model prg w) ((AA dp un gd fr).deeper (LE sc L)) (execs rest (LE sc L)) Qf E { s with heap := h', toks := tk' }) :
    wpAny (model prg w) ((AA dp un gd fr).deeper (LE sc L)) (execs (st6 :: rest) (LE sc L)) Qf E { s with heap := h, toks := tk } := by
  conv at hsc => rhs; whnf
  conv at hs6 => rhs; whnf
  subst hsc hs6
  obtain ⟨GB, B, X, T, D⟩ := C
  conv at hinn => rhs; whnf
  subst hinn
  walk_at "m33 go"
  · unfold Stop
    refine hin (by omega) _ _ _ (by assumption) (by assumption) ?_
    intro m' h' tk' F' N'
    exact hnext m' h' tk' F' N'
  · (with_reducible rename Fr _ _ _ _ => lF)
    rw [map_self (m := (fun z => if z = Str.ofString "due" then some (.str ds t6) else if z = Str.ofString "local" then some (.bool lc) else if z = Str.ofString "dots" then some (.int dv t4) else if z = Str.ofString "rest" then some (.str rs t5) else if z = Str.ofString "k" then some (.int (0 + (i : Int)) tk0) else if z = Str.ofString "plain" then some (.bool pl) else if z = Str.ofString "names" then some (.ref Ns) else if z = Str.ofString "ends" then some (.ref Es) else if z = Str.ofString "great" then some (.str great t1) else if z = Str.ofString "host" then some (.str host t2) else m₀ z)) (n1 := Str.ofString "k") (n2 := Str.ofString "plain") (n3 := Str.ofString "names") (n4 := Str.ofString "ends") (n5 := Str.ofString "great") (n6 := Str.ofString "host") rfl rfl rfl rfl rfl rfl] at lF
    exact hnext _ _ _ lF (by assumption)
end
end Mine
end
theorem Mine.anew_L_P {M : Model} {A : Around} {E : Value → Shared → Prop} {s : Shared} {env : Env} {Q : Flow → Shared → Prop} (h : Q .next s) : wpAny M A (execs [] env) Q E s := by
  w_top off
  first | (walk1; fail) | (w_top off; exact wpAny_execs_nil h)
section
namespace Mine
section
variable {w : World} {dp un : Nat} {gd : Option (List Code)} {base : Heap} {fr : List Env} {s : Shared} {Q E : Value → Shared → Prop}
local macro_rules | `(tactic| walk_at "m33 enter") => `(tactic| ((case k6 => k_is); (case k7 => k_is); (case k8 => omega); (case k9 => (intro kX9; first | exact BindsTo.of_eq rfl | exact binds_K kX9 rfl (by k_is) rfl rfl rfl)); (case c5 => decide); (case kB => exact locs rfl); (case c2 => exact rfl); (case c3 => exact rfl); (case c4 => exact rfl)))
local macro_rules | `(tactic| walk_at "exec For Name Name cons nil") => `(tactic| (k_here; (rename Fr _ _ _ _ => lF'); (with_unfolding_all refine' For_invVF lF' ?k1 ?k2 ?_; (case k1 => exact rfl); (case k2 => exact rfl); k_whole)))
local macro_rules | `(tactic| walk_at "pyIter ref") => `(tactic| ((with_reducible show wpAny _ _ (pyIter (Value.ref _)) (fun it s₂ => LoopAtV _ _ _ _ _ _ _ _ _ it s₂) _ _); refine Stop.out ?_))
local macro_rules | `(tactic| walk_at "call type:type") => `(tactic| ((with_reducible show wpAny _ _ (call (Value.type "type") [Value.bytes _ _]) _ _ _); refine type_bytes ?_))
local macro_rules | `(tactic| walk_at "getMethod str") => `(tactic| ((with_reducible show wpAny _ _ (getMethod (Value.str _ _) (PySem.Str.ofString "encode") _) _ _ _); with_reducible refine encode_method ?_))
local macro_rules | `(tactic| walk_at "storeName") => `(tactic| (k_here; k_dflt (first
  | ((with_reducible show wpAny _ _ (storeName _ _ (Value.int _ _)) _ _ _); refine' store_int ?F ?N ?_ ?a ?b; (case F => k_asm); (case N => k_asm); (case a => rfl); (case b => rfl); k_whole; intro t' tk' h' F' N'; (try dsimp only); (try k_sweep))
  | ((with_reducible show wpAny _ _ (storeName _ _ (Value.str _ _)) _ _ _); refine' store_str ?F ?N ?_ ?a ?b; (case F => k_asm); (case N => k_asm); (case a => rfl); (case b => rfl); k_whole; intro t' tk' h' F' N'; (try dsimp only); (try k_sweep))
  | ((with_reducible show wpAny _ _ (storeName _ _ (Value.bytes _ _)) _ _ _); refine' store_bytes ?F ?N ?_ ?a ?b; (case F => k_asm); (case N => k_asm); (case a => rfl); (case b => rfl); k_whole; intro t' tk' h' F' N'; (try dsimp only); (try k_sweep)))))
local macro_rules | `(tactic| walk_at "m33 go") => `(tactic| repeat' ((fail_if_success (with_reducible refine stopQ ?_)); first | (k_unfold; (try dsimp only)) | walk1 | (dsimp only; walk1) | (dsimp only; k_unfold; (try dsimp only)) | (leave1; walk_say "STEP leave1"; try dsimp only) | fail "no step"))
local macro_rules | `(tactic| walk_at "InvEndN") => `(tactic| refine Stop.out ?_)
local macro_rules | `(tactic| walk_at "InvEndA") => `(tactic| refine Stop.out ?_)
local macro_rules | `(tactic| walk_at "getMethod bytes") => `(tactic| ((with_reducible show wpAny _ _ (getMethod (Value.bytes _ _) (PySem.Str.ofString "translate") _) _ _ _); with_reducible refine translate_method ?_))
local macro_rules | `(tactic| walk_at "getMethod type:bytes") => `(tactic| (k_here; refine' method_type ?F ?X ?m (by decide +kernel) ?e ?h ?_; (case F => k_asm); (case X => k_asm); (case m => exact type_of_bytes); (case e => k_dflt k_is); (case h => k_handed)))
local macro_rules | `(tactic| walk_at "call builtin:bytes.maketrans") => `(tactic| (k_dflt (refine maketrans_call ?_); intro t' tk'; (try dsimp only)))
local macro_rules | `(tactic| units_room) => `(tactic| (simp only [Around.deeper_units]; omega))
local macro_rules | `(tactic| walk_at "m33 same") => `(tactic| (intro z hz; (try dsimp only); (repeat' split) <;> first | rfl | (exfalso; simp_all; done) | (simp_all; done)))
variable {mean : ExcName → Option Value} {mg mb : Str → Option Value} {L : Addr} {h : Heap} {m₀ : Str → Option Value} {tk : Nat} {rest : List Stmt} {sc : Scope} {Qf : Flow → Shared → Prop}
local macro_rules | `(tactic| walk_at "call ref") => `(tactic| (k_here; refine Stop.out ?_))
local macro_rules | `(tactic| walk_at "call builtin:len") => `(tactic| ((with_reducible show wpAny _ _ (call (Value.builtin "len") [Value.bytes (byteArr _) _]) _ _ _); refine len_arr (by omega) ?_; intro t' tk'; (try dsimp only)))
local macro_rules | `(tactic| walk_at "storeName") => `(tactic| (k_here; k_dflt ((with_reducible show wpAny _ _ (storeName _ _ (Value.int _ _)) _ _ _); refine' store_cint ?F ?N ?c ?U ?d ?_ ?a ?b; (case a => rfl); (case b => rfl); (case F => k_asm); (case N => k_asm); (case c => rfl); (case U => k_updF); (case d => k_asm); k_whole; intro t' tk' h' o' F' N' d'; (try dsimp only at N'); (try dsimp only); (try k_sweep))))
local macro_rules | `(tactic| walk_at "call builtin:str.encode") => `(tactic| ((with_reducible show wpAny _ _ (call (Value.builtin "str.encode") [Value.str _ _, Value.str (Str.ofString "ascii") _]) _ _ _); refine' encode_call ?ca ?cb ?_; (case ca => k_asm); (case cb => (simp only [sizeLine_eq]; omega)); intro t' tk'; (try dsimp only)))

/-- the text of an end -/
def rsOf (es : List (List Int)) (p : Int) (i : Nat) : Str := signs (es.getD i []) ++ Txt.mul (Str.ofString "=") p
def dvOf (es : List (List Int)) (i : Nat) : Int := (es.length : Int) - 1 - (0 + (i : Int))
def lcOf (es : List (List Int)) (p : Int) (i : Nat) : Bool := decide (dvOf es i = 1) && decide (p = 0) && decide (es.getD (es.length - 1) [] = lcl)
def dueOf (es : List (List Int)) (p : Int) (i : Nat) : Str := if (named (es.getD i []) p && (decide (1 < dvOf es i) || lcOf es p i)) = true then Str.ofString "." ++ signs (es.getD (i + 1) []) ++ Txt.mul (Str.ofString "=") p else rsOf es p i
def dtOf (es : List (List Int)) (i : Nat) : Bool := decide ((es.getD i []).take 1 = [62])
/-- what the turn of a place asks of the pure side -/
structure TurnOk (es : List (List Int)) (p : Int) (great host : Str) (pl : Bool) (i : Nat) : Prop where
  ok : OkS (rsOf es p i) (Txt.lower (rsOf es p i))
  re : reachS (rsOf es p i) = dueOf es p i
  to : decT (rsOf es p i) = readOf (es.getD i []) p
  oz : 0 < i → OkS (Str.ofString "." ++ rsOf es p i) (Txt.lower (Str.ofString "." ++ rsOf es p i))
  u1 : 0 < i → udmS (Txt.lower great) (Txt.lower (Str.ofString "." ++ rsOf es p i)) = (((Str.ofString "." ++ rsOf es p i) == host) || pl)
  d1 : 0 < i → dmS (Txt.lower great) (Txt.lower (Str.ofString "." ++ rsOf es p i)) = (((Str.ofString "." ++ rsOf es p i) == host) || (named (es.getD 0 []) p && named (es.getD i []) p))
  u2 : 0 < i → udmS (Txt.lower great) (Txt.lower (rsOf es p i)) = (dtOf es i && pl)
  d2 : 0 < i → dmS (Txt.lower great) (Txt.lower (rsOf es p i)) = (dtOf es i && named (es.getD 0 []) p && named (es.getD (i + 1) []) p)
  dt : 0 < i → dtOf es i = true → i + 1 < es.length
theorem Fr.self {h₀ h : Heap} {m : Str → Option Value} {n1 n2 n3 n4 n5 n6 : Str} {v1 v2 v3 v4 v5 v6 : Option Value} (F : Fr h₀ L h m) (h1 : m n1 = v1) (h2 : m n2 = v2) (h3 : m n3 = v3) (h4 : m n4 = v4) (h5 : m n5 = v5) (h6 : m n6 = v6) :
    Fr h₀ L h (fun z => if z = n1 then v1 else if z = n2 then v2 else if z = n3 then v3 else if z = n4 then v4 else if z = n5 then v5 else if z = n6 then v6 else m z) := (map_self h1 h2 h3 h4 h5 h6) ▸ F
theorem signs_len (e : List Int) : (signs e).length = e.length := by simp [signs, Str.length]
set_option maxRecDepth 100000 in
theorem bd_eq (P : Params) : forBody (stmtOf P 220 12) = [lStmt P 0, lStmt P 1, lStmt P 2, lStmt P 3, lStmt P 4, lStmt P 5, lStmt P 6] := rfl
set_option maxRecDepth 100000 in
theorem inn_eq (P : Params) : ifBody (lStmt P 6) = [iStmt P 0, iStmt P 1, iStmt P 2, iStmt P 3, iStmt P 4, iStmt P 5, iStmt P 6] := rfl

set_option maxHeartbeats 4000000 in
theorem turn {Es Ns : Addr} {na ea : Array Value} {kn ke : Nat} {es : List (List Int)} {Ls : List (Addr × Obj)} {o1 o2 : Obj} {pl : Bool} {p : Int} {tp t1 t2 : Tok} {great host : Str} {bd : List Stmt} {i : Nat} {tk0 : Tok} (hsc : sc = scopeOf w.params 220) (hbd : bd = forBody (stmtOf w.params 220 12))
    (hd1 : dp + 50 < recursionLimit) (hu1 : un + 500 < cLine) (C : LCtx w dp un gd base [] mean mg mb s.heap)
    (F : Fr s.heap L h (fun z => if z = Str.ofString "k" then some (.int (0 + (i : Int)) tk0) else if z = Str.ofString "plain" then some (.bool pl) else if z = Str.ofString "names" then some (.ref Ns) else if z = Str.ofString "ends" then some (.ref Es) else if z = Str.ofString "great" then some (.str great t1) else if z = Str.ofString "host" then some (.str host t2) else m₀ z)) (N : News s.heap L h ((Ns, listOf na kn) :: (Es, listOf ea ke) :: (L + 1 + 1, o2) :: (L + 1, o1) :: Ls))
    (c2 : o2.data = .cell (some (.int p tp))) (hE : EndsAt Ls ea.toList es) (hes : es.length ≤ 13) (hr : ∀ e ∈ es, (∀ n ∈ e, 0 ≤ n ∧ n < 64) ∧ e.length ≤ 12) (hNa : na.toList = es.map (fun e => .bool (named e p))) (hp0 : 0 ≤ p) (hp2 : p ≤ 2)
    (hi : i < es.length) (zM : (Txt.mul (Str.ofString "=") p).length ≤ 2) (og : OkS great (Txt.lower great)) (ok : TurnOk es p great host pl i)
    (hnext : ∀ (m' : Str → Option Value) h' tk', Fr s.heap L h' (fun z => if z = Str.ofString "k" then some (.int (0 + (i : Int)) tk0) else if z = Str.ofString "plain" then some (.bool pl) else if z = Str.ofString "names" then some (.ref Ns) else if z = Str.ofString "ends" then some (.ref Es) else if z = Str.ofString "great" then some (.str great t1) else if z = Str.ofString "host" then some (.str host t2) else m' z) → News s.heap L h' ((Ns, listOf na kn) :: (Es, listOf ea ke) :: (L + 1 + 1, o2) :: (L + 1, o1) :: Ls) → Qf .next { s with heap := h', toks := tk' }) :
    wpAny (model prg w) ((AA dp un gd []).deeper (LE sc L)) (execs bd (LE sc L)) Qf E { s with heap := h, toks := tk } := by
  subst hbd
  rw [bd_eq]
  have zS : ∀ j, (signs (es.getD j [])).length ≤ 12 := by
    intro j
    rw [signs_len]
    by_cases hj : j < es.length
    · have e1 : es.getD j [] = es[j] := by simp [List.getD, List.getElem?_eq_getElem hj]
      rw [e1]; exact (hr _ (List.getElem_mem hj)).2
    · have e1 : es.getD j [] = [] := by simp [List.getD, List.getElem?_eq_none (by omega : es.length ≤ j)]
      rw [e1]; simp
  refine segb0 hsc rfl rfl hd1 hu1 C F N c2 hE hes hr hNa hp0 hp2 hi (zS i) zM ?_
  intro t4 t5 h' tk' F N
  refine segb2 (el := es.getD (es.length - 1) []) hsc rfl hd1 hu1 C F N c2 hE hes hr hNa hp0 hp2 (by rw [List.getElem?_eq_getElem (by omega : es.length - 1 < es.length)]; simp [List.getD, List.getElem?_eq_getElem (by omega : es.length - 1 < es.length)]) ?_
  intro t4 t5 h' tk' F N
  refine segb3 hsc rfl rfl hd1 hu1 C F N c2 hE hes hr hNa hp0 hp2 hi (by omega) (by intro q; simp only [Bool.and_eq_true, decide_eq_true_eq] at q; exact q.1.1) (zS _) zM ?_
  intro t6 t4 t5 h' tk' F N
  refine segb5 hsc rfl hd1 hu1 C F N c2 hE hes hr hNa hp0 hp2 hi ok.ok ok.re ok.to ?_
  intro t6 t4 t5 h' tk' F N
  refine segb6 hsc rfl hd1 hu1 C F N c2 hE hes hr hNa hp0 hp2 rfl ?_ ?_
  · intro hpos h' tk' Qf' F N hq
    rw [inn_eq]
    refine segc0 (rl := host) hsc rfl rfl rfl hd1 hu1 C F N c2 hE hes hr hNa hp0 hp2 hi ok.ok.z ?_
    intro t7 t6 t4 t5 h' tk' F N
    refine segc3 (rl := host) hsc rfl hd1 hu1 C F N c2 hE hes hr hNa hp0 hp2 og (ok.oz hpos) (ok.u1 hpos) ?_
    intro t7 t6 t4 t5 h' tk' F N
    refine segc4 (rl := host) hsc rfl hd1 hu1 C F N c2 hE hes hr hNa hp0 hp2 hi og (ok.oz hpos) (ok.d1 hpos) ?_
    intro t7 t6 t4 t5 h' tk' F N
    refine segc5 (zl := host) hsc rfl hd1 hu1 C F N c2 hE hes hr hNa hp0 hp2 og ok.ok (ok.u2 hpos) ?_
    intro t7 t6 t4 t5 h' tk' F N
    refine segc6 (zl := host) hsc rfl hd1 hu1 C F N c2 hE hes hr hNa hp0 hp2 hi (ok.dt hpos) og ok.ok (ok.d2 hpos) ?_
    intro t7 t6 t4 t5 h' tk' F N
    walk_at "m33 go"
    exact hq _ _ _ (Fr.self F rfl rfl rfl rfl rfl rfl) N
  · intro m' h' tk' F N
    walk_at "m33 go"
    exact hnext _ _ _ F N
end
end Mine
end
theorem Mine.anew_L_Q {M : Model} {A : Around} {E : Value → Shared → Prop} {s : Shared} {env : Env} {Q : Flow → Shared → Prop} (h : Q .next s) : wpAny M A (execs [] env) Q E s := by
  w_top off
  first | (walk1; fail) | (w_top off; exact wpAny_execs_nil h)
section
namespace Mine
section
variable {w : World} {dp un : Nat} {gd : Option (List Code)} {base : Heap} {fr : List Env} {s : Shared} {Q E : Value → Shared → Prop}
local macro_rules | `(tactic| walk_at "m33 enter") => `(tactic| ((case k6 => k_is); (case k7 => k_is); (case k8 => omega); (case k9 => (intro kX9; first | exact BindsTo.of_eq rfl | exact binds_K kX9 rfl (by k_is) rfl rfl rfl)); (case c5 => decide); (case kB => exact locs rfl); (case c2 => exact rfl); (case c3 => exact rfl); (case c4 => exact rfl)))
local macro_rules | `(tactic| walk_at "exec For Name Name cons nil") => `(tactic| (k_here; (rename Fr _ _ _ _ => lF'); (with_unfolding_all refine' For_invVF lF' ?k1 ?k2 ?_; (case k1 => exact rfl); (case k2 => exact rfl); k_whole)))
local macro_rules | `(tactic| walk_at "pyIter ref") => `(tactic| ((with_reducible show wpAny _ _ (pyIter (Value.ref _)) (fun it s₂ => LoopAtV _ _ _ _ _ _ _ _ _ it s₂) _ _); refine Stop.out ?_))
local macro_rules | `(tactic| walk_at "call type:type") => `(tactic| ((with_reducible show wpAny _ _ (call (Value.type "type") [Value.bytes _ _]) _ _ _); refine type_bytes ?_))
local macro_rules | `(tactic| walk_at "getMethod str") => `(tactic| ((with_reducible show wpAny _ _ (getMethod (Value.str _ _) (PySem.Str.ofString "encode") _) _ _ _); with_reducible refine encode_method ?_))
local macro_rules | `(tactic| walk_at "storeName") => `(tactic| (k_here; k_dflt (first
  | ((with_reducible show wpAny _ _ (storeName _ _ (Value.int _ _)) _ _ _); refine' store_int ?F ?N ?_ ?a ?b; (case F => k_asm); (case N => k_asm); (case a => rfl); (case b => rfl); k_whole; intro t' tk' h' F' N'; (try dsimp only); (try k_sweep))
  | ((with_reducible show wpAny _ _ (storeName _ _ (Value.str _ _)) _ _ _); refine' store_str ?F ?N ?_ ?a ?b; (case F => k_asm); (case N => k_asm); (case a => rfl); (case b => rfl); k_whole; intro t' tk' h' F' N'; (try dsimp only); (try k_sweep))
  | ((with_reducible show wpAny _ _ (storeName _ _ (Value.bytes _ _)) _ _ _); refine' store_bytes ?F ?N ?_ ?a ?b; (case F => k_asm); (case N => k_asm); (case a => rfl); (case b => rfl); k_whole; intro t' tk' h' F' N'; (try dsimp only); (try k_sweep)))))
local macro_rules | `(tactic| walk_at "m33 go") => `(tactic| repeat' ((fail_if_success (with_reducible refine stopQ ?_)); first | (k_unfold; (try dsimp only)) | walk1 | (dsimp only; walk1) | (dsimp only; k_unfold; (try dsimp only)) | (leave1; walk_say "STEP leave1"; try dsimp only) | fail "no step"))
local macro_rules | `(tactic| walk_at "InvEndN") => `(tactic| refine Stop.out ?_)
local macro_rules | `(tactic| walk_at "InvEndA") => `(tactic| refine Stop.out ?_)
local macro_rules | `(tactic| walk_at "getMethod bytes") => `(tactic| ((with_reducible show wpAny _ _ (getMethod (Value.bytes _ _) (PySem.Str.ofString "translate") _) _ _ _); with_reducible refine translate_method ?_))
local macro_rules | `(tactic| walk_at "getMethod type:bytes") => `(tactic| (k_here; refine' method_type ?F ?X ?m (by decide +kernel) ?e ?h ?_; (case F => k_asm); (case X => k_asm); (case m => exact type_of_bytes); (case e => k_dflt k_is); (case h => k_handed)))
local macro_rules | `(tactic| walk_at "call builtin:bytes.maketrans") => `(tactic| (k_dflt (refine maketrans_call ?_); intro t' tk'; (try dsimp only)))
local macro_rules | `(tactic| units_room) => `(tactic| (simp only [Around.deeper_units]; omega))
local macro_rules | `(tactic| walk_at "m33 same") => `(tactic| (intro z hz; (try dsimp only); (repeat' split) <;> first | rfl | (exfalso; simp_all; done) | (simp_all; done)))
variable {mean : ExcName → Option Value} {mg mb : Str → Option Value} {L : Addr} {h : Heap} {m₀ : Str → Option Value} {tk : Nat} {rest : List Stmt} {sc : Scope} {Qf : Flow → Shared → Prop}
local macro_rules | `(tactic| walk_at "call ref") => `(tactic| (k_here; refine Stop.out ?_))
local macro_rules | `(tactic| walk_at "call builtin:len") => `(tactic| ((with_reducible show wpAny _ _ (call (Value.builtin "len") [Value.bytes (byteArr _) _]) _ _ _); refine len_arr (by omega) ?_; intro t' tk'; (try dsimp only)))
local macro_rules | `(tactic| walk_at "storeName") => `(tactic| (k_here; k_dflt ((with_reducible show wpAny _ _ (storeName _ _ (Value.int _ _)) _ _ _); refine' store_cint ?F ?N ?c ?U ?d ?_ ?a ?b; (case a => rfl); (case b => rfl); (case F => k_asm); (case N => k_asm); (case c => rfl); (case U => k_updF); (case d => k_asm); k_whole; intro t' tk' h' o' F' N' d'; (try dsimp only at N'); (try dsimp only); (try k_sweep))))
local macro_rules | `(tactic| walk_at "call builtin:str.encode") => `(tactic| ((with_reducible show wpAny _ _ (call (Value.builtin "str.encode") [Value.str _ _, Value.str (Str.ofString "ascii") _]) _ _ _); refine' encode_call ?ca ?cb ?_; (case ca => k_asm); (case cb => (simp only [sizeLine_eq]; omega)); intro t' tk'; (try dsimp only)))

def hostOf (row : List Int) (p : Int) : Str := signs row ++ Txt.mul (Str.ofString "=") p
abbrev greatOf (row : List Int) (p : Int) : Str := Txt.upper (hostOf row p)
/-- what the walk asks of the pure side -/
structure LawOk (row : List Int) (p : Int) : Prop where
  r : ∀ n ∈ row, 0 ≤ n ∧ n < 64
  l : row.length ≤ 12
  o : (octs row).length ≤ 12
  hp : (-((octs row).length : Int)).fmod 3 = p
  p0 : 0 ≤ p
  p2 : p ≤ 2
  zM : (Txt.mul (Str.ofString "=") p).length ≤ 2
  W : encB (byteArr (octs row)) = (hostOf row p).cps.map (·.toUInt8)
  T : decT (greatOf row p) = some (octs (row.map down))
  og : OkS (greatOf row p) (Txt.lower (greatOf row p))
  oh : OkS (hostOf row p) (Txt.lower (greatOf row p))
  D : dmS (Txt.lower (greatOf row p)) (Txt.lower (greatOf row p)) = true
  U : udmS (Txt.lower (greatOf row p)) (Txt.lower (greatOf row p)) = true
  turn : ∀ i, i < (row :: behind row).length → TurnOk (row :: behind row) p (greatOf row p) (hostOf row p) (!numbered row p) i
theorem behind_mem {row e : List Int} (h : e ∈ behind row) : (∀ n ∈ e, n ∈ row) ∧ e.length ≤ row.length := by
  induction row with
  | nil => simp [behind] at h
  | cons f r ih =>
    have step : e ∈ behind r → (∀ n ∈ e, n ∈ f :: r) ∧ e.length ≤ (f :: r).length := fun h => ⟨fun n hn => .tail _ ((ih h).1 n hn), by have := (ih h).2; simp; omega⟩
    unfold behind at h
    split at h
    · rcases List.mem_cons.mp h with q | q
      · subst q; exact ⟨fun n hn => .tail _ hn, by simp⟩
      · exact step q
    · exact step h
set_option maxRecDepth 100000 in
theorem body_eq (P : Params) : bodyOf P 220 = [stmtOf P 220 0, stmtOf P 220 1, stmtOf P 220 2, stmtOf P 220 3, stmtOf P 220 4, stmtOf P 220 5, stmtOf P 220 6, stmtOf P 220 7, stmtOf P 220 8, stmtOf P 220 9, stmtOf P 220 10, stmtOf P 220 11, stmtOf P 220 12, stmtOf P 220 13] := rfl

set_option maxRecDepth 100000 in
set_option maxHeartbeats 4000000 in
theorem seg13 {st13 : Stmt} (hsc : sc = scopeOf w.params 220) (hs13 : st13 = stmtOf w.params 220 13) (F : Fr s.heap L h m₀)
    (hnext : ∀ tk', Qf (.ret (.bool true)) { s with heap := h, toks := tk' }) :
    wpAny (model prg w) ((AA dp un gd []).deeper (LE sc L)) (execs (st13 :: rest) (LE sc L)) Qf E { s with heap := h, toks := tk } := by
  conv at hsc => rhs; whnf
  conv at hs13 => rhs; whnf
  subst hsc hs13
  walk_at "m33 go"
  exact hnext _

theorem Fr.self2 {h₀ h : Heap} {m : Str → Option Value} {n1 n2 : Str} {v1 v2 : Option Value} (F : Fr h₀ L h m) (h1 : m n1 = v1) (h2 : m n2 = v2) :
    Fr h₀ L h (fun z => if z = n1 then v1 else if z = n2 then v2 else m z) := by
  have e : (fun z => if z = n1 then v1 else if z = n2 then v2 else m z) = m := by
    funext z
    by_cases a : z = n1
    · rw [if_pos a, a, h1]
    · rw [if_neg a]
      by_cases b : z = n2
      · rw [if_pos b, b, h2]
      · rw [if_neg b]
  rw [e]; exact F

set_option maxHeartbeats 4000000 in
theorem rest_of_law {R : Addr} {arr : Array Value} {k : Nat} {row : List Int} {o1 o2 : Obj} {p : Int} (hsc : sc = scopeOf w.params 220)
    (hd1 : dp + 50 < recursionLimit) (hu1 : un + 500 < cLine) (C : LCtx w dp un gd base [] mean mg mb s.heap)
    (F : Fr s.heap L h m₀) (N : News s.heap L h [(R, listOf arr k), (L + 1 + 1, o2), (L + 1, o1)]) (c1 : o1.data = .cell (some (.ref R))) (c2 : o2.data = .cell none)
    (hPO : PassesOwn (model prg w) ((AA dp un gd []).deeper (LE sc L)) (LE sc L) E)
    (hi : IntsAre arr.toList row) (ok : LawOk row p) (hret : ∀ h' tk', (∀ b o, s.heap.get? b = some o → h'.get? b = some o) → Qf (.ret (.bool true)) { s with heap := h', toks := tk' }) :
    wpAny (model prg w) ((AA dp un gd []).deeper (LE sc L)) (execs [stmtOf w.params 220 1, stmtOf w.params 220 2, stmtOf w.params 220 3, stmtOf w.params 220 4, stmtOf w.params 220 5, stmtOf w.params 220 6, stmtOf w.params 220 7, stmtOf w.params 220 8, stmtOf w.params 220 9, stmtOf w.params 220 10, stmtOf w.params 220 11, stmtOf w.params 220 12, stmtOf w.params 220 13] (LE sc L)) Qf E { s with heap := h, toks := tk } := by
  refine segOP hsc rfl rfl hd1 hu1 C F N c1 c2 hi ok.r ok.l ok.o ok.hp ?_
  intro t0 tp h tk o2 F N c2
  refine seg34 hsc rfl rfl hd1 hu1 C F N c1 c2 hi ok.r ok.l ok.p0 ok.p2 (by rw [signs_len]; exact ok.l) ok.zM ?_
  intro t1 t2 h tk F N
  refine seg56 (row := row) (p := p) hsc rfl rfl hd1 hu1 C F N (by rw [byteArr_size]; exact ok.o) ok.oh.a ok.oh.z ok.W ?_
  intro t4 t1 t2 t3 h tk F N
  have F := Fr.self2 (n1 := Str.ofString "great") (n2 := Str.ofString "host") F rfl rfl
  refine seg7 (row := row) (p := p) hsc rfl hd1 hu1 C F N c1 hi ok.r ok.l ok.og.a ok.og.z ok.T ?_
  intro t1 t2 h tk F N
  refine seg8 (row := row) hsc rfl hd1 hu1 C F N c1 hi ok.r ok.l ?_
  intro Es ea ke Ls h tk F N hR hE
  have hes : (row :: behind row).length ≤ 13 := by have := behind_len row; have := ok.l; simp only [List.length_cons]; omega
  have hrE : ∀ e ∈ row :: behind row, (∀ n ∈ e, 0 ≤ n ∧ n < 64) ∧ e.length ≤ 12 := by
    intro e he
    rcases List.mem_cons.mp he with q | q
    · subst q; exact ⟨ok.r, ok.l⟩
    · obtain ⟨b1, b2⟩ := behind_mem q
      exact ⟨fun n hn => ok.r n (b1 n hn), Nat.le_trans b2 ok.l⟩
  refine seg9 (es := row :: behind row) hsc rfl hd1 hu1 C F N c2 hE hes hrE ?_
  intro Ns na kn h tk F N hNa
  refine seg10 (row := row) (low := Txt.lower (greatOf row p)) hsc rfl rfl hd1 hu1 C F N c1 c2 hR hi ok.r ok.l ok.og ok.oh ok.D ok.U ?_
  intro t1 t2 h tk F N
  refine seg12 (es := row :: behind row) hsc rfl hd1 hu1 C F N hPO rfl (by have := hE.length; simpa using this) hes ?_ ?_
  · intro i t st own h tk Qf' hin F N hq
    refine turn (es := row :: behind row) (p := p) (i := i) hsc rfl hd1 hu1 C F N c2 (hE.mono fun q hq => List.mem_append_left _ hq) hes hrE hNa ok.p0 ok.p2 hin ok.zM ok.og (ok.turn i hin) ?_
    intro m' h' tk' F N
    exact hq _ _ _ _ F N
  · intro m' h' tk' F N
    exact seg13 hsc rfl F (fun _ => hret _ _ F.keep)
end
end Mine
end
theorem Mine.anew_L_S {M : Model} {A : Around} {E : Value → Shared → Prop} {s : Shared} {env : Env} {Q : Flow → Shared → Prop} (h : Q .next s) : wpAny M A (execs [] env) Q E s := by
  w_top off
  first | (walk1; fail) | (w_top off; exact wpAny_execs_nil h)
section
namespace Mine
section
variable {w : World} {dp un : Nat} {gd : Option (List Code)} {base : Heap} {fr : List Env} {s : Shared} {Q E : Value → Shared → Prop}
local macro_rules | `(tactic| walk_at "m33 enter") => `(tactic| ((case k6 => k_is); (case k7 => k_is); (case k8 => omega); (case k9 => (intro kX9; first | exact BindsTo.of_eq rfl | exact binds_K kX9 rfl (by k_is) rfl rfl rfl)); (case c5 => decide); (case kB => exact locs rfl); (case c2 => exact rfl); (case c3 => exact rfl); (case c4 => exact rfl)))
local macro_rules | `(tactic| walk_at "exec For Name Name cons nil") => `(tactic| (k_here; (rename Fr _ _ _ _ => lF'); (with_unfolding_all refine' For_invVF lF' ?k1 ?k2 ?_; (case k1 => exact rfl); (case k2 => exact rfl); k_whole)))
local macro_rules | `(tactic| walk_at "pyIter ref") => `(tactic| ((with_reducible show wpAny _ _ (pyIter (Value.ref _)) (fun it s₂ => LoopAtV _ _ _ _ _ _ _ _ _ it s₂) _ _); refine Stop.out ?_))
local macro_rules | `(tactic| walk_at "call type:type") => `(tactic| ((with_reducible show wpAny _ _ (call (Value.type "type") [Value.bytes _ _]) _ _ _); refine type_bytes ?_))
local macro_rules | `(tactic| walk_at "getMethod str") => `(tactic| ((with_reducible show wpAny _ _ (getMethod (Value.str _ _) (PySem.Str.ofString "encode") _) _ _ _); with_reducible refine encode_method ?_))
local macro_rules | `(tactic| walk_at "storeName") => `(tactic| (k_here; k_dflt (first
  | ((with_reducible show wpAny _ _ (storeName _ _ (Value.int _ _)) _ _ _); refine' store_int ?F ?N ?_ ?a ?b; (case F => k_asm); (case N => k_asm); (case a => rfl); (case b => rfl); k_whole; intro t' tk' h' F' N'; (try dsimp only); (try k_sweep))
  | ((with_reducible show wpAny _ _ (storeName _ _ (Value.str _ _)) _ _ _); refine' store_str ?F ?N ?_ ?a ?b; (case F => k_asm); (case N => k_asm); (case a => rfl); (case b => rfl); k_whole; intro t' tk' h' F' N'; (try dsimp only); (try k_sweep))
  | ((with_reducible show wpAny _ _ (storeName _ _ (Value.bytes _ _)) _ _ _); refine' store_bytes ?F ?N ?_ ?a ?b; (case F => k_asm); (case N => k_asm); (case a => rfl); (case b => rfl); k_whole; intro t' tk' h' F' N'; (try dsimp only); (try k_sweep)))))
local macro_rules | `(tactic| walk_at "m33 go") => `(tactic| repeat' ((fail_if_success (with_reducible refine stopQ ?_)); first | (k_unfold; (try dsimp only)) | walk1 | (dsimp only; walk1) | (dsimp only; k_unfold; (try dsimp only)) | (leave1; walk_say "STEP leave1"; try dsimp only) | fail "no step"))
local macro_rules | `(tactic| walk_at "InvEndN") => `(tactic| refine Stop.out ?_)
local macro_rules | `(tactic| walk_at "InvEndA") => `(tactic| refine Stop.out ?_)
local macro_rules | `(tactic| walk_at "getMethod bytes") => `(tactic| ((with_reducible show wpAny _ _ (getMethod (Value.bytes _ _) (PySem.Str.ofString "translate") _) _ _ _); with_reducible refine translate_method ?_))
local macro_rules | `(tactic| walk_at "getMethod type:bytes") => `(tactic| (k_here; refine' method_type ?F ?X ?m (by decide +kernel) ?e ?h ?_; (case F => k_asm); (case X => k_asm); (case m => exact type_of_bytes); (case e => k_dflt k_is); (case h => k_handed)))
local macro_rules | `(tactic| walk_at "call builtin:bytes.maketrans") => `(tactic| (k_dflt (refine maketrans_call ?_); intro t' tk'; (try dsimp only)))
local macro_rules | `(tactic| units_room) => `(tactic| (simp only [Around.deeper_units]; omega))
local macro_rules | `(tactic| walk_at "m33 same") => `(tactic| (intro z hz; (try dsimp only); (repeat' split) <;> first | rfl | (exfalso; simp_all; done) | (simp_all; done)))
variable {mean : ExcName → Option Value} {mg mb : Str → Option Value} {L : Addr} {h : Heap} {m₀ : Str → Option Value} {tk : Nat} {rest : List Stmt} {sc : Scope} {Qf : Flow → Shared → Prop}
local macro_rules | `(tactic| walk_at "call ref") => `(tactic| (k_here; refine Stop.out ?_))
local macro_rules | `(tactic| walk_at "call builtin:len") => `(tactic| ((with_reducible show wpAny _ _ (call (Value.builtin "len") [Value.bytes (byteArr _) _]) _ _ _); refine len_arr (by omega) ?_; intro t' tk'; (try dsimp only)))
local macro_rules | `(tactic| walk_at "storeName") => `(tactic| (k_here; k_dflt ((with_reducible show wpAny _ _ (storeName _ _ (Value.int _ _)) _ _ _); refine' store_cint ?F ?N ?c ?U ?d ?_ ?a ?b; (case a => rfl); (case b => rfl); (case F => k_asm); (case N => k_asm); (case c => rfl); (case U => k_updF); (case d => k_asm); k_whole; intro t' tk' h' o' F' N' d'; (try dsimp only at N'); (try dsimp only); (try k_sweep))))


theorem modr (ns : List Int) : ∀ n ∈ (ns.take 12).map (fun k' => k'.fmod 1860), 0 ≤ n ∧ n < 1860 := by
  intro n hn
  obtain ⟨q, _, rfl⟩ := List.mem_map.mp hn
  rw [Int.fmod_eq_emod_of_nonneg _ (by decide)]
  omega
theorem news_more {h₀ h h' : Heap} {L R : Addr} {o : Obj} {m m' : Str → Option Value} {l : List (Addr × Obj)} (_ : Fr h₀ L h' m') (F : Fr h₀ L h m) (_ : News h₀ L h l) (N' : News h₀ L h' l) (hn : h.get? R = none) (ho : h'.get? R = some o) : News h₀ L h' ((R, o) :: l) := by
  intro p hp
  rcases List.mem_cons.mp hp with q | q
  · subst q
    refine ⟨ho, fun e => ?_, ?_⟩
    · obtain ⟨o', _, _, h1, _⟩ := F.ns
      have e' : R = L := e
      rw [← e', hn] at h1; cases h1
    · show h₀.get? R = none
      cases h1 : h₀.get? R with
      | none => rfl
      | some o' => rw [F.keep R o' h1] at hn; cases hn
  · exact N' p q
set_option maxRecDepth 100000 in
set_option maxHeartbeats 8000000 in
theorem seg0 {st0 : Stmt} {l : Addr} {vs : List Value} {ns : List Int} {o1 o2 : Obj} (hsc : sc = scopeOf w.params 220) (hs0 : st0 = stmtOf w.params 220 0)
    (hd1 : dp + 50 < recursionLimit) (hu1 : un + 500 < cLine) (C : LCtx w dp un gd base fr mean mg mb s.heap)
    (F : Fr s.heap L h (fun z => if z = Str.ofString "script" then some (.ref l) else m₀ z)) (N : News s.heap L h [(L + 1 + 1, o2), (L + 1, o1)]) (c1 : o1.data = .cell none)
    (hl : s.heap.IsList l vs.toArray) (hi : IntsAre vs ns) (hz : ns.length ≤ 63)
    (hnext : ∀ R arr k o1' h' tk', Fr s.heap L h' (fun z => if z = Str.ofString "script" then some (.ref l) else m₀ z) → News s.heap L h' [(R, listOf arr k), (L + 1 + 1, o2), (L + 1, o1')] → o1'.data = .cell (some (.ref R)) → IntsAre arr.toList (rowOf (if ns = [] then [160, 166, 0, 1] else (ns.take 12).map (fun x => x.fmod 1860))) →
      wpAny (model prg w) ((AA dp un gd fr).deeper (LE sc L)) (execs rest (LE sc L)) Qf E { s with heap := h', toks := tk' }) :
    wpAny (model prg w) ((AA dp un gd fr).deeper (LE sc L)) (execs (st0 :: rest) (LE sc L)) Qf E { s with heap := h, toks := tk } := by
  conv at hsc => rhs; whnf
  conv at hs0 => rhs; whnf
  subst hsc hs0
  obtain ⟨GB, B, X, T, D⟩ := C
  have hvs := hi.length
  walk_at "m33 go"
  · unfold Stop
    (with_reducible rename Fr _ _ _ _ => lF)
    (with_reducible rename News _ _ _ _ => lN)
    rename _ ∧ _ ∧ _ => ne3
    clear ne3
    rename IntsAre _ (List.map _ _) => hy
    rename 0 < _ => hpos
    refine row_spec (At.push GB B D lF rfl rfl) (by show dp + 1 + 20 < recursionLimit; omega) (by show un + 3 + 200 < cLine; omega) (News.isList lN (.head _)) hy (modr ns) (by simp; omega) ?_
    intro R arr k h3 tk3 st hnew hat hrow
    have F3 := Fr.stays lF st
    have N3 := News.stays lN st
    have N4 := news_more F3 lF lN N3 hnew hat
    clear lF lN st N3 hnew hat
    dsimp only at F3 N4 ⊢
    have N5 : News s.heap L h3 [(R, listOf arr k), (L + 1 + 1, o2), (L + 1, o1)] := fun p hp => N4 p (by
      simp only [List.mem_cons, List.not_mem_nil, or_false] at hp ⊢
      rcases hp with q | q | q <;> simp [q])
    clear N4
    walk_at "m33 go"
    refine hnext R arr k _ _ _ (by assumption) (by assumption) (by assumption) ?_
    · rw [if_neg (by rintro rfl; simp at hpos)]; exact hrow
  · unfold Stop
    (with_reducible rename Fr _ _ _ _ => lF)
    (with_reducible rename News _ _ _ _ => lN)
    rename _ ∧ _ ∧ _ => ne3
    clear ne3
    rename ¬ 0 < _ => hpos
    have hns : ns = [] := by
      cases ns with
      | nil => rfl
      | cons a r => exact absurd (by simp) hpos
    have hy : ∀ a b c d, IntsAre [Value.int 160 a, Value.int 166 b, Value.int 0 c, Value.int 1 d] [160, 166, 0, 1] := fun a b c d => .cons 160 a (.cons 166 b (.cons 0 c (.cons 1 d .nil)))
    refine row_spec (ns := [160, 166, 0, 1]) (At.push GB B D lF rfl rfl) (by show dp + 1 + 20 < recursionLimit; omega) (by show un + 3 + 200 < cLine; omega) (News.isList lN (.head _)) (hy _ _ _ _) (by decide) (by decide) ?_
    intro R arr k h3 tk3 st hnew hat hrow
    have F3 := Fr.stays lF st
    have N3 := News.stays lN st
    have N4 := news_more F3 lF lN N3 hnew hat
    clear lF lN st N3 hnew hat
    dsimp only at F3 N4 ⊢
    have N5 : News s.heap L h3 [(R, listOf arr k), (L + 1 + 1, o2), (L + 1, o1)] := fun p hp => N4 p (by
      simp only [List.mem_cons, List.not_mem_nil, or_false] at hp ⊢
      rcases hp with q | q | q <;> simp [q])
    clear N4
    walk_at "m33 go"
    refine hnext R arr k _ _ _ (by assumption) (by assumption) (by assumption) ?_
    · rw [if_pos hns]; exact hrow
end
end Mine
end
theorem Mine.anew_L_T {M : Model} {A : Around} {E : Value → Shared → Prop} {s : Shared} {env : Env} {Q : Flow → Shared → Prop} (h : Q .next s) : wpAny M A (execs [] env) Q E s := by
  w_top off
  first | (walk1; fail) | (w_top off; exact wpAny_execs_nil h)
section
namespace Mine
section
variable {w : World} {dp un : Nat} {gd : Option (List Code)} {base : Heap} {fr : List Env} {s : Shared} {Q E : Value → Shared → Prop}
local macro_rules | `(tactic| walk_at "m33 enter") => `(tactic| ((case k6 => k_is); (case k7 => k_is); (case k8 => omega); (case k9 => (intro kX9; first | exact BindsTo.of_eq rfl | exact binds_K kX9 rfl (by k_is) rfl rfl rfl)); (case c5 => decide); (case kB => exact locs rfl); (case c2 => exact rfl); (case c3 => exact rfl); (case c4 => exact rfl)))
local macro_rules | `(tactic| walk_at "exec For Name Name cons nil") => `(tactic| (k_here; (rename Fr _ _ _ _ => lF'); (with_unfolding_all refine' For_invVF lF' ?k1 ?k2 ?_; (case k1 => exact rfl); (case k2 => exact rfl); k_whole)))
local macro_rules | `(tactic| walk_at "pyIter ref") => `(tactic| ((with_reducible show wpAny _ _ (pyIter (Value.ref _)) (fun it s₂ => LoopAtV _ _ _ _ _ _ _ _ _ it s₂) _ _); refine Stop.out ?_))
local macro_rules | `(tactic| walk_at "call type:type") => `(tactic| ((with_reducible show wpAny _ _ (call (Value.type "type") [Value.bytes _ _]) _ _ _); refine type_bytes ?_))
local macro_rules | `(tactic| walk_at "getMethod str") => `(tactic| ((with_reducible show wpAny _ _ (getMethod (Value.str _ _) (PySem.Str.ofString "encode") _) _ _ _); with_reducible refine encode_method ?_))
local macro_rules | `(tactic| walk_at "storeName") => `(tactic| (k_here; k_dflt (first
  | ((with_reducible show wpAny _ _ (storeName _ _ (Value.int _ _)) _ _ _); refine' store_int ?F ?N ?_ ?a ?b; (case F => k_asm); (case N => k_asm); (case a => rfl); (case b => rfl); k_whole; intro t' tk' h' F' N'; (try dsimp only); (try k_sweep))
  | ((with_reducible show wpAny _ _ (storeName _ _ (Value.str _ _)) _ _ _); refine' store_str ?F ?N ?_ ?a ?b; (case F => k_asm); (case N => k_asm); (case a => rfl); (case b => rfl); k_whole; intro t' tk' h' F' N'; (try dsimp only); (try k_sweep))
  | ((with_reducible show wpAny _ _ (storeName _ _ (Value.bytes _ _)) _ _ _); refine' store_bytes ?F ?N ?_ ?a ?b; (case F => k_asm); (case N => k_asm); (case a => rfl); (case b => rfl); k_whole; intro t' tk' h' F' N'; (try dsimp only); (try k_sweep)))))
local macro_rules | `(tactic| walk_at "m33 go") => `(tactic| repeat' ((fail_if_success (with_reducible refine stopQ ?_)); first | (k_unfold; (try dsimp only)) | walk1 | (dsimp only; walk1) | (dsimp only; k_unfold; (try dsimp only)) | (leave1; walk_say "STEP leave1"; try dsimp only) | fail "no step"))
local macro_rules | `(tactic| walk_at "InvEndN") => `(tactic| refine Stop.out ?_)
local macro_rules | `(tactic| walk_at "InvEndA") => `(tactic| refine Stop.out ?_)
local macro_rules | `(tactic| walk_at "getMethod bytes") => `(tactic| ((with_reducible show wpAny _ _ (getMethod (Value.bytes _ _) (PySem.Str.ofString "translate") _) _ _ _); with_reducible refine translate_method ?_))
local macro_rules | `(tactic| walk_at "getMethod type:bytes") => `(tactic| (k_here; refine' method_type ?F ?X ?m (by decide +kernel) ?e ?h ?_; (case F => k_asm); (case X => k_asm); (case m => exact type_of_bytes); (case e => k_dflt k_is); (case h => k_handed)))
local macro_rules | `(tactic| walk_at "call builtin:bytes.maketrans") => `(tactic| (k_dflt (refine maketrans_call ?_); intro t' tk'; (try dsimp only)))
local macro_rules | `(tactic| units_room) => `(tactic| (simp only [Around.deeper_units]; omega))
local macro_rules | `(tactic| walk_at "m33 same") => `(tactic| (intro z hz; (try dsimp only); (repeat' split) <;> first | rfl | (exfalso; simp_all; done) | (simp_all; done)))
variable {mean : ExcName → Option Value} {mg mb : Str → Option Value} {L : Addr} {h : Heap} {m₀ : Str → Option Value} {tk : Nat} {rest : List Stmt} {sc : Scope} {Qf : Flow → Shared → Prop}
local macro_rules | `(tactic| walk_at "call ref") => `(tactic| (k_here; refine Stop.out ?_))
local macro_rules | `(tactic| walk_at "call builtin:len") => `(tactic| ((with_reducible show wpAny _ _ (call (Value.builtin "len") [Value.bytes (byteArr _) _]) _ _ _); refine len_arr (by omega) ?_; intro t' tk'; (try dsimp only)))
local macro_rules | `(tactic| walk_at "storeName") => `(tactic| (k_here; k_dflt ((with_reducible show wpAny _ _ (storeName _ _ (Value.int _ _)) _ _ _); refine' store_cint ?F ?N ?c ?U ?d ?_ ?a ?b; (case a => rfl); (case b => rfl); (case F => k_asm); (case N => k_asm); (case c => rfl); (case U => k_updF); (case d => k_asm); k_whole; intro t' tk' h' o' F' N' d'; (try dsimp only at N'); (try dsimp only); (try k_sweep))))


set_option maxRecDepth 100000 in
set_option maxHeartbeats 8000000 in
theorem law_spec {l : Addr} {vs : List Value} {ns : List Int} {p : Int} {R : Result → Shared → Prop} (G : At w base [] s.heap) (hd1 : dp + 60 < recursionLimit) (hu1 : un + 600 < cLine)
    (hl : s.heap.IsList l vs.toArray) (hi : IntsAre vs ns) (hz : ns.length ≤ 63) (ok : LawOk (rowOf (if ns = [] then [160, 166, 0, 1] else (ns.take 12).map (fun x => x.fmod 1860))) p)
    (hret : ∀ h' tk', (∀ b o, s.heap.get? b = some o → h'.get? b = some o) → R (.ok (.ret (.bool true))) { s with heap := h', toks := tk' }) :
    codeAny (model prg w) (AA dp un gd []) (.call (.ref 220) ⟨[.ref l], []⟩) R s := by
  k_dflt (refine' enterC (name := Str.ofString "law") (cdv := .ref 219) (body := bodyOf w.params 220) (scope := scopeOf w.params 220) (binds := [(Str.ofString "script", .ref l)]) G ?ho ?hcd ?hroom ?hbind ?hkind ?hnd ?hco ?hgen ?hk ?_)
  case ho => exact rfl
  case hcd => k_is
  case hroom => omega
  case hbind => exact rfl
  case hkind => exact rfl
  case hnd => exact (by decide : ([Str.ofString "pads", Str.ofString "row"] : List Str).Nodup)
  case hco => exact rfl
  case hgen => exact rfl
  case hk => exact rfl
  intro mean mg mb L' h₁ tk cells GB B X T D F N Y
  cells_open Y
  rename _ = Data.cell (bindC _ _ _ (Str.ofString "pads")) => c2
  rename _ = Data.cell (bindC _ _ _ (Str.ofString "row")) => c1
  clear Y
  have eb : bindL (envOfC (Str.ofString "law") (scopeOf w.params 220) L' 220 (Value.ref 219)).kindOf [(Str.ofString "script", Value.ref l)] (fun _ => none) = fun z => if z = Str.ofString "script" then some (.ref l) else (fun _ => none) z := by exact rfl
  rw [eb] at F
  rw [body_eq]
  refine seg0 rfl rfl (by omega) (by omega) ⟨GB, B, X, T, D⟩ F N (c1.trans (by exact rfl)) hl hi hz ?_
  intro Ra arr k o1 h2 tk2 F2 N2 d1 hrow
  refine rest_of_law rfl (by omega) (by omega) ⟨GB, B, X, T, D⟩ F2 N2 d1 (c2.trans (by exact rfl)) PassesOwn.leaving hrow ok ?_
  intro h3 tk3 hk
  exact hret _ _ hk
end
end Mine
end
section
namespace Mine
/-- the bits held at a place of the quad -/
def bitsOf : Nat → Int
  | 0 => 0
  | 1 => 6
  | 2 => 4
  | _ => 2
theorem octGo0 (f : Int) (r : List Int) : octGo (f :: r) 0 0 = octGo r f 6 := by
  rw [octGo, if_neg (by decide)]; simp
theorem octGo6 (f h : Int) (r : List Int) : octGo (f :: r) h 6 = (h * 64 + f) / 16 :: octGo r ((h * 64 + f) % 16) 4 := by
  rw [octGo, if_pos (by decide)]; rfl
theorem octGo4 (f h : Int) (r : List Int) : octGo (f :: r) h 4 = (h * 64 + f) / 4 :: octGo r ((h * 64 + f) % 4) 2 := by
  rw [octGo, if_pos (by decide)]; rfl
theorem octGo2 (f h : Int) (r : List Int) : octGo (f :: r) h 2 = (h * 64 + f) :: octGo r 0 0 := by
  rw [octGo, if_pos (by decide)]
  have e1 : (2 : Int) ^ ((2 : Int) - 2).toNat = 1 := by decide
  rw [e1]
  have e2 : (h * 64 + f) / 1 = h * 64 + f := Int.ediv_one _
  have e3 : (h * 64 + f) % 1 = 0 := Int.emod_one _
  rw [e2, e3]; rfl
/-- a code whose figure is n -/
def Cd (c n : Int) : Prop := c ≠ 61 ∧ b64v c = n ∧ 0 ≤ n ∧ n < 64
inductive Cds : List Int → List Int → Prop
  | nil : Cds [] []
  | cons {c n cs ns} : Cd c n → Cds cs ns → Cds (c :: cs) (n :: ns)
theorem Cds.length {cs ns : List Int} (h : Cds cs ns) : cs.length = ns.length := by
  induction h with
  | nil => rfl
  | cons _ _ ih => simp [ih]
theorem Cds.map {α : Type} {f g : α → Int} : ∀ {l : List α}, (∀ a ∈ l, Cd (f a) (g a)) → Cds (l.map f) (l.map g)
  | [], _ => .nil
  | a :: l, h => .cons (h a (.head _)) (Cds.map fun b hb => h b (.tail _ hb))

theorem a2bGo_figs {tl : List Int} {cs ns : List Int} (h : Cds cs ns) : ∀ (k : Nat) (l p : Int) (out : List Int), k < 4 → (k = 0 → l = 0) → 0 ≤ l →
    ∃ l', a2bGo (cs ++ tl) k l p out = a2bGo tl ((k + ns.length) % 4 : Nat) l' (if ns.length = 0 then p else 0) (out ++ octGo ns l (bitsOf k)) := by
  induction h with
  | nil =>
    intro k l p out hk h0 hl
    refine ⟨l, ?_⟩
    have e : (k + 0) % 4 = k := by omega
    simp [octGo, Nat.mod_eq_of_lt hk]
  | @cons c n cs ns hc _ ih =>
    intro k l p out hk h0 hl
    obtain ⟨c1, c2, c3, c4⟩ := hc
    have e64 : ¬ (64 ≤ b64v c) := by omega
    match k, hk with
    | 0, _ =>
      have hl0 := h0 rfl
      subst hl0
      obtain ⟨l', e⟩ := ih 1 n 0 out (by decide) (fun h => absurd h (by decide)) c3
      refine ⟨l', ?_⟩
      have s1 : a2bGo (c :: cs ++ tl) ((0 : Nat) : Int) 0 p out = a2bGo (cs ++ tl) ((1 : Nat) : Int) n 0 out := by
        rw [List.cons_append, a2bGo, if_neg c1, if_neg e64, if_pos (by rfl), c2]; rfl
      rw [s1, e]
      have e3 : octGo (n :: ns) 0 (bitsOf 0) = octGo ns n (bitsOf 1) := octGo0 _ _
      rw [e3]
      have em : (1 + ns.length) % 4 = (0 + (n :: ns).length) % 4 := by simp only [List.length_cons]; omega
      rw [if_neg (show ¬ (n :: ns).length = 0 by simp), ite_self, em]
    | 1, _ =>
      obtain ⟨l', e⟩ := ih 2 (n % 16) 0 (out ++ [l * 4 + n / 16]) (by decide) (fun h => absurd h (by decide)) (by omega)
      refine ⟨l', ?_⟩
      have s1 : a2bGo (c :: cs ++ tl) ((1 : Nat) : Int) l p out = a2bGo (cs ++ tl) ((2 : Nat) : Int) (n % 16) 0 (out ++ [l * 4 + n / 16]) := by
        rw [List.cons_append, a2bGo, if_neg c1, if_neg e64, if_neg (by decide), if_pos (by rfl), c2]; rfl
      rw [s1, e]
      have e3 : octGo (n :: ns) l (bitsOf 1) = (l * 4 + n / 16) :: octGo ns (n % 16) (bitsOf 2) := by
        show octGo (n :: ns) l 6 = _
        rw [octGo6, show (l * 64 + n) / 16 = l * 4 + n / 16 by omega, show (l * 64 + n) % 16 = n % 16 by omega]; rfl
      rw [e3, List.append_assoc, List.singleton_append]
      have em : (2 + ns.length) % 4 = (1 + (n :: ns).length) % 4 := by simp only [List.length_cons]; omega
      rw [if_neg (show ¬ (n :: ns).length = 0 by simp), ite_self, em]
    | 2, _ =>
      obtain ⟨l', e⟩ := ih 3 (n % 4) 0 (out ++ [l * 16 + n / 4]) (by decide) (fun h => absurd h (by decide)) (by omega)
      refine ⟨l', ?_⟩
      have s1 : a2bGo (c :: cs ++ tl) ((2 : Nat) : Int) l p out = a2bGo (cs ++ tl) ((3 : Nat) : Int) (n % 4) 0 (out ++ [l * 16 + n / 4]) := by
        rw [List.cons_append, a2bGo, if_neg c1, if_neg e64, if_neg (by decide), if_neg (by decide), if_pos (by rfl), c2]; rfl
      rw [s1, e]
      have e3 : octGo (n :: ns) l (bitsOf 2) = (l * 16 + n / 4) :: octGo ns (n % 4) (bitsOf 3) := by
        show octGo (n :: ns) l 4 = _
        rw [octGo4, show (l * 64 + n) / 4 = l * 16 + n / 4 by omega, show (l * 64 + n) % 4 = n % 4 by omega]; rfl
      rw [e3, List.append_assoc, List.singleton_append]
      have em : (3 + ns.length) % 4 = (2 + (n :: ns).length) % 4 := by simp only [List.length_cons]; omega
      rw [if_neg (show ¬ (n :: ns).length = 0 by simp), ite_self, em]
    | 3, _ =>
      obtain ⟨l', e⟩ := ih 0 0 0 (out ++ [l * 64 + n]) (by decide) (by intro _; rfl) (by decide)
      refine ⟨l', ?_⟩
      have s1 : a2bGo (c :: cs ++ tl) ((3 : Nat) : Int) l p out = a2bGo (cs ++ tl) ((0 : Nat) : Int) 0 0 (out ++ [l * 64 + n]) := by
        rw [List.cons_append, a2bGo, if_neg c1, if_neg e64, if_neg (by decide), if_neg (by decide), if_neg (by decide), c2]; rfl
      rw [s1, e]
      have e3 : octGo (n :: ns) l (bitsOf 3) = (l * 64 + n) :: octGo ns 0 (bitsOf 0) := octGo2 _ _ _
      rw [e3, List.append_assoc, List.singleton_append]
      have em : (0 + ns.length) % 4 = (3 + (n :: ns).length) % 4 := by simp only [List.length_cons]; omega
      rw [if_neg (show ¬ (n :: ns).length = 0 by simp), ite_self, em]
theorem a2bGo_pads (q l : Int) (out : List Int) : ∀ (p : Nat) (p0 : Int), a2bGo (List.replicate p 61) q l p0 out = (q, p0 + p, out)
  | 0, p0 => by simp [a2bGo]
  | p + 1, p0 => by
    rw [List.replicate_succ, a2bGo, if_pos rfl, a2bGo_pads q l out p (p0 + 1)]
    congr 2; push_cast; omega
/-- the reader reads the figures -/
theorem a2b_figs {cs ns : List Int} (h : Cds cs ns) (p : Nat) : a2b (cs ++ List.replicate p 61) = readOf ns p := by
  obtain ⟨l', e⟩ := a2bGo_figs (tl := List.replicate p 61) h 0 0 0 [] (by decide) (by intro _; rfl) (by decide)
  rw [a2bGo_pads, ite_self] at e
  unfold a2b readOf
  have e' : a2bGo (cs ++ List.replicate p 61) 0 0 0 [] = (((ns.length % 4 : Nat) : Int), (p : Int), octs ns) := by
    have := e
    rw [show (0 + ns.length) % 4 = ns.length % 4 by omega, Int.zero_add, List.nil_append] at this
    exact this
  rw [e']
  dsimp only
  have hb : ns.length % 4 < 4 := Nat.mod_lt _ (by decide)
  by_cases h1 : ns.length % 4 = 1
  · rw [if_pos (by omega), if_pos (.inl h1)]
  · rw [if_neg (by omega)]
    by_cases h2 : 1 < ns.length % 4 ∧ ((ns.length % 4 : Nat) : Int) + p < 4
    · rw [if_pos ⟨by omega, h2.2⟩, if_pos (.inr h2)]
    · rw [if_neg (by rintro ⟨a, b⟩; exact h2 ⟨by omega, b⟩), if_neg (by rintro (a | a); exact h1 a; exact h2 a)]

/-- whole octets -/
def Canon : List Int → Prop
  | [] => True
  | [_] => False
  | [_, b] => b % 16 = 0
  | [_, _, c] => c % 4 = 0
  | _ :: _ :: _ :: _ :: r => Canon r
theorem whole4 (a b c d : Int) (r : List Int) : whole (a :: b :: c :: d :: r) = a :: b :: c :: d :: whole r := by
  have hb : r.length % 4 < 4 := Nat.mod_lt _ (by decide)
  have e : (a :: b :: c :: d :: r).length % 4 = r.length % 4 := by simp only [List.length_cons]; omega
  unfold whole
  rw [e]
  by_cases h0 : r.length % 4 = 0
  · rw [if_pos h0, if_pos h0]
  · rw [if_neg h0, if_neg h0]
    have hne : r ≠ [] := by rintro rfl; exact h0 rfl
    obtain ⟨x, t, rfl⟩ := List.exists_cons_of_ne_nil hne
    by_cases h1 : (x :: t).length % 4 = 1
    · rw [if_pos h1, if_pos h1]; rfl
    · rw [if_neg h1, if_neg h1]
      by_cases h2 : (x :: t).length % 4 = 2
      · rw [if_pos h2, if_pos h2]; rfl
      · rw [if_neg h2, if_neg h2]; rfl
theorem canon_whole : ∀ ns : List Int, Canon (whole ns)
  | [] => trivial
  | [a] => by show (0 : Int) % 16 = 0; rfl
  | [a, b] => by show (b / 16 * 16) % 16 = 0; omega
  | [a, b, c] => by show (c / 4 * 4) % 4 = 0; omega
  | a :: b :: c :: d :: r => by rw [whole4]; exact canon_whole r
theorem whole_range : ∀ ns : List Int, (∀ n ∈ ns, 0 ≤ n ∧ n < 64) → ∀ n ∈ whole ns, 0 ≤ n ∧ n < 64
  | [], h => h
  | [a], h => by
    intro n hn
    have hn' : n ∈ [a, 0] := hn
    have ha := h a (.head _)
    simp at hn'; omega
  | [a, b], h => by
    intro n hn
    have hn' : n ∈ [a, b / 16 * 16] := hn
    have ha := h a (.head _)
    have hb := h b (.tail _ (.head _))
    simp at hn'; omega
  | [a, b, c], h => by
    intro n hn
    have hn' : n ∈ [a, b, c / 4 * 4] := hn
    have ha := h a (.head _)
    have hb := h b (.tail _ (.head _))
    have hc := h c (.tail _ (.tail _ (.head _)))
    simp at hn'; omega
  | a :: b :: c :: d :: r, h => by
    rw [whole4]
    intro n hn
    simp only [List.mem_cons] at hn
    rcases hn with q | q | q | q | q
    · exact h n (by simp [q])
    · exact h n (by simp [q])
    · exact h n (by simp [q])
    · exact h n (by simp [q])
    · exact whole_range r (fun m hm => h m (by simp [hm])) n q
theorem whole_length : ∀ ns : List Int, ns.length ≤ 12 → (whole ns).length ≤ 12 := by
  intro ns h
  unfold whole
  split
  · exact h
  · split
    · simp; omega
    · split
      · simp; omega
      · simp; omega
/-- the = that a row wants -/
def padN : List Int → Nat
  | [] => 0
  | [_] => 0
  | [_, _] => 2
  | [_, _, _] => 1
  | _ :: _ :: _ :: _ :: r => padN r
theorem padN_le : ∀ ns : List Int, padN ns ≤ 2
  | [] => Nat.zero_le 2
  | [_] => Nat.zero_le 2
  | [_, _] => Nat.le_refl 2
  | [_, _, _] => (by decide : 1 ≤ 2)
  | _ :: _ :: _ :: _ :: r => padN_le r
theorem octs4 (a b c d : Int) (r : List Int) : octs (a :: b :: c :: d :: r) = (a * 64 + b) / 16 :: ((a * 64 + b) % 16 * 64 + c) / 4 :: (((a * 64 + b) % 16 * 64 + c) % 4 * 64 + d) :: octs r := by
  unfold octs
  rw [octGo0, octGo6, octGo4, octGo2]
theorem octs_length : ∀ ns : List Int, Canon ns → (octs ns).length * 4 = ns.length * 3 - padN ns ∧ (padN ns + ns.length) % 4 = 0 ∧ ((octs ns).length + padN ns) % 3 = 0
  | [], _ => by decide
  | [_], h => h.elim
  | [a, b], _ => by
    have : octs [a, b] = [(a * 64 + b) / 16] := by unfold octs; rw [octGo0, octGo6]; rfl
    rw [this]; exact ⟨rfl, (by decide : (2 + 2) % 4 = 0), (by decide : (1 + 2) % 3 = 0)⟩
  | [a, b, c], _ => by
    have : octs [a, b, c] = [(a * 64 + b) / 16, ((a * 64 + b) % 16 * 64 + c) / 4] := by unfold octs; rw [octGo0, octGo6, octGo4]; rfl
    rw [this]; exact ⟨rfl, (by decide : (1 + 3) % 4 = 0), (by decide : (2 + 1) % 3 = 0)⟩
  | a :: b :: c :: d :: r, h => by
    obtain ⟨h1, h2, h3⟩ := octs_length r h
    have hp := padN_le r
    rw [octs4]
    simp only [List.length_cons]
    have e : padN (a :: b :: c :: d :: r) = padN r := rfl
    rw [e]
    refine ⟨?_, by omega, by omega⟩
    omega

theorem octs_range : ∀ ns : List Int, Canon ns → (∀ n ∈ ns, 0 ≤ n ∧ n < 64) → ∀ x ∈ octs ns, 0 ≤ x ∧ x < 256
  | [], _, _ => by intro x hx; exact absurd hx List.not_mem_nil
  | [_], h, _ => h.elim
  | [a, b], hc, h => by
    have e : octs [a, b] = [(a * 64 + b) / 16] := by unfold octs; rw [octGo0, octGo6]; rfl
    have ha := h a (by simp)
    have hb := h b (by simp)
    rw [e]; intro x hx; rw [List.mem_singleton.mp hx]; omega
  | [a, b, c], hc, h => by
    have e : octs [a, b, c] = [(a * 64 + b) / 16, ((a * 64 + b) % 16 * 64 + c) / 4] := by unfold octs; rw [octGo0, octGo6, octGo4]; rfl
    have ha := h a (by simp)
    have hb := h b (by simp)
    have hc := h c (by simp)
    rw [e]; intro x hx
    simp only [List.mem_cons, List.not_mem_nil, or_false] at hx
    rcases hx with rfl | rfl <;> omega
  | a :: b :: c :: d :: r, hc, h => by
    have ha := h a (by simp)
    have hb := h b (by simp)
    have hc' := h c (by simp)
    have hd := h d (by simp)
    rw [octs4]; intro x hx
    simp only [List.mem_cons] at hx
    rcases hx with rfl | rfl | rfl | hx
    · omega
    · omega
    · omega
    · exact octs_range r hc (fun m hm => h m (by simp [hm])) x hx
/-- the writer's end -/
def b2aFin : List Int × Int × Int → List Int
  | (out, lb, lc) => out.map c64 ++ (if lb = 2 then [c64 (lc % 4 * 16), 61, 61] else if lb = 4 then [c64 (lc % 16 * 4), 61] else [])
theorem b2a_fin (bs : List Int) : b2a bs = b2aFin (b2aGo bs 0 0 []) := rfl
theorem w0 (b lc : Int) (r out : List Int) : b2aGo (b :: r) 0 lc out = b2aGo r 2 ((lc * 256 + b) % 65536) (out ++ [(lc * 256 + b) % 65536 / 4 % 64]) := by
  rw [b2aGo, if_pos rfl]
theorem w2 (b lc : Int) (r out : List Int) : b2aGo (b :: r) 2 lc out = b2aGo r 4 ((lc * 256 + b) % 65536) (out ++ [(lc * 256 + b) % 65536 / 16 % 64]) := by
  rw [b2aGo, if_neg (by decide), if_pos rfl]
theorem w4 (b lc : Int) (r out : List Int) : b2aGo (b :: r) 4 lc out = b2aGo r 0 ((lc * 256 + b) % 65536) (out ++ [(lc * 256 + b) % 65536 / 64 % 64] ++ [(lc * 256 + b) % 65536 % 64]) := by
  rw [b2aGo, if_neg (by decide), if_neg (by decide)]
theorem n0 {a b : Int} (lc : Int) (ha : 0 ≤ a ∧ a < 64) (hb : 0 ≤ b ∧ b < 64) : (lc * 256 + (a * 64 + b) / 16) % 65536 / 4 % 64 = a := by omega
theorem n1 {a b c : Int} (lc : Int) (ha : 0 ≤ a ∧ a < 64) (hb : 0 ≤ b ∧ b < 64) (hc : 0 ≤ c ∧ c < 64) : ((lc * 256 + (a * 64 + b) / 16) % 65536 * 256 + ((a * 64 + b) % 16 * 64 + c) / 4) % 65536 / 16 % 64 = b := by omega
theorem n2 {a b c d : Int} (lc : Int) (hb : 0 ≤ b ∧ b < 64) (hc : 0 ≤ c ∧ c < 64) (hd : 0 ≤ d ∧ d < 64) : (lc * 256 + ((a * 64 + b) % 16 * 64 + c) / 4) % 65536 % 16 = c / 4 := by omega
theorem n3 {u c d : Int} (lc : Int) (hc : 0 ≤ c ∧ c < 64) (hd : 0 ≤ d ∧ d < 64) (hl : lc % 16 = c / 4) : (lc * 256 + ((u % 16 * 64 + c) % 4 * 64 + d)) % 65536 / 64 % 64 = c := by omega
theorem n4 {u c d : Int} (lc : Int) (hc : 0 ≤ c ∧ c < 64) (hd : 0 ≤ d ∧ d < 64) : (lc * 256 + ((u % 16 * 64 + c) % 4 * 64 + d)) % 65536 % 64 = d := by omega
theorem m2 {a b : Int} (lc : Int) (ha : 0 ≤ a ∧ a < 64) (hb : 0 ≤ b ∧ b < 64) (hc : b % 16 = 0) : (lc * 256 + (a * 64 + b) / 16) % 65536 % 4 * 16 = b := by omega
theorem m3 {a b c : Int} (lc : Int) (hb : 0 ≤ b ∧ b < 64) (hc : 0 ≤ c ∧ c < 64) (h4 : c % 4 = 0) : (lc * 256 + ((a * 64 + b) % 16 * 64 + c) / 4) % 65536 % 16 * 4 = c := by omega
/-- the writer writes the figures -/
theorem b2aGo_octs : ∀ (ns : List Int), Canon ns → (∀ n ∈ ns, 0 ≤ n ∧ n < 64) → ∀ (lc : Int) (out : List Int), b2aFin (b2aGo (octs ns) 0 lc out) = out.map c64 ++ ns.map c64 ++ List.replicate (padN ns) 61
  | [], _, _, lc, out => by
    show out.map c64 ++ [] = out.map c64 ++ [] ++ []
    simp
  | [_], h, _, _, _ => h.elim
  | [a, b], hc, h, lc, out => by
    have ha := h a (by simp)
    have hb := h b (by simp)
    have e : octs [a, b] = [(a * 64 + b) / 16] := by unfold octs; rw [octGo0, octGo6]; rfl
    rw [e, w0, n0 lc ha hb]
    show (out ++ [a]).map c64 ++ [c64 ((lc * 256 + (a * 64 + b) / 16) % 65536 % 4 * 16), 61, 61] = out.map c64 ++ [c64 a, c64 b] ++ [61, 61]
    rw [m2 lc ha hb hc]
    simp
  | [a, b, c], h4, h, lc, out => by
    have ha := h a (by simp)
    have hb := h b (by simp)
    have hc := h c (by simp)
    have e : octs [a, b, c] = [(a * 64 + b) / 16, ((a * 64 + b) % 16 * 64 + c) / 4] := by unfold octs; rw [octGo0, octGo6, octGo4]; rfl
    rw [e, w0, w2, n0 lc ha hb, n1 lc ha hb hc]
    show (out ++ [a] ++ [b]).map c64 ++ [c64 (((lc * 256 + (a * 64 + b) / 16) % 65536 * 256 + ((a * 64 + b) % 16 * 64 + c) / 4) % 65536 % 16 * 4), 61] = out.map c64 ++ [c64 a, c64 b, c64 c] ++ [61]
    rw [m3 _ hb hc h4]
    simp
  | a :: b :: c :: d :: r, hcr, h, lc, out => by
    have ha := h a (by simp)
    have hb := h b (by simp)
    have hc := h c (by simp)
    have hd := h d (by simp)
    rw [octs4, w0, w2, w4, n0 lc ha hb, n1 lc ha hb hc, n3 _ hc hd (n2 _ hb hc hd), n4 _ hc hd, b2aGo_octs r hcr (fun m hm => h m (by simp [hm]))]
    show (out ++ [a] ++ [b] ++ [c] ++ [d]).map c64 ++ r.map c64 ++ List.replicate (padN r) 61 = out.map c64 ++ (c64 a :: c64 b :: c64 c :: c64 d :: r.map c64) ++ List.replicate (padN r) 61
    simp
theorem b2a_octs {ns : List Int} (hc : Canon ns) (h : ∀ n ∈ ns, 0 ≤ n ∧ n < 64) : b2a (octs ns) = ns.map c64 ++ List.replicate (padN ns) 61 := by
  rw [b2a_fin, b2aGo_octs ns hc h]; simp
theorem bInts_byteArr {bs : List Int} (h : ∀ x ∈ bs, 0 ≤ x ∧ x < 256) : bInts (byteArr bs) = bs := by
  unfold bInts byteArr
  rw [List.toList_toArray, List.map_map]
  conv => rhs; rw [← List.map_id bs]
  refine List.map_congr_left fun x hx => ?_
  have := h x hx
  show ((x.toNat.toUInt8).toNat : Int) = x
  rw [Nat.toUInt8, UInt8.toNat_ofNat']
  omega
end Mine
end
section
namespace Mine
open PySem.Sre (isDigit)
/-- a text of figures, = behind -/
def tx (g : Int → Nat) (e : List Int) (p : Nat) : List Nat := e.map g ++ List.replicate p 61
structure SgF (g : Int → Nat) : Prop where
  dot : ∀ n, 0 ≤ n ∧ n < 64 → (g n = 46 ↔ n = 62)
  dig : ∀ n, 0 ≤ n ∧ n < 64 → isDigit (g n) = decide (51 < n ∧ n < 62)
theorem fin64 {P : Int → Prop} (h : ∀ k : Fin 64, P (k.val : Int)) : ∀ n : Int, 0 ≤ n ∧ n < 64 → P n := by
  rintro n ⟨h0, h1⟩
  obtain ⟨m, rfl⟩ := Int.eq_ofNat_of_zero_le h0
  exact h ⟨m, by omega⟩
theorem sg_great : SgF signc := ⟨fin64 (by decide +kernel), fin64 (by decide +kernel)⟩
theorem sg_small : SgF (fun n => lo1 (signc n)) := ⟨fin64 (by decide +kernel), fin64 (by decide +kernel)⟩

def num (e : List Int) : Bool := decide (62 ∈ e) && (decide (tailGo e [] ≠ []) && (tailGo e []).all fun f => decide (51 < f ∧ f < 62))
theorem numbered_num (e : List Int) (p : Int) : numbered e p = (decide (p ≤ 0) && num e) := by
  unfold numbered num; rw [Bool.and_assoc]
theorem tailGo_mem : ∀ (r t : List Int), 62 ∈ r → tailGo r t = tailGo r []
  | [], _, h => absurd h List.not_mem_nil
  | f :: r, t, h => by
    rw [tailGo, tailGo]
    by_cases hf : f = 62
    · rw [if_pos hf, if_pos hf]
    · have hr : 62 ∈ r := by
        rcases List.mem_cons.mp h with q | q
        · exact absurd q.symm hf
        · exact q
      rw [if_neg hf, if_neg hf, tailGo_mem r _ hr, tailGo_mem r ([] ++ [f]) hr]
theorem tailGo_nomem : ∀ (r t : List Int), 62 ∉ r → tailGo r t = t ++ r
  | [], t, _ => by simp [tailGo]
  | f :: r, t, h => by
    have hf : f ≠ 62 := fun q => h (by simp [q])
    rw [tailGo, if_neg hf, tailGo_nomem r _ (fun q => h (by simp [q]))]; simp
theorem num_nomem {e : List Int} (h : 62 ∉ e) : num e = false := by
  unfold num; rw [decide_eq_false h]; rfl
theorem num_cons_mem (f : Int) {r : List Int} (h : 62 ∈ r) : num (f :: r) = num r := by
  unfold num
  have e : tailGo (f :: r) [] = tailGo r [] := by
    rw [tailGo]; split
    · rfl
    · exact tailGo_mem r _ h
  rw [e, decide_eq_true h, decide_eq_true (show (62 : Int) ∈ f :: r from .tail _ h)]
theorem num_cons_dot {r : List Int} (h : 62 ∉ r) : num (62 :: r) = (decide (r ≠ []) && r.all fun f => decide (51 < f ∧ f < 62)) := by
  unfold num
  have e : tailGo (62 :: r) [] = r := by
    rw [tailGo, if_pos rfl]; exact tailGo_nomem r _ h
  rw [e, decide_eq_true (show (62 : Int) ∈ 62 :: r from .head _)]; rfl
theorem num_suffix (e : List Int) : ∀ pre : List Int, num (pre ++ 62 :: e) = num (62 :: e)
  | [] => rfl
  | f :: pre => by rw [List.cons_append, num_cons_mem f (by simp), num_suffix e pre]

theorem hitAt_cons (c : Nat) (t : List Nat) : hitAt (c :: t) = (decide (c = 46) && (decide (t ≠ []) && t.all isDigit)) := by
  cases t with
  | nil => simp [hitAt]
  | cons d r =>
    show (c == 46 && (d :: r).all isDigit) = _
    rw [decide_eq_true (show d :: r ≠ [] by simp)]
    by_cases h : c = 46 <;> simp [h]
theorem hit_cons (c : Nat) (t : List Nat) : hit (c :: t) = (hitAt (c :: t) || hit t) := rfl
theorem hit_last (x : Nat) (hx : isDigit x = false) : ∀ l : List Nat, hit (l ++ [x]) = false
  | [] => by
    show hit [x] = false
    rw [hit_cons, hitAt_cons]; simp [hit]
  | c :: l => by
    rw [List.cons_append, hit_cons, hit_last x hx l, hitAt_cons]
    simp [hx]
theorem hit_nomem : ∀ l : List Nat, (∀ c ∈ l, c ≠ 46) → hit l = false
  | [], _ => rfl
  | c :: l, h => by
    rw [hit_cons, hit_nomem l (fun d hd => h d (.tail _ hd)), hitAt_cons, decide_eq_false (h c (.head _))]; rfl
theorem all_dig {g : Int → Nat} (G : SgF g) : ∀ r : List Int, (∀ n ∈ r, 0 ≤ n ∧ n < 64) → (r.map g).all isDigit = r.all fun f => decide (51 < f ∧ f < 62)
  | [], _ => rfl
  | f :: r, h => by
    rw [List.map_cons, List.all_cons, List.all_cons, G.dig f (h f (.head _)), all_dig G r (fun n hn => h n (.tail _ hn))]
theorem hit_map {g : Int → Nat} (G : SgF g) : ∀ e : List Int, (∀ n ∈ e, 0 ≤ n ∧ n < 64) → hit (e.map g) = num e
  | [], _ => rfl
  | f :: r, h => by
    have hr : ∀ n ∈ r, 0 ≤ n ∧ n < 64 := fun n hn => h n (.tail _ hn)
    have hf := h f (.head _)
    rw [List.map_cons, hit_cons, hit_map G r hr, hitAt_cons, all_dig G r hr]
    by_cases hm : 62 ∈ r
    · rw [num_cons_mem f hm]
      have e : (r.all fun f => decide (51 < f ∧ f < 62)) = false := by
        rw [List.all_eq_false]; exact ⟨62, hm, by decide⟩
      rw [e]; simp
    · rw [num_nomem hm]
      by_cases h62 : f = 62
      · subst h62
        rw [num_cons_dot hm, decide_eq_true ((G.dot 62 hf).mpr rfl)]
        simp
      · rw [num_nomem (by simp only [List.mem_cons, not_or]; exact ⟨fun q => h62 q.symm, hm⟩), decide_eq_false (fun q => h62 ((G.dot f hf).mp q))]; rfl
theorem hit_tx {g : Int → Nat} (G : SgF g) {e : List Int} (h : ∀ n ∈ e, 0 ≤ n ∧ n < 64) (p : Nat) : hit (tx g e p) = numbered e p := by
  rw [numbered_num]
  cases p with
  | zero =>
    show hit (e.map g ++ []) = (decide ((0 : Int) ≤ 0) && num e)
    rw [List.append_nil, hit_map G e h]; rfl
  | succ p =>
    unfold tx
    rw [List.replicate_succ', ← List.append_assoc, hit_last 61 (by decide), decide_eq_false (by omega)]; rfl

/-- where = stand, the last figure is no dot -/
def Kp (e : List Int) (p : Nat) : Prop := 0 < p → e ≠ [] ∧ e.getLastD 0 ≠ 62
theorem hdn_tx {g : Int → Nat} (G : SgF g) {e : List Int} (h : ∀ n ∈ e, 0 ≤ n ∧ n < 64) {p : Nat} (K : Kp e p) {x : Str} (hx : x.cps.toList = tx g e p) : hdnS x = named e p := by
  unfold hdnS hitS named
  rw [hx, hit_tx G h]
  cases e with
  | nil =>
    have hp : p = 0 := by
      rcases Nat.eq_zero_or_pos p with q | q
      · exact q
      · exact absurd rfl (K q).1
    subst hp
    simp [tx]
  | cons f r =>
    have hf := h f (.head _)
    have e1 : decide ((tx g (f :: r) p).headD 0 ≠ 46) = decide ((f :: r).headD 0 ≠ 62) := by
      show decide (g f ≠ 46) = decide (f ≠ 62)
      rw [decide_eq_decide]; exact not_congr (G.dot f hf)
    have e2 : decide ((tx g (f :: r) p).getLastD 0 ≠ 46) = decide ((f :: r).getLastD 0 ≠ 62) := by
      cases p with
      | zero =>
        have q1 : tx g (f :: r) 0 = (f :: r).map g := by simp [tx]
        have q2 : ∀ (l : List Int) (a : Int), ((a :: l).map g).getLastD 0 = g ((a :: l).getLastD 0) := by
          intro l
          induction l with
          | nil => intro a; rfl
          | cons b l ih => intro a; exact ih b
        have q3 : ∀ (l : List Int) (a : Int), (a :: l).getLastD 0 ∈ a :: l := by
          intro l
          induction l with
          | nil => intro a; exact .head _
          | cons b l ih => intro a; exact .tail _ (ih b)
        rw [q1, q2, decide_eq_decide]
        exact not_congr (G.dot _ (h _ (q3 r f)))
      | succ p =>
        have q1 : (tx g (f :: r) (p + 1)).getLastD 0 = 61 := by
          unfold tx
          rw [List.replicate_succ', ← List.append_assoc, List.getLastD_eq_getLast?, List.getLast?_append]; rfl
        rw [q1, decide_eq_true (show (61 : Nat) ≠ 46 by decide), decide_eq_true (K (Nat.succ_pos p)).2]
    rw [e1, e2, decide_eq_true (show tx g (f :: r) p ≠ [] by simp [tx]), decide_eq_true (show f :: r ≠ [] by simp), Bool.and_comm (!_), Bool.true_and, Bool.true_and]
    generalize decide ((f :: r).headD 0 ≠ 62) = b1
    generalize decide ((f :: r).getLastD 0 ≠ 62) = b2
    generalize numbered (f :: r) p = b3
    cases b1 <;> cases b2 <;> cases b3 <;> rfl
end Mine
end
section
open PySem PySem.W PyProof.Rows PySem.StrLaws
open PySem.Builtin PySem.Builtin.Str
namespace Mine
theorem str_ext {a b : Str} (h : a.cps.toList = b.cps.toList) : a = b := Str.ext' (Array.toList_inj.mp h)
theorem str_len (a : Str) : a.length = a.cps.toList.length := by obtain ⟨⟨l⟩⟩ := a; rfl
theorem str_beq (a b : Str) : (a == b) = decide (a.cps.toList = b.cps.toList) := by
  by_cases h : a.cps.toList = b.cps.toList
  · rw [decide_eq_true h, str_ext h]; simp
  · rw [decide_eq_false h]
    exact beq_false_of_ne fun e => h (by rw [e])
theorem app_list (a b : Str) : (a ++ b).cps.toList = a.cps.toList ++ b.cps.toList := by rw [Str.cps_append]; simp
theorem lower_list {x : Str} (h : ∀ c ∈ x.cps.toList, c < 128) : (Txt.lower x).cps.toList = x.cps.toList.map lo1 := by rw [lower_ascii h]; simp
theorem upper_list {x : Str} (h : ∀ c ∈ x.cps.toList, c < 128) : (Txt.upper x).cps.toList = x.cps.toList.map up1 := by rw [upper_ascii h]; simp

theorem at_iff (x y : Str) (i : Nat) : StrLaws.At x y x.length i ↔ i + y.cps.toList.length ≤ x.cps.toList.length ∧ (x.cps.toList.drop i).take y.cps.toList.length = y.cps.toList := by
  unfold StrLaws.At
  rw [subAt_eq, str_len x, str_len y, beq_iff_eq]
theorem rfind_end {x y : Str} {a : List Nat} (h : x.cps.toList = a ++ y.cps.toList) : Txt.rfind x y = a.length := by
  have hA : StrLaws.At x y x.length a.length := by
    rw [at_iff, h]
    exact ⟨by rw [List.length_append]; omega, by rw [List.drop_left, List.take_length]⟩
  unfold Txt.rfind
  rcases last_spec x y with ⟨_, hn⟩ | ⟨i, e, hi, hk⟩
  · exact absurd hA (hn _)
  · rw [e]
    have h1 : i ≤ a.length := by
      have := ((at_iff x y i).mp hi).1
      rw [h, List.length_append] at this; omega
    have h2 : ¬ i < a.length := fun q => hk _ q hA
    have : i = a.length := by omega
    rw [this]
theorem starts_dot (y : Str) : Txt.startswith y (Str.ofString ".") = decide (y.cps.toList.headD 0 = 46) := by
  unfold Txt.startswith
  rw [subAt_eq, str_len y]
  show (decide (0 + 1 ≤ y.cps.toList.length) && ((y.cps.toList.drop 0).take 1 == [46])) = _
  cases y.cps.toList with
  | nil => rfl
  | cons c r => by_cases h : c = 46 <;> simp [h]
theorem ends_end {x y : Str} {a : List Nat} (h : x.cps.toList = a ++ y.cps.toList) : Txt.endswith x y = true := by
  unfold Txt.endswith
  rw [subAt_eq, str_len x, str_len y, h, List.length_append, Nat.add_sub_cancel, List.drop_left, List.take_length]
  simp
theorem slice_from {x : Str} (i : Nat) (h : i ≤ x.cps.toList.length) : (Txt.slice x (some (i : Int)) none).cps.toList = x.cps.toList.drop i := by
  have e := StrLaws.sliceText_from (x := x) (i := (i : Int)) ⟨by omega, by omega⟩
  have e2 : Txt.slice x (some (i : Int)) none = StrLaws.sliceText x (some (i : Int)) none := rfl
  rw [e2, e]
  show ((x.cps.toList.drop (i : Int).toNat).take ((x.cps.toList.length : Int) - (i : Int)).toNat).toArray.toList = _
  rw [List.toList_toArray, Int.toNat_natCast, List.take_of_length_le]
  rw [List.length_drop]; omega
theorem slice1_sub {x : Str} : ∀ c ∈ (Txt.slice x (some 1) none).cps.toList, c ∈ x.cps.toList := by
  intro c hc
  by_cases h : 1 ≤ x.cps.toList.length
  · have := slice_from 1 h
    rw [show ((1 : Nat) : Int) = 1 from rfl] at this
    rw [this] at hc
    exact List.mem_of_mem_drop hc
  · have hx : x = Str.ofString "" := by
      refine str_ext ?_
      show _ = []
      exact List.eq_nil_of_length_eq_zero (by omega)
    subst hx
    exact hc
theorem find_some {x : Str} {a b : List Nat} (h : x.cps.toList = a ++ 46 :: b) (ha : 46 ∉ a) : Txt.find x (Str.ofString ".") = a.length := by
  have key : ∀ i, StrLaws.At x (Str.ofString ".") x.length i ↔ x.cps.toList[i]? = some 46 := fun i => subAt_one x 46 i
  have hA : StrLaws.At x (Str.ofString ".") x.length a.length := by rw [key, h]; simp
  unfold Txt.find
  rcases occ_head x (Str.ofString ".") 1 (by decide) with ⟨_, hn⟩ | ⟨i, r, e, hi, hk⟩
  · exact absurd hA (hn _)
  · rw [e]
    have h2 : ¬ a.length < i := fun q => hk _ q hA
    have h1 : ¬ i < a.length := fun q => by
      have := (key i).mp hi
      rw [h, List.getElem?_append_left q] at this
      exact ha (List.mem_of_getElem? this)
    have : i = a.length := by omega
    rw [this]
theorem find_none {x : Str} (h : 46 ∉ x.cps.toList) : Txt.find x (Str.ofString ".") = -1 := by
  have key : ∀ i, StrLaws.At x (Str.ofString ".") x.length i ↔ x.cps.toList[i]? = some 46 := fun i => subAt_one x 46 i
  unfold Txt.find
  rcases occ_head x (Str.ofString ".") 1 (by decide) with ⟨e, _⟩ | ⟨i, r, e, hi, hk⟩
  · rw [e]
  · exact absurd (List.mem_of_getElem? ((key i).mp hi)) h
end Mine
end
section
namespace Mine
theorem mul_eq : ∀ p : Nat, p ≤ 2 → (Txt.mul (Str.ofString "=") (p : Int)).cps.toList = List.replicate p 61
  | 0, _ => rfl
  | 1, _ => rfl
  | 2, _ => rfl
  | _ + 3, h => absurd h (by omega)
theorem text_list (e : List Int) {p : Nat} (hp : p ≤ 2) : (signs e ++ Txt.mul (Str.ofString "=") (p : Int)).cps.toList = tx signc e p := by
  rw [app_list, mul_eq p hp]; rfl
theorem zone_list (e : List Int) {p : Nat} (hp : p ≤ 2) : (Str.ofString "." ++ (signs e ++ Txt.mul (Str.ofString "=") (p : Int))).cps.toList = tx signc (62 :: e) p := by
  rw [app_list, text_list e hp]; rfl
theorem tx_map {g : Int → Nat} {f : Nat → Nat} (h : f 61 = 61) (e : List Int) (p : Nat) : (tx g e p).map f = tx (fun n => f (g n)) e p := by
  unfold tx; rw [List.map_append, List.map_map, List.map_replicate, h]; rfl
theorem tx_all {g : Int → Nat} {P : Nat → Prop} (h61 : P 61) (h : ∀ n, 0 ≤ n ∧ n < 64 → P (g n)) {e : List Int} (he : ∀ n ∈ e, 0 ≤ n ∧ n < 64) (p : Nat) : ∀ c ∈ tx g e p, P c := by
  intro c hc
  rcases List.mem_append.mp hc with q | q
  · obtain ⟨n, hn, rfl⟩ := List.mem_map.mp q
    exact h n (he n hn)
  · rw [(List.mem_replicate.mp q).2]; exact h61
theorem tx_len (g : Int → Nat) (e : List Int) (p : Nat) : (tx g e p).length = e.length + p := by simp [tx]
theorem tx_app (g : Int → Nat) (a b : List Int) (p : Nat) : tx g (a ++ b) p = a.map g ++ tx g b p := by simp [tx]
theorem tx_congr {g g' : Int → Nat} (h : ∀ n, 0 ≤ n ∧ n < 64 → g n = g' n) {e : List Int} (he : ∀ n ∈ e, 0 ≤ n ∧ n < 64) (p : Nat) : tx g e p = tx g' e p := by
  unfold tx; rw [List.map_congr_left fun n hn => h n (he n hn)]
theorem sign_ok : ∀ n : Int, 0 ≤ n ∧ n < 64 → signc n < 128 ∧ signc n ≠ 10 := by
  intro n hn; unfold signc; (repeat' split) <;> omega
theorem upsign_ok : ∀ n : Int, 0 ≤ n ∧ n < 64 → up1 (signc n) < 128 ∧ up1 (signc n) ≠ 10 := by
  intro n hn; have := sign_ok n hn; unfold up1; split <;> omega
theorem upsign_lo : ∀ n : Int, 0 ≤ n ∧ n < 64 → lo1 (up1 (signc n)) = lo1 (signc n) := by
  intro n _; unfold up1 lo1; (repeat' split) <;> omega

theorem oks_of {x : Str} (hz : x.cps.toList.length ≤ 40) (h : ∀ c ∈ x.cps.toList, c < 128 ∧ c ≠ 10) : OkS x (Txt.lower x) := by
  have hl := lower_list fun c hc => (h c hc).1
  have h10 : ∀ c ∈ (Txt.lower x).cps.toList, c ≠ 10 := by
    rw [hl]; intro c hc
    obtain ⟨d, hd, rfl⟩ := List.mem_map.mp hc
    have := h d hd
    unfold lo1; split <;> omega
  exact ⟨rfl, by rw [str_len]; exact hz, by rw [str_len, hl, List.length_map]; exact hz, fun c hc => (h c hc).2, h10, fun c hc => h10 c (slice1_sub c hc), fun c hc => (h c hc).1⟩

theorem mkTab_get (f1 f2 x1 x2 c : UInt8) : (mkTab f1 f2 x1 x2).getD c.toNat c = if f2.toNat = c.toNat then x2 else if f1.toNat = c.toNat then x1 else c := by
  have hc : c.toNat < 256 := UInt8.toNat_lt c
  have hs : c.toNat < ((((Array.range 256).map (·.toUInt8)).setIfInBounds f1.toNat x1).setIfInBounds f2.toNat x2).size := by simpa using hc
  unfold mkTab
  rw [Array.getD_eq_getD_getElem?, Array.getElem?_eq_getElem hs, Option.getD_some]
  rw [Array.getElem_setIfInBounds, Array.getElem_setIfInBounds]
  · split
    · rfl
    · split
      · rfl
      · simp
  all_goals simpa using hc
/-- what the reader sees of a code -/
def dcode (c : Nat) : Int := ((if (45 : UInt8).toNat = c.toUInt8.toNat then (47 : UInt8) else if (46 : UInt8).toNat = c.toUInt8.toNat then 43 else c.toUInt8).toNat : Int)
theorem dcode_tab (c : Nat) : (((mkTab 46 45 43 47).getD c.toUInt8.toNat c.toUInt8).toNat : Int) = dcode c := by rw [mkTab_get]; rfl
theorem dcode_signs : ∀ n : Int, 0 ≤ n ∧ n < 64 → (dcode (signc n) ≠ 61 ∧ b64v (dcode (signc n)) = n) ∧ (dcode (up1 (signc n)) ≠ 61 ∧ b64v (dcode (up1 (signc n))) = down n) := fin64 (by decide +kernel)
theorem decT_tx {g : Int → Nat} {f : Int → Int} {e : List Int} (he : ∀ n ∈ e, 0 ≤ n ∧ n < 64) (h : ∀ n, 0 ≤ n ∧ n < 64 → Cd (dcode (g n)) (f n)) {x : Str} {p : Nat} (hx : x.cps.toList = tx g e p) : decT x = readOf (e.map f) p := by
  have e1 : bInts ((x.cps.map (·.toUInt8)).map fun c => (mkTab 46 45 43 47).getD c.toNat c) = (e.map fun n => dcode (g n)) ++ List.replicate p 61 := by
    unfold bInts
    rw [Array.toList_map, Array.toList_map, hx, List.map_map, List.map_map]
    unfold tx
    rw [List.map_append, List.map_map, List.map_replicate]
    have d61 : dcode 61 = 61 := by decide +kernel
    show List.map (fun n => (((mkTab 46 45 43 47).getD (g n).toUInt8.toNat (g n).toUInt8).toNat : Int)) e ++ List.replicate p (((mkTab 46 45 43 47).getD (61 : Nat).toUInt8.toNat (61 : Nat).toUInt8).toNat : Int) = _
    rw [dcode_tab, d61, List.map_congr_left fun n _ => dcode_tab (g n)]
  unfold decT
  rw [e1]
  exact a2b_figs (Cds.map fun n hn => h n (he n hn)) p
theorem down_range {n : Int} (h : 0 ≤ n ∧ n < 64) : 0 ≤ down n ∧ down n < 64 := by unfold down; split <;> omega
theorem decT_small {e : List Int} (he : ∀ n ∈ e, 0 ≤ n ∧ n < 64) {x : Str} {p : Nat} (hx : x.cps.toList = tx signc e p) : decT x = readOf e p := by
  have := decT_tx (f := fun n => n) he (fun n hn => ⟨(dcode_signs n hn).1.1, (dcode_signs n hn).1.2, hn⟩) hx
  rw [this, List.map_id']
theorem decT_great {e : List Int} (he : ∀ n ∈ e, 0 ≤ n ∧ n < 64) {x : Str} {p : Nat} (hx : x.cps.toList = tx (fun n => up1 (signc n)) e p) : decT x = readOf (e.map down) p :=
  decT_tx he (fun n hn => ⟨(dcode_signs n hn).2.1, (dcode_signs n hn).2.2, down_range hn⟩) hx
theorem readOf_whole {ns ms : List Int} (hc : Canon ns) (hl : ms.length = ns.length) : readOf ms (padN ns : Int) = some (octs ms) := by
  obtain ⟨_, h2, _⟩ := octs_length ns hc
  have hp := padN_le ns
  unfold readOf
  rw [if_neg]
  rintro (q | ⟨q1, q2⟩)
  · omega
  · omega
theorem enc_signs : ∀ n : Int, 0 ≤ n ∧ n < 64 → (mkTab 43 47 46 45).getD ((c64 n).toNat.toUInt8).toNat ((c64 n).toNat.toUInt8) = (signc n).toUInt8 := by
  have key : ∀ n : Int, 0 ≤ n ∧ n < 64 → (if (47 : UInt8).toNat = ((c64 n).toNat.toUInt8).toNat then (45 : UInt8) else if (43 : UInt8).toNat = ((c64 n).toNat.toUInt8).toNat then 46 else ((c64 n).toNat.toUInt8)) = (signc n).toUInt8 := fin64 (by decide +kernel)
  intro n hn
  rw [mkTab_get]; exact key n hn
theorem encB_octs {ns : List Int} (hc : Canon ns) (hr : ∀ n ∈ ns, 0 ≤ n ∧ n < 64) {x : Str} (hx : x.cps.toList = tx signc ns (padN ns)) : encB (byteArr (octs ns)) = x.cps.map (·.toUInt8) := by
  unfold encB
  rw [bInts_byteArr (octs_range ns hc hr), b2a_octs hc hr]
  apply Array.toList_inj.mp
  rw [Array.toList_map, Array.toList_map, hx]
  unfold byteArr tx
  rw [List.toList_toArray]
  simp only [List.map_append, List.map_map, List.map_replicate]
  have e1 : List.map ((fun c => (mkTab 43 47 46 45).getD c.toNat c) ∘ (fun n : Int => n.toNat.toUInt8) ∘ c64) ns = List.map ((fun x => x.toUInt8) ∘ signc) ns := List.map_congr_left fun n hn => enc_signs n (hr n hn)
  have e2 : (mkTab 43 47 46 45).getD (Int.toNat 61).toUInt8.toNat (Int.toNat 61).toUInt8 = Nat.toUInt8 61 := by rw [mkTab_get]; rfl
  rw [e1, e2]

section
variable {g : Int → Nat} {row pre e : List Int} {p : Nat} {X Z R : Str}
theorem g62 (G : SgF g) : g 62 = 46 := (G.dot 62 (by decide)).mpr rfl
theorem hitS_tx (G : SgF g) (h : ∀ n ∈ row, 0 ≤ n ∧ n < 64) (hX : X.cps.toList = tx g row p) : hitS X = numbered row p := by
  unfold hitS; rw [hX, hit_tx G h]
theorem numbered_suffix (h : row = pre ++ 62 :: e) (p : Int) : numbered row p = numbered (62 :: e) p := by
  rw [numbered_num, numbered_num, h, num_suffix]
theorem udm_zone (G : SgF g) (h : row = pre ++ 62 :: e) (hr : ∀ n ∈ row, 0 ≤ n ∧ n < 64) (hX : X.cps.toList = tx g row p) (hZ : Z.cps.toList = tx g (62 :: e) p) :
    udmS X Z = (decide (pre = []) || !numbered row p) := by
  have hz : ∀ n ∈ 62 :: e, 0 ≤ n ∧ n < 64 := fun n hn => hr n (by rw [h]; exact List.mem_append_right _ hn)
  have hsuf : X.cps.toList = pre.map g ++ Z.cps.toList := by rw [hX, hZ, h, tx_app]
  have hs : Txt.startswith Z (Str.ofString ".") = true := by rw [starts_dot, hZ]; exact decide_eq_true (g62 G)
  have hb : (X == Z) = decide (pre = []) := by
    rw [str_beq, hsuf, decide_eq_decide]; simp
  unfold udmS
  rw [hitS_tx G hr hX, hitS_tx G hz hZ, ← numbered_suffix h, hs, ends_end hsuf, hb]
  generalize numbered row p = b
  generalize decide (pre = []) = c
  cases b <;> cases c <;> rfl
theorem dm_zone (G : SgF g) (h : row = pre ++ 62 :: e) (hr : ∀ n ∈ row, 0 ≤ n ∧ n < 64) (hX : X.cps.toList = tx g row p) (hZ : Z.cps.toList = tx g (62 :: e) p) (K : Kp row p) (Ke : Kp e p) :
    dmS X Z = (decide (pre = []) || (named row p && named e p)) := by
  have he : ∀ n ∈ e, 0 ≤ n ∧ n < 64 := fun n hn => hr n (by rw [h]; exact List.mem_append_right _ (.tail _ hn))
  have hsuf : X.cps.toList = pre.map g ++ Z.cps.toList := by rw [hX, hZ, h, tx_app]
  have hs : Txt.startswith Z (Str.ofString ".") = true := by rw [starts_dot, hZ]; exact decide_eq_true (g62 G)
  have hb : (X == Z) = decide (pre = []) := by
    rw [str_beq, hsuf, decide_eq_decide]; simp
  have hsl : (Txt.slice Z (some 1) none).cps.toList = tx g e p := by
    have := slice_from (x := Z) 1 (by rw [hZ, tx_len]; simp; omega)
    rw [show ((1 : Nat) : Int) = 1 from rfl] at this
    rw [this, hZ]; rfl
  unfold dmS
  rw [hb, hdn_tx G hr K hX, hdn_tx G he Ke hsl, rfind_end hsuf, hs, List.length_map]
  by_cases hp : pre = []
  · rw [decide_eq_true hp]; rfl
  · rw [decide_eq_false hp, if_neg (by decide)]
    have : pre.length ≠ 0 := fun q => hp (List.eq_nil_of_length_eq_zero q)
    rw [decide_eq_true (show ((pre.length : Nat) : Int) ≠ -1 by omega), decide_eq_true (show ((pre.length : Nat) : Int) ≠ 0 by omega)]
    simp
theorem head_tx (G : SgF g) (he : ∀ n ∈ e, 0 ≤ n ∧ n < 64) (p : Nat) : decide ((tx g e p).headD 0 = 46) = decide (e.take 1 = [62]) := by
  cases e with
  | nil =>
    cases p with
    | zero => rfl
    | succ p => rfl
  | cons f r =>
    show decide (g f = 46) = decide ([f] = [62])
    rw [decide_eq_decide, G.dot f (he f (.head _))]
    simp
theorem rest_ne (h : row = pre ++ 62 :: e) (hX : X.cps.toList = tx g row p) (hR : R.cps.toList = tx g e p) : (X == R) = false := by
  rw [str_beq, decide_eq_false]
  intro q
  have := congrArg List.length q
  rw [hX, hR, tx_len, tx_len, h] at this
  simp at this
  omega
theorem udm_rest (G : SgF g) (h : row = pre ++ 62 :: e) (hr : ∀ n ∈ row, 0 ≤ n ∧ n < 64) (hX : X.cps.toList = tx g row p) (hR : R.cps.toList = tx g e p) :
    udmS X R = (decide (e.take 1 = [62]) && !numbered row p) := by
  have he : ∀ n ∈ e, 0 ≤ n ∧ n < 64 := fun n hn => hr n (by rw [h]; exact List.mem_append_right _ (.tail _ hn))
  have hsuf : X.cps.toList = (pre ++ [62]).map g ++ R.cps.toList := by rw [hX, hR, h, ← tx_app]; simp
  unfold udmS
  rw [hitS_tx G hr hX, hitS_tx G he hR, starts_dot, hR, head_tx G he p, ends_end hsuf, rest_ne h hX hR]
  by_cases hd : e.take 1 = [62]
  · obtain ⟨e', rfl⟩ : ∃ e', e = 62 :: e' := by
      cases e with
      | nil => cases hd
      | cons f r => exact ⟨r, by simp at hd; rw [hd]⟩
    have h2 : row = (pre ++ [62]) ++ 62 :: e' := by rw [h]; simp
    rw [← numbered_suffix h2, decide_eq_true hd]
    generalize numbered row p = b
    cases b <;> rfl
  · rw [decide_eq_false hd]
    simp
theorem dm_rest (G : SgF g) (h : row = pre ++ 62 :: e) (hr : ∀ n ∈ row, 0 ≤ n ∧ n < 64) (hX : X.cps.toList = tx g row p) (hR : R.cps.toList = tx g e p) (K : Kp row p) (Ke : ∀ e', e = 62 :: e' → Kp e' p) :
    dmS X R = (decide (e.take 1 = [62]) && named row p && named (e.drop 1) p) := by
  have he : ∀ n ∈ e, 0 ≤ n ∧ n < 64 := fun n hn => hr n (by rw [h]; exact List.mem_append_right _ (.tail _ hn))
  have hsuf : X.cps.toList = (pre ++ [62]).map g ++ R.cps.toList := by rw [hX, hR, h, ← tx_app]; simp
  unfold dmS
  rw [rest_ne h hX hR, if_neg (by decide), hdn_tx G hr K hX, rfind_end hsuf, starts_dot, hR, head_tx G he p]
  by_cases hd : e.take 1 = [62]
  · obtain ⟨e', rfl⟩ : ∃ e', e = 62 :: e' := by
      cases e with
      | nil => cases hd
      | cons f r => exact ⟨r, by simp at hd; rw [hd]⟩
    have hsl : (Txt.slice R (some 1) none).cps.toList = tx g e' p := by
      have := slice_from (x := R) 1 (by rw [hR, tx_len]; simp; omega)
      rw [show ((1 : Nat) : Int) = 1 from rfl] at this
      rw [this, hR]; rfl
    rw [hdn_tx G (fun n hn => he n (.tail _ hn)) (Ke e' rfl) hsl, decide_eq_true hd]
    have hl : ((pre ++ [62]).map g).length = pre.length + 1 := by simp
    rw [hl, decide_eq_true (show ((pre.length + 1 : Nat) : Int) ≠ -1 by omega), decide_eq_true (show ((pre.length + 1 : Nat) : Int) ≠ 0 by omega)]
    simp
  · rw [decide_eq_false hd]
    simp
end
end Mine
end
section
namespace Mine
section
variable {row e : List Int} {p : Nat} {x : Str}
theorem split62 : ∀ {e : List Int}, 62 ∈ e → ∃ a b, e = a ++ 62 :: b ∧ 62 ∉ a ∧ behind e = b :: behind b
  | f :: r, h => by
    by_cases hf : f = 62
    · exact ⟨[], r, by rw [hf]; rfl, List.not_mem_nil, by rw [behind, if_pos hf]⟩
    · have hr : 62 ∈ r := by
        rcases List.mem_cons.mp h with q | q
        · exact absurd q.symm hf
        · exact q
      obtain ⟨a, b, e1, e2, e3⟩ := split62 hr
      refine ⟨f :: a, b, by rw [e1]; rfl, ?_, by rw [behind, if_neg hf]; exact e3⟩
      intro q
      rcases List.mem_cons.mp q with q | q
      · exact hf q.symm
      · exact e2 q
theorem behind_none : ∀ {e : List Int}, 62 ∉ e → behind e = []
  | [], _ => rfl
  | f :: r, h => by
    rw [behind, if_neg (fun q => h (by simp [q]))]
    exact behind_none fun q => h (.tail _ q)
theorem dot_mem {a : List Int} (ha : ∀ n ∈ a, 0 ≤ n ∧ n < 64) (h : 62 ∉ a) : 46 ∉ a.map signc := by
  intro q
  obtain ⟨n, hn, e⟩ := List.mem_map.mp q
  exact h (((sg_great.dot n (ha n hn)).mp e) ▸ hn)
theorem dot_tx {a : List Int} (ha : ∀ n ∈ a, 0 ≤ n ∧ n < 64) (h : 62 ∉ a) (p : Nat) : 46 ∉ tx signc a p := by
  intro q
  rcases List.mem_append.mp q with q | q
  · exact dot_mem ha h q
  · exact absurd (List.mem_replicate.mp q).2 (by decide)
theorem sign_inj : ∀ n : Int, 0 ≤ n ∧ n < 64 → ∀ m : Int, 0 ≤ m ∧ m < 64 → signc n = signc m → n = m := by
  have key : ∀ k j : Fin 64, signc (k.val : Int) = signc (j.val : Int) → (k.val : Int) = (j.val : Int) := by decide +kernel
  intro n hn m hm
  exact fin64 (P := fun n => ∀ m : Int, 0 ≤ m ∧ m < 64 → signc n = signc m → n = m) (fun k => fin64 (fun j => key k j)) n hn m hm
theorem signs_inj : ∀ {a b : List Int}, (∀ n ∈ a, 0 ≤ n ∧ n < 64) → (∀ n ∈ b, 0 ≤ n ∧ n < 64) → a.map signc = b.map signc → a = b
  | [], [], _, _, _ => rfl
  | [], _ :: _, _, _, h => by simp at h
  | _ :: _, [], _, _, h => by simp at h
  | n :: a, m :: b, ha, hb, h => by
    simp only [List.map_cons, List.cons.injEq] at h
    rw [sign_inj n (ha n (.head _)) m (hb m (.head _)) h.1, signs_inj (fun k hk => ha k (.tail _ hk)) (fun k hk => hb k (.tail _ hk)) h.2]
theorem sign_not61 : ∀ n : Int, 0 ≤ n ∧ n < 64 → signc n ≠ 61 := fin64 (by decide +kernel)
theorem local_iff {e : List Int} (he : ∀ n ∈ e, 0 ≤ n ∧ n < 64) (hx : x.cps.toList = tx signc e p) : x = Str.ofString "local" ↔ p = 0 ∧ e = lcl := by
  have hlc : (Str.ofString "local").cps.toList = lcl.map signc := by decide +kernel
  constructor
  · intro q
    have e1 : tx signc e p = lcl.map signc := by rw [← hx, q, hlc]
    have hp : p = 0 := by
      cases p with
      | zero => rfl
      | succ p =>
        exfalso
        have : (61 : Nat) ∈ lcl.map signc := by rw [← e1]; simp [tx]
        obtain ⟨n, hn, q⟩ := List.mem_map.mp this
        exact sign_not61 n ((by decide : ∀ n ∈ lcl, 0 ≤ n ∧ n < 64) n hn) q
    subst hp
    refine ⟨rfl, signs_inj he (by decide) ?_⟩
    rw [← e1]; simp [tx]
  · rintro ⟨rfl, rfl⟩
    refine str_ext ?_
    rw [hx, hlc]; simp [tx]
/-- what reach gives of a text of figures -/
theorem reach_tx (he : ∀ n ∈ e, 0 ≤ n ∧ n < 64) (K : Kp e p) (hx : x.cps.toList = tx signc e p) :
    (62 ∉ e → reachS x = x) ∧ ∀ a b, e = a ++ 62 :: b → 62 ∉ a → ∀ y : Str, y.cps.toList = tx signc (62 :: b) p → reachS x = if named e p = true ∧ (62 ∈ b ∨ (p = 0 ∧ b = lcl)) then y else x := by
  constructor
  · intro h
    unfold reachS
    rw [find_none (by rw [hx]; exact dot_tx he h p), if_neg (by rintro ⟨q, _⟩; exact absurd q (by decide))]
  · intro a b heq ha y hy
    have hax : ∀ n ∈ a, 0 ≤ n ∧ n < 64 := fun n hn => he n (by rw [heq]; exact List.mem_append_left _ hn)
    have hbx : ∀ n ∈ b, 0 ≤ n ∧ n < 64 := fun n hn => he n (by rw [heq]; exact List.mem_append_right _ (.tail _ hn))
    have hsp : x.cps.toList = a.map signc ++ 46 :: tx signc b p := by
      rw [hx, heq, tx_app]; rfl
    have hf := find_some hsp (dot_mem hax ha)
    rw [List.length_map] at hf
    have hrest : (restS x).cps.toList = tx signc b p := by
      unfold restS
      rw [hf]
      have := slice_from (x := x) (a.length + 1) (by rw [hsp]; simp)
      rw [show ((a.length + 1 : Nat) : Int) = (a.length : Int) + 1 by push_cast; rfl] at this
      rw [this, hsp]
      have e1 : (a.map signc).length = a.length := List.length_map ..
      rw [← e1, ← List.drop_drop, List.drop_left]; rfl
    have hy2 : Str.ofString "." ++ restS x = y := by
      refine str_ext ?_
      rw [app_list, hrest, hy]; rfl
    have hfr : 0 ≤ Txt.find (restS x) (Str.ofString ".") ↔ 62 ∈ b := by
      constructor
      · intro q
        by_cases hb : 62 ∈ b
        · exact hb
        · rw [find_none (by rw [hrest]; exact dot_tx hbx hb p)] at q
          exact absurd q (by decide)
      · intro hb
        obtain ⟨a2, b2, e1, e2, _⟩ := split62 hb
        have hsp2 : (restS x).cps.toList = a2.map signc ++ 46 :: tx signc b2 p := by
          rw [hrest, e1, tx_app]; rfl
        rw [find_some hsp2 (dot_mem (fun n hn => hbx n (by rw [e1]; exact List.mem_append_left _ hn)) e2)]
        omega
    unfold reachS
    rw [hy2, hdn_tx sg_great he K hx]
    have hc : (0 ≤ Txt.find x (Str.ofString ".") ∧ named e p = true ∧ (0 ≤ Txt.find (restS x) (Str.ofString ".") ∨ restS x = Str.ofString "local")) ↔ (named e p = true ∧ (62 ∈ b ∨ (p = 0 ∧ b = lcl))) := by
      rw [hfr, local_iff hbx hrest, hf]
      constructor
      · exact fun q => q.2
      · exact fun q => ⟨by omega, q⟩
    by_cases q : named e p = true ∧ (62 ∈ b ∨ (p = 0 ∧ b = lcl))
    · rw [if_pos (hc.mpr q), if_pos q]
    · rw [if_neg (fun r => q (hc.mp r)), if_neg q]
end
theorem ends_drop : ∀ (row : List Int) (i : Nat), i < (row :: behind row).length → (row :: behind row).drop (i + 1) = behind ((row :: behind row).getD i [])
  | row, 0, _ => by simp
  | [], i + 1, h => by simp [behind] at h
  | f :: r, i + 1, h => by
    by_cases hf : f = 62
    · have e : behind (f :: r) = r :: behind r := by rw [behind, if_pos hf]
      rw [e] at h ⊢
      have := ends_drop r i (by simpa using h)
      simpa using this
    · have e : behind (f :: r) = behind r := by rw [behind, if_neg hf]
      rw [e] at h ⊢
      have := ends_drop r (i + 1) (by simpa using h)
      simpa using this
theorem behind_pre : ∀ {row e : List Int}, e ∈ behind row → ∃ pre, row = pre ++ 62 :: e
  | f :: r, e, h => by
    by_cases hf : f = 62
    · rw [behind, if_pos hf] at h
      rcases List.mem_cons.mp h with q | q
      · exact ⟨[], by rw [q, hf]; rfl⟩
      · obtain ⟨pre, e1⟩ := behind_pre q
        exact ⟨f :: pre, by rw [e1]; rfl⟩
    · rw [behind, if_neg hf] at h
      obtain ⟨pre, e1⟩ := behind_pre h
      exact ⟨f :: pre, by rw [e1]; rfl⟩
end Mine
end
section
namespace Mine
theorem rowGo_range : ∀ (xs : List Int), ∀ n ∈ rowGo xs, 0 ≤ n ∧ n < 64
  | [], n, h => absurd h List.not_mem_nil
  | x :: r, n, h => by
    rw [rowGo] at h
    rcases List.mem_append.mp h with q | q
    · split at q
      · simp at q; omega
      · split at q
        · simp at q; omega
        · split at q
          · simp at q; omega
          · split at q
            · simp at q; omega
            · simp at q; omega
    · exact rowGo_range r n q
theorem last_cons (a b : Int) (r : List Int) : (a :: b :: r).getLastD 0 = (b :: r).getLastD 0 := rfl
theorem last_app : ∀ (pre : List Int) (b : Int) (r : List Int), (pre ++ b :: r).getLastD 0 = (b :: r).getLastD 0
  | [], _, _ => rfl
  | [a], b, r => rfl
  | a :: c :: pre, b, r => by
    rw [List.cons_append, List.cons_append, last_cons, ← List.cons_append, last_app (c :: pre) b r]
theorem kp_canon : ∀ ns : List Int, Canon ns → Kp ns (padN ns)
  | [], _ => fun h => absurd h (Nat.lt_irrefl 0)
  | [_], h => h.elim
  | [a, b], h => fun _ => ⟨by simp, fun q => by
      have h' : b % 16 = 0 := h
      have q' : b = 62 := q
      omega⟩
  | [a, b, c], h => fun _ => ⟨by simp, fun q => by
      have h' : c % 4 = 0 := h
      have q' : c = 62 := q
      omega⟩
  | a :: b :: c :: d :: r, h => fun hp => by
    obtain ⟨h1, h2⟩ := kp_canon r h hp
    obtain ⟨x, t, rfl⟩ := List.exists_cons_of_ne_nil h1
    exact ⟨by simp, fun q => h2 q⟩
theorem kp_suffix {row pre e : List Int} {p : Nat} (K : Kp row p) (h : row = pre ++ 62 :: e) : Kp e p := by
  intro hp
  obtain ⟨_, k2⟩ := K hp
  rw [h, last_app] at k2
  cases e with
  | nil => exact absurd rfl k2
  | cons f r => exact ⟨by simp, k2⟩
theorem dm_self (X : Str) : dmS X X = true := by unfold dmS; rw [if_pos (by simp)]
theorem udm_self (X : Str) : udmS X X = true := by
  unfold udmS
  have : Txt.endswith X X = true := ends_end (a := []) rfl
  rw [this]
  split
  · split
    · rfl
    · simp
  · simp

section
variable {row : List Int}
set_option maxHeartbeats 2000000 in
theorem turn_ok (hr : ∀ n ∈ row, 0 ≤ n ∧ n < 64) (hl : row.length ≤ 12) {p : Nat} (hp : p ≤ 2) (K : Kp row p) {i : Nat} (hi : i < (row :: behind row).length) :
    TurnOk (row :: behind row) p (greatOf row p) (hostOf row p) (!numbered row p) i := by
  have hdrop := ends_drop row i hi
  have hmem : (row :: behind row).getD i [] ∈ row :: behind row := by
    rw [List.getD, List.getElem?_eq_getElem hi]; exact List.getElem_mem hi
  have hpos : 0 < i → (row :: behind row).getD i [] ∈ behind row := by
    intro h0
    obtain ⟨j, rfl⟩ : ∃ j, i = j + 1 := ⟨i - 1, by omega⟩
    have hj : j < (behind row).length := by simpa using hi
    show (behind row).getD j [] ∈ behind row
    rw [List.getD, List.getElem?_eq_getElem hj]; exact List.getElem_mem hj
  generalize he : (row :: behind row).getD i [] = e at hdrop hmem hpos
  have hsub : (∀ n ∈ e, n ∈ row) ∧ e.length ≤ row.length := by
    rcases List.mem_cons.mp hmem with q | q
    · rw [q]; exact ⟨fun _ h => h, Nat.le_refl _⟩
    · exact behind_mem q
  have her : ∀ n ∈ e, 0 ≤ n ∧ n < 64 := fun n hn => hr n (hsub.1 n hn)
  have hlen : e.length ≤ 12 := Nat.le_trans hsub.2 hl
  have Ke : Kp e p := by
    rcases List.mem_cons.mp hmem with q | q
    · rw [q]; exact K
    · obtain ⟨pre, h⟩ := behind_pre q
      exact kp_suffix K h
  have hzr : ∀ n ∈ 62 :: e, 0 ≤ n ∧ n < 64 := by
    intro n hn
    rcases List.mem_cons.mp hn with q | q
    · rw [q]; decide
    · exact her n q
  have hrs : (rsOf (row :: behind row) p i).cps.toList = tx signc e p := by unfold rsOf; rw [he]; exact text_list e hp
  have hzs : (Str.ofString "." ++ rsOf (row :: behind row) p i).cps.toList = tx signc (62 :: e) p := by unfold rsOf; rw [he]; exact zone_list e hp
  have hho : (hostOf row p).cps.toList = tx signc row p := text_list row hp
  have hgr : (greatOf row p).cps.toList = tx (fun n => up1 (signc n)) row p := by
    show (Txt.upper (hostOf row p)).cps.toList = _
    rw [upper_list (by rw [hho]; exact tx_all (by decide) (fun n hn => (sign_ok n hn).1) hr p), hho, tx_map rfl]
  have lgr : (Txt.lower (greatOf row p)).cps.toList = tx (fun n => lo1 (signc n)) row p := by
    rw [lower_list (by rw [hgr]; exact tx_all (by decide) (fun n hn => (upsign_ok n hn).1) hr p), hgr, tx_map rfl]
    exact tx_congr upsign_lo hr p
  have lrs : (Txt.lower (rsOf (row :: behind row) p i)).cps.toList = tx (fun n => lo1 (signc n)) e p := by
    rw [lower_list (by rw [hrs]; exact tx_all (by decide) (fun n hn => (sign_ok n hn).1) her p), hrs, tx_map rfl]
  have lzs : (Txt.lower (Str.ofString "." ++ rsOf (row :: behind row) p i)).cps.toList = tx (fun n => lo1 (signc n)) (62 :: e) p := by
    rw [lower_list (by rw [hzs]; exact tx_all (by decide) (fun n hn => (sign_ok n hn).1) hzr p), hzs, tx_map rfl]
  have hdt : dtOf (row :: behind row) i = decide (e.take 1 = [62]) := by unfold dtOf; rw [he]
  have hnext : ∀ b t, behind e = b :: t → (row :: behind row).getD (i + 1) [] = b ∧ (row :: behind row).length = i + 2 + t.length := by
    intro b t hb
    rw [hb] at hdrop
    constructor
    · have : (row :: behind row)[i + 1]? = some b := by
        rw [← List.head?_drop, hdrop]; rfl
      rw [List.getD, this]; rfl
    · have := congrArg List.length hdrop
      simp only [List.length_drop, List.length_cons] at this ⊢
      omega
  have hdot : e.take 1 = [62] → ∃ e', e = 62 :: e' ∧ behind e = e' :: behind e' := by
    intro q
    cases e with
    | nil => cases q
    | cons f r =>
      have : f = 62 := by simpa using q
      exact ⟨r, by rw [this], by rw [behind, if_pos this]⟩
  refine ⟨?_, ?_, ?_, ?_, ?_, ?_, ?_, ?_, ?_⟩
  · exact oks_of (by rw [hrs, tx_len]; omega) (by rw [hrs]; exact tx_all (by decide) sign_ok her p)
  · obtain ⟨r1, r2⟩ := reach_tx her Ke hrs
    by_cases h62 : 62 ∈ e
    · obtain ⟨a, b, e1, e2, e3⟩ := split62 h62
      obtain ⟨n1, n2⟩ := hnext b _ e3
      have hy : (Str.ofString "." ++ signs b ++ Txt.mul (Str.ofString "=") (p : Int)).cps.toList = tx signc (62 :: b) p := by
        rw [Str.append_assoc]; exact zone_list b hp
      rw [r2 a b e1 e2 _ hy]
      unfold dueOf
      rw [he, n1]
      have hdv : dvOf (row :: behind row) i = 1 + ((behind b).length : Int) := by
        unfold dvOf; rw [n2]; push_cast; omega
      have hb : 62 ∈ b ↔ 0 < (behind b).length := by
        constructor
        · intro q
          obtain ⟨_, _, _, _, q3⟩ := split62 q
          rw [q3]; simp
        · intro q
          by_cases h : 62 ∈ b
          · exact h
          · rw [behind_none h] at q; exact absurd q (by decide)
      have hc : (named e p = true ∧ (62 ∈ b ∨ (p = 0 ∧ b = lcl))) ↔ (named e p && (decide (1 < dvOf (row :: behind row) i) || lcOf (row :: behind row) p i)) = true := by
        rw [Bool.and_eq_true, Bool.or_eq_true, decide_eq_true_eq, hdv, hb]
        unfold lcOf
        rw [hdv, Bool.and_eq_true, Bool.and_eq_true, decide_eq_true_eq, decide_eq_true_eq, decide_eq_true_eq]
        refine and_congr Iff.rfl ?_
        by_cases h0 : 0 < (behind b).length
        · exact ⟨fun _ => .inl (by omega), fun _ => .inl h0⟩
        · have hz : (behind b).length = 0 := by omega
          have e4 : (row :: behind row).length - 1 = i + 1 := by rw [n2, hz]; omega
          rw [e4, n1, hz]
          constructor
          · rintro (q | ⟨q1, q2⟩)
            · exact absurd q (by decide)
            · exact .inr ⟨⟨by decide, by omega⟩, q2⟩
          · rintro (q | ⟨⟨_, q1⟩, q2⟩)
            · exact absurd q (by decide)
            · exact .inr ⟨by omega, q2⟩
      by_cases q : named e p = true ∧ (62 ∈ b ∨ (p = 0 ∧ b = lcl))
      · rw [if_pos q, if_pos (hc.mp q)]
      · rw [if_neg q, if_neg (fun r => q (hc.mpr r))]
    · rw [r1 h62]
      have hb := behind_none h62
      rw [hb] at hdrop
      have hln : (row :: behind row).length = i + 1 := by
        have := congrArg List.length hdrop
        rw [List.length_drop] at this
        simp only [List.length_nil] at this
        omega
      have hdv : dvOf (row :: behind row) i = 0 := by unfold dvOf; rw [hln]; push_cast; omega
      unfold dueOf lcOf
      rw [hdv, if_neg (by simp)]
  · rw [he]; exact decT_small her hrs
  · intro _
    exact oks_of (by rw [hzs, tx_len]; simp only [List.length_cons]; omega) (by rw [hzs]; exact tx_all (by decide) sign_ok hzr p)
  · intro h0
    obtain ⟨pre, h⟩ := behind_pre (hpos h0)
    have hsame : decide (tx signc (62 :: e) p = tx signc row p) = decide (pre = []) := by
      rw [decide_eq_decide, h, tx_app]; simp
    rw [udm_zone sg_small h hr lgr lzs, str_beq, hzs, hho, hsame]
  · intro h0
    obtain ⟨pre, h⟩ := behind_pre (hpos h0)
    have hsame : decide (tx signc (62 :: e) p = tx signc row p) = decide (pre = []) := by
      rw [decide_eq_decide, h, tx_app]; simp
    rw [dm_zone sg_small h hr lgr lzs K Ke, str_beq, hzs, hho, hsame, he]; rfl
  · intro h0
    obtain ⟨pre, h⟩ := behind_pre (hpos h0)
    rw [udm_rest sg_small h hr lgr lrs, hdt]
  · intro h0
    obtain ⟨pre, h⟩ := behind_pre (hpos h0)
    have Ke2 : ∀ e', e = 62 :: e' → Kp e' p := fun e' q => kp_suffix (pre := []) Ke q
    rw [dm_rest sg_small h hr lgr lrs K Ke2, hdt]
    by_cases q : e.take 1 = [62]
    · obtain ⟨e', e1, e2⟩ := hdot q
      rw [(hnext _ _ e2).1, e1]; rfl
    · rw [decide_eq_false q]; rfl
  · intro _ q
    rw [hdt] at q
    obtain ⟨e', _, e2⟩ := hdot (of_decide_eq_true q)
    rw [(hnext _ _ e2).2]; omega
theorem law_ok (ns : List Int) (hn : ∀ n ∈ ns, 0 ≤ n ∧ n < 64) (hz : ns.length ≤ 12) : LawOk (whole ns) (padN (whole ns) : Int) := by
  have hc := canon_whole ns
  have hr := whole_range ns hn
  have hl := whole_length ns hz
  generalize whole ns = row at hc hr hl
  have hp := padN_le row
  obtain ⟨o1, o2, o3⟩ := octs_length row hc
  have hho : (hostOf row (padN row)).cps.toList = tx signc row (padN row) := text_list row hp
  have hgr : (greatOf row (padN row)).cps.toList = tx (fun n => up1 (signc n)) row (padN row) := by
    show (Txt.upper (hostOf row (padN row))).cps.toList = _
    rw [upper_list (by rw [hho]; exact tx_all (by decide) (fun n hn => (sign_ok n hn).1) hr _), hho, tx_map rfl]
  have llo : Txt.lower (hostOf row (padN row)) = Txt.lower (greatOf row (padN row)) := by
    refine str_ext ?_
    rw [lower_list (by rw [hho]; exact tx_all (by decide) (fun n hn => (sign_ok n hn).1) hr _), lower_list (by rw [hgr]; exact tx_all (by decide) (fun n hn => (upsign_ok n hn).1) hr _), hho, hgr, tx_map rfl, tx_map rfl]
    exact (tx_congr upsign_lo hr _).symm
  have og : OkS (greatOf row (padN row)) (Txt.lower (greatOf row (padN row))) := oks_of (by rw [hgr, tx_len]; omega) (by rw [hgr]; exact tx_all (by decide) upsign_ok hr _)
  have oh : OkS (hostOf row (padN row)) (Txt.lower (hostOf row (padN row))) := oks_of (by rw [hho, tx_len]; omega) (by rw [hho]; exact tx_all (by decide) sign_ok hr _)
  have oh' : OkS (hostOf row (padN row)) (Txt.lower (greatOf row (padN row))) := by rw [← llo]; exact oh
  exact {
    r := hr
    l := hl
    o := by omega
    hp := by rw [Int.fmod_eq_emod_of_nonneg _ (by decide)]; omega
    p0 := by omega
    p2 := by omega
    zM := by rw [str_len, mul_eq _ hp, List.length_replicate]; exact hp
    W := encB_octs hc hr hho
    T := by rw [decT_great hr hgr]; exact readOf_whole hc (List.length_map ..)
    og := og
    oh := oh'
    D := dm_self _
    U := udm_self _
    turn := fun i hi => turn_ok hr hl hp (kp_canon row hc) hi }
theorem row_ok (xs : List Int) : ∃ p, LawOk (rowOf xs) p :=
  ⟨_, law_ok ((rowGo xs).take 12) (fun n hn => rowGo_range xs n (List.mem_of_mem_take hn)) (by rw [List.length_take]; omega)⟩
end
end Mine
end
theorem Mine.anew_L_Z {M : Model} {A : Around} {E : Value → Shared → Prop} {s : Shared} {env : Env} {Q : Flow → Shared → Prop} (h : Q .next s) : wpAny M A (execs [] env) Q E s := by
  w_top off
  first | (walk1; fail) | (w_top off; exact wpAny_execs_nil h)
namespace Mine
section
variable {w : World}
theorem fa_is {mg : Str → Option Value} {h : Heap} (KX : (hd.heap_39 w.params).In h) (G : h.Ns mainGlobals mg) : mg (Str.ofString "law") = some (.ref 220) := mg_of KX G (by k_is)
end
end Mine
set_option maxRecDepth 100000 in
set_option maxHeartbeats 8000000 in
theorem PySem.Challenge.cw_pa0033_01_holds : PySem.Challenge.rw_pa0033_01.Holds :=
  Mine.hd (by
  intro w s₀ s₁ mg mb G Y fa o pm cd doc dV kV ho hd hcd hD hmg hg args vals as hpre hlay hrd hwl hlo
  have KX := kIn_of Y
  refine Ground.open G ?_
  intro T B D TE TW
  have e220 := Mine.fa_is KX T.g
  have efa : fa = 220 := by
    have := hmg.symm.trans e220
    injection this with this
    injection this
  subst efa
  clear ho hd hcd hD hmg
  wrow_args hpre hlay hrd hwl hlo
  all_goals (
    first | refine callC_kw (enter_call ?_) | refine enter_call ?_ | refine callC_kw (enter_callW ?_) | refine enter_callW ?_ | w_how
    refine codeAny_mono ?_ (fun _ _ g => GoodW.toG g)
    rename IntsAre _ _ => hI
    rename Heap.IsList _ _ _ => hL
    rename ¬ _ < _ => hC
    refine Mine.law_spec (dp := 1 + claimMargin) (un := 4) (gd := some []) ⟨⟨_, _, _, ⟨KX, T⟩⟩, fun _ _ e => e, trivial, fun b hb => nomatch hb⟩ (by decide) (by decide) hL hI (by omega) (Classical.choose_spec (Mine.row_ok _)) ?_
    intro h' tk' hk
    refine ⟨.inl ⟨.bool true, .bool true, [], rfl, raisesW_false ?_, .bool true, ?_, unshared_nil⟩, hk, rfl, hg⟩
    · wrow_none_raised
    · wrow_post))
