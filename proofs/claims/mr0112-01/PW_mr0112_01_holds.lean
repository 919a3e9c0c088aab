import PyProof.Rows.All
import Wide.All
import OpenK.AllK
import Wide.FinOn
import KE.KBytesWalk
import KE.BitLaws
import KE.BytesMake
import KE.KxDecode
import KE.KxPercent
import PyProof.ZipIter
import PyProof.CollectWalk
import KE.GnOn
import KE.KIntText
import KE.KItem
import PySem.Challenge.RW_mr0112_01
set_option Elab.async false
set_option rowWalk.seconds 0
section
open PySem PySem.W PyProof.Rows
namespace Mine
set_option maxRecDepth 100000 in
set_option maxHeartbeats 8000000 in
open_top hd for PySem.Challenge.rw_mr0112_01
end Mine
end

section
theorem Mine.offMBase : True := by w_top off; trivial
open PySem PySem.W PyProof.Rows PySem.Calls PySem.Spec
set_option maxRecDepth 100000
namespace Mine

theorem fill : (fun (_ : OpenLaw) (_ : Params → Frag) => True) PySem.Challenge.rw_mr0112_01 hd.heap_39 := by k_fill; trivial

section
variable {prog : Program} {w : World} {A : Around} {E : Value → Shared → Prop} {s : Shared} {K : Frag}
  {name qual : Str} {params : Arguments} {body : List Stmt} {scope : Scope} {dV kV doc pm cdv ct oc : Value} {an od : Option Addr} {osl : Array (Option Value)} {f : Addr} {args : List Value} {kw : List (Str × Value)} {binds : List (Str × Value)}

/-- entering a def of the text: everything that stood before is the new frame's ground -/
theorem enterK {Q : Value → Shared → Prop} (X : K.In s.heap) (hlim : s.heap.NoLimit)
    (ho : K.lookup f = some ⟨oc, od, .func (fnOf name qual params body scope dV kV doc pm an cdv ct), osl⟩) (hcd : codeIn K cdv qual = true) (hroom : A.depth < recursionLimit)
    (hbind : BindsTo s (fnOf name qual params body scope dV kV doc pm an cdv ct) ⟨args, kw⟩ binds) (hloc : ∀ y ∈ binds, scope.names.lookup y.1 = some .local)
    (hco : scope.isCoroutine = false) (hgen : scope.isGenerator = false) (hk : scope.kind = .function) (hcell : ∀ x ∈ scope.names, x.2 ≠ .cell)
    (h : ∀ L' h₁, Fr s.heap L' h₁ (fun y => binds.reverse.lookup y) → News s.heap L' h₁ [] →
      wpAny (model prog w) (A.deeper (envOf qual scope L' f cdv)) (execs body (envOf qual scope L' f cdv))
        (fun fl s' => Q (match fl with | .ret v => v | _ => .none) s') (fun _ _ => False) { s with heap := h₁, toks := s.toks + binds.length }) :
    wpAny (model prog w) A (call (.ref f) args kw) Q E s := by
  refine wpAny_call (codeAny_call_def (fd := fnOf name qual params body scope dV kV doc pm an cdv ct) (body := body) (binds := binds) hroom (X _ _ ho) rfl hlim (codeRec_of X hcd) rfl hbind hcell hloc (fun h₁ hns hk₁ => ?_) hco hgen hk)
  exact wpAny_mono (h s.heap.objs.size h₁ ⟨hns, hk₁, Nat.le_refl _⟩ News.nil) (fun _ _ x => x) (fun _ _ x => x.elim)
end

/-- what every contract starts from -/
structure Gd (w : World) (A : Around) (h : Heap) (mg mb : Str → Option Value) (mean : ExcName → Option Value) (loose : List Str) (d u : Nat) : Prop where
  kin : (hd.heap_39 w.params).In h
  top : Top hd.view_39 loose mean mg mb h
  below : ∃ base outer, Below A base outer h
  handled : A.handled = none
  depth : A.depth + d < recursionLimit
  units : A.units + u < cLine

end Mine
end

section
theorem Mine.offMBase2 : True := by w_top off; trivial
open PySem PySem.W PyProof.Rows PySem.Calls PySem.Spec
set_option maxRecDepth 100000
namespace Mine

theorem look1 (a : Str) (va : Value) : (fun y => List.lookup y [(a, va)].reverse) = fun y => if y = a then some va else none := by
  funext y
  simp only [List.reverse_cons, List.reverse_nil, List.nil_append, List.lookup]
  by_cases h : y = a
  · subst h; simp
  · have : (y == a) = false := by simpa using h
    simp [this, h]
theorem look2 (a b : Str) (va vb : Value) : (fun y => List.lookup y [(a, va), (b, vb)].reverse) = fun y => if y = b then some vb else if y = a then some va else none := by
  funext y
  simp only [List.reverse_cons, List.reverse_nil, List.nil_append, List.cons_append, List.lookup]
  by_cases h : y = b
  · subst h; simp
  · have e : (y == b) = false := by simpa using h
    by_cases h' : y = a
    · subst h'; simp [e, h]
    · have e' : (y == a) = false := by simpa using h'
      simp [e, h, e', h']

theorem fr_put {h₀ h : Heap} {L : Addr} {m : Str → Option Value} {x : Str} {v : Value} (F : Fr h₀ L h m) (e : m x = some v) : Fr h₀ L h (fun y => if y = x then some v else m y) := by
  have : (fun y => if y = x then some v else m y) = m := by
    funext y
    by_cases h : y = x
    · rw [if_pos h, h, e]
    · rw [if_neg h]
  rw [this]; exact F
theorem put_ne {m : Str → Option Value} {x y : Str} {v : Option Value} {r : Option Value} (e : m y = r) (h : y ≠ x) : (fun z => if z = x then v else m z) y = r := by
  show (if y = x then v else m y) = r
  rw [if_neg h, e]

/-- what a turn of a loop must leave; rest: the iterator's own objects -/
def TurnEnd (h₀ : Heap) (L : Addr) (wr : List Addr) (rest : List (Addr × Obj)) (J : (Str → Option Value) → List (Addr × Obj) → Prop) (s : Shared) (Q : Flow → Shared → Prop) (f : Flow) (s₂ : Shared) : Prop :=
  match f with
  | .ret v => Q (.ret v) s₂
  | .brk => Q .next s₂
  | _ => ∃ h' tk m' news', s₂ = { s with heap := h', toks := tk } ∧ Fr h₀ L h' m' ∧ News h₀ L h' (news' ++ rest) ∧ (∀ p ∈ news', p.1 ∉ wr) ∧ J m' news'

section
variable {prog : Program} {w : World} {A : Around} {E : Value → Shared → Prop} {s : Shared} {env : Env} {h₀ : Heap} {x : Str} {body : List Stmt} {Q : Flow → Shared → Prop}

/-- a loop whose iterator is one new object -/
theorem loop1 {I : Addr} {n : Nat} {P : Nat → Value → Prop} {St : Nat → Heap → Prop} {m₀ : Str → Option Value} {news : List (Addr × Obj)} (J : Nat → (Str → Option Value) → List (Addr × Obj) → Prop)
    (W : Walks prog w A I [I] [I] n P St) (hLf : env.locals ≠ I) (hwr : h₀.get? I = none) (hnw : ∀ p ∈ news, p.1 ≠ I) (hst : St 0 s.heap) (F : Fr h₀ env.locals s.heap m₀) (N : News h₀ env.locals s.heap news) (hj : J 0 m₀ news)
    (hSt : ∀ i h, St i h → ∃ o, h.get? I = some o)
    (turn : ∀ i v m₁ news₁ h tk o, i < n → P i v → (∀ p ∈ news₁, p.1 ≠ I) → J i m₁ news₁ →
      Fr h₀ env.locals h (fun y => if y = x then some v else m₁ y) → News h₀ env.locals h (news₁ ++ [(I, o)]) →
      wpAny (model prog w) A (execs body env) (TurnEnd h₀ env.locals [I] [(I, o)] (J (i + 1)) s Q) E { s with heap := h, toks := tk })
    (done : ∀ m₁ news₁ h tk, J n m₁ news₁ → Fr h₀ env.locals h m₁ → News h₀ env.locals h news₁ → Q .next { s with heap := h, toks := tk }) :
    LoopAtV prog w A h₀ env x body Q E (.ref I) s := by
  refine ⟨I, [I], [I], n, P, St, m₀, news, J, rfl, W, fun h => hLf (List.mem_singleton.mp h), fun b hb => (List.mem_singleton.mp hb) ▸ hwr, fun p hp h => hnw p hp (List.mem_singleton.mp h), hst, F, N, hj, ?_, ?_⟩
  · rintro i v m₁ news₁ s₁ own ⟨hh', tk', rfl⟩ hin hP hJ hoff hown hget hall hst' F₁ N₁
    obtain ⟨o, ho⟩ := hSt _ _ hst'
    have hIo : (I, o) ∈ own := hall I (.head _) hwr o ho
    have hall' : ∀ p ∈ own, p = (I, o) := fun p hp => by
      have e1 := List.mem_singleton.mp (hown p hp)
      have e2 := hget p hp
      obtain ⟨a, b⟩ := p
      dsimp only at e1 e2 ⊢
      subst e1
      dsimp only at ho
      rw [ho] at e2
      rw [Option.some.inj e2]
    refine wpAny_mono (turn i v m₁ news₁ hh' tk' o hin hP (fun p hp e => hoff p hp (e ▸ .head _)) hJ F₁
      (fun p hp => N₁ p ((List.mem_append.mp hp).elim (fun h => List.mem_append_right _ h) fun h => List.mem_append_left _ ((List.mem_singleton.mp h) ▸ hIo)))) (fun f s₂ p => ?_) fun _ _ e => e
    have back : ∀ {h' : Heap} {news' : List (Addr × Obj)}, News h₀ env.locals h' (news' ++ [(I, o)]) → News h₀ env.locals h' (own ++ news') := fun N' p hp =>
      N' p ((List.mem_append.mp hp).elim (fun h => List.mem_append_right _ (hall' p h ▸ .head _)) fun h => List.mem_append_left _ h)
    cases f with
    | ret v => exact .ret p
    | brk => exact .brk p
    | next => obtain ⟨h', tk, m', news', rfl, F', N', o', j'⟩ := p; exact .next ⟨rfl, h', tk, m', news', rfl, F', back N', o', j'⟩
    | cont => obtain ⟨h', tk, m', news', rfl, F', N', o', j'⟩ := p; exact .cont ⟨rfl, h', tk, m', news', rfl, F', back N', o', j'⟩
  · rintro h' tk m' news' F' N' _ hJ
    exact done m' news' h' tk hJ F' N'

theorem iterBytes {b : Array UInt8} {t : Tok} {m₀ : Str → Option Value} {news : List (Addr × Obj)} (J : Nat → (Str → Option Value) → List (Addr × Obj) → Prop)
    (hh : A.handled = none) (F : Fr h₀ env.locals s.heap m₀) (N : News h₀ env.locals s.heap news) (hj : J 0 m₀ news)
    (turn : ∀ i (c : UInt8) u m₁ news₁ h tk I o, b[i]? = some c → (∀ p ∈ news₁, p.1 ≠ I) → J i m₁ news₁ →
      Fr h₀ env.locals h (fun y => if y = x then some (.int (c.toNat : Int) u) else m₁ y) → News h₀ env.locals h (news₁ ++ [(I, o)]) →
      ∀ Qf : Flow → Shared → Prop, (∀ f s₂, TurnEnd h₀ env.locals [I] [(I, o)] (J (i + 1)) s Q f s₂ → Qf f s₂) → wpAny (model prog w) A (execs body env) Qf E { s with heap := h, toks := tk })
    (done : ∀ m₁ news₁ h tk, J b.size m₁ news₁ → Fr h₀ env.locals h m₁ → News h₀ env.locals h news₁ → Q .next { s with heap := h, toks := tk }) :
    wpAny (model prog w) A (pyIter (.bytes b t)) (fun it s₂ => LoopAtV prog w A h₀ env x body Q E it s₂) E s := by
  refine KBw.pyIter_bytes ?_
  refine loop1 (s := { s with heap := _ }) J (KBw.walks hh s.heap.objs.size b t) ?_ (next_is_new F) ?_ ⟨_, Heap.get?_push_size _ rfl, rfl, rfl⟩ (F.push _) (fun p hp => ⟨Heap.get?_push_of_some _ (N p hp).1, (N p hp).2⟩) hj ?_ ?_ done
  · intro e; exact absurd F.ns.lt (e ▸ Nat.lt_irrefl _)
  · intro p hp e; exact absurd (Heap.lt_size (N p hp).1) (e ▸ Nat.lt_irrefl _)
  · rintro i h ⟨o, ho, _⟩; exact ⟨o, ho⟩
  · rintro i v m₁ news₁ h tk o hi ⟨c, u, hc, rfl⟩ hoff hJ F₁ N₁
    exact turn i c u m₁ news₁ h tk _ o hc hoff hJ F₁ N₁ _ (fun _ _ x => x)

theorem iterStr {y : Str} {t : Tok} {m₀ : Str → Option Value} {news : List (Addr × Obj)} (J : Nat → (Str → Option Value) → List (Addr × Obj) → Prop)
    (hh : A.handled = none) (F : Fr h₀ env.locals s.heap m₀) (N : News h₀ env.locals s.heap news) (hj : J 0 m₀ news)
    (turn : ∀ i (c : Nat) u m₁ news₁ h tk I o, y.cps[i]? = some c → (∀ p ∈ news₁, p.1 ≠ I) → J i m₁ news₁ →
      Fr h₀ env.locals h (fun z => if z = x then some (.str ⟨#[c]⟩ u) else m₁ z) → News h₀ env.locals h (news₁ ++ [(I, o)]) →
      ∀ Qf : Flow → Shared → Prop, (∀ f s₂, TurnEnd h₀ env.locals [I] [(I, o)] (J (i + 1)) s Q f s₂ → Qf f s₂) → wpAny (model prog w) A (execs body env) Qf E { s with heap := h, toks := tk })
    (done : ∀ m₁ news₁ h tk, J y.cps.size m₁ news₁ → Fr h₀ env.locals h m₁ → News h₀ env.locals h news₁ → Q .next { s with heap := h, toks := tk }) :
    wpAny (model prog w) A (pyIter (.str y t)) (fun it s₂ => LoopAtV prog w A h₀ env x body Q E it s₂) E s := by
  have main : ∀ (o : Obj) (St : Nat → Heap → Prop), o.isFreed = false → (∀ A' : Around, A'.handled = none → Walks prog w A' s.heap.objs.size [s.heap.objs.size] [s.heap.objs.size] y.cps.size (SignAt y) St) → (∀ i h, St i h → ∃ o, h.get? s.heap.objs.size = some o) →
      St 0 (s.heap.push o) → LoopAtV prog w A h₀ env x body Q E (.ref s.heap.objs.size) { s with heap := s.heap.push o } := by
    intro o St _ hW hS h0
    refine loop1 (s := { s with heap := _ }) J (hW A hh) ?_ (next_is_new F) ?_ h0 (F.push _) (fun p hp => ⟨Heap.get?_push_of_some _ (N p hp).1, (N p hp).2⟩) hj hS ?_ done
    · intro e; exact absurd F.ns.lt (e ▸ Nat.lt_irrefl _)
    · intro p hp e; exact absurd (Heap.lt_size (N p hp).1) (e ▸ Nat.lt_irrefl _)
    · rintro i v m₁ news₁ h tk o hi ⟨c, u, hc, rfl⟩ hoff hJ F₁ N₁
      exact turn i c u m₁ news₁ h tk _ o hc hoff hJ F₁ N₁ _ (fun _ _ x => x)
  cases ha : y.cps.all (· < 128)
  · exact wpAny_pyIter_wide ha (main _ (fun i h => h.IsStrIter _ "str_iterator" y t i) rfl (fun A' hA => Walks.strWide hA _ y t) (fun i h st => let ⟨o, ho, _⟩ := st; ⟨o, ho⟩) ⟨_, Heap.get?_push_size _ rfl, rfl, rfl⟩)
  · exact wpAny_pyIter_ascii ha (main _ (fun i h => h.IsStrIter _ "str_ascii_iterator" y t i) rfl (fun A' hA => Walks.strAscii hA _ y t) (fun i h st => let ⟨o, ho, _⟩ := st; ⟨o, ho⟩) ⟨_, Heap.get?_push_size _ rfl, rfl, rfl⟩)

/-- a for over a list that stood at the call's entry -/
theorem iterList {l : Addr} {vs : List Value} {m₀ : Str → Option Value} {news : List (Addr × Obj)} (J : Nat → (Str → Option Value) → List (Addr × Obj) → Prop)
    (hh : A.handled = none) (hl : h₀.IsList l vs.toArray) (F : Fr h₀ env.locals s.heap m₀) (N : News h₀ env.locals s.heap news) (hj : J 0 m₀ news)
    (turn : ∀ i v m₁ news₁ h tk I o, vs[i]? = some v → (∀ p ∈ news₁, p.1 ≠ I) → J i m₁ news₁ →
      Fr h₀ env.locals h (fun z => if z = x then some v else m₁ z) → News h₀ env.locals h (news₁ ++ [(I, o)]) →
      ∀ Qf : Flow → Shared → Prop, (∀ f s₂, TurnEnd h₀ env.locals [I] [(I, o)] (J (i + 1)) s Q f s₂ → Qf f s₂) → wpAny (model prog w) A (execs body env) Qf E { s with heap := h, toks := tk })
    (done : ∀ m₁ news₁ h tk, J vs.length m₁ news₁ → Fr h₀ env.locals h m₁ → News h₀ env.locals h news₁ → Q .next { s with heap := h, toks := tk }) :
    wpAny (model prog w) A (pyIter (.ref l)) (fun it s₂ => LoopAtV prog w A h₀ env x body Q E it s₂) E s := by
  have hls : s.heap.IsList l vs.toArray := hl.at fun o e => F.keep l o e
  obtain ⟨ol, hol, _⟩ := id hl
  have hlt : l < h₀.objs.size := Heap.lt_size hol
  have hne : l ≠ s.heap.objs.size := Nat.ne_of_lt (Nat.lt_trans (Nat.lt_of_lt_of_le hlt F.above) F.ns.lt)
  refine wpAny_pyIter_list hls ?_
  have W := Walks.list (prog := prog) (w := w) hh s.heap.objs.size l hne vs.toArray
  have hlen : vs.toArray.size = vs.length := by simp
  rw [hlen] at W
  generalize hIdef : s.heap.objs.size = I at *
  refine ⟨I, _, _, _, _, _, m₀, news, J, rfl, W, ?_, ?_, ?_, ⟨⟨_, hIdef ▸ Heap.get?_push_size _ rfl, rfl, rfl⟩, hls.at fun o e => Heap.get?_push_of_some _ e⟩, F.push _, (fun p hp => ⟨Heap.get?_push_of_some _ (N p hp).1, (N p hp).2⟩), hj, ?_, ?_⟩
  · intro hm
    rcases List.mem_cons.mp hm with e | hm
    · exact absurd F.ns.lt (by rw [e, hIdef]; exact Nat.lt_irrefl _)
    · exact absurd (Nat.lt_of_lt_of_le hlt F.above) ((List.mem_singleton.mp hm) ▸ Nat.lt_irrefl _)
  · intro b hb
    rw [List.mem_singleton.mp hb, ← hIdef]
    exact next_is_new F
  · intro p hp hI
    exact absurd (Heap.lt_size (N p hp).1) (by rw [List.mem_singleton.mp hI, hIdef]; exact Nat.lt_irrefl _)
  · rintro i v m₁ news₁ s₁ own ⟨hh', tk', rfl⟩ hin hP hJ hoff hown hget hall hst' F₁ N₁
    obtain ⟨o, ho, _⟩ := id hst'.1
    have hwr : h₀.get? I = none := by rw [← hIdef]; exact next_is_new F
    have hIo : (I, o) ∈ own := hall I (.head _) hwr o ho
    have hall' : ∀ p ∈ own, p = (I, o) := fun p hp => by
      have e2 := hget p hp
      have e3 := (N₁ p (List.mem_append_left _ hp)).2.2
      have e1 : p.1 = I := by
        rcases List.mem_cons.mp (hown p hp) with e | e
        · exact e
        · rw [List.mem_singleton.mp e, hol] at e3; cases e3
      obtain ⟨a, b⟩ := p
      dsimp only at e1 e2 ⊢
      subst e1
      dsimp only at ho
      rw [ho] at e2
      rw [Option.some.inj e2]
    have hv : vs[i]? = some v := by simpa using hP
    refine wpAny_mono (turn i v m₁ news₁ hh' tk' I o hv (fun p hp e => hoff p hp (e ▸ .head _)) hJ F₁
      (fun p hp => N₁ p ((List.mem_append.mp hp).elim (fun h => List.mem_append_right _ h) fun h => List.mem_append_left _ ((List.mem_singleton.mp h) ▸ hIo))) _ (fun _ _ x => x)) (fun f s₂ p => ?_) fun _ _ e => e
    have back : ∀ {h' : Heap} {news' : List (Addr × Obj)}, News h₀ env.locals h' (news' ++ [(I, o)]) → News h₀ env.locals h' (own ++ news') := fun N' p hp =>
      N' p ((List.mem_append.mp hp).elim (fun h => List.mem_append_right _ (hall' p h ▸ .head _)) fun h => List.mem_append_left _ h)
    cases f with
    | ret v => exact .ret p
    | brk => exact .brk p
    | next => obtain ⟨h', tk, m', news', rfl, F', N', o', j'⟩ := p; exact .next ⟨rfl, h', tk, m', news', rfl, F', back N', o', j'⟩
    | cont => obtain ⟨h', tk, m', news', rfl, F', N', o', j'⟩ := p; exact .cont ⟨rfl, h', tk, m', news', rfl, F', back N', o', j'⟩
  · rintro h' tk m' news' F' N' _ hJ
    exact done m' news' h' tk hJ F' N'
end
end Mine
end

section
theorem Mine.offMPure : True := by w_top off; trivial
open PySem PySem.W PyProof.Rows PySem.Calls PySem.Spec
set_option maxRecDepth 100000
namespace Mine

/-! ## base 64, plainly -/
def B64L : List UInt8 := [65, 66, 67, 68, 69, 70, 71, 72, 73, 74, 75, 76, 77, 78, 79, 80, 81, 82, 83, 84, 85, 86, 87, 88, 89, 90, 97, 98, 99, 100, 101, 102, 103, 104, 105, 106, 107, 108, 109, 110, 111, 112, 113, 114, 115, 116, 117, 118, 119, 120, 121, 122, 48, 49, 50, 51, 52, 53, 54, 55, 56, 57, 43, 47]
def b64c (d : Nat) : Nat := (B64L.getD d 0).toNat
def SGL : List Nat := [65, 66, 67, 68, 69, 70, 71, 72, 73, 74, 75, 76, 77, 78, 79, 80, 81, 82, 83, 84, 85, 86, 87, 88, 89, 90, 97, 98, 99, 100, 101, 102, 103, 104, 105, 106, 107, 108, 109, 110, 111, 112, 113, 114, 115, 116, 117, 118, 119, 120, 121, 122, 48, 49, 50, 51, 52, 53, 54, 55, 56, 57, 45, 95]
def sgc (d : Nat) : Nat := SGL.getD d 0

def val (B : Nat) (l : List Nat) : Nat := l.foldl (fun a d => a * B + d) 0
theorem foldl_val (B : Nat) : ∀ (l : List Nat) (a : Nat), l.foldl (fun a d => a * B + d) a = a * B ^ l.length + val B l
  | [], a => by simp [val]
  | d :: l, a => by
    unfold val
    rw [List.foldl_cons, List.foldl_cons, foldl_val B l, foldl_val B l (0 * B + d), List.length_cons, Nat.pow_succ]
    rw [Nat.add_mul, Nat.zero_mul, Nat.zero_add, Nat.mul_assoc, Nat.mul_comm B, Nat.add_assoc]
theorem val_snoc (B : Nat) (l : List Nat) (d : Nat) : val B (l ++ [d]) = val B l * B + d := by simp [val]
theorem val_cons (B : Nat) (l : List Nat) (d : Nat) : val B (d :: l) = d * B ^ l.length + val B l := by
  have := foldl_val B l (0 * B + d)
  rw [Nat.zero_mul, Nat.zero_add] at this
  unfold val
  rw [List.foldl_cons, Nat.zero_mul, Nat.zero_add, this]; rfl
theorem val_append (B : Nat) (l r : List Nat) : val B (l ++ r) = val B l * B ^ r.length + val B r := by
  unfold val
  rw [List.foldl_append, foldl_val B r]; rfl
theorem val_lt {B : Nat} : ∀ {l : List Nat}, (∀ d ∈ l, d < B) → val B l < B ^ l.length
  | [], _ => by simp [val]
  | d :: l, h => by
    have h1 := h d (.head _)
    have h2 := val_lt (l := l) fun x hx => h x (.tail _ hx)
    rw [val_cons, List.length_cons, Nat.pow_succ, Nat.mul_comm _ B]
    have : (d + 1) * B ^ l.length ≤ B * B ^ l.length := Nat.mul_le_mul_right _ h1
    rw [Nat.add_mul] at this
    omega

/-- the octets of a number -/
theorem octet_at {l : List Nat} (h : ∀ d ∈ l, d < 256) {k : Nat} (h1 : k < l.length) : val 256 l / 2 ^ (8 * (l.length - (k + 1))) % 256 = l[k] := by
  have e : l = l.take k ++ l[k] :: l.drop (k + 1) := by simp
  have hd : val 256 (l.drop (k + 1)) < 256 ^ (l.drop (k + 1)).length := val_lt fun d hd => h d (List.mem_of_mem_drop hd)
  have hl : (l.drop (k + 1)).length = l.length - (k + 1) := by simp
  have hk : l[k] < 256 := h _ (List.getElem_mem h1)
  have hv : val 256 l = (val 256 (l.take k) * 256 + l[k]) * 256 ^ (l.length - (k + 1)) + val 256 (l.drop (k + 1)) := by
    conv => lhs; rw [e]
    rw [val_append, val_cons, List.length_cons, hl, Nat.pow_succ, Nat.add_mul, Nat.mul_comm (256 ^ _) 256, ← Nat.mul_assoc, Nat.add_assoc]
  rw [hl] at hd
  have hp : (2 : Nat) ^ (8 * (l.length - (k + 1))) = 256 ^ (l.length - (k + 1)) := by rw [Nat.pow_mul]
  rw [hp, hv, Nat.mul_comm _ (256 ^ _), Nat.mul_add_div (Nat.pow_pos (by decide)), Nat.div_eq_of_lt hd, Nat.add_zero]
  omega

def step64 (q : List Nat × Nat × Nat) (c : Nat) : List Nat × Nat × Nat :=
  let x := (q.2.2 * 256 + c) % 65536
  if q.2.1 = 0 then (q.1 ++ [x / 4 % 64], 2, x) else if q.2.1 = 2 then (q.1 ++ [x / 16 % 64], 4, x) else (q.1 ++ [x / 64 % 64] ++ [x % 64], 0, x)
def st64 (p : List Nat) : List Nat × Nat × Nat := p.foldl step64 ([], 0, 0)
theorem st64_snoc (p : List Nat) (c : Nat) : st64 (p ++ [c]) = step64 (st64 p) c := by simp [st64]
structure Inv64 (p : List Nat) (q : List Nat × Nat × Nat) : Prop where
  lb : q.2.1 = 0 ∨ q.2.1 = 2 ∨ q.2.1 = 4
  lc : q.2.2 < 65536
  dig : ∀ d ∈ q.1, d < 64
  len : 6 * q.1.length + q.2.1 = 8 * p.length
  val : val 64 q.1 * 2 ^ q.2.1 + q.2.2 % 2 ^ q.2.1 = val 256 p
theorem stepA (V x m : Nat) : (V * 64 + x / m % 64) * m + x % m = V * (m * 64) + x % (m * 64) := by
  rw [Nat.mod_mul, Nat.add_mul, Nat.mul_assoc, Nat.mul_comm 64 m, Nat.mul_comm (x / m % 64) m, Nat.add_assoc, Nat.add_comm (x % m)]
theorem stepB {lc c M : Nat} (hc : c < 256) (hM : 256 * M ∣ 65536) : (lc * 256 + c) % 65536 % (256 * M) = lc % M * 256 + c := by
  rw [Nat.mod_mod_of_dvd _ hM, Nat.mod_mul, Nat.mul_comm lc, Nat.mul_add_div (by decide), Nat.div_eq_of_lt hc, Nat.mul_add_mod, Nat.mod_eq_of_lt hc, Nat.add_zero, Nat.add_comm, Nat.mul_comm]
theorem stepV {V lc c M W : Nat} (hc : c < 256) (hM : 256 * M ∣ 65536) (h : V * M + lc % M = W) :
    (V * 64 + (lc * 256 + c) % 65536 / (4 * M) % 64) * (4 * M) + (lc * 256 + c) % 65536 % (4 * M) = W * 256 + c := by
  rw [stepA, Nat.mul_right_comm, stepB hc hM, ← h, Nat.add_mul, Nat.mul_assoc V, Nat.mul_comm M, Nat.add_assoc]
theorem memS {D : List Nat} {d : Nat} (h : ∀ x ∈ D, x < 64) (hd : d < 64) : ∀ x ∈ D ++ [d], x < 64 := fun x hx => (List.mem_append.mp hx).elim (h x) fun e => List.mem_singleton.mp e ▸ hd
theorem lenS {n m k a b : Nat} (h : 6 * n + a = 8 * m) (e : 6 * k + b = 8 + a) : 6 * (n + k) + b = 8 * (m + 1) := by
  rw [Nat.mul_add, Nat.mul_add, Nat.add_assoc, e, Nat.add_comm 8, ← Nat.add_assoc, h]
theorem inv64_step {p : List Nat} {q : List Nat × Nat × Nat} {c : Nat} (h : Inv64 p q) (hc : c < 256) : Inv64 (p ++ [c]) (step64 q c) := by
  obtain ⟨D, lb, lc⟩ := q
  obtain ⟨h1, h2, h3, h4, h5⟩ := h
  have hx : (lc * 256 + c) % 65536 < 65536 := Nat.mod_lt _ (by decide)
  have m64 : ∀ x, x % 64 < 64 := fun x => Nat.mod_lt _ (by decide)
  have hp : (p ++ [c]).length = p.length + 1 := List.length_append
  have hq : val 256 (p ++ [c]) = val 256 p * 256 + c := val_snoc ..
  rcases h1 with rfl | rfl | rfl
  · refine ⟨.inr (.inl rfl), hx, memS h3 (m64 _), ?_, ?_⟩
    · exact (congrArg (6 * · + 2) List.length_append).trans ((lenS h4 rfl).trans (congrArg (8 * ·) hp.symm))
    · exact (congrArg (· * 4 + _) (val_snoc ..)).trans ((stepV (M := 1) hc (by decide) h5).trans hq.symm)
  · refine ⟨.inr (.inr rfl), hx, memS h3 (m64 _), ?_, ?_⟩
    · exact (congrArg (6 * · + 4) List.length_append).trans ((lenS h4 rfl).trans (congrArg (8 * ·) hp.symm))
    · exact (congrArg (· * 16 + _) (val_snoc ..)).trans ((stepV (M := 4) hc (by decide) h5).trans hq.symm)
  · refine ⟨.inl rfl, hx, memS (memS h3 (m64 _)) (m64 _), ?_, ?_⟩
    · rw [hp, ← lenS h4 (b := 0) (k := 2) rfl]
      show 6 * (D ++ [_] ++ [_]).length + 0 = _
      rw [List.append_assoc, List.length_append]; rfl
    · have := stepV (M := 16) hc (by decide) h5
      show val 64 (D ++ [_] ++ [_]) * 1 + _ % 1 = _
      rw [val_snoc, val_snoc, Nat.mul_one, Nat.mod_one, Nat.add_zero, hq]
      exact this
theorem inv64 : ∀ {p : List Nat}, (∀ c ∈ p, c < 256) → Inv64 p (st64 p) := by
  intro p
  have go : ∀ (n : Nat) (p : List Nat), p.length = n → (∀ c ∈ p, c < 256) → Inv64 p (st64 p) := by
    intro n
    induction n with
    | zero => intro p hp _; cases p with
      | nil => exact ⟨.inl rfl, by decide, by simp [st64], rfl, rfl⟩
      | cons => simp at hp
    | succ n ih =>
      intro p hp h
      have hne : p ≠ [] := by intro e; simp [e] at hp
      have e := List.dropLast_concat_getLast hne
      rw [← e, st64_snoc]
      exact inv64_step (ih _ (by simp [hp]) fun c hc => h c (List.dropLast_subset _ hc)) (h _ (List.getLast_mem hne))
  exact go _ p rfl

def dig64 (p : List Nat) : List Nat := if (st64 p).2.1 = 2 then (st64 p).1 ++ [(st64 p).2.2 % 4 * 16] else if (st64 p).2.1 = 4 then (st64 p).1 ++ [(st64 p).2.2 % 16 * 4] else (st64 p).1
def pad64 (p : List Nat) : Nat := if (st64 p).2.1 = 2 then 2 else if (st64 p).2.1 = 4 then 1 else 0
def more64 (p : List Nat) : Nat := if (st64 p).2.1 = 2 then 4 else if (st64 p).2.1 = 4 then 2 else 0
theorem padS {k P e : Nat} (h : 6 * k = 8 * P + 2 * e) (he : e < 3) : k + e = (P + 2) / 3 * 4 := by omega
theorem digS {D : List Nat} {P W lc M e : Nat} (h3 : ∀ d ∈ D, d < 64) {a : Nat} (h4 : 6 * D.length + a = 8 * P) (ha : 6 = a + 2 * e) (h5 : val 64 D * M + lc % M = W) (he : e < 3) (hm : M * 2 ^ (2 * e) = 64) :
    (∀ d ∈ D ++ [lc % M * 2 ^ (2 * e)], d < 64) ∧ 6 * (D ++ [lc % M * 2 ^ (2 * e)]).length = 8 * P + 2 * e ∧ val 64 (D ++ [lc % M * 2 ^ (2 * e)]) = W * 2 ^ (2 * e) ∧ 2 * e < 8 ∧ (D ++ [lc % M * 2 ^ (2 * e)]).length + e = (P + 2) / 3 * 4 := by
  have hl : (D ++ [lc % M * 2 ^ (2 * e)]).length = D.length + 1 := List.length_append
  have h6 : 6 * (D.length + 1) = 8 * P + 2 * e := (congrArg (6 * D.length + ·) ha).trans ((Nat.add_assoc ..).symm.trans (congrArg (· + 2 * e) h4))
  have hM : 0 < M := Nat.pos_of_ne_zero fun q => by rw [q, Nat.zero_mul] at hm; cases hm
  rw [hl]
  refine ⟨memS h3 ?_, h6, ?_, Nat.lt_of_lt_of_le (Nat.mul_lt_mul_of_pos_left he (by decide)) (by decide), padS h6 he⟩
  · exact hm ▸ Nat.mul_lt_mul_of_pos_right (Nat.mod_lt _ hM) (Nat.two_pow_pos _)
  · rw [val_snoc, ← h5, Nat.add_mul, Nat.mul_assoc, hm]
theorem digQ {p : List Nat} {q : List Nat × Nat × Nat} (h : Inv64 p q) :
    (∀ d ∈ (if q.2.1 = 2 then q.1 ++ [q.2.2 % 4 * 16] else if q.2.1 = 4 then q.1 ++ [q.2.2 % 16 * 4] else q.1), d < 64) ∧
    6 * (if q.2.1 = 2 then q.1 ++ [q.2.2 % 4 * 16] else if q.2.1 = 4 then q.1 ++ [q.2.2 % 16 * 4] else q.1).length = 8 * p.length + (if q.2.1 = 2 then 4 else if q.2.1 = 4 then 2 else 0) ∧
    val 64 (if q.2.1 = 2 then q.1 ++ [q.2.2 % 4 * 16] else if q.2.1 = 4 then q.1 ++ [q.2.2 % 16 * 4] else q.1) = val 256 p * 2 ^ (if q.2.1 = 2 then 4 else if q.2.1 = 4 then 2 else 0) ∧
    (if q.2.1 = 2 then 4 else if q.2.1 = 4 then 2 else 0) < 8 ∧
    (if q.2.1 = 2 then q.1 ++ [q.2.2 % 4 * 16] else if q.2.1 = 4 then q.1 ++ [q.2.2 % 16 * 4] else q.1).length + (if q.2.1 = 2 then 2 else if q.2.1 = 4 then 1 else 0) = (p.length + 2) / 3 * 4 := by
  obtain ⟨D, lb, lc⟩ := q
  obtain ⟨h1, h2, h3, h4, h5⟩ := h
  rcases h1 with rfl | rfl | rfl
  · refine ⟨h3, h4, ?_, (Nat.zero_lt_succ 7 : 0 < 8), padS (e := 0) h4 (by decide)⟩
    have : val 64 D * 1 + lc % 1 = val 256 p := h5
    show val 64 D = val 256 p * 1
    rw [← this, Nat.mod_one, Nat.add_zero, Nat.mul_one, Nat.mul_one]
  · exact digS (e := 2) (M := 4) h3 h4 rfl h5 (by decide) rfl
  · exact digS (e := 1) (M := 16) h3 h4 rfl h5 (by decide) rfl
theorem dig64_facts {p : List Nat} (h : ∀ c ∈ p, c < 256) :
    (∀ d ∈ dig64 p, d < 64) ∧ 6 * (dig64 p).length = 8 * p.length + more64 p ∧ val 64 (dig64 p) = val 256 p * 2 ^ more64 p ∧ more64 p < 8 ∧ (dig64 p).length + pad64 p = (p.length + 2) / 3 * 4 := digQ (inv64 h)

/-- what urlsafe_b64encode writes, as codes -/
def tok64 (p : List Nat) : List Nat := (dig64 p).map sgc ++ List.replicate (pad64 p) 61
theorem tok64_length {p : List Nat} (h : ∀ c ∈ p, c < 256) : (tok64 p).length = (p.length + 2) / 3 * 4 := by
  obtain ⟨_, _, _, _, h5⟩ := dig64_facts h
  simp [tok64]; exact h5

/-- the two tables -/
theorem sgc_of_b64c : ∀ d, d < 64 → (if b64c d = 43 then 45 else if b64c d = 47 then 95 else b64c d) = sgc d := by decide +kernel
theorem b64c_lt : ∀ d, d < 64 → b64c d < 128 ∧ b64c d ≠ 61 := by decide +kernel
theorem sgc_facts : ∀ d, d < 64 → sgc d < 128 ∧ sgc d ≠ 61 := by decide +kernel

/-! bits -/
theorem and_zero_low (a c : Nat) (hc : c < 256) : (a * 256) &&& c = 0 := by
  refine Nat.eq_of_testBit_eq fun i => ?_
  rw [Nat.testBit_and, Nat.zero_testBit]
  by_cases hi : i < 8
  · have : (a * 256).testBit i = false := by
      rw [show a * 256 = 2 ^ 8 * a by omega, Nat.testBit_two_pow_mul]
      simp; omega
    rw [this, Bool.false_and]
  · have : c.testBit i = false := Nat.testBit_lt_two_pow (Nat.lt_of_lt_of_le (show c < 2 ^ 8 from hc) (Nat.pow_le_pow_right (by decide) (by omega)))
    rw [this, Bool.and_false]
theorem bitAnd_low (a c : Nat) (hc : c < 256) : Builtin.bitAnd ((a : Int) * 256) (c : Int) = 0 := by
  have e : ((a : Int) * 256) = ((a * 256 : Nat) : Int) := by omega
  rw [e]
  unfold Builtin.bitAnd
  simp only [decide_eq_true (Int.natCast_nonneg _), Int.toNat_natCast, and_zero_low a c hc]
  rfl
theorem bits_in (lc : Nat) (c : Nat) (hc : c < 256) : Builtin.bitAnd (Builtin.bitOr ((lc : Int) * 256) (c : Int)) 65535 = (((lc * 256 + c) % 65536 : Nat) : Int) := by
  rw [bitAnd_m16, bitOr_and, bitAnd_low lc c hc]
  omega
end Mine
end

section
local macro_rules | `(tactic| walk_at "own MB64 0") => `(tactic| fail)
theorem Mine.offMB64 : True := by w_top off; trivial
open PySem PySem.W PyProof.Rows PySem.Calls PySem.Spec
set_option maxRecDepth 100000
set_option maxHeartbeats 4000000
namespace Mine
theorem fillB : (fun (_ : OpenLaw) (_ : Params → Frag) => True) PySem.Challenge.rw_mr0112_01 hd.heap_39 := by k_fill; trivial

theorem c_buffer {prog : Program} {w : World} {A : Around} {E : Value → Shared → Prop} {s : Shared} {mg mb : Str → Option Value} {mean : ExcName → Option Value} {loose : List Str} {Q : Value → Shared → Prop} {b : Array UInt8} {t : Tok}
   (X : (hd.heap_39 w.params).In s.heap) (T : Top hd.view_39 loose mean mg mb s.heap) (hd : A.depth < recursionLimit)
   (h : ∀ h' tk, (∀ b o, s.heap.get? b = some o → h'.get? b = some o) → Q (.bytes b t) { s with heap := h', toks := tk }) :
   wpAny (model prog w) A (call (.ref 28) [.bytes b t]) Q E s := by
  k_dflt (refine' enterK (binds := [(Str.ofString "data", .bytes b t)]) X ?lim ?k6 ?k7 ?k8 ?k9 ?kB ?c2 ?c3 ?c4 ?c5 ?_; (case k6 => k_is); (case k7 => k_is); (case k9 => exact BindsTo.of_eq rfl); (case c5 => decide); (case kB => exact locs rfl); (case c2 => exact rfl); (case c3 => exact rfl); (case c4 => exact rfl); (case k8 => omega); (case lim => exact T.nolimit))
  intro L' h₁ F' N'
  try dsimp only
  try k_fold
  k_steps
  refine call_type_of (typeIs_bytes _ _ _) rfl ?_
  k_steps
  rename Fr _ _ _ _ => F
  exact h _ _ F.keep

theorem c_truth {prog : Program} {w : World} {A : Around} {E : Value → Shared → Prop} {s : Shared} {mg mb : Str → Option Value} {mean : ExcName → Option Value} {loose : List Str} {Q : Value → Shared → Prop} 
   (X : (hd.heap_39 w.params).In s.heap) (T : Top hd.view_39 loose mean mg mb s.heap) (hd : A.depth < recursionLimit)
   (h : ∀ h' tk, (∀ b o, s.heap.get? b = some o → h'.get? b = some o) → Q (.bool false) { s with heap := h', toks := tk }) :
   wpAny (model prog w) A (call (.ref 35) [.bool false]) Q E s := by
  k_dflt (refine' enterK (binds := [(Str.ofString "x", .bool false)]) X ?lim ?k6 ?k7 ?k8 ?k9 ?kB ?c2 ?c3 ?c4 ?c5 ?_; (case k6 => k_is); (case k7 => k_is); (case k9 => exact BindsTo.of_eq rfl); (case c5 => decide); (case kB => exact locs rfl); (case c2 => exact rfl); (case c3 => exact rfl); (case c4 => exact rfl); (case k8 => omega); (case lim => exact T.nolimit))
  intro L' h₁ F' N'
  try dsimp only
  try k_fold
  k_steps
  rename Fr _ _ _ _ => F
  exact h _ _ F.keep


/-- what b2a_base64 writes, as ints -/
def out64 (p : List Nat) : List Int := (dig64 p).map (fun d => (b64c d : Int)) ++ List.replicate (pad64 p) 61

theorem item_B64 {prog : Program} {w : World} {A : Around} {E : Value → Shared → Prop} {s : Shared} {t ui : Tok} {i : Int} {value slice : Expr} {Q : Value → Shared → Prop} (d : Nat) (hd : d < 64) (hi : i = (d : Int))
    (h : Q (.int (b64c d : Int) s.toks) { s with toks := s.toks + 1 })
    (hs : subscripted slice false (.bytes B64L.toArray t) (.int i ui) = operate [.bytes B64L.toArray t, .int i ui] (getItem (.bytes B64L.toArray t) (.int i ui)) := by with_unfolding_all rfl)
    (ht : ∀ r, letTemporaryGo value (.bytes B64L.toArray t) r = pure () := by intro _; with_unfolding_all rfl) :
    wpAny (model prog w) A (subscriptTail value slice (.bytes B64L.toArray t) (.int i ui)) Q E s := by
  subst hi
  exact bytes_item_K (x := B64L) (by decide) (by omega) (by show (d : Int) < 64; omega) (by rw [Int.toNat_natCast]; rfl) h hs ht

theorem idx64 {lc c m : Nat} {e : Int} (hc : c < 256) (he : e = (m : Int)) : Builtin.bitAnd ((Builtin.bitAnd (Builtin.bitOr ((lc : Int) * 2 ^ Int.toNat 8) (c : Int)) 65535).fdiv e) 63 = (((lc * 256 + c) % 65536 / m % 64 : Nat) : Int) := by
  subst he
  rw [show (lc : Int) * 2 ^ Int.toNat 8 = (lc : Int) * 256 from rfl, bits_in _ _ hc, bitAnd_m6, Int.fdiv_eq_ediv_of_nonneg _ (Int.natCast_nonneg _)]
  omega

theorem bits_tok {lc c : Nat} (hc : c < 256) (t : Tok) : some (Value.int (Builtin.bitAnd (Builtin.bitOr ((lc : Int) * 2 ^ Int.toNat 8) (c : Int)) 65535) t) = some (Value.int (((lc * 256 + c) % 65536 : Nat) : Int) t) := by
  rw [show (lc : Int) * 2 ^ Int.toNat 8 = (lc : Int) * 256 from rfl, bits_in _ _ hc]

theorem c_b2a {prog : Program} {w : World} {A : Around} {E : Value → Shared → Prop} {s : Shared} {mg mb : Str → Option Value} {mean : ExcName → Option Value} {loose : List Str} {Q : Value → Shared → Prop} {b : Array UInt8} {t : Tok} {p : List Nat}
   (X : (hd.heap_39 w.params).In s.heap) (T : Top hd.view_39 loose mean mg mb s.heap) (hh : A.handled = none) (hd : A.depth + 1 < recursionLimit) (hp : b.toList.map UInt8.toNat = p) (hsz : b.size ≤ 1000000)
   (hQ : ∀ h' tk t', (∀ b o, s.heap.get? b = some o → h'.get? b = some o) → Q (.bytes (byteArr (out64 p)) t') { s with heap := h', toks := tk }) :
   wpAny (model prog w) A (call (.ref 43) [.bytes b t] [(Str.ofString "newline", .bool false)]) Q E s := by
  k_dflt (refine' enterK (binds := [(Str.ofString "data", .bytes b t), (Str.ofString "newline", .bool false)]) X ?lim ?k6 ?k7 ?k8 ?k9 ?kB ?c2 ?c3 ?c4 ?c5 ?_; (case k6 => k_is); (case k7 => k_is); (case k9 => exact BindsTo.of_eq rfl); (case c5 => decide); (case kB => exact locs rfl); (case c2 => exact rfl); (case c3 => exact rfl); (case c4 => exact rfl); (case k8 => omega); (case lim => exact T.nolimit))
  intro L' h₁ F' N'
  rw [look2] at F'
  try dsimp only
  try k_fold
  k_steps
  refine c_buffer (X.keeps F'.keep) (T.keeps F'.keep) (by show A.depth + 1 < _; omega) ?_
  intro h2 tk2 hk2
  replace F' := F'.keeps hk2
  replace N' := News.grown N' hk2
  k_steps
  rename Fr _ _ _ _ => F'
  rename News _ _ _ _ => N'
  refine c_truth (X.keeps F'.keep) (T.keeps F'.keep) (by show A.depth + 1 < _; omega) ?_
  intro h3 tk3 hk3
  replace F' := F'.keeps hk3
  replace N' := News.grown N' hk3
  k_steps
  rename Fr _ _ _ _ => F'
  rename News _ _ _ _ => N'
  rename_i l' _ _ _ _ _
  refine iterBytes (fun i m news => (∃ its n, news = [(l', W.listOf its n)] ∧ IntsAre its.toList ((st64 (p.take i)).1.map fun d => (b64c d : Int))) ∧
     (∃ t, m (Str.ofString "leftchar") = some (.int ((st64 (p.take i)).2.2 : Int) t)) ∧ (∃ t, m (Str.ofString "leftbits") = some (.int ((st64 (p.take i)).2.1 : Int) t)) ∧ m (Str.ofString "out") = some (.ref l') ∧ m (Str.ofString "newline") = some (.bool false)) hh F' N' ?_ ?_ ?_
  · exact ⟨⟨_, _, rfl, .nil⟩, ⟨_, rfl⟩, ⟨_, rfl⟩, rfl, rfl⟩
  · rintro i c u m₁ news₁ h tk I o hc hoff ⟨⟨its, n, rfl, hi⟩, ⟨t1, e1⟩, ⟨t2, e2⟩, e3, e4⟩ F2 N2 Qf hend
    have hlt : i < b.size := by
      rcases Nat.lt_or_ge i b.size with h | h
      · exact h
      · rw [Array.getElem?_eq_none h] at hc; cases hc
    have hp8 : ∀ x ∈ p, x < 256 := by
      intro x hx; rw [← hp] at hx; obtain ⟨y, _, rfl⟩ := List.mem_map.mp hx; exact y.toNat_lt
    have hpt : p.take (i + 1) = p.take i ++ [c.toNat] := by
      rw [List.take_add_one, ← hp, List.getElem?_map, Array.getElem?_toList, hc]; rfl
    have hlen := hi.length
    have I64 := inv64 (p := p.take i) fun x hx => hp8 x (List.mem_of_mem_take hx)
    have hI : (st64 (p.take i)).1.length ≤ 2 * i := by have := I64.len; have h2 : (p.take i).length ≤ i := by simp; omega
                                                       omega
    have hne := @neN l' I (hoff (l', W.listOf its n) (.head _))
    have hcl : c.toNat < 256 := c.toNat_lt
    rw [hpt, st64_snoc] at hend
    generalize hq : st64 (p.take i) = q at *
    obtain ⟨D, lb, lc⟩ := q
    have hlb := I64.lb
    have hlc := I64.lc
    dsimp only at hlb hlc hi hI hlen e1 e2 hend ⊢
    rw [List.length_map, Array.length_toList] at hlen
    clear I64 hq hpt
    replace F2 := fr_put (x := Str.ofString "leftchar") F2 e1
    replace F2 := fr_put (x := Str.ofString "leftbits") F2 e2
    replace F2 := fr_put (x := Str.ofString "out") F2 e3
    replace F2 := fr_put (x := Str.ofString "newline") F2 e4
    clear e1 e2 e3 e4
    have hsz2 : its.size ≤ 2000000 := by omega
    rcases hlb with rfl | rfl | rfl
    · k_steps
      refine item_B64 ((lc * 256 + c.toNat) % 65536 / 4 % 64) (by omega) (idx64 hcl rfl) ?_
      k_steps
      rename Fr _ _ _ _ => F3
      rename News _ _ _ _ => N3
      refine hend _ _ ⟨_, _, _, [(l', W.listOf _ _)], rfl, F3, N3, fun p hp => by rw [List.mem_singleton.mp hp]; simpa using hne, ⟨_, _, rfl, ?_⟩, ⟨_, bits_tok hcl _⟩, ⟨_, rfl⟩, rfl, rfl⟩
      rw [show (step64 (D, 0, lc) c.toNat).1 = D ++ [(lc * 256 + c.toNat) % 65536 / 4 % 64] from rfl, List.map_append, Array.toList_push]
      exact hi.append (.cons _ _ .nil)
    · k_steps
      refine item_B64 ((lc * 256 + c.toNat) % 65536 / 16 % 64) (by omega) (idx64 hcl rfl) ?_
      k_steps
      rename Fr _ _ _ _ => F3
      rename News _ _ _ _ => N3
      refine hend _ _ ⟨_, _, _, [(l', W.listOf _ _)], rfl, F3, N3, fun p hp => by rw [List.mem_singleton.mp hp]; simpa using hne, ⟨_, _, rfl, ?_⟩, ⟨_, bits_tok hcl _⟩, ⟨_, rfl⟩, rfl, rfl⟩
      rw [show (step64 (D, 2, lc) c.toNat).1 = D ++ [(lc * 256 + c.toNat) % 65536 / 16 % 64] from rfl, List.map_append, Array.toList_push]
      exact hi.append (.cons _ _ .nil)
    · k_steps
      refine item_B64 ((lc * 256 + c.toNat) % 65536 / 64 % 64) (by omega) (idx64 hcl rfl) ?_
      k_steps
      refine item_B64 ((lc * 256 + c.toNat) % 65536 % 64) (by omega) ((idx64 (m := 1) hcl rfl).trans (by rw [Nat.div_one])) ?_
      k_steps
      rename Fr _ _ _ _ => F3
      rename News _ _ _ _ => N3
      refine hend _ _ ⟨_, _, _, [(l', W.listOf _ _)], rfl, F3, N3, fun p hp => by rw [List.mem_singleton.mp hp]; simpa using hne, ⟨_, _, rfl, ?_⟩, ⟨_, bits_tok hcl _⟩, ⟨_, rfl⟩, rfl, rfl⟩
      rw [show (step64 (D, 4, lc) c.toNat).1 = D ++ [(lc * 256 + c.toNat) % 65536 / 64 % 64] ++ [(lc * 256 + c.toNat) % 65536 % 64] from rfl, List.map_append, List.map_append, Array.toList_push, Array.toList_push]
      exact (hi.append (.cons _ _ .nil)).append (.cons _ _ .nil)
  · rintro m₁ news₁ h tk ⟨⟨its, n, rfl, hi⟩, ⟨t1, e1⟩, ⟨t2, e2⟩, e3, e4⟩ F2 N2
    have hp8 : ∀ x ∈ p, x < 256 := by
      intro x hx; rw [← hp] at hx; obtain ⟨y, _, rfl⟩ := List.mem_map.mp hx; exact y.toNat_lt
    have hpl : p.length = b.size := by rw [← hp]; simp
    rw [← hpl, List.take_length] at hi e1 e2
    have hlen := hi.length
    have I64 := inv64 hp8
    have hI : (st64 p).1.length ≤ 2 * p.length := by have := I64.len; omega
    have hout : out64 p = (dig64 p).map (fun d => (b64c d : Int)) ++ List.replicate (pad64 p) 61 := rfl
    have hdig := (dig64_facts hp8).1
    unfold dig64 pad64 at hout
    unfold dig64 at hdig
    generalize hq : st64 p = q at *
    obtain ⟨D, lb, lc⟩ := q
    have hlb := I64.lb
    have hlc := I64.lc
    dsimp only at hlb hlc hi hI hlen e1 e2 hout hdig ⊢
    rw [List.length_map, Array.length_toList] at hlen
    clear I64 hq
    replace F2 := fr_put (x := Str.ofString "leftchar") F2 e1
    replace F2 := fr_put (x := Str.ofString "leftbits") F2 e2
    replace F2 := fr_put (x := Str.ofString "out") F2 e3
    replace F2 := fr_put (x := Str.ofString "newline") F2 e4
    clear e1 e2 e3 e4
    have hsz2 : its.size ≤ 2000000 := by omega
    have fin : ∀ {h' : Heap} {its : Array Value} {n : Nat} {m : Str → Option Value} {rest : List (Addr × Obj)} {tk : Nat} {ns : List Int} {A' : Around}, Fr s.heap L' h' m → News s.heap L' h' ((l', W.listOf its n) :: rest) → IntsAre its.toList ns → ns = out64 p → its.size ≤ 3000000 → (∀ k ∈ ns, 0 ≤ k ∧ k < 256) → A'.handled = none →
        wpAny (model prog w) A' (call (Value.type "bytes") [Value.ref l']) (fun v s' => qk (Flow.ret v) s') ek { s with heap := h', toks := tk } := by
      intro h' its n m rest tk ns A' F N hi e hsz hr hA
      refine call_bytes_ints (vs := its.toList) ⟨_, (N _ (.head _)).1, rfl, n, by simp⟩ hi hr (by simp [sizeLine_eq]; omega) hA ?_
      intro h'' t' k hk
      rw [e]
      exact hQ h'' k t' fun b o q => hk b o (F.keep b o q)
    have hb64 : ∀ d, d < 64 → (0 : Int) ≤ (b64c d : Int) ∧ (b64c d : Int) < 256 := fun d hd => by have := (b64c_lt d hd).1; omega
    rcases hlb with rfl | rfl | rfl
    · k_steps
      refine fin F2 N2 hi (by simpa using hout.symm) (by omega) ?_ hh
      intro k hk
      obtain ⟨d, hd, rfl⟩ := List.mem_map.mp hk
      exact hb64 d (hdig d (by simpa using hd))
    · k_steps
      rw [bitAnd_m2]
      refine lshift_int_small (by decide) (by decide) (by omega) ?_
      k_steps
      refine item_B64 (lc % 4 * 16) (by omega) (by show (lc : Int) % 4 * 16 = _; omega) ?_
      k_steps
      rename Fr _ _ _ _ => F3
      rename News _ _ _ _ => N3
      refine fin F3 N3 (ns := D.map (fun d => (b64c d : Int)) ++ [(b64c (lc % 4 * 16) : Int)] ++ [61] ++ [61]) ?_ ?_ (by simp; omega) ?_ hh
      · simp only [Array.toList_push]
        exact ((hi.append (.cons _ _ .nil)).append (.cons _ _ .nil)).append (.cons _ _ .nil)
      · rw [hout]; simp [List.replicate]
      · intro k hk
        simp only [List.mem_append, List.mem_singleton] at hk
        rcases hk with ((hk | rfl) | rfl) | rfl
        · obtain ⟨d, hd, rfl⟩ := List.mem_map.mp hk
          exact hb64 d (hdig d (by simp [hd]))
        · exact hb64 _ (by omega)
        · omega
        · omega
    · k_steps
      rw [bitAnd_m4]
      refine lshift_int_small (by decide) (by decide) (by omega) ?_
      k_steps
      refine item_B64 (lc % 16 * 4) (by omega) (by show (lc : Int) % 16 * 4 = _; omega) ?_
      k_steps
      rename Fr _ _ _ _ => F3
      rename News _ _ _ _ => N3
      refine fin F3 N3 (ns := D.map (fun d => (b64c d : Int)) ++ [(b64c (lc % 16 * 4) : Int)] ++ [61]) ?_ ?_ (by simp; omega) ?_ hh
      · simp only [Array.toList_push]
        exact ((hi.append (.cons _ _ .nil)).append (.cons _ _ .nil))
      · rw [hout]; simp [List.replicate]
      · intro k hk
        simp only [List.mem_append, List.mem_singleton] at hk
        rcases hk with (hk | rfl) | rfl
        · obtain ⟨d, hd, rfl⟩ := List.mem_map.mp hk
          exact hb64 d (hdig d (by simp [hd]))
        · exact hb64 _ (by omega)
        · omega
end Mine
end

section
theorem Mine.offMCodec : True := by w_top off; trivial
open PySem PySem.W PyProof.Rows PySem.Calls PySem.Spec
set_option maxRecDepth 100000
namespace Mine
open Builtin Builtin._codecs

theorem foldl_bytes (l : List Nat) (a : Array UInt8) : l.foldl (fun acc y => acc ++ (asciiCodec.bytesOf y).toArray) a = a ++ (l.map Nat.toUInt8).toArray := by
  induction l generalizing a with
  | nil => simp
  | cons c l ih => rw [List.foldl_cons, ih]; simp [asciiCodec]

/-- a loop whose first turn does all and whose second stops -/
theorem two_turns {β : Type} {M : Model} {A : Around} {E : Value → Shared → Prop} {s : Shared} {f : Nat → β → Sem (ForInStep β)} {b₀ b₁ : β} {Q : β → Shared → Prop} {n : Nat} (h0 : n ≠ 0 → f 0 b₀ = pure (.yield b₁)) (h1 : ∀ k, f k b₁ = pure (.done b₁)) (he : n = 0 → Q b₀ s) (hQ : Q b₁ s) :
    wpAny M A (forIn (List.range' 0 n 1) b₀ f) Q E s := by
  cases n with
  | zero => exact wpAny_pure (he rfl)
  | succ n =>
    refine KPc.turn ?_
    rw [h0 (Nat.succ_ne_zero n)]
    refine wpAny_pure ?_
    cases n with
    | zero => exact wpAny_pure hQ
    | succ n =>
      refine KPc.turn ?_
      rw [h1]
      exact wpAny_pure hQ
theorem enc_ascii {M : Model} {A : Around} {E : Value → Shared → Prop} {s : Shared} {Q : Array UInt8 → Shared → Prop} {id : String} {self : Value} {x : PySem.Str} (h : ∀ c ∈ x.cps, c < 128) (hsz : x.length ≤ sizeLine)
   (hQ : Q (x.cps.map Nat.toUInt8) s) : wpAny M A (encodeNarrow id asciiCodec none self x) Q E s := by
  have hbad : ∀ c ∈ x.cps, asciiCodec.bad c = false := fun c hc => decide_eq_false (Nat.not_le.mpr (h c hc))
  have hfind : Array.findIdx? asciiCodec.bad (x.cps.extract 0) = none := by
    rw [Array.findIdx?_eq_none_iff]
    intro c hc
    simpa using hbad c (by simpa using hc)
  have hmap : Array.foldl (fun acc y => acc ++ (asciiCodec.bytesOf y).toArray) #[] ((x.cps.extract 0).extract 0 (x.cps.extract 0).size) = x.cps.map Nat.toUInt8 := by
    rw [← Array.foldl_toList, foldl_bytes]
    simp [← Array.toList_map]
  unfold encodeNarrow
  dsimp only
  rw [KPc.range_list]
  refine wpAny_bind (two_turns (b₁ := (x.cps.size, x.cps.map Nat.toUInt8, {})) ?_ ?_ ?_ (wpAny_pure hQ))
  · intro hn
    have h0 : 0 < x.cps.size := Nat.pos_of_ne_zero hn
    have hc : x.cps[0]? = some x.cps[0] := Array.getElem?_eq_getElem h0
    have e : (Array.findIdx? asciiCodec.bad (x.cps.extract 0)).getD (x.cps.extract 0).size = (x.cps.extract 0).size := by rw [hfind]; rfl
    refine (if_neg (Nat.not_lt_zero _)).trans ?_
    dsimp only
    rw [hc]
    refine (if_pos ?_).trans ?_
    · rw [hbad _ (Array.getElem_mem h0)]; rfl
    · refine congrArg (fun q => pure (ForInStep.yield q)) (Prod.ext ?_ (Prod.ext ?_ rfl))
      · exact (Nat.zero_add _).trans (e.trans (by simp))
      · exact (congrArg (fun k => Array.foldl _ _ ((x.cps.extract 0).extract 0 k)) e).trans hmap
  · intro k
    refine (if_neg (by rw [Array.size_map]; exact Nat.not_lt.mpr hsz)).trans ?_
    dsimp only
    rw [Array.getElem?_eq_none (Nat.le_refl _)]
  · intro hn
    have : x.cps.map Nat.toUInt8 = #[] := by rw [Array.size_eq_zero_iff.mp hn, Array.map_empty]
    exact wpAny_pure (this ▸ hQ)

theorem encode_road {id : String} {self : Value} {x : PySem.Str} {errors : Option PySem.Str} : encodeRoad id self x (Str.ofString "ascii") errors = (do mkBytes (← encodeNarrow id asciiCodec errors self x)) := by
  first | rfl | (unfold encodeRoad; rfl) | (unfold encodeRoad; simp only []; rfl) | kernel_rfl

theorem encode_tree2 (x : PySem.Str) (t u : Tok) : «str.encode» ⟨[.str x t, .str (Str.ofString "ascii") u], []⟩ = (do ret (← encodeRoad "str.encode" (.str x t) x (Str.ofString "ascii") none)) := by
  first | rfl | kernel_rfl

section
variable {prog : Program} {w : World} {A : Around} {E : Value → Shared → Prop} {s : Shared} {Q : Value → Shared → Prop}

theorem call_encode {x : PySem.Str} {t u : Tok} (h : ∀ c ∈ x.cps, c < 128) (hsz : x.length ≤ sizeLine) (hQ : ∀ t' k, Q (.bytes (x.cps.map Nat.toUInt8) t') { s with toks := k }) :
    wpAny (model prog w) A (call (.builtin "str.encode") [.str x t, .str (Str.ofString "ascii") u]) Q E s := by
  refine wpAny_call_entry F.slot_str_encode (typeIs_str _ _ _) F.entry_str_encode ?_ (F.args_str_encode_2 _ _)
  rw [encode_tree2, encode_road]
  refine wpAny_bind (wpAny_bind (enc_ascii h hsz ?_))
  unfold mkBytes
  rw [if_neg (by rw [Array.size_map]; exact Nat.not_lt.mpr hsz)]
  exact wpAny_bind (wpAny_fresh (wpAny_pure (wpAny_pure ⟨_, rfl, hQ _ _⟩)))

theorem slot_bytes_translate : Slot "bytes" "translate" "bytes.translate" :=
  .of (owner := "bytes") (n := "translate") (by rw [typeLookup_type, builtinLookup_eq_fast]; kernel_rfl) (by decide +kernel) (by decide +kernel) (by decide +kernel)
    (by first | exact .inl (by decide +kernel) | exact .inr (by decide +kernel)) (by rw [isSubtype_type]; kernel_rfl)
theorem type_bytes_translate : typeOf (.builtin "bytes.translate") = pure (.type "method_descriptor") := by show builtinType _ = _; rw [builtinType_eq_fast]; kernel_rfl
theorem entry_bytes_translate : entryFor table "bytes.translate" = some Builtin.«bytes.translate» := entryFor_of_tree (by kernel_rfl)
theorem args_bytes_translate_2 (a b : Value) : argsOk "bytes.translate" ⟨[a, b], []⟩ := by unfold argsOk; kernel_rfl
theorem args_bytes_decode_2 (a b : Value) : argsOk "bytes.decode" ⟨[a, b], []⟩ := by unfold argsOk; kernel_rfl

theorem method_translate {M : Model} {b : Array UInt8} {t : Tok} {pl : Sem Bool} {Q : Value × List Value → Shared → Prop} (h : Q (.builtin "bytes.translate", [.bytes b t]) s) : wpAny M A (getMethod (.bytes b t) (Str.ofString "translate") pl) Q E s := by
  with_reducible exact KBd.method_of (.bytes b t) (typeIs_bytes _ _ _) slot_bytes_translate type_bytes_translate KBd.noRef h

theorem call_translate {b tb : Array UInt8} {t u : Tok} (htb : tb.size = 256) (hsz : b.size ≤ sizeLine) (hQ : ∀ t' k, Q (.bytes (b.map fun c => tb.getD c.toNat c) t') { s with toks := k }) :
    wpAny (model prog w) A (call (.builtin "bytes.translate") [.bytes b t, .bytes tb u]) Q E s := by
  refine wpAny_call_entry slot_bytes_translate (typeIs_bytes _ _ _) entry_bytes_translate ?_ (args_bytes_translate_2 _ _)
  show wpAny _ _ (Bytes.bytesLike _ (.bytes tb u) >>= fun r => _) _ _ s
  refine wpAny_bind (wpAny_of_eq KBd.like_eq ?_)
  have e1 : (tb.size != 256) = false := by rw [htb]; rfl
  rw [e1]
  simp only [Bool.false_eq_true, if_false]
  refine wpAny_bind (wpAny_pure (wpAny_bind (wpAny_pure ?_)))
  refine wpAny_bind (wpAny_bind (wpAny_pure (wpAny_pure ?_)))
  have e2 : Array.filter (fun x => !(#[] : Array UInt8).contains x) b = b := by
    rw [Array.filter_eq_self]; intro a _; simp
  dsimp only
  rw [e2]
  split
  · rename_i he
    have he' : Array.map (fun c => tb.getD c.toNat c) b = b := eq_of_beq he
    refine wpAny_bind (wpAny_rule ?_)
    have hq := hQ t s.toks
    rw [he'] at hq
    show wpAny _ _ (typeOf (.bytes b t) >>= fun r => _) _ _ s
    exact wpAny_bind (wpAny_pure (wpAny_pure ⟨_, rfl, hq⟩))
  · show wpAny _ _ (mkBytes _ >>= fun r => _) _ _ s
    unfold mkBytes
    rw [if_neg (by rw [Array.size_map]; exact Nat.not_lt.mpr hsz)]
    exact wpAny_bind (wpAny_bind (wpAny_fresh (wpAny_pure (wpAny_pure ⟨_, rfl, hQ _ _⟩))))

theorem run_ascii {M : Model} {Q : Array Nat × Nat → Shared → Prop} {id : String} {b : Array UInt8} (h : ∀ c ∈ b, c.toNat < 128) (hsz : b.size ≤ sizeLine) (hQ : Q (b.map UInt8.toNat, b.size) s) :
    wpAny M A (runDecoder id asciiDecoder none true b 0 []) Q E s := by
  unfold runDecoder
  dsimp only
  rw [KPc.range_list]
  refine wpAny_bind (wpAny_forIn_list _ (fun rest q s' => s' = s ∧ q.1 + rest.length = b.size ∧ q.2.1 = (b.extract 0 q.1).map UInt8.toNat) _ ?_ ?_ _ _ ⟨rfl, by simp, by simp⟩)
  · rintro k rest ⟨p, out, st⟩ s' ⟨rfl, h1, h2⟩
    dsimp only at h1 h2
    rw [List.length_cons] at h1
    have hp : p < b.size := by omega
    subst h2
    dsimp only
    rw [if_neg (by rw [Array.size_map, Array.size_extract]; omega), if_neg (by omega)]
    have hc : ((b.getD p 0).toNat < 128) := by
      rw [Array.getD_eq_getD_getElem?, Array.getElem?_eq_getElem hp]
      exact h _ (Array.getElem_mem hp)
    have e : asciiDecoder.find true b p = .text [(b.getD p 0).toNat] (p + 1) := by
      show (if (b.getD p 0).toNat < 128 then _ else _) = _
      rw [if_pos hc]; rfl
    rw [e]
    refine wpAny_pure ⟨rfl, by show p + 1 + rest.length = b.size; omega, ?_⟩
    show (b.extract 0 p).map UInt8.toNat ++ [(b.getD p 0).toNat].toArray = (b.extract 0 (p + 1)).map UInt8.toNat
    apply Array.toList_inj.mp
    simp only [Array.toList_append, Array.toList_map, Array.toList_extract]
    rw [Array.getD_eq_getD_getElem?, Array.getElem?_eq_getElem hp]
    simp [List.extract_eq_take_drop, List.take_add_one, hp]
  · rintro ⟨p, out, st⟩ s' ⟨rfl, h1, h2⟩
    dsimp only at h1 h2
    simp at h1
    subst h1 h2
    refine wpAny_pure ?_
    simpa using hQ

theorem road_ascii {id : String} {b : Array UInt8} : decodeRoad id b (PySem.Str.ofString "ascii") none [] = (runDecoder id asciiDecoder none true b 0 [] >>= fun r => mkStr ⟨r.1⟩) := by kernel_rfl

theorem decode_nil {t u : Tok} : «bytes.decode» ⟨[.bytes #[] t, .str (PySem.Str.ofString "ascii") u], []⟩ = (rule "bytes.decode.empty" >>= fun _ => retStr Str.empty) := by kernel_rfl
theorem decode_cons {c : UInt8} {cs : List UInt8} {t u : Tok} : «bytes.decode» ⟨[.bytes (c :: cs).toArray t, .str (PySem.Str.ofString "ascii") u], []⟩ = (mkStr (PySem.Str.ofString "utf-8") >>= fun _ => mkStr (PySem.Str.ofString "ascii") >>= fun e => mkStr (PySem.Str.ofString "bytes.decode") >>= fun d =>
    call (.builtin "_codecs.decode.text") [.bytes (c :: cs).toArray t, e, .none, d] >>= fun v => ret v) := by kernel_rfl

theorem text_ascii {b : Array UInt8} {t t1 t2 : Tok} {d : PySem.Str} (h : ∀ c ∈ b, c.toNat < 128) (hsz : b.size ≤ sizeLine) (hQ : ∀ t' k, Q (.str ⟨b.map UInt8.toNat⟩ t') { s with toks := k }) :
    wpAny (model prog w) A (call (.builtin "_codecs.decode.text") [.bytes b t, .str (PySem.Str.ofString "ascii") t1, .none, .str d t2]) Q E s := by
  have m : Meets («_codecs.decode.text» ⟨[.bytes b t, .str (PySem.Str.ofString "ascii") t1, .none, .str d t2], []⟩) (fun _ R s => R (.ok (.ret (.str ⟨b.map UInt8.toNat⟩ s.toks))) { s with toks := s.toks + 1 }) := by
    refine .of_wp fun prog w A R s hS => ?_
    show wpAny _ _ (Bytes.bytesLike _ (.bytes b t) >>= fun r => _) _ _ s
    refine wpAny_bind (wpAny_of_eq KBd.like_eq ?_)
    refine wpAny_bind (wpAny_of_eq KBd.held_eq ?_)
    show wpAny _ _ (decodeRoad _ b (PySem.Str.ofString "ascii") none [] >>= fun v => _) _ _ s
    rw [road_ascii]
    refine wpAny_bind (wpAny_bind (run_ascii h hsz ?_))
    exact wpAny_mkStr (wpAny_pure ⟨_, rfl, hS⟩) (by show (b.map UInt8.toNat).size ≤ _; rw [Array.size_map]; exact hsz)
  exact call_function_meets KBd.kind_text KBd.plain_text KBd.entry_text (KBd.args_text _ _ _ _) m (hQ _ _)

theorem call_decode {b : Array UInt8} {t u : Tok} (h : ∀ c ∈ b, c.toNat < 128) (hsz : b.size ≤ sizeLine) (hQ : ∀ t' k, Q (.str ⟨b.map UInt8.toNat⟩ t') { s with toks := k }) :
    wpAny (model prog w) A (call (.builtin "bytes.decode") [.bytes b t, .str (PySem.Str.ofString "ascii") u]) Q E s := by
  refine wpAny_call_entry FB.slot_bytes_decode (typeIs_bytes _ _ _) FB.entry_bytes_decode ?_ (args_bytes_decode_2 _ _)
  obtain ⟨l⟩ := b
  cases l with
  | nil =>
    rw [decode_nil]
    refine wpAny_bind (wpAny_rule (wpAny_bind (wpAny_mkStr (wpAny_pure ⟨_, rfl, ?_⟩) (by decide))))
    have := hQ s.toks (s.toks + 1)
    rw [show (⟨(⟨[]⟩ : Array UInt8).map UInt8.toNat⟩ : PySem.Str) = Str.empty from by simp [Str.empty]] at this
    exact this
  | cons c cs =>
    rw [show (⟨c :: cs⟩ : Array UInt8) = (c :: cs).toArray from rfl, decode_cons]
    refine wpAny_bind (wpAny_mkStr ?_ (by decide))
    refine wpAny_bind (wpAny_mkStr ?_ (by decide))
    refine wpAny_bind (wpAny_mkStr ?_ (by decide))
    exact wpAny_bind (text_ascii h hsz fun t' k => wpAny_pure ⟨_, rfl, hQ t' k⟩)
end
end Mine
end

section
local macro_rules | `(tactic| walk_at "own MTok 0") => `(tactic| fail)
theorem Mine.offMTok : True := by w_top off; trivial
open PySem PySem.W PyProof.Rows PySem.Calls PySem.Spec
set_option maxRecDepth 100000
set_option maxHeartbeats 4000000
namespace Mine
theorem fillC : (fun (_ : OpenLaw) (_ : Params → Frag) => True) PySem.Challenge.rw_mr0112_01 hd.heap_39 := by k_fill; trivial

def TB : Array UInt8 := #[0, 1, 2, 3, 4, 5, 6, 7, 8, 9, 10, 11, 12, 13, 14, 15, 16, 17, 18, 19, 20, 21, 22, 23, 24, 25, 26, 27, 28, 29, 30, 31, 32, 33, 34, 35, 36, 37, 38, 39, 40, 41, 42, 45, 44, 45, 46, 95, 48, 49, 50, 51, 52, 53, 54, 55, 56, 57, 58, 59, 60, 61, 62, 63, 64, 65, 66, 67, 68, 69, 70, 71, 72, 73, 74, 75, 76, 77, 78, 79, 80, 81, 82, 83, 84, 85, 86, 87, 88, 89, 90, 91, 92, 93, 94, 95, 96, 97, 98, 99, 100, 101, 102, 103, 104, 105, 106, 107, 108, 109, 110, 111, 112, 113, 114, 115, 116, 117, 118, 119, 120, 121, 122, 123, 124, 125, 126, 127, 128, 129, 130, 131, 132, 133, 134, 135, 136, 137, 138, 139, 140, 141, 142, 143, 144, 145, 146, 147, 148, 149, 150, 151, 152, 153, 154, 155, 156, 157, 158, 159, 160, 161, 162, 163, 164, 165, 166, 167, 168, 169, 170, 171, 172, 173, 174, 175, 176, 177, 178, 179, 180, 181, 182, 183, 184, 185, 186, 187, 188, 189, 190, 191, 192, 193, 194, 195, 196, 197, 198, 199, 200, 201, 202, 203, 204, 205, 206, 207, 208, 209, 210, 211, 212, 213, 214, 215, 216, 217, 218, 219, 220, 221, 222, 223, 224, 225, 226, 227, 228, 229, 230, 231, 232, 233, 234, 235, 236, 237, 238, 239, 240, 241, 242, 243, 244, 245, 246, 247, 248, 249, 250, 251, 252, 253, 254, 255]
theorem TB_b64 : ∀ d, d < 64 → (TB.getD (b64c d) 0).toNat = sgc d := by decide +kernel
theorem TB_get (c : UInt8) (x : UInt8) : TB.getD c.toNat x = TB.getD c.toNat 0 := by
  have h : c.toNat < TB.size := c.toNat_lt
  simp [Array.getD, h]
theorem TB_out {p : List Nat} (hp : ∀ c ∈ p, c < 256) : ((byteArr (out64 p)).map fun c => TB.getD c.toNat c).toList.map UInt8.toNat = tok64 p := by
  have hd := (dig64_facts hp).1
  unfold byteArr out64 tok64
  simp only [List.map_append, List.map_map, Array.toList_map, List.map_replicate]
  refine congr (congrArg _ ?_) ?_
  · apply List.map_congr_left
    intro d hdm
    have h1 := hd d hdm
    have h2 := (b64c_lt d h1).1
    show (TB.getD ((b64c d : Int).toNat.toUInt8).toNat ((b64c d : Int).toNat.toUInt8)).toNat = sgc d
    rw [TB_get, Int.toNat_natCast]
    have : (b64c d).toUInt8.toNat = b64c d := by simp [Nat.toUInt8]; omega
    rw [this, TB_b64 d h1]
  · rfl

theorem c_b64encode {prog : Program} {w : World} {A : Around} {E : Value → Shared → Prop} {s : Shared} {mg mb : Str → Option Value} {mean : ExcName → Option Value} {loose : List Str} {Q : Value → Shared → Prop} {b : Array UInt8} {t : Tok} {p : List Nat}
   (X : (hd.heap_39 w.params).In s.heap) (T : Top hd.view_39 loose mean mg mb s.heap) (hh : A.handled = none) (hd : A.depth + 2 < recursionLimit) (hp : b.toList.map UInt8.toNat = p) (hsz : b.size ≤ 1000000)
   (hQ : ∀ h' tk t', (∀ b o, s.heap.get? b = some o → h'.get? b = some o) → Q (.bytes (byteArr (out64 p)) t') { s with heap := h', toks := tk }) :
   wpAny (model prog w) A (call (.ref 51) [.bytes b t]) Q E s := by
  k_dflt (refine' enterK (binds := [(Str.ofString "s", .bytes b t), (Str.ofString "altchars", .none)]) X ?lim ?k6 ?k7 ?k8 ?k9 ?kB ?c2 ?c3 ?c4 ?c5 ?_; (case k6 => k_is); (case k7 => k_is); (case k9 => first | exact BindsTo.of_eq rfl | exact binds_K (by k_in) rfl (by k_is) rfl rfl rfl); (case c5 => decide); (case kB => exact locs rfl); (case c2 => exact rfl); (case c3 => exact rfl); (case c4 => exact rfl); (case k8 => omega); (case lim => exact T.nolimit))
  intro L' h₁ F' N'
  rw [look2] at F'
  try dsimp only
  try k_fold
  k_steps
  rename Fr _ _ _ _ => F'
  rename News _ _ _ _ => N'
  refine c_b2a (X.keeps F'.keep) (T.keeps F'.keep) hh (by show A.depth + 1 + 1 < _; omega) hp hsz ?_
  intro h2 tk2 t2 hk2
  replace F' := F'.keeps hk2
  replace N' := News.grown N' hk2
  k_steps
  rename Fr _ _ _ _ => F
  exact hQ _ _ _ F.keep

theorem c_urlsafe {prog : Program} {w : World} {A : Around} {E : Value → Shared → Prop} {s : Shared} {mg mb : Str → Option Value} {mean : ExcName → Option Value} {loose : List Str} {Q : Value → Shared → Prop} {b : Array UInt8} {t : Tok} {p : List Nat}
   (X : (hd.heap_39 w.params).In s.heap) (T : Top hd.view_39 loose mean mg mb s.heap) (hh : A.handled = none) (hd : A.depth + 3 < recursionLimit) (hp : b.toList.map UInt8.toNat = p) (hsz : b.size ≤ 1000000)
   (hQ : ∀ h' tk t' (o : Array UInt8), (∀ b o, s.heap.get? b = some o → h'.get? b = some o) → o.toList.map UInt8.toNat = tok64 p → Q (.bytes o t') { s with heap := h', toks := tk }) :
   wpAny (model prog w) A (call (.ref 58) [.bytes b t]) Q E s := by
  k_dflt (refine' enterK (binds := [(Str.ofString "s", .bytes b t)]) X ?lim ?k6 ?k7 ?k8 ?k9 ?kB ?c2 ?c3 ?c4 ?c5 ?_; (case k6 => k_is); (case k7 => k_is); (case k9 => first | exact BindsTo.of_eq rfl | exact binds_K (by k_in) rfl (by k_is) rfl rfl rfl); (case c5 => decide); (case kB => exact locs rfl); (case c2 => exact rfl); (case c3 => exact rfl); (case c4 => exact rfl); (case k8 => omega); (case lim => exact T.nolimit))
  intro L' h₁ F' N'
  rw [look1] at F'
  try dsimp only
  try k_fold
  k_steps
  rename Fr _ _ _ _ => F'
  rename News _ _ _ _ => N'
  refine c_b64encode (X.keeps F'.keep) (T.keeps F'.keep) hh (by show A.depth + 1 + 2 < _; omega) hp hsz ?_
  intro h2 tk2 t2 hk2
  replace F' := F'.keeps hk2
  replace N' := News.grown N' hk2
  k_steps
  refine method_translate ?_
  k_steps
  have hp8 : ∀ x ∈ p, x < 256 := by
    intro x hx; rw [← hp] at hx; obtain ⟨y, _, rfl⟩ := List.mem_map.mp hx; exact y.toNat_lt
  have hpl : p.length = b.size := by rw [← hp]; simp
  refine call_translate (tb := TB) rfl ?_ ?_
  · have := (dig64_facts hp8).2.2.2.2
    rw [byteArr_size, sizeLine_eq]
    simp only [out64, List.length_append, List.length_map, List.length_replicate]
    omega
  · intro t' k
    exact hQ _ _ _ _ F'.keep (TB_out hp8)
end Mine
end

section
theorem Mine.offMTree0 : True := by w_top off; trivial
open PySem PySem.W PyProof.Rows PySem.Calls PySem.Spec
set_option maxRecDepth 100000
namespace Mine

/-- a record: agents, delay, records below -/
inductive T where
  | mk (ag : List Str) (dl : Option Int) (ks : List T)

def dlPy : Option Int → PyData
  | none => .none
  | some d => .int d
mutual
def T.py : T → PyData
  | .mk ag dl ks => .list [.list (ag.map .str), dlPy dl, .list (pys ks)]
def pys : List T → List PyData
  | [] => []
  | t :: ts => t.py :: pys ts
end
theorem pys_eq : ∀ ts : List T, pys ts = ts.map T.py
  | [] => rfl
  | t :: ts => by rw [pys, pys_eq ts]; rfl
mutual
def T.dep : T → Nat
  | .mk _ _ ks => 1 + deps ks
def deps : List T → Nat
  | [] => 0
  | t :: ts => max t.dep (deps ts)
end
theorem dep_le {ts : List T} : ∀ {t : T}, t ∈ ts → t.dep ≤ deps ts := by
  induction ts with
  | nil => intro t h; cases h
  | cons u ts ih =>
    intro t h
    rw [deps]
    rcases List.mem_cons.mp h with rfl | h
    · omega
    · have := ih h; omega

def uaLine (x : Str) : Str := Str.ofString "User-agent: " ++ x
def dlLines : Option Int → List Str
  | none => []
  | some d => [Str.ofString "Crawl-delay: " ++ Str.ofString (toString d)]
def tokStr (x : Str) : Str := ⟨(tok64 x.cps.toList).toArray⟩
def alLine (x : Str) : Str := Str.ofString "Allow: /" ++ tokStr x
def nl : Str := Str.ofString "\n"
mutual
def T.text : T → Str
  | .mk ag dl ks => if ag.isEmpty then Str.empty else Str.join nl (ag.map uaLine ++ dlLines dl ++ (if ks.isEmpty then [Str.ofString "Allow:"] else alLines ks))
def alLines : List T → List Str
  | [] => []
  | t :: ts => alLine t.text :: alLines ts
end
theorem alLines_eq : ∀ ts : List T, alLines ts = ts.map fun t => alLine t.text
  | [] => rfl
  | t :: ts => by rw [alLines, alLines_eq ts]; rfl

/-! a record on the heap -/
def DlVal (v : Value) : Option Int → Prop
  | none => v = .none
  | some d => ∃ t, v = .int d t
mutual
inductive Rec (h : Heap) : Value → T → Prop
  | mk {a g k : Addr} {dv : Value} {n1 n2 n3 : Nat} {l : List (Str × Tok)} {kvs : List Value} {dl : Option Int} {ks : List T} :
      h.get? a = some (W.listOf [Value.ref g, dv, Value.ref k].toArray n1) → h.get? g = some (W.listOf (strValues l).toArray n2) → DlVal dv dl → h.get? k = some (W.listOf kvs.toArray n3) → Recs h kvs ks → Rec h (.ref a) (.mk (l.map (·.1)) dl ks)
inductive Recs (h : Heap) : List Value → List T → Prop
  | nil : Recs h [] []
  | cons {v : Value} {t : T} {vs : List Value} {ts : List T} : Rec h v t → Recs h vs ts → Recs h (v :: vs) (t :: ts)
end
mutual
theorem Rec.keeps {h h' : Heap} (hk : ∀ b o, h.get? b = some o → h'.get? b = some o) : ∀ {v : Value} {t : T}, Rec h v t → Rec h' v t
  | _, _, .mk h1 h2 h3 h4 h5 => .mk (hk _ _ h1) (hk _ _ h2) h3 (hk _ _ h4) (h5.keeps hk)
theorem Recs.keeps {h h' : Heap} (hk : ∀ b o, h.get? b = some o → h'.get? b = some o) : ∀ {vs : List Value} {ts : List T}, Recs h vs ts → Recs h' vs ts
  | _, _, .nil => .nil
  | _, _, .cons h1 h2 => .cons (h1.keeps hk) (h2.keeps hk)
end
theorem Recs.length {h : Heap} : ∀ {vs : List Value} {ts : List T}, Recs h vs ts → vs.length = ts.length
  | _, _, .nil => rfl
  | _, _, .cons _ h2 => by rw [List.length_cons, List.length_cons, h2.length]
theorem Recs.get {h : Heap} : ∀ {vs : List Value} {ts : List T}, Recs h vs ts → ∀ {i : Nat} {v : Value}, vs[i]? = some v → ∃ t, ts[i]? = some t ∧ Rec h v t
  | _, _, .nil, i, v, e => by simp at e
  | _, _, .cons h1 h2, 0, v, e => by simp at e; subst e; exact ⟨_, rfl, h1⟩
  | _, _, .cons h1 h2, i + 1, v, e => by simp at e; obtain ⟨t, e1, e2⟩ := h2.get e; exact ⟨t, by simpa using e1, e2⟩
theorem isList_at {h : Heap} {a : Addr} {its : Array Value} {n : Nat} (e : h.get? a = some (W.listOf its n)) : h.IsList a its := ⟨_, e, rfl, n, rfl⟩
theorem reads_dl {h : Heap} {v : Value} {dl : Option Int} (e : DlVal v dl) : Reads h v (dlPy dl) [] := by
  cases dl with
  | none => subst e; exact .none
  | some d => obtain ⟨t, rfl⟩ := e; exact .int d t
mutual
theorem Rec.reads {h : Heap} : ∀ {v : Value} {t : T}, Rec h v t → ∃ as, Reads h v t.py as
  | _, _, .mk (l := l) h1 h2 h3 h4 h5 => by
    obtain ⟨as, r⟩ := h5.reads
    rw [T.py]
    have q := ReadsAll.cons (Reads.list h2 rfl rfl (by rw [List.toList_toArray]; exact readsAll_strValues _ l)) (ReadsAll.cons (reads_dl (h := h) h3) (ReadsAll.cons (Reads.list h4 rfl rfl (by rw [List.toList_toArray]; exact r)) ReadsAll.nil))
    exact ⟨_, .list h1 rfl rfl (by rw [List.toList_toArray]; exact q)⟩
theorem Recs.reads {h : Heap} : ∀ {vs : List Value} {ts : List T}, Recs h vs ts → ∃ as, ReadsAll h vs (pys ts) as
  | _, _, .nil => ⟨_, .nil⟩
  | _, _, .cons h1 h2 => by
    obtain ⟨as, r⟩ := h1.reads
    obtain ⟨bs, q⟩ := h2.reads
    rw [pys]
    exact ⟨_, .cons r q⟩
end
end Mine
end

section
theorem Mine.offMComp : True := by w_top off; trivial
open PySem PySem.W PyProof.Rows PySem.Calls PySem.Spec
set_option maxRecDepth 100000
namespace Mine

/-- a goal that the walk is to leave to the hand -/
def Held (P : Prop) : Prop := P
theorem held {P : Prop} (h : Held P) : P := h
theorem unheld {P : Prop} (h : P) : Held P := h

section
variable {prog : Program} {w : World} {A : Around} {E : Value → Shared → Prop} {env : Env}

/-- the turns of a comprehension over a list: what each element is may be told of the heap -/
theorem compLoopL {Rr : Result → Shared → Prop} {s : Shared} {elt iter : Expr} {x : Str} {px : Pos} {scope : Scope} {pos : Pos} {I D ax : Addr} {vs : List Value} {cenv : Env} {m : Str → Option Value}
    (R : Nat → Value → Heap → Prop) (hh : A.handled = none)
    (hx : cenv.kindOf x = some .local) (hp : (cenv.scope.kind == .class || (cenv.scope.kind == .module && cenv.locals != cenv.globals)) = false)
    (hDC : D ≠ cenv.locals) (hID : I ≠ D) (hIC : I ≠ cenv.locals) (hxI : ax ≠ I) (hxD : ax ≠ D) (hxC : ax ≠ cenv.locals)
    (hR : ∀ i y h h', R i y h → (∀ b o, b ≠ cenv.locals → b ≠ I → b ≠ D → h.get? b = some o → h'.get? b = some o) → R i y h')
    (hst : s.heap.IsListIter I ax 0 ∧ s.heap.IsList ax vs.toArray) (hacc : s.heap.PlainList D #[]) (hn : s.heap.Ns cenv.locals m)
    (helt : ∀ i v s₂ m₂, vs[i]? = some v → s₂.heap.Ns cenv.locals m₂ → m₂ x = some v → (∃ o, s₂.heap.get? I = some o) → (∃ o, s₂.heap.get? D = some o) → (∀ b o, b ≠ cenv.locals → b ≠ I → b ≠ D → s.heap.get? b = some o → s₂.heap.get? b = some o) →
      wpAny (model prog w) A (eval elt cenv) (fun y s₃ => R i y s₃.heap ∧ Keeps s₂ s₃) (notedBy (model prog w) A cenv fun e s' => Rr (.error e) s') s₂)
    (hQ : ∀ h' tk m' ys, h'.Ns cenv.locals m' → h'.PlainList D ys → ys.size = vs.length → (∀ i y, ys[i]? = some y → R i y h') →
      (∀ b o, b ≠ cenv.locals → b ≠ I → b ≠ D → s.heap.get? b = some o → h'.get? b = some o) → Rr (.ok .next) { s with heap := h', toks := tk })
    (hsz : vs.length ≤ sizeLine) :
    codeAny (model prog w) A (.compLoop (.ListComp elt [⟨.Name x px, iter, [], 0⟩] scope pos) 0 (.ref I) (.ref D) cenv) Rr s := by
  have W := Walks.list (prog := prog) (w := w) hh I ax hxI vs.toArray
  refine codeAny_compLoop_tests
    (fun k s' => ∃ h' tk m' ys, s' = { s with heap := h', toks := tk } ∧ (h'.IsListIter I ax ys.size ∧ h'.IsList ax vs.toArray) ∧ h'.PlainList D ys ∧ h'.Ns cenv.locals m' ∧ (∀ i y, ys[i]? = some y → R i y h') ∧ ys.size ≤ vs.length ∧ k = vs.length + 1 - ys.size ∧
      (∀ b o, b ≠ cenv.locals → b ≠ I → b ≠ D → s.heap.get? b = some o → h'.get? b = some o)) ?_ (vs.length + 1)
    ⟨s.heap, s.toks, m, #[], rfl, hst, hacc, hn, by simp, Nat.zero_le _, rfl, fun _ _ _ _ _ e => e⟩
  rintro k s' ⟨H, tk, m', ys, rfl, hst', hacc', hn', hRy, hi, rfl, hk⟩
  by_cases hlt : ys.size < vs.length
  · refine W.item ys.size _ _ _ (by simpa using hlt) hst' fun v h₁ tk₁ hPv hst₁ hk₁ => ?_
    have hk₁' : ∀ b o, b ≠ I → H.get? b = some o → h₁.get? b = some o := fun b o hb e => hk₁ b o (fun hm => hb (List.mem_singleton.mp hm)) e
    have hv : vs[ys.size]? = some v := by simpa using hPv
    refine wpAny_assign_Name (wpAny_storeName_local hx (hn'.at' fun o e => hk₁' _ o (Ne.symm hIC) e) (fun h₂ hn₂ hs₂ => ?_) hp)
    have up₂ : ∀ b o, b ≠ cenv.locals → b ≠ I → H.get? b = some o → h₂.get? b = some o := fun b o hbC hbI e => hs₂.extBut b o hbC (hk₁' b o hbI e)
    have hst₂ : h₂.IsListIter I ax (ys.size + 1) ∧ h₂.IsList ax vs.toArray := W.frame (ys.size + 1) _ _ hst₁ fun b hb o e => hs₂.extBut b o (fun h => by
      rcases List.mem_cons.mp hb with e' | e'
      · exact hIC (e'.symm.trans h)
      · exact hxC ((List.mem_singleton.mp e').symm.trans h)) e
    refine wpAny_pure ?_
    simp only [if_true]
    have hacc₂ : h₂.PlainList D ys := hacc'.at fun o e => up₂ D o hDC (Ne.symm hID) e
    obtain ⟨oI, hoI, _⟩ := id hst₂.1
    obtain ⟨nD, hoD⟩ := id hacc₂
    refine wpAny_mono (helt ys.size v _ _ hv hn₂ (by simp) ⟨oI, hoI⟩ ⟨_, hoD⟩ (fun b o hbC hbI hbD e => up₂ b o hbC hbI (hk b o hbC hbI hbD e))) (fun y s₄ h₄ => ?_) fun _ _ e => e
    obtain ⟨hRy', h₄, tk₄, rfl, hk₄⟩ := h₄
    refine wpAny_list_append_plain (hsz := by omega) (hacc₂.at fun o e => hk₄ _ o e) fun h₅ hl₅ hs₅ => ?_
    have all₅ : ∀ b o, b ≠ cenv.locals → b ≠ I → b ≠ D → H.get? b = some o → h₅.get? b = some o := fun b o hbC hbI hbD e => hs₅.extBut b o hbD (hk₄ b o (up₂ b o hbC hbI e))
    refine ⟨vs.length + 1 - (ys.size + 1), by omega, h₅, tk₄, _, ys.push y, rfl, ?_, hl₅, (hn₂.keeps hk₄).sameBut hs₅ (Ne.symm hDC), ?_, (by rw [Array.size_push]; exact hlt), (by rw [Array.size_push]), fun b o hbC hbI hbD e => all₅ b o hbC hbI hbD (hk b o hbC hbI hbD e)⟩
    · have := W.frame (ys.size + 1) _ h₅ hst₂ fun b hb o e => hs₅.extBut b o (fun h => by
        rcases List.mem_cons.mp hb with e' | e'
        · exact hID (e'.symm.trans h)
        · exact hxD ((List.mem_singleton.mp e').symm.trans h)) (hk₄ b o e)
      rw [Array.size_push]; exact this
    · intro i z hz
      rw [Array.getElem?_push] at hz
      split at hz
      · rename_i hi'
        cases hz
        rw [hi']
        exact hR _ _ _ _ hRy' fun b o _ _ hbD e => hs₅.extBut b o hbD e
      · exact hR _ _ _ _ (hRy i z hz) fun b o hbC hbI hbD e => all₅ b o hbC hbI hbD e
  · have hin : ys.size = vs.length := by omega
    refine W.done _ _ _ (by simpa [hin] using hst') fun h₁ tk₁ hk₁ => ?_
    have hk₁' : ∀ b o, b ≠ I → H.get? b = some o → h₁.get? b = some o := fun b o hb e => hk₁ b o (fun hm => hb (List.mem_singleton.mp hm)) e
    exact hQ h₁ tk₁ m' ys (hn'.at' fun o e => hk₁' _ o (Ne.symm hIC) e) (hacc'.at fun o e => hk₁' _ o (Ne.symm hID) e) hin (fun i y e => hR _ _ _ _ (hRy i y e) fun b o _ hbI _ e => hk₁' b o hbI e)
      fun b o hbC hbI hbD e => hk₁' b o hbI (hk b o hbC hbI hbD e)

/-- a comprehension over a list, no test -/
theorem compL {s : Shared} {elt iter : Expr} {x : Str} {px : Pos} {scope : Scope} {cl : List (Str × Addr)} {pos : Pos} {Q : Value → Shared → Prop} (hh : A.handled = none)
    (hclos : closureFor scope env = pure cl) (hcell : ∀ y ∈ scope.names, y.2 ≠ .cell) (hkind : scope.kind = .function)
    (hnames : ∀ y ∈ scope.names, y.2 = .local → scope.names.lookup y.1 = some .local) (hx : scope.names.lookup x = some .local)
    (h : wpAny (model prog w) A (eval iter env) (fun xv s₁ => ∃ (ax : Addr) (vs : List Value), xv = .ref ax ∧ s₁.heap.IsList ax vs.toArray ∧ vs.length ≤ sizeLine ∧
      ∃ R : Nat → Value → Heap → List Addr → Prop, (∀ i y h h' bad, R i y h bad → (∀ b o, b ∉ bad → h.get? b = some o → h'.get? b = some o) → R i y h' bad) ∧
      (∀ I D C i v s₃ m₃ E', vs[i]? = some v → s₁.heap.get? I = none → s₁.heap.get? D = none → s₁.heap.get? C = none → (∃ o, s₃.heap.get? I = some o) → (∃ o, s₃.heap.get? D = some o) → s₃.heap.Ns C m₃ → m₃ x = some v →
        (∀ b o, s₁.heap.get? b = some o → s₃.heap.get? b = some o) →
        wpAny (model prog w) A (eval elt (compEnvC scope cl C env)) (fun y s₄ => R i y s₄.heap [C, I, D] ∧ Keeps s₃ s₄) E' s₃) ∧
      (∀ I D C h' tk ys n', s₁.heap.get? D = none → h'.get? D = some (W.listOf ys n') → ys.size = vs.length → (∀ i y, ys[i]? = some y → R i y h' [C, I, D]) → (∀ b o, s₁.heap.get? b = some o → h'.get? b = some o) →
        Q (.ref D) { s₁ with heap := h', toks := tk })) E s)
    (hs : ∀ x, foldedSetIterable iter env x = pure x := by intro _; rfl) :
    wpAny (model prog w) A (eval (.ListComp elt [⟨.Name x px, iter, [], 0⟩] scope pos) env) Q E s := by
  rw [eval_ListComp]
  refine wpAny_comprehension_free (use := none) rfl hs hclos hkind hnames (wpAny_mono h (fun xv s₁ h₁ => ?_) fun _ _ e => e)
  obtain ⟨ax, vs, rfl, hl, hsz, R, hR, helt, hQ⟩ := h₁
  have hlt : ax < s₁.heap.objs.size := by obtain ⟨_, e, _⟩ := hl; exact Heap.lt_size e
  refine wpAny_pyIter_list hl ?_
  refine wpAny_newObj_type (wpAny_newFunctionEnv hcell (by intro y hy; simp at hy) (fun h₁ hns₁ hsb₁ => ?_) hkind)
  dsimp only at hns₁ hsb₁ ⊢
  generalize hH1 : s₁.heap.push { cls := .type "list_iterator", data := .fields #[.ref ax, .int 0 0] } = H1 at hns₁ hsb₁ ⊢
  generalize hH2 : H1.push { cls := .type "list", dict := none, data := .seq ([] : List Value).toArray } = H2 at hns₁ hsb₁ ⊢
  have h1s : H1.objs.size = s₁.heap.objs.size + 1 := by rw [← hH1, Heap.size_push]
  have h2s : H2.objs.size = s₁.heap.objs.size + 2 := by rw [← hH2, Heap.size_push, h1s]
  generalize hI : s₁.heap.objs.size = I at *
  have eD : H1.objs.size = I + 1 := h1s
  have eC : H2.objs.size = I + 2 := h2s
  rw [eC] at hns₁ hsb₁ ⊢
  rw [eD]
  have fresh : ∀ a, I ≤ a → s₁.heap.get? a = none := fun a ha => by
    cases e : s₁.heap.get? a with
    | none => rfl
    | some o' => exact absurd (Heap.lt_size e) (by rw [hI]; exact Nat.not_lt.mpr ha)
  have oldlt : ∀ b o, s₁.heap.get? b = some o → b < I := fun b o e => hI ▸ Heap.lt_size e
  have g1 : ∀ b o, s₁.heap.get? b = some o → H1.get? b = some o := fun b o e => hH1 ▸ Heap.get?_push_of_some _ e
  have g2 : ∀ b o, H1.get? b = some o → H2.get? b = some o := fun b o e => hH2 ▸ Heap.get?_push_of_some _ e
  have old : ∀ b o, s₁.heap.get? b = some o → h₁.get? b = some o := fun b o e => hsb₁.extBut b o (Nat.ne_of_lt (Nat.lt_of_lt_of_le (oldlt b o e) (Nat.le_add_right _ _))) (Heap.get?_push_of_some _ (g2 b o (g1 b o e)))
  have gI : H1.get? I = some { cls := .type "list_iterator", data := .fields #[.ref ax, .int 0 0] } := by rw [← hH1, ← hI]; exact Heap.get?_push_size _ rfl
  have gD : H2.get? (I + 1) = some { cls := .type "list", dict := none, data := .seq ([] : List Value).toArray } := by rw [← hH2, ← eD]; exact Heap.get?_push_size _ rfl
  have nIC : (I : Addr) ≠ I + 2 := Nat.ne_of_lt (Nat.lt_add_of_pos_right (by decide))
  have nDC : (I + 1 : Addr) ≠ I + 2 := Nat.ne_of_lt (Nat.lt_succ_self _)
  have nID : (I : Addr) ≠ I + 1 := Nat.ne_of_lt (Nat.lt_succ_self _)
  have hlt' : ax < I := hI ▸ hlt
  have nb1 : ∀ {b : Addr}, b < I → b ≠ I + 1 := fun h => Nat.ne_of_lt (Nat.lt_succ_of_lt h)
  have nb2 : ∀ {b : Addr}, b < I → b ≠ I + 2 := fun h => Nat.ne_of_lt (Nat.lt_succ_of_lt (Nat.lt_succ_of_lt h))
  have hIt : h₁.IsListIter I ax 0 := ⟨_, hsb₁.extBut _ _ nIC (Heap.get?_push_of_some _ (g2 _ _ gI)), rfl, rfl⟩
  have hacc : h₁.PlainList (I + 1) #[] := ⟨_, hsb₁.extBut _ _ nDC (Heap.get?_push_of_some _ gD)⟩
  have loop : ∀ s₃ : Shared, s₃ = { s₁ with heap := h₁, toks := s₁.toks + ([] : List (Str × Value)).length } →
      codeAny (model prog w) A (.compLoop (.ListComp elt [⟨.Name x px, iter, [], 0⟩] scope pos) 0 (.ref I) (.ref (I + 1)) (compEnvC scope cl (I + 2) env)) (compPost (model prog w) A E none Q (.ref (I + 1)) (I + 2)) s₃ := by
    rintro s₃ rfl
    refine compLoopL (cenv := compEnvC scope cl (I + 2) env) (m := _) (fun i y h => R i y h [I + 2, I, I + 1]) hh (lookup_relabel_local hx) (by simp [compEnvC, relabel, hkind]) nDC nID nIC
      (Nat.ne_of_lt hlt') (nb1 hlt') (nb2 hlt') ?_ ⟨hIt, hl.at fun o e => old _ o e⟩ hacc hns₁ ?_ ?_ hsz
    · intro i y h h' r hk
      refine hR _ _ _ _ _ r fun b o hb e => hk b o ?_ ?_ ?_ e
      · intro q; exact hb (q ▸ .head _)
      · intro q; exact hb (q ▸ .tail _ (.head _))
      · intro q; exact hb (q ▸ .tail _ (.tail _ (.head _)))
    · intro i v s₂ m₂ hv hn hm hoI hoD hk
      exact helt I (I + 1) (I + 2) i v s₂ m₂ _ hv (fresh _ (Nat.le_refl _)) (fresh _ (Nat.le_add_right _ _)) (fresh _ (Nat.le_add_right _ _)) hoI hoD hn hm
        (fun b o e => hk b o (nb2 (oldlt b o e)) (Nat.ne_of_lt (oldlt b o e)) (nb1 (oldlt b o e)) (old b o e))
    · intro h' tk m' ys hn hpl hlen hRy hk
      obtain ⟨n', hpl⟩ := hpl
      refine ⟨m', hn, fun h'' hs'' => hQ I (I + 1) (I + 2) h'' tk ys n' (fresh _ (Nat.le_add_right _ _)) (hs''.extBut _ _ nDC hpl) hlen (fun i y e => hR _ _ _ _ _ (hRy i y e) fun b o hb e => hs''.extBut b o (fun q => hb (q ▸ .head _)) e) fun b o e => ?_⟩
      exact hs''.extBut b o (nb2 (oldlt b o e)) (hk b o (nb2 (oldlt b o e)) (Nat.ne_of_lt (oldlt b o e)) (nb1 (oldlt b o e)) (old b o e))
  exact codeAny_compStart_list (loop _ rfl) ((Walks.list (prog := prog) (w := w) hh I ax (Nat.ne_of_lt (hI ▸ hlt)) vs.toArray).self 0 _ _ _ ⟨hIt, hl.at fun o e => old _ o e⟩ (loop _ rfl))

/-- what is to be shown of the list that a comprehension runs over -/
def CompGoal (prog : Program) (w : World) (A : Around) (env : Env) (scope : Scope) (cl : List (Str × Addr)) (x : Str) (elt : Expr) (Q : Value → Shared → Prop) (xv : Value) (s₁ : Shared) : Prop :=
  ∃ (ax : Addr) (vs : List Value), xv = .ref ax ∧ s₁.heap.IsList ax vs.toArray ∧ vs.length ≤ sizeLine ∧
      ∃ R : Nat → Value → Heap → List Addr → Prop, (∀ i y h h' bad, R i y h bad → (∀ b o, b ∉ bad → h.get? b = some o → h'.get? b = some o) → R i y h' bad) ∧
      (∀ I D C i v s₃ m₃ E', vs[i]? = some v → s₁.heap.get? I = none → s₁.heap.get? D = none → s₁.heap.get? C = none → (∃ o, s₃.heap.get? I = some o) → (∃ o, s₃.heap.get? D = some o) → s₃.heap.Ns C m₃ → m₃ x = some v →
        (∀ b o, s₁.heap.get? b = some o → s₃.heap.get? b = some o) →
        wpAny (model prog w) A (eval elt (compEnvC scope cl C env)) (fun y s₄ => R i y s₄.heap [C, I, D] ∧ Keeps s₃ s₄) E' s₃) ∧
      (∀ I D C h' tk ys n', s₁.heap.get? D = none → h'.get? D = some (W.listOf ys n') → ys.size = vs.length → (∀ i y, ys[i]? = some y → R i y h' [C, I, D]) → (∀ b o, s₁.heap.get? b = some o → h'.get? b = some o) →
        Q (.ref D) { s₁ with heap := h', toks := tk })

theorem compL' {s : Shared} {elt iter : Expr} {x : Str} {px : Pos} {scope : Scope} {cl : List (Str × Addr)} {pos : Pos} {Q : Value → Shared → Prop} (hh : A.handled = none)
    (hclos : closureFor scope env = pure cl) (hcell : ∀ y ∈ scope.names, y.2 ≠ .cell) (hkind : scope.kind = .function)
    (hnames : ∀ y ∈ scope.names, y.2 = .local → scope.names.lookup y.1 = some .local) (hx : scope.names.lookup x = some .local)
    (h : wpAny (model prog w) A (eval iter env) (CompGoal prog w A env scope cl x elt Q) E s)
    (hs : ∀ x, foldedSetIterable iter env x = pure x) :
    wpAny (model prog w) A (eval (.ListComp elt [⟨.Name x px, iter, [], 0⟩] scope pos) env) Q E s :=
  compL hh hclos hcell hkind hnames hx h hs
end
end Mine
end

section
theorem Mine.offMMap : True := by w_top off; trivial
open PySem PySem.W PyProof.Rows PySem.Calls PySem.Spec
set_option maxRecDepth 100000
namespace Mine
open Builtin Builtin.SmallTypes

namespace FM
theorem slot_next : Slot "map" "__next__" "map.__next__" :=
  .of (owner := "map") (n := "__next__") (by rw [typeLookup_type, builtinLookup_eq_fast]; kernel_rfl) (by decide +kernel) (by decide +kernel) (by decide +kernel)
    (by first | exact .inl (by decide +kernel) | exact .inr (by decide +kernel)) (by rw [isSubtype_type]; kernel_rfl)
theorem entry_next : entryFor table "map.__next__" = some Builtin.«map.__next__» := entryFor_of_tree (by kernel_rfl)
theorem args_next (a : Value) : argsOk "map.__next__" ⟨[a], []⟩ := by unfold argsOk; kernel_rfl
theorem slot_iter : Slot "map" "__iter__" "map.__iter__" :=
  .of (owner := "map") (n := "__iter__") (by rw [typeLookup_type, builtinLookup_eq_fast]; kernel_rfl) (by decide +kernel) (by decide +kernel) (by decide +kernel)
    (by first | exact .inl (by decide +kernel) | exact .inr (by decide +kernel)) (by rw [isSubtype_type]; kernel_rfl)
theorem entry_iter : entryFor table "map.__iter__" = some Builtin.«dict_keyiterator.__iter__» :=
  entryFor_alias (id' := "dict_keyiterator.__iter__") (by kernel_rfl) (by first | rfl | decide +kernel | (unfold String.splitOn; simp +decide [String.splitOnAux])) (by decide +kernel) (by kernel_rfl)
theorem args_iter (a : Value) : argsOk "map.__iter__" ⟨[a], []⟩ := by unfold argsOk; kernel_rfl
theorem mro : mroOf (.type "map") = pure [.type "map", .type "object"] := by rw [mroOf_type]; kernel_rfl
theorem lookup_new : typeLookup (.type "map") "__new__" = pure (some (.builtin "map.__new__")) := by rw [typeLookup_type, builtinLookup_eq_fast]; kernel_rfl
theorem slot_init : Slot "map" "__init__" "object.__init__" :=
  .of (owner := "object") (n := "__init__") (by rw [typeLookup_type, builtinLookup_eq_fast]; kernel_rfl) (by decide +kernel) (by decide +kernel) (by decide +kernel)
    (by first | exact .inl (by decide +kernel) | exact .inr (by decide +kernel)) (by rw [isSubtype_type]; kernel_rfl)
theorem called : TypeCalled "map" "map.__new__" "object.__init__" :=
  ⟨by decide +kernel, by decide +kernel, ⟨_, _, mro⟩, madeBy_type mro lookup_new (by decide +kernel), by decide +kernel, by rw [isSubtype_type]; kernel_rfl, slot_init⟩
theorem typeCall (a b : Value) : checkTypeCall "map" ⟨[a, b], []⟩ = pure () := by kernel_rfl
theorem newCall (a b : Value) : checkBuiltinCall "map.__new__" ⟨[.type "map", a, b], []⟩ = pure () := by kernel_rfl
theorem entry_new : entryFor table "map.__new__" = some Builtin.«map.__new__» := entryFor_of_tree (by kernel_rfl)
theorem no_len : typeLookup (.type "map") "__len__" = pure none := by rw [typeLookup_type, builtinLookup_eq_fast]; kernel_rfl
theorem no_hint : typeLookup (.type "map") "__length_hint__" = pure none := by rw [typeLookup_type, builtinLookup_eq_fast]; kernel_rfl
theorem sub : isSubtype (.type "map") (.type "map") = pure true := by rw [isSubtype_type]; kernel_rfl
end FM

abbrev mapObj (Tp : Addr) : Obj := { cls := .type "map", data := .fields #[.ref Tp, .type "str"] }
abbrev oneObj (I : Addr) : Obj := { cls := .type "tuple", data := .seq #[.ref I] }
abbrev iterObj (l : Addr) : Obj := { cls := .type "list_iterator", data := .fields #[.ref l, .int 0 0] }

theorem meets_map_new (l : Addr) (xs : Array Value) :
    Meets (Builtin.«map.__new__» ⟨[.type "map", .type "str", .ref l], []⟩) (fun _ R s => s.heap.IsList l xs ∧
      R (.ok (.ret (.ref (s.heap.objs.size + 2)))) { s with heap := ((s.heap.push (iterObj l)).push (oneObj s.heap.objs.size)).push (mapObj (s.heap.objs.size + 1)) }) :=
  .of_wp fun prog w A R s h => by
    obtain ⟨hp, g, d, tk, os⟩ := s; obtain ⟨hl, h⟩ := h
    have hsub := FM.sub
    have hL : Heap.IsList (Shared.heap ⟨hp, g, d, tk, os⟩) l xs := hl
    have e1 : (hp.push (iterObj l)).objs.size = hp.objs.size + 1 := Heap.size_push ..
    have e2 : ((hp.push (iterObj l)).push (oneObj hp.objs.size)).objs.size = hp.objs.size + 2 := by rw [Heap.size_push, e1]
    dsimp only at h
    rw [← e2, ← e1] at h
    wp_walk using wpAny_pyIter_list hL
    exact ⟨_, rfl, h⟩

section
variable {prog : Program} {w : World} {A : Around} {E : Value → Shared → Prop} {s : Shared}

theorem call_map {l : Addr} {xs : Array Value} {Q : Value → Shared → Prop} (hl : s.heap.IsList l xs)
    (h : ∀ h' I Tp M, s.heap.get? I = none → s.heap.get? Tp = none → s.heap.get? M = none → I ≠ Tp → I ≠ M → Tp ≠ M → h'.get? M = some (mapObj Tp) → h'.get? Tp = some (oneObj I) → h'.get? I = some (iterObj l) → (∀ c o, s.heap.get? c = some o → h'.get? c = some o) → Q (.ref M) { s with heap := h' }) :
    wpAny (model prog w) A (call (.type "map") [.type "str", .ref l]) Q E s := by
  refine callType_new FM.called (by decide) (FM.typeCall _ _) (FM.newCall _ _) (fun obj => F.args_object_init_3 obj _ _) FM.entry_new (meets_map_new l xs) ⟨hl, ?_⟩
  have e1 : (s.heap.push (iterObj l)).objs.size = s.heap.objs.size + 1 := Heap.size_push ..
  have e2 : ((s.heap.push (iterObj l)).push (oneObj s.heap.objs.size)).objs.size = s.heap.objs.size + 2 := by rw [Heap.size_push, e1]
  have g3 : (((s.heap.push (iterObj l)).push (oneObj s.heap.objs.size)).push (mapObj (s.heap.objs.size + 1))).get? (s.heap.objs.size + 2) = some (mapObj (s.heap.objs.size + 1)) := by rw [← e2]; exact Heap.get?_push_size _ rfl
  have g2 : (((s.heap.push (iterObj l)).push (oneObj s.heap.objs.size)).push (mapObj (s.heap.objs.size + 1))).get? (s.heap.objs.size + 1) = some (oneObj s.heap.objs.size) := Heap.get?_push_of_some _ (by rw [← e1]; exact Heap.get?_push_size _ rfl)
  have g1 : (((s.heap.push (iterObj l)).push (oneObj s.heap.objs.size)).push (mapObj (s.heap.objs.size + 1))).get? s.heap.objs.size = some (iterObj l) := Heap.get?_push_of_some _ (Heap.get?_push_of_some _ (Heap.get?_push_size _ rfl))
  have fresh : ∀ a, s.heap.objs.size ≤ a → s.heap.get? a = none := fun a ha => by
    cases e : s.heap.get? a with
    | none => rfl
    | some o' => exact absurd (Heap.lt_size e) (Nat.not_lt.mpr ha)
  exact ⟨⟨_, g3, rfl⟩, h _ _ _ _ (fresh _ (Nat.le_refl _)) (fresh _ (Nat.le_add_right _ _)) (fresh _ (Nat.le_add_right _ _)) (Nat.ne_of_lt (Nat.lt_succ_self _)) (Nat.ne_of_lt (Nat.lt_add_of_pos_right (by decide))) (Nat.ne_of_lt (Nat.lt_succ_self _)) g3 g2 g1
    fun c o e => Heap.get?_push_of_some _ (Heap.get?_push_of_some _ (Heap.get?_push_of_some _ e))⟩

theorem map_next_item {M Tp I l : Addr} {k : Nat} {xs : Array Value} {y : PySem.Str} {t : Tok} {Q : Value → Shared → Prop} (hM : s.heap.get? M = some (mapObj Tp)) (hT : s.heap.get? Tp = some (oneObj I)) (hMI : M ≠ I)
    (hI : s.heap.IsListIter I l k) (hl : s.heap.IsList l xs) (hx : xs[k]? = some (.str y t)) (hQ : ∀ h', h'.IsListIter I l (k + 1) → Heap.SameBut I s.heap h' → Q (.str y t) { s with heap := h' }) :
    wpAny (model prog w) A (Builtin.«map.__next__» ⟨[.ref M], []⟩) (fun fin s' => ∃ v, fin = .done (.ret v) ∧ Q v s') E s := by
  show wpAny _ _ (field (.ref M) 0 >>= _) _ _ _
  refine wpAny_bind (wpAny_field hM rfl (x := .ref Tp) rfl ?_)
  refine wpAny_bind (wpAny_seqItems hT rfl ?_)
  simp only [List.forIn_toArray, List.forIn_cons, List.forIn_nil]
  refine wpAny_bind (wpAny_bind (wpAny_bind (wpAny_holding (wpAny_nextOf_list_item hI hl hx fun h' hI' hs' => wpAny_pure (wpAny_pure ?_)))))
  refine wpAny_bind (wpAny_field (hs'.extBut _ _ hMI hM) rfl (x := .type "str") rfl ?_)
  refine wpAny_bind (wpAny_holding (P.str_of_str ?_))
  exact wpAny_bind (wpAny_letGo (wpAny_pure ⟨_, rfl, hQ h' hI' hs'⟩))

theorem map_next_end {M Tp I l : Addr} {k : Nat} {xs : Array Value} {Q : PySem.Fin → Shared → Prop} (hh : A.handled = none) (hM : s.heap.get? M = some (mapObj Tp)) (hT : s.heap.get? Tp = some (oneObj I))
    (hI : s.heap.IsListIter I l k) (hl : s.heap.IsList l xs) (hx : xs[k]? = none)
    (hE : ∀ h' e, Heap.ExtBut I s.heap h' → (∃ o, h'.get? e = some o ∧ o.cls = .type "StopIteration") → E (.ref e) { s with heap := h' }) :
    wpAny (model prog w) A (Builtin.«map.__next__» ⟨[.ref M], []⟩) Q E s := by
  show wpAny _ _ (field (.ref M) 0 >>= _) _ _ _
  refine wpAny_bind (wpAny_field hM rfl (x := .ref Tp) rfl ?_)
  refine wpAny_bind (wpAny_seqItems hT rfl ?_)
  simp only [List.forIn_toArray, List.forIn_cons, List.forIn_nil]
  exact wpAny_bind (wpAny_bind (wpAny_bind (wpAny_holding (wpAny_nextOf_list_end hh hI hl hx hE))))

theorem pyNext_map_item {M Tp I l : Addr} {k : Nat} {xs : Array Value} {y : PySem.Str} {t : Tok} {Q : Option Value → Shared → Prop} (hM : s.heap.get? M = some (mapObj Tp)) (hT : s.heap.get? Tp = some (oneObj I)) (hMI : M ≠ I)
    (hI : s.heap.IsListIter I l k) (hl : s.heap.IsList l xs) (hx : xs[k]? = some (.str y t)) (hQ : ∀ h', h'.IsListIter I l (k + 1) → Heap.SameBut I s.heap h' → Q (some (.str y t)) { s with heap := h' }) :
    wpAny (model prog w) A (pyNext (.ref M)) Q E s := by
  have hTy : s.TypeIs (.ref M) "map" := ⟨_, hM, rfl⟩
  unfold pyNext
  exact wpAny_bind (wpAny_attempt (wpAny_callSpecial?_slot (name := Str.ofString "__next__") hTy FM.slot_next
    (wpAny_call_entry FM.slot_next hTy FM.entry_next (map_next_item hM hT hMI hI hl hx fun h' a1 a2 => wpAny_pure (hQ h' a1 a2)) (FM.args_next _))))
theorem pyNext_map_end {M Tp I l : Addr} {k : Nat} {xs : Array Value} {Q : Option Value → Shared → Prop} (hh : A.handled = none) (hM : s.heap.get? M = some (mapObj Tp)) (hT : s.heap.get? Tp = some (oneObj I))
    (hI : s.heap.IsListIter I l k) (hl : s.heap.IsList l xs) (hx : xs[k]? = none) (hQ : ∀ h', Heap.ExtBut I s.heap h' → Q none { s with heap := h' }) :
    wpAny (model prog w) A (pyNext (.ref M)) Q E s := by
  have hTy : s.TypeIs (.ref M) "map" := ⟨_, hM, rfl⟩
  unfold pyNext
  refine wpAny_bind (wpAny_attempt (wpAny_callSpecial?_slot (name := Str.ofString "__next__") hTy FM.slot_next
    (wpAny_call_entry FM.slot_next hTy FM.entry_next (map_next_end hh hM hT hI hl hx fun h' e hk he => ?_) (FM.args_next _))))
  obtain ⟨o, ho, hc⟩ := he
  refine wpAny_bind (wpAny_isInstance (T := "StopIteration") (b := true) ⟨o, ho, hc⟩ isSubtype_stop ?_)
  exact wpAny_pure (hQ _ hk)
theorem pyIter_map {M Tp : Addr} {Q : Value → Shared → Prop} (hM : s.heap.get? M = some (mapObj Tp)) (h : Q (.ref M) s) : wpAny (model prog w) A (pyIter (.ref M)) Q E s := by
  have hTy : s.TypeIs (.ref M) "map" := ⟨_, hM, rfl⟩
  refine wpAny_pyIter_slot hTy FM.slot_iter (wpAny_call_entry FM.slot_iter hTy FM.entry_iter ?_ (FM.args_iter _))
  show wpAny _ _ (ret (.ref M)) _ _ s
  exact wpAny_pure ⟨_, rfl, "map", _, hTy, FM.slot_next.lookup, h⟩

structure MapApart (D M Tp I l : Addr) : Prop where
  DM : D ≠ M
  DT : D ≠ Tp
  DI : D ≠ I
  Dl : D ≠ l
  MI : M ≠ I
  TI : Tp ≠ I
  lI : l ≠ I

theorem strValues_get {ls : List (PySem.Str × Tok)} {k : Nat} (h : k < ls.length) : (strValues ls).toArray[k]? = some (.str ls[k].1 ls[k].2) := by
  simp [strValues, h]

theorem extend_loop_map {R : Result → Shared → Prop} {D M Tp I l : Addr} {ls : List (PySem.Str × Tok)} (hh : A.handled = none) (a : MapApart D M Tp I l) :
    ∀ (j k : Nat) (s : Shared) (its : Array Value) (n : Nat), ls.length - k = j → k ≤ ls.length → s.heap.get? D = some (W.listOf its n) → s.heap.get? M = some (mapObj Tp) → s.heap.get? Tp = some (oneObj I) → s.heap.IsListIter I l k → s.heap.IsList l (strValues ls).toArray →
    its.size + (ls.length - k) ≤ sizeLine →
    (∀ h' n', h'.get? D = some (W.listOf (its ++ (strValues (ls.drop k)).toArray) n') → (∀ b o, b ≠ D → b ≠ I → s.heap.get? b = some o → h'.get? b = some o) → R (.ok (.ret .none)) { s with heap := h' }) →
    codeAny (model prog w) A (.builtin "list.extend.loop" ⟨[.ref D, .ref M, .none], []⟩) R s := by
  intro j
  induction j with
  | zero =>
    intro k s its n hj hk hD hM hT hI hl hsz hR
    have hkl : k = ls.length := by omega
    refine codeAny_builtin F.entry_extend_loop ?_
    rw [Around.under_plainId F.plain_extend_loop _]
    show wpAny _ A.in1 (pyNext (.ref M) >>= _) _ _ s
    refine wpAny_bind (pyNext_map_end hh hM hT hI hl (by simp [strValues, hkl]) fun h' he => wpAny_pure (hR h' n ?_ fun b o _ hb e => he b o hb e))
    have : ls.drop k = [] := by rw [hkl]; simp
    rw [this]
    simpa [strValues] using he D _ a.DI hD
  | succ j ih =>
    intro k s its n hj hk hD hM hT hI hl hsz hR
    have hlt : k < ls.length := by omega
    refine codeAny_builtin F.entry_extend_loop ?_
    rw [Around.under_plainId F.plain_extend_loop _]
    show wpAny _ A.in1 (pyNext (.ref M) >>= _) _ _ s
    refine wpAny_bind (pyNext_map_item hM hT a.MI hI hl (strValues_get hlt) fun h' hI' hs' => ?_)
    have hD' := hs'.extBut _ _ a.DI hD
    show wpAny _ A.in1 (updateSeq D (·.push _) >>= _) _ _ _
    refine wpAny_bind (wpAny_updateSeq hD' rfl ?_ (by omega) (by show (its.push _).size ≤ sizeLine + 1; rw [Array.size_push]; omega))
    have hU : Heap.SameBut D h' (h'.update D (Obj.mapSeq fun x => x.push (.str ls[k].1 ls[k].2))) := Heap.SameBut.update ..
    refine wpAny_pure ⟨plainId_quiet F.plain_extend_loop _, ih (k + 1) _ (its.push (.str ls[k].1 ls[k].2)) _ (by omega) hlt (Heap.get?_update_self _ hD' rfl) (hU.extBut _ _ (Ne.symm a.DM) (hs'.extBut _ _ a.MI hM)) (hU.extBut _ _ (Ne.symm a.DT) (hs'.extBut _ _ a.TI hT))
      (hI'.extBut hU.extBut (Ne.symm a.DI)) ((hl.extBut hs'.extBut a.lI).extBut hU.extBut (Ne.symm a.Dl)) (by rw [Array.size_push]; omega) fun h'' n'' hD'' hk'' => ?_⟩
    refine hR h'' n'' ?_ fun b o hb hb' e => hk'' b o hb hb' (hU.extBut _ _ hb (hs'.extBut _ _ hb' e))
    rw [hD'']
    have e : (strValues (ls.drop k)).toArray = #[Value.str ls[k].1 ls[k].2] ++ (strValues (ls.drop (k + 1))).toArray := by
      rw [List.drop_eq_getElem_cons hlt]
      show (Value.str ls[k].1 ls[k].2 :: strValues (ls.drop (k + 1))).toArray = _
      simp
    rw [e, ← Array.append_assoc, Array.push_eq_append]

theorem extend_map {Q : Value → Shared → Prop} {D M Tp I l : Addr} {its : Array Value} {n : Nat} {ls : List (PySem.Str × Tok)} (hh : A.handled = none) (a : MapApart D M Tp I l) (hD : s.heap.get? D = some (W.listOf its n)) (hM : s.heap.get? M = some (mapObj Tp)) (hT : s.heap.get? Tp = some (oneObj I)) (hI : s.heap.IsListIter I l 0) (hl : s.heap.IsList l (strValues ls).toArray)
    (hsz : its.size + ls.length < sizeLine)
    (hQ : ∀ h' n', h'.get? D = some (W.listOf (its ++ (strValues ls).toArray) n') → (∀ b o, b ≠ D → b ≠ I → s.heap.get? b = some o → h'.get? b = some o) → Q .none { s with heap := h' }) :
    wpAny (model prog w) A (call (.builtin "list.extend") [.ref D, .ref M]) Q E s := by
  refine wpAny_call (codeAny_call_builtin PySem.F.slot_list_extend.plain PySem.F.entry_list_extend (PySem.F.slot_list_extend.check _ _ _ _ _ _ _ _ ⟨_, hD, rfl⟩ (PySem.F.args_list_extend_2 _ _) ?_))
  have hTy : s.TypeIs (.ref M) "map" := ⟨_, hM, rfl⟩
  show wpAny _ _ (typeOf (.ref M) >>= _) _ _ _
  refine wpAny_bind (wpAny_typeOf hTy ?_)
  have hDM : List.listSameRef (.ref D) (.ref M) = false := by
    show (D == M) = false
    exact beq_false_of_ne a.DM
  rw [hDM]
  simp only [Bool.false_or]
  rw [if_neg (by decide)]
  refine wpAny_bind (pyIter_map hM ?_)
  refine wpAny_bind (wpAny_holding ?_)
  unfold List.listLengthHint
  refine wpAny_bind (wpAny_specialOf hTy FM.no_len ?_)
  dsimp only
  rw [if_neg (by decide), if_neg (by decide)]
  refine wpAny_bind (wpAny_specialOf hTy FM.no_hint ?_)
  refine wpAny_pure ?_
  simp only [Bool.true_or, if_true]
  refine wpAny_bind (wpAny_rule ?_)
  refine wpAny_bind ?_
  show wpAny _ A.in1 (updateSeq D (·.push .none) >>= fun _ => updateSeq D (·.pop)) _ _ _
  refine wpAny_bind (wpAny_updateSeq hD rfl ?_ (by omega) (by show (its.push _).size ≤ sizeLine + 1; rw [Array.size_push]; omega))
  have hS₂ := Heap.get?_update_self (Obj.mapSeq (·.push Value.none)) hD rfl
  refine wpAny_updateSeq hS₂ rfl ?_ (by show (its.push _).size ≤ sizeLine; rw [Array.size_push]; omega) (by show ((its.push _).pop).size ≤ sizeLine + 1; simp; omega)
  have hS₃ := Heap.get?_update_self (Obj.mapSeq (·.pop)) hS₂ rfl
  have hU : ∀ b o, b ≠ D → s.heap.get? b = some o → ((s.heap.update D (Obj.mapSeq (·.push Value.none))).update D (Obj.mapSeq (·.pop))).get? b = some o :=
    fun b o hb e => (Heap.get?_update_other _ _ (Ne.symm hb)).trans ((Heap.get?_update_other _ _ (Ne.symm hb)).trans e)
  have hS₄ : ∃ n', ((s.heap.update D (Obj.mapSeq (·.push Value.none))).update D (Obj.mapSeq (·.pop))).get? D = some (W.listOf its n') := by
    rw [hS₃]
    exact ⟨_, congrArg some (by simp only [Obj.mapSeq, Array.pop_push]; rfl)⟩
  obtain ⟨n', hS₄⟩ := hS₄
  refine wpAny_pure ⟨plainId_quiet F.plain_extend_loop _, extend_loop_map hh a ls.length 0 _ its n' rfl (Nat.zero_le _) hS₄ (hU _ _ (Ne.symm a.DM) hM) (hU _ _ (Ne.symm a.DT) hT) (hI.at fun o e => hU _ o (Ne.symm a.DI) e) (hl.at fun o e => hU _ o (Ne.symm a.Dl) e) (by omega) fun h' n'' hD' hk => ?_⟩
  exact hQ h' n'' (by simpa using hD') fun b o hb hb' e => hk b o hb hb' (hU b o hb e)
end
end Mine
end

section
local macro_rules | `(tactic| walk_at "own MStr 0") => `(tactic| fail)
theorem Mine.offMStr : True := by w_top off; trivial
open PySem PySem.W PyProof.Rows PySem.Calls PySem.Spec
set_option maxRecDepth 100000
set_option maxHeartbeats 1000000
namespace Mine
theorem fillE : (fun (_ : OpenLaw) (_ : Params → Frag) => True) PySem.Challenge.rw_mr0112_01 hd.heap_39 := by k_fill; trivial

theorem instUp {h₀ h : Heap} {L x : Addr} {m : Str → Option Value} {ox : Obj} {C : Addr} {od : Obj} (I : InstAt h₀ x ox C (some od)) (F : Fr h₀ L h m) : InstAt h x ox C (some od) := by
  obtain ⟨h1, h2, h3, h4⟩ := I
  refine ⟨F.keep _ _ h1, h2, h3, ?_⟩
  cases hd : ox.dict with
  | none => rw [hd] at h4; exact h4
  | some dx => rw [hd] at h4; exact F.keep _ _ h4
local macro_rules | `(tactic| k_inst) => `(tactic| exact instUp (by assumption) (by assumption))

local macro_rules | `(tactic| walk_at "exec For Name Attribute cons nil") => `(tactic| (k_here; (rename Fr _ _ _ _ => lF'); (with_unfolding_all refine' For_invVF lF' ?k1 ?k2 ?_; (case k1 => exact rfl); (case k2 => exact rfl))))
local macro_rules | `(tactic| walk_at "execs cons Assign cons") => `(tactic| ((with_reducible refine wpAny_execs_cons ?_); try dsimp only))
local macro_rules | `(tactic| walk_at "pyIter ref") => `(tactic| (k_here; refine held ?_))

abbrev entryDict (P : Params) (t1 t2 t3 t4 : Tok) (ua rl : Addr) (dv : Value) : List DictEntry :=
  [⟨PyData.keyHash P (Str.ofString "useragents"), .str (Str.ofString "useragents") t1, .ref ua⟩, ⟨PyData.keyHash P (Str.ofString "rulelines"), .str (Str.ofString "rulelines") t2, .ref rl⟩,
   ⟨PyData.keyHash P (Str.ofString "delay"), .str (Str.ofString "delay") t3, dv⟩, ⟨PyData.keyHash P (Str.ofString "req_rate"), .str (Str.ofString "req_rate") t4, .none⟩]

theorem strValues_push (lr : List (Str × Tok)) (y : Str) (t : Tok) : (strValues lr).toArray.push (.str y t) = (strValues (lr ++ [(y, t)])).toArray := by
  simp [strValues]

def strText (ag : List Str) (dl : Option Int) (rls : List Str) : Str :=
  if ag.isEmpty then Str.empty else Str.join nl (ag.map uaLine ++ dlLines dl ++ (if rls.isEmpty then [Str.ofString "Allow:"] else rls))

theorem join_len : ∀ (l : List Str), l ≠ [] → (Str.join nl l).length + 1 = (l.map (·.length)).sum + l.length
  | [], h => absurd rfl h
  | [x], _ => by simp [Str.join]
  | x :: y :: r, _ => by
    have ih := join_len (y :: r) (by simp)
    have e : Str.join nl (x :: y :: r) = x ++ nl ++ Str.join nl (y :: r) := by rw [Str.join]; simp
    rw [e, Str.length_append, Str.length_append, show nl.length = 1 by decide +kernel]
    simp only [List.map_cons, List.sum_cons, List.length_cons] at ih ⊢
    omega

theorem call_join {prog : Program} {w : World} {A : Around} {E : Value → Shared → Prop} {s : Shared} {t : Tok} {a : Addr} {l : List (Str × Tok)} {Q : Value → Shared → Prop} (hl : s.heap.IsList a (strValues l).toArray) (hne : l ≠ []) (hsz : (Str.join nl (l.map (·.1))).length ≤ 1000000)
    (hQ : ∀ t' k, Q (.str (Str.join nl (l.map (·.1))) t') { s with toks := k }) : wpAny (model prog w) A (call (.builtin "str.join") [.str (Str.ofString "\n") t, .ref a]) Q E s := by
  have hj := join_len (l.map (·.1)) (by simpa using hne)
  have hok : Builtin.Str.tooLong ((l.map (·.1)).toArray.foldl (· + ·.length + (Str.ofString "\n").length) 0) = false := by
    rw [StrLaws.joinTotal]
    have e : (Str.ofString "\n").length = 1 := by decide +kernel
    rw [e, Nat.mul_one]
    unfold Builtin.Str.tooLong
    simp only [decide_eq_false_iff_not]
    simp only [List.length_map, sizeLine_eq] at hj ⊢
    omega
  refine call_meets F.slot_str_join (typeIs_str _ _ _) F.entry_str_join (F.args_str_join_2 _ _) (meets_str_join_list _ t a l hok) ⟨hl, post_join l ⟨joinFit_length hok, fun t' k => ?_⟩⟩
  show Q (.str (Builtin.Str.glued _ _) t') _
  rw [StrLaws.glued_eq_join]
  exact hQ t' k

theorem fr_but {h₀ h h' : Heap} {L D I : Addr} {m : Str → Option Value} (F : Fr h₀ L h m) (hD : h₀.get? D = none) (hDL : D ≠ L) (hI : h₀.get? I = none) (hIL : I ≠ L) (hk : ∀ b o, b ≠ D → b ≠ I → h.get? b = some o → h'.get? b = some o) : Fr h₀ L h' m := by
  obtain ⟨oL, es, ep, hL, r⟩ := F.ns
  refine ⟨⟨oL, es, ep, hk _ _ (Ne.symm hDL) (Ne.symm hIL) hL, r⟩, fun b o e => hk b o ?_ ?_ (F.keep b o e), F.above⟩
  · rintro rfl; rw [hD] at e; cases e
  · rintro rfl; rw [hI] at e; cases e

theorem strValues_snoc (lr : List (Str × Tok)) (y : Str) (t : Tok) : (strValues lr ++ [Value.str y t]).toArray = (strValues (lr ++ [(y, t)])).toArray := by
  simp [strValues]
theorem ledger_gen {P : Array Value → Prop} {lr : List (Str × Tok)} {y : Str} {t : Tok} (N : P (strValues (lr ++ [(y, t)])).toArray) : ∃ lr2 : List (Str × Tok), lr2.map (·.1) = lr.map (·.1) ++ [y] ∧ lr2.length = lr.length + 1 ∧ P (strValues lr2).toArray :=
  ⟨_, by simp, by simp, N⟩
theorem strValues_app (a b : List (Str × Tok)) : (strValues a).toArray ++ (strValues b).toArray = (strValues (a ++ b)).toArray := by
  simp [strValues]

theorem log2_small {d : Int} (h0 : 0 ≤ d) (h1 : d < 1000) : d.natAbs.log2 < 1920 := by
  have : d.natAbs < 2 ^ 10 := by omega
  rcases Nat.eq_zero_or_pos d.natAbs with h | h
  · rw [h]; decide
  · have := (Nat.log2_lt (Nat.ne_of_gt h)).mpr this
    omega
theorem int_text3 {d : Int} (h0 : 0 ≤ d) (h1 : d < 1000) : (Str.ofString (toString d)).length ≤ 3 := by
  have key : ∀ n : Nat, n < 1000 → (Str.ofString (toString (n : Int))).length ≤ 3 := by decide +kernel
  have := key d.toNat (by omega)
  rwa [Int.toNat_of_nonneg h0] at this

theorem c_str {prog : Program} {w : World} {A : Around} {E : Value → Shared → Prop} {s : Shared} {mg mb : Str → Option Value} {mean : ExcName → Option Value} {loose : List Str} {Q : Value → Shared → Prop} {x ua rl : Addr} {ox : Obj} {t1 t2 t3 t4 : Tok} {n : Nat} {dv : Value} {dl : Option Int} {l l2 : List (Str × Tok)}
   (X : (hd.heap_39 w.params).In s.heap) (T : Top hd.view_39 loose mean mg mb s.heap) (hh : A.handled = none) (hdp : A.depth + 3 < 1000) (hun : A.units + 50 < 9900)
   (hI : InstAt s.heap x ox 96 (some (dictOf (entryDict w.params t1 t2 t3 t4 ua rl dv) n))) (hua : s.heap.IsList ua (strValues l).toArray) (hrl : s.heap.IsList rl (strValues l2).toArray) (hdv : DlVal dv dl)
   (hdl : ∀ d, dl = some d → 0 ≤ d ∧ d < 1000) (hl : l.length ≤ 1000) (hl2 : l2.length ≤ 1000)
   (hsz : (strText (l.map (·.1)) dl (l2.map (·.1))).length ≤ 1000000)
   (hQ : ∀ h' tk t', (∀ b o, s.heap.get? b = some o → h'.get? b = some o) → Q (.str (strText (l.map (·.1)) dl (l2.map (·.1))) t') { s with heap := h', toks := tk }) :
   wpAny (model prog w) A (call (.ref 79) [.ref x]) Q E s := by
  k_dflt (refine' enterK (binds := [(Str.ofString "self", .ref x)]) X ?lim ?k6 ?k7 ?k8 ?k9 ?kB ?c2 ?c3 ?c4 ?c5 ?_; (case k6 => k_is); (case k7 => k_is); (case k9 => first | exact BindsTo.of_eq rfl | exact binds_K (by k_in) rfl (by k_is) rfl rfl rfl); (case c5 => decide); (case kB => exact locs rfl); (case c2 => exact rfl); (case c3 => exact rfl); (case c4 => exact rfl); (case k8 => (show A.depth < 1000; omega)); (case lim => exact T.nolimit))
  intro L' h₁ F' N'
  rw [look1] at F'
  try dsimp only
  try k_fold
  k_steps
  refine wpAny_truthy_list (hua.at fun o e => F'.keep _ o e) (by simp [strValues]; omega) ?_
  by_cases hcl : l = []
  · have e0 : (!(strValues l).toArray.isEmpty) = false := by rw [hcl]; rfl
    rw [e0]
    simp only [Bool.not_false, if_true]
    k_steps
    rename Fr _ _ _ _ => F
    have hQ' := hQ
    rw [hcl] at hQ'
    exact hQ' _ _ _ F.keep
  · have hne0 : (l.map (·.1)).isEmpty = false := by cases l with | nil => exact absurd rfl hcl | cons a r => rfl
    have htext : strText (l.map (·.1)) dl (l2.map (·.1)) = Str.join nl ((l.map (·.1)).map uaLine ++ dlLines dl ++ (if (l2.map (·.1)).isEmpty then [Str.ofString "Allow:"] else l2.map (·.1))) := by unfold strText; rw [hne0]; rfl
    have hagl : ∀ p ∈ l, p.1.length ≤ 1000000 := by
      intro p hp
      rw [htext] at hsz
      have hm : uaLine p.1 ∈ ((l.map (·.1)).map uaLine ++ dlLines dl ++ (if (l2.map (·.1)).isEmpty then [Str.ofString "Allow:"] else l2.map (·.1))) := by
        rw [List.append_assoc]
        exact List.mem_append_left _ (List.mem_map_of_mem (List.mem_map_of_mem hp))
      have := join_mem_le nl _ _ hm
      have e : (uaLine p.1).length = (Str.ofString "User-agent: ").length + p.1.length := Str.length_append _ _
      omega
    have e0 : (!(strValues l).toArray.isEmpty) = true := by cases l with | nil => exact absurd rfl hcl | cons a r => rfl
    rw [e0]
    simp only [Bool.not_true, Bool.false_eq_true, if_false]
    k_steps
    refine unheld ?_
    rename Fr _ _ _ _ => F'
    rename News _ _ _ _ => N'
    rename_i l' _ _ _
    refine iterList (fun i m news => (∃ its n, news = [(l', W.listOf its n)] ∧ ∃ lr, its = (strValues lr).toArray ∧ lr.map (·.1) = ((l.map (·.1)).take i).map uaLine) ∧ m (Str.ofString "ret") = some (.ref l') ∧ m (Str.ofString "self") = some (.ref x)) hh hua F' N' ⟨⟨#[], 0, rfl, [], rfl, by simp⟩, rfl, rfl⟩ ?_ ?_
    · rintro i v m₁ news₁ h tk I o hv hoff ⟨⟨_, n, rfl, lr, rfl, hlr⟩, e1, e2⟩ F2 N2 Qf hend
      have hi : i < l.length := by
        rcases Nat.lt_or_ge i l.length with h | h
        · exact h
        · rw [List.getElem?_eq_none (by simpa [strValues] using h)] at hv; cases hv
      have hv' : v = .str l[i].1 l[i].2 := by
        have : (strValues l)[i]? = some (.str l[i].1 l[i].2) := by simp [strValues, hi]
        rw [this] at hv; exact (Option.some.inj hv).symm
      subst hv'
      have hne := @neN l' I (hoff (l', W.listOf (strValues lr).toArray n) (.head _))
      have hlen : lr.length ≤ 1000 := by
        have := congrArg List.length hlr
        simp at this; omega
      replace F2 := fr_put (x := Str.ofString "ret") F2 e1
      replace F2 := fr_put (x := Str.ofString "self") F2 e2
      clear e1 e2
      have hz2 : (strValues lr).toArray.size ≤ sizeLine := by rw [sizeLine_eq]; simp [strValues]; omega
      k_steps
      have hag : l[i].1.length ≤ 1000000 := hagl _ (List.getElem_mem hi)
      refine PyProof.Rows.formatField_str (fun t' tk' => ?_) (by rw [sizeLine_eq]; omega)
      rw [Str.empty_append]
      have hz : (Str.ofString "User-agent: " ++ l[i].1).length ≤ sizeLine := by
        rw [Str.length_append, show (Str.ofString "User-agent: ").length = 12 by decide +kernel, sizeLine_eq]; omega
      refine ⟨hz, ?_⟩
      k_steps
      rename Fr _ _ _ _ => F3
      rename News _ _ _ _ => N3
      refine hend _ _ ⟨_, _, _, [(l', W.listOf _ _)], rfl, F3, N3, fun p hp => by rw [List.mem_singleton.mp hp]; simpa using hne, ⟨_, _, rfl, lr ++ [(_, _)], strValues_push lr _ _, ?_⟩, rfl, rfl⟩
      rw [List.map_append, hlr, List.take_add_one]
      simp [hi, uaLine]
    · rintro m₁ news₁ h tk ⟨⟨_, n, rfl, lr, rfl, hlr⟩, e1, e2⟩ F2 N2
      have hlr' : lr.map (·.1) = (l.map (·.1)).map uaLine := by
        rw [hlr]
        congr 1
        apply List.take_of_length_le
        simp [strValues]
      have hlen : lr.length ≤ 1000 := by
        have := congrArg List.length hlr'
        simp at this; omega
      replace F2 := fr_put (x := Str.ofString "ret") F2 e1
      replace F2 := fr_put (x := Str.ofString "self") F2 e2
      clear e1 e2
      have hz2 : (strValues lr).toArray.size ≤ sizeLine := by rw [sizeLine_eq]; simp [strValues]; omega
      cases dl with
      | none =>
        obtain rfl : dv = .none := hdv
        k_steps
        rename Fr _ _ _ _ => F3
        rename News _ _ _ _ => N3
        refine wpAny_truthy_list (hrl.at fun o e => F3.keep _ o e) (by simp [strValues]; omega) ?_
        by_cases hc2 : l2 = []
        · have e1 : (!(strValues l2).toArray.isEmpty) = false := by rw [hc2]; rfl
          rw [e1]
          simp only [Bool.false_eq_true, if_false]
          k_steps
          rename Fr _ _ _ _ => F4
          rename News _ _ _ _ => N4
          rw [strValues_push] at N4
          refine call_join (isList_at (N4 _ (.head _)).1) (by simp) ?_ ?_
          · rw [htext] at hsz; rw [hc2] at hsz; simpa [hlr', dlLines] using hsz
          · intro t' k
            have hq := hQ
            rw [htext, hc2] at hq
            have := hq _ k t' F4.keep
            simpa [hlr', dlLines] using this
        · have e1 : (!(strValues l2).toArray.isEmpty) = true := by cases l2 with | nil => exact absurd rfl hc2 | cons a r => rfl
          have e2 : (l2.map (·.1)).isEmpty = false := by cases l2 with | nil => exact absurd rfl hc2 | cons a r => rfl
          rw [e1]
          simp only [if_true]
          k_steps
          refine call_map (hrl.at fun o e => F3.keep _ o e) ?_
          intro h5 I Tp M hI hTp hM nIT nIM nTM gM gT gI hk5
          have nl' := N3 _ (.head _)
          obtain ⟨orl, horl, _⟩ := id hrl
          obtain ⟨oL, _, _, hoL, _⟩ := id F3.ns
          have bI : s.heap.get? I = none := by
            cases q : s.heap.get? I with
            | none => rfl
            | some o => have := F3.keep _ _ q; rw [show _ = none from hI] at this; cases this
          have F5 := F3.keeps hk5
          have N5 := News.grown N3 hk5
          k_steps
          refine extend_map hh ⟨?_, ?_, ?_, ?_, Ne.symm nIM, Ne.symm nIT, ?_⟩ (N5 _ (.head _)).1 gM gT ⟨_, gI, rfl, rfl⟩ (hrl.at fun o e => F5.keep _ o e) (by rw [sizeLine_eq]; simp [strValues]; omega) ?_
          · rintro rfl; have := nl'.1; rw [show _ = none from hM] at this; cases this
          · rintro rfl; have := nl'.1; rw [show _ = none from hTp] at this; cases this
          · rintro rfl; have := nl'.1; rw [show _ = none from hI] at this; cases this
          · rintro rfl; have := nl'.2.2; rw [horl] at this; cases this
          · rintro rfl; have := F3.keep _ _ horl; rw [show _ = none from hI] at this; cases this
          intro h6 n6 hD6 hk6
          have F6 := fr_but F5 nl'.2.2 nl'.2.1 bI (by intro e; have q : _ = none := hI; rw [e] at q; exact absurd (hoL.symm.trans q) (by simp)) hk6
          have N6 : News s.heap L' h6 [(l', W.listOf (strValues (lr ++ l2)).toArray n6)] := by
            intro p hp
            rw [List.mem_singleton.mp hp, ← strValues_app]
            exact ⟨hD6, nl'.2⟩
          k_steps
          refine call_join (isList_at (N6 _ (.head _)).1) (by simp [hc2]) ?_ ?_
          · rw [htext, e2] at hsz; simpa [hlr', dlLines] using hsz
          · intro t' k
            have hq := hQ
            rw [htext, e2] at hq
            have := hq _ k t' F6.keep
            simpa [hlr', dlLines] using this
      | some d =>
        obtain ⟨td, rfl⟩ := hdv
        k_steps
        obtain ⟨hd0, hd1⟩ := hdl d rfl
        refine PyProof.Rows.formatField_int_small (log2_small hd0 hd1) ?_
        rw [Str.empty_append]
        have hz : (Str.ofString "Crawl-delay: " ++ Str.ofString (toString d)).length ≤ sizeLine := by
          have := int_text3 hd0 hd1
          rw [Str.length_append, show (Str.ofString "Crawl-delay: ").length = 13 by decide +kernel, sizeLine_eq]; omega
        refine ⟨hz, ?_⟩
        k_steps
        rename Fr _ _ _ _ => F3
        rename News _ _ _ _ => N3
        first | rw [strValues_push] at N3 | rw [strValues_snoc] at N3
        replace N3 := ledger_gen (P := fun its => News s.heap L' _ [(l', W.listOf its _)]) N3
        obtain ⟨lr2, hm2, hlen2, N3⟩ := N3
        rw [hlr'] at hm2
        have hz3 : (strValues lr2).toArray.size ≤ sizeLine := by rw [sizeLine_eq]; simp [strValues]; omega
        refine wpAny_truthy_list (hrl.at fun o e => F3.keep _ o e) (by simp [strValues]; omega) ?_
        by_cases hc2 : l2 = []
        · have e1 : (!(strValues l2).toArray.isEmpty) = false := by rw [hc2]; rfl
          rw [e1]
          simp only [Bool.false_eq_true, if_false]
          k_steps
          rename Fr _ _ _ _ => F4
          rename News _ _ _ _ => N4
          first | rw [strValues_push] at N4 | rw [strValues_snoc] at N4
          refine call_join (isList_at (N4 _ (.head _)).1) (by simp) ?_ ?_
          · rw [htext] at hsz; rw [hc2] at hsz; simpa [hm2, dlLines] using hsz
          · intro t' k
            have hq := hQ
            rw [htext, hc2] at hq
            have := hq _ k t' F4.keep
            simpa [hm2, dlLines] using this
        · have e1 : (!(strValues l2).toArray.isEmpty) = true := by cases l2 with | nil => exact absurd rfl hc2 | cons a r => rfl
          have e2 : (l2.map (·.1)).isEmpty = false := by cases l2 with | nil => exact absurd rfl hc2 | cons a r => rfl
          rw [e1]
          simp only [if_true]
          k_steps
          refine call_map (hrl.at fun o e => F3.keep _ o e) ?_
          intro h5 I Tp M hI hTp hM nIT nIM nTM gM gT gI hk5
          have nl' := N3 _ (.head _)
          obtain ⟨orl, horl, _⟩ := id hrl
          obtain ⟨oL, _, _, hoL, _⟩ := id F3.ns
          have bI : s.heap.get? I = none := by
            cases q : s.heap.get? I with
            | none => rfl
            | some o => have := F3.keep _ _ q; rw [show _ = none from hI] at this; cases this
          have F5 := F3.keeps hk5
          have N5 := News.grown N3 hk5
          k_steps
          refine extend_map hh ⟨?_, ?_, ?_, ?_, Ne.symm nIM, Ne.symm nIT, ?_⟩ (N5 _ (.head _)).1 gM gT ⟨_, gI, rfl, rfl⟩ (hrl.at fun o e => F5.keep _ o e) (by rw [sizeLine_eq]; simp [strValues]; omega) ?_
          · rintro rfl; have := nl'.1; rw [show _ = none from hM] at this; cases this
          · rintro rfl; have := nl'.1; rw [show _ = none from hTp] at this; cases this
          · rintro rfl; have := nl'.1; rw [show _ = none from hI] at this; cases this
          · rintro rfl; have := nl'.2.2; rw [horl] at this; cases this
          · rintro rfl; have := F3.keep _ _ horl; rw [show _ = none from hI] at this; cases this
          intro h6 n6 hD6 hk6
          have F6 := fr_but F5 nl'.2.2 nl'.2.1 bI (by intro e; have q : _ = none := hI; rw [e] at q; exact absurd (hoL.symm.trans q) (by simp)) hk6
          have N6 : News s.heap L' h6 [(l', W.listOf (strValues (lr2 ++ l2)).toArray n6)] := by
            intro p hp
            rw [List.mem_singleton.mp hp, ← strValues_app]
            exact ⟨hD6, nl'.2⟩
          k_steps
          refine call_join (isList_at (N6 _ (.head _)).1) (by simp [hc2]) ?_ ?_
          · rw [htext, e2] at hsz; simpa [hm2, dlLines] using hsz
          · intro t' k
            have hq := hQ
            rw [htext, e2] at hq
            have := hq _ k t' F6.keep
            simpa [hm2, dlLines] using this
end Mine
end

section
theorem Mine.offMText : True := by w_top off; trivial
open PySem PySem.W PyProof.Rows PySem.Calls PySem.Spec
set_option maxRecDepth 100000
set_option maxHeartbeats 2000000
namespace Mine
theorem fillD : (fun (_ : OpenLaw) (_ : Params → Frag) => True) PySem.Challenge.rw_mr0112_01 hd.heap_39 := by k_fill; trivial

abbrev A5 (dp un : Nat) (gd : Option (List Code)) (outer : List Env) : Around := { handled := none, depth := dp, frames := some outer, guards := gd, units := un }

inductive Fit : T → Prop
  | mk {ag : List Str} {dl : Option Int} {ks : List T} : (∀ x ∈ ag, ∀ c ∈ x.cps, c < 128 ∧ c ≠ 10) → (∀ d, dl = some d → 0 ≤ d ∧ d < 1000) → (T.mk ag dl ks).text.length ≤ 100000 → ag.length ≤ 1000 → ks.length ≤ 1000 → (∀ k ∈ ks, Fit k) → Fit (.mk ag dl ks)

theorem digs3 : ∀ n : Nat, n < 1000 → ∀ c ∈ (Str.ofString (toString (n : Int))).cps.toList, 48 ≤ c ∧ c ≤ 57 := by decide +kernel
theorem crawl_codes : ∀ c ∈ (Str.ofString "Crawl-delay: ").cps.toList, c < 128 ∧ c ≠ 10 := by decide +kernel
theorem ua_codes : ∀ c ∈ (Str.ofString "User-agent: ").cps.toList, c < 128 ∧ c ≠ 10 := by decide +kernel
theorem al_codes : ∀ c ∈ (Str.ofString "Allow: /").cps.toList, c < 128 ∧ c ≠ 10 := by decide +kernel
theorem al0_codes : ∀ c ∈ (Str.ofString "Allow:").cps.toList, c < 128 ∧ c ≠ 10 := by decide +kernel
theorem sgc_facts2 : ∀ d, d < 64 → sgc d < 128 ∧ sgc d ≠ 10 := by decide +kernel
theorem tok64_codes {p : List Nat} (h : ∀ c ∈ p, c < 256) : ∀ c ∈ tok64 p, c < 128 ∧ c ≠ 10 := by
  intro c hc
  unfold tok64 at hc
  rcases List.mem_append.mp hc with hc | hc
  · obtain ⟨d, hd, rfl⟩ := List.mem_map.mp hc
    exact sgc_facts2 d ((dig64_facts h).1 d hd)
  · rw [List.eq_of_mem_replicate hc]; decide
theorem app_codes {P : Nat → Prop} {a b : Str} (ha : ∀ c ∈ a.cps.toList, P c) (hb : ∀ c ∈ b.cps.toList, P c) : ∀ c ∈ (a ++ b).cps, P c := by
  intro c hc
  rw [Str.cps_append] at hc
  rcases Array.mem_append.mp hc with hc | hc
  · exact ha c (Array.mem_toList_iff.mpr hc)
  · exact hb c (Array.mem_toList_iff.mpr hc)
theorem dlLines_ascii {dl : Option Int} (h : ∀ d, dl = some d → 0 ≤ d ∧ d < 1000) : ∀ x ∈ dlLines dl, ∀ c ∈ x.cps, c < 128 ∧ c ≠ 10 := by
  intro x hx
  cases dl with
  | none => cases hx
  | some d =>
    obtain ⟨h0, h1⟩ := h d rfl
    have hx : x = Str.ofString "Crawl-delay: " ++ Str.ofString (toString d) := List.mem_singleton.mp hx
    subst hx
    refine app_codes crawl_codes fun c hc => ?_
    have := digs3 d.toNat (by omega) c (by rw [Int.toNat_of_nonneg h0]; exact hc)
    omega
theorem join_codes {P : Nat → Prop} (sep : Str) (hs : ∀ c ∈ sep.cps, P c) : ∀ (l : List Str), (∀ x ∈ l, ∀ c ∈ x.cps, P c) → ∀ c ∈ (Str.join sep l).cps, P c
  | [], _, c, hc => by simp [Str.join, Str.empty] at hc
  | [x], h, c, hc => h x (.head _) c hc
  | x :: y :: r, h, c, hc => by
    rw [Str.join] at hc
    · rw [Str.cps_append, Str.cps_append] at hc
      rcases Array.mem_append.mp hc with hc | hc
      · rcases Array.mem_append.mp hc with hc | hc
        · exact h x (.head _) c hc
        · exact hs c hc
      · exact join_codes sep hs (y :: r) (fun z hz => h z (.tail _ hz)) c hc
    · simp
/-- the lines of a record's text -/
def lines (ag : List Str) (dl : Option Int) (ks : List T) : List Str := ag.map uaLine ++ dlLines dl ++ (if ks.isEmpty then [Str.ofString "Allow:"] else alLines ks)
theorem lines_codes {ag : List Str} {dl : Option Int} {ks : List T} (ha : ∀ x ∈ ag, ∀ c ∈ x.cps, c < 128 ∧ c ≠ 10) (hd : ∀ d, dl = some d → 0 ≤ d ∧ d < 1000) (hk : ∀ k ∈ ks, ∀ c ∈ k.text.cps, c < 128) : ∀ x ∈ lines ag dl ks, ∀ c ∈ x.cps, c < 128 ∧ c ≠ 10 := by
  intro x hx
  unfold lines at hx
  rcases List.mem_append.mp hx with hx | hx
  · rcases List.mem_append.mp hx with hx | hx
    · obtain ⟨y, hy, rfl⟩ := List.mem_map.mp hx
      exact app_codes ua_codes fun c hc => ha y hy c (Array.mem_toList_iff.mp hc)
    · exact dlLines_ascii hd x hx
  · cases ks with
    | nil =>
      have hx : x = Str.ofString "Allow:" := List.mem_singleton.mp hx
      subst hx
      exact fun c hc => al0_codes c (Array.mem_toList_iff.mpr hc)
    | cons k0 ks0 =>
      have hx : x ∈ alLines (k0 :: ks0) := hx
      rw [alLines_eq] at hx
      obtain ⟨k, hk', rfl⟩ := List.mem_map.mp hx
      refine app_codes al_codes fun c hc => ?_
      refine tok64_codes (p := k.text.cps.toList) (fun c hc => Nat.lt_trans (hk k hk' c (Array.mem_toList_iff.mp hc)) (by decide)) c ?_
      simpa [tokStr] using hc
theorem Fit.ascii {t : T} (h : Fit t) : ∀ c ∈ t.text.cps, c < 128 := by
  induction h with
  | mk ha hd hl hn hk hf ih =>
    rename_i ag dl ks
    rw [T.text]
    split
    · intro c hc; simp [Str.empty] at hc
    · exact join_codes nl (by decide +kernel) _ fun x hx c hc => (lines_codes ha hd (fun k hk => ih k hk) x hx c hc).1
theorem tokStr_length {x : Str} (h : ∀ c ∈ x.cps, c < 128) : (tokStr x).length = (x.length + 2) / 3 * 4 := by
  show (tok64 x.cps.toList).toArray.size = _
  rw [List.size_toArray, tok64_length fun c hc => Nat.lt_trans (h c (Array.mem_toList_iff.mp hc)) (by decide)]
  simp [Str.length]
theorem alLine_length {t : T} (h : Fit t) : (alLine t.text).length ≤ 200000 := by
  have hl : t.text.length ≤ 100000 := by cases h; assumption
  unfold alLine
  rw [Str.length_append, tokStr_length h.ascii]
  have : (Str.ofString "Allow: /").length = 8 := by decide +kernel
  omega

theorem strs_of_each {α : Type} {f : α → Str} : ∀ {ts : List α} {ys : Array Value}, ys.size = ts.length → (∀ (i : Nat) (y : Value), ys[i]? = some y → ∀ (t : α), ts[i]? = some t → ∃ tk, y = .str (f t) tk) →
    ∃ l : List (Str × Tok), ys = (strValues l).toArray ∧ l.map (·.1) = ts.map f := by
  intro ts ys
  obtain ⟨ys⟩ := ys
  induction ts generalizing ys with
  | nil => intro h _; cases ys with
    | nil => exact ⟨[], rfl, rfl⟩
    | cons => simp at h
  | cons t ts ih =>
    intro h hy
    cases ys with
    | nil => simp at h
    | cons y ys =>
      have h1 : (⟨y :: ys⟩ : Array Value)[0]? = some y := rfl
      have h2 : (t :: ts)[0]? = some t := rfl
      obtain ⟨tk, e0⟩ := hy 0 y h1 t h2
      subst e0
      obtain ⟨l, e, e2⟩ := ih ys (by simpa using h) (fun i z hz t' ht' => hy (i + 1) z (by simpa using hz) t' (by simpa using ht'))
      refine ⟨(f t, tk) :: l, ?_, by simp [e2]⟩
      have : ys = strValues l := by simpa using e
      rw [this]; rfl

theorem strText_eq (ag : List Str) (dl : Option Int) (ks : List T) : strText ag dl (alLines ks) = (T.mk ag dl ks).text := by
  rw [T.text]
  unfold strText
  cases ks with
  | nil => rfl
  | cons k ks => rw [alLines]; rfl

/-- the contract of _law_token -/
def TokC (w : World) (t : T) : Prop := ∀ {prog : Program} {dp un : Nat} {gd : Option (List Code)} {outer : List Env} {base : Heap} {E : Value → Shared → Prop} {s : Shared} {mg mb : Str → Option Value} {mean : ExcName → Option Value} {loose : List Str} {Q : Value → Shared → Prop} {v : Value},
  (hd.heap_39 w.params).In s.heap → Top hd.view_39 loose mean mg mb s.heap → Below (A5 dp un gd outer) base outer s.heap → dp + 10 * t.dep + 10 < recursionLimit → un + 100 * t.dep + 150 < cLine → Rec s.heap v t →
  (∀ h' tk t', (∀ b o, s.heap.get? b = some o → h'.get? b = some o) → Q (.str (tokStr t.text) t') { s with heap := h', toks := tk }) →
  wpAny (model prog w) (A5 dp un gd outer) (call (.ref 114) [v]) Q E s
def TextC (w : World) (t : T) : Prop := ∀ {prog : Program} {dp un : Nat} {gd : Option (List Code)} {outer : List Env} {base : Heap} {E : Value → Shared → Prop} {s : Shared} {mg mb : Str → Option Value} {mean : ExcName → Option Value} {loose : List Str} {Q : Value → Shared → Prop} {v : Value},
  (hd.heap_39 w.params).In s.heap → Top hd.view_39 loose mean mg mb s.heap → Below (A5 dp un gd outer) base outer s.heap → dp + 10 * t.dep + 5 < recursionLimit → un + 100 * t.dep + 100 < cLine → Rec s.heap v t →
  (∀ h' tk t', (∀ b o, s.heap.get? b = some o → h'.get? b = some o) → Q (.str t.text t') { s with heap := h', toks := tk }) →
  wpAny (model prog w) (A5 dp un gd outer) (call (.ref 119) [v]) Q E s

theorem item_list {prog : Program} {w : World} {A : Around} {E : Value → Shared → Prop} {s : Shared} {h₀ : Heap} {L : Addr} {m : Str → Option Value} {value slice : Expr} {a : Addr} {k : Int} {u : Tok} {vs : List Value} {v : Value} {Q : Value → Shared → Prop} (F : Fr h₀ L s.heap m) (hl : h₀.IsList a vs.toArray)
    (h0 : 0 ≤ k) (hhi : k < 2 ^ 63) (hx : vs[k.toNat]? = some v) (h : Q v s)
    (hs : subscripted slice false (.ref a) (.int k u) = operate [.ref a, .int k u] (getItem (.ref a) (.int k u)) := by with_unfolding_all rfl) :
    wpAny (model prog w) A (subscriptTail value slice (.ref a) (.int k u)) Q E s :=
  have hL : s.heap.IsList a vs.toArray := hl.at fun o e => F.keep a o e
  tail_any hL.typeIs slot_list_getitem.lookup (wpAny_getItem_list hL h0 hhi (by simpa using hx) h) hs

local macro_rules | `(tactic| k_room) => `(tactic| ((try simp only [depth_mark, depth_under_make, depth_under_kw, depth_in1, depth_deeper]); (show (_ : Nat) < 1000); (try dsimp only); omega))
local macro_rules | `(tactic| k_units) => `(tactic| ((try simp only [units_in1, units_deeper, Around.mark_units]); (show (_ : Nat) < 9900); (try dsimp only); omega))

theorem extend_base {prog : Program} {w : World} {A : Around} {E : Value → Shared → Prop} {s : Shared} {h₀ : Heap} {L D b : Addr} {m : Str → Option Value} {news news' : List (Addr × Obj)} {its its2 : Array Value} {n n2 : Nat} {Q : Value → Shared → Prop}
    (F : Fr h₀ L s.heap m) (N : News h₀ L s.heap news) (hb : s.heap.get? b = some (W.listOf its2 n2)) (U : Upd D (W.listOf its n) (W.listOf (its ++ its2) (if (its ++ its2).size == its.size then n else n + 1)) news news')
    (hsz : its.size + its2.size ≤ sizeLine) (h : ∀ h', Fr h₀ L h' m → News h₀ L h' news' → Q .none { s with heap := h' }) : wpAny (model prog w) A (call (.builtin "list.extend") [.ref D, .ref b]) Q E s := by
  obtain ⟨pre, post, rfl, rfl, a, c⟩ := U.split
  have z := N (D, W.listOf its n) (List.mem_append.mpr (.inr (.head _)))
  refine call_meets PySem.F.slot_list_extend ⟨_, z.1, rfl⟩ PySem.F.entry_list_extend (PySem.F.args_list_extend_2 _ _) (PySem.AutoSeq1.list_extend_list_list_0 D its n b its2 n2 (extend_door hsz) (Nat.le_trans (Nat.le_add_right _ _) hsz) (Nat.le_succ_of_le hsz)) ⟨z.1, hb, ?_⟩
  refine h _ (F.change (Heap.SameBut.update ..) z.2.1 z.2.2) (news_set N a c (Heap.SameBut.update ..) ?_)
  rw [Heap.get?_update_self _ z.1 (by rw [mapSeq_app]; rfl), mapSeq_app]

local macro_rules | `(tactic| walk_at "eval ListComp") => `(tactic| (k_here; (with_reducible apply compL'); (case hh => with_unfolding_all rfl); (case hclos => with_unfolding_all rfl); (case hcell => decide); (case hkind => with_unfolding_all rfl); (case hnames => decide); (case hx => with_unfolding_all rfl); (case hs => intro _; with_unfolding_all rfl)))

local macro_rules | `(tactic| walk_at "call ref") => `(tactic| (k_here; (with_reducible show wpAny _ _ (call (Value.ref 114) _ _) _ _ _); refine held ?_))
local macro_rules | `(tactic| walk_at "call ref") => `(tactic| (k_here; (with_reducible show wpAny _ _ (call (Value.ref 79) _ _) _ _ _); refine held ?_))

theorem text_step {w : World} {t : T} (hf : Fit t) (IH : ∀ k ∈ (match t with | .mk _ _ ks => ks), TokC w k) : TextC w t := by
  obtain ⟨ag, dl, ks⟩ := t
  dsimp only at IH
  intro prog dp un gd outer base E s mg mb mean loose Q v X T B hdp hun hr hQ
  cases hr
  rename_i a g k dv n1 n2 n3 l kvs hla hlg hlk hdv rk
  have Lla := isList_at hla
  have Llg := isList_at hlg
  have Llk := isList_at hlk
  rw [T.dep] at hdp hun
  replace hdp : dp + 10 * (1 + deps ks) + 5 < 1000 := hdp
  replace hun : un + 100 * (1 + deps ks) + 100 < 9900 := hun
  k_dflt (refine' enterK (binds := [(Str.ofString "record", .ref a)]) X ?lim ?k6 ?k7 ?k8 ?k9 ?kB ?c2 ?c3 ?c4 ?c5 ?_; (case k6 => k_is); (case k7 => k_is); (case k9 => first | exact BindsTo.of_eq rfl | exact binds_K (by k_in) rfl (by k_is) rfl rfl rfl); (case c5 => decide); (case kB => exact locs rfl); (case c2 => exact rfl); (case c3 => exact rfl); (case c4 => exact rfl); (case k8 => k_room); (case lim => exact T.nolimit))
  intro L' h₁ F' N'
  rw [look1] at F'
  try dsimp only
  try k_fold
  k_steps
  obtain ⟨hfa, hfd, hfl, hfn, hfk, hfr⟩ : _ ∧ _ ∧ _ ∧ _ ∧ _ ∧ _ := by cases hf with | mk a b c d e f => exact ⟨a, b, c, d, e, f⟩
  rename Fr s.heap L' _ _ => F'
  refine' extend_base (by k_asm) (by k_asm) (F'.keep _ _ hlg) ?U _ _
  case U => k_upd
  · simp [sizeLine_eq, strValues]; simp at hfn; omega
  intro h2 F2 N2
  k_steps
  rename Fr s.heap L' _ _ => F'
  rename News s.heap L' _ _ => N'
  refine ⟨k, kvs, rfl, Llk.at fun o e => F'.keep _ o e, by rw [rk.length, sizeLine_eq]; omega, fun i y _ _ => ∀ t, ks[i]? = some t → ∃ tk, y = .str (alLine t.text) tk, fun _ _ _ _ _ r _ => r, ?_, ?_⟩
  · intro I D C i v s₃ m₃ E' hv hI hD hC hoI hoD hn hm hk
    obtain ⟨t, ht, hrec⟩ := rk.get hv
    have hmem : t ∈ ks := List.mem_of_getElem? ht
    have hdep := dep_le hmem
    k_steps
    refine unheld ?_
    rename Fr s.heap L' _ _ => F3
    refine IH t hmem (X.keeps F3.keep) (T.keeps F3.keep) ((Below.push B F3)) (by show dp + 1 + 10 * t.dep + 10 < 1000; omega) (by show un + 3 + 100 * t.dep + 150 < 9900; omega) (hrec.keeps F3.keep) ?_
    intro h4 tk4 t4 hk4
    have hsz : (Str.ofString "Allow: /").length + (tokStr t.text).length ≤ sizeLine := by
      have := alLine_length (hfr t hmem)
      rw [sizeLine_eq]; unfold alLine at this; rw [Str.length_append] at this; omega
    refine PyProof.Rows.add_str (fun t' tk' => ?_) hsz
    exact ⟨fun t' ht' => by rw [ht] at ht'; cases ht'; exact ⟨_, rfl⟩, _, _, rfl, hk4⟩
  · intro I D C h3 tk3 ys n3 hD hgD hys hyR hk3
    replace F' := F'.keeps hk3
    replace N' := News.grown N' hk3
    obtain ⟨l2, rfl, hl2⟩ : ∃ l2 : List (Str × Tok), ys = (strValues l2).toArray ∧ l2.map (·.1) = ks.map fun t => alLine t.text := strs_of_each (by rw [hys, rk.length]) hyR
    rw [← alLines_eq] at hl2
    k_steps
    refine' extend_base (by k_asm) (by k_asm) hgD ?U _ _
    case U => k_upd
    · rw [hys, rk.length, sizeLine_eq]; simp; omega
    intro h4 F4 N4
    k_steps
    refine unheld ?_
    rename Fr s.heap L' _ _ => F5
    rename News s.heap L' _ _ => N5
    refine c_str (dl := dl) (l := l) (l2 := l2) (X.keeps F5.keep) (T.keeps F5.keep) rfl (by show dp + 1 + 3 < 1000; omega) (by show un + 3 + 1 + 1 + 50 < 9900; omega) (InstAt.of_news N5 (by k_mem) (by k_mem)) ?_ ?_ hdv hfd (by simpa using hfn) ?_ ?_ ?_
    · have := isList_at (N5 _ (.tail _ (.head _))).1; simpa using this
    · have := isList_at (N5 _ (.head _)).1; simpa using this
    · have := congrArg List.length hl2; rw [alLines_eq] at this; simp at this; omega
    · rw [hl2, strText_eq]; omega
    · intro h6 tk6 t6 hk6
      rw [hl2, strText_eq]
      exact hQ _ _ _ fun b o e => hk6 b o (F5.keep b o e)
end Mine
end

section
theorem Mine.offMToken : True := by w_top off; trivial
open PySem PySem.W PyProof.Rows PySem.Calls PySem.Spec
set_option maxRecDepth 100000
set_option maxHeartbeats 2000000
namespace Mine
theorem fillF : (fun (_ : OpenLaw) (_ : Params → Frag) => True) PySem.Challenge.rw_mr0112_01 hd.heap_39 := by k_fill; trivial
local macro_rules | `(tactic| k_room) => `(tactic| ((try simp only [depth_mark, depth_under_make, depth_under_kw, depth_in1, depth_deeper]); (show (_ : Nat) < 1000); (try dsimp only); omega))
local macro_rules | `(tactic| k_units) => `(tactic| ((try simp only [units_in1, units_deeper, Around.mark_units]); (show (_ : Nat) < 9900); (try dsimp only); omega))
local macro_rules | `(tactic| walk_at "call ref") => `(tactic| (k_here; (with_reducible show wpAny _ _ (call (Value.ref 119) _ _) _ _ _); refine held ?_))
local macro_rules | `(tactic| walk_at "call ref") => `(tactic| (k_here; (with_reducible show wpAny _ _ (call (Value.ref 58) _ _) _ _ _); refine held ?_))

theorem tok64_ascii {p : List Nat} (h : ∀ c ∈ p, c < 256) : ∀ c ∈ tok64 p, c < 128 := by
  intro c hc
  unfold tok64 at hc
  rcases List.mem_append.mp hc with hc | hc
  · obtain ⟨d, hd, rfl⟩ := List.mem_map.mp hc
    exact (sgc_facts d ((dig64_facts h).1 d hd)).1
  · rw [List.eq_of_mem_replicate hc]; decide

theorem method_encode {M : Model} {A : Around} {E : Value → Shared → Prop} {s : Shared} {x : Str} {t : Tok} {pl : Sem Bool} {Q : Value × List Value → Shared → Prop} (h : Q (.builtin "str.encode", [.str x t]) s) : wpAny M A (getMethod (.str x t) (Str.ofString "encode") pl) Q E s :=
  getMethod_builtin (typeIs_str _ _ _) F.plainAttrs_str F.slot_str_encode F.type_str_encode (fun _ e => nomatch e) h

theorem token_step {w : World} {t : T} (hf : Fit t) (IH : TextC w t) : TokC w t := by
  intro prog dp un gd outer base E s mg mb mean loose Q v X T B hdp hun hr hQ
  replace hdp : dp + 10 * t.dep + 10 < 1000 := hdp
  replace hun : un + 100 * t.dep + 150 < 9900 := hun
  have hasc := hf.ascii
  have hlen : t.text.length ≤ 100000 := by cases hf; assumption
  k_dflt (refine' enterK (binds := [(Str.ofString "record", v)]) X ?lim ?k6 ?k7 ?k8 ?k9 ?kB ?c2 ?c3 ?c4 ?c5 ?_; (case k6 => k_is); (case k7 => k_is); (case k9 => first | exact BindsTo.of_eq rfl | exact binds_K (by k_in) rfl (by k_is) rfl rfl rfl); (case c5 => decide); (case kB => exact locs rfl); (case c2 => exact rfl); (case c3 => exact rfl); (case c4 => exact rfl); (case k8 => k_room); (case lim => exact T.nolimit))
  intro L' h₁ F' N'
  rw [look1] at F'
  try dsimp only
  try k_fold
  k_steps
  refine unheld ?_
  refine IH (X.keeps F'.keep) (T.keeps F'.keep) (Below.push B F') (by show dp + 1 + 10 * t.dep + 5 < 1000; omega) (by show un + 3 + 100 * t.dep + 100 < 9900; omega) (hr.keeps F'.keep) ?_
  intro h2 tk2 t2 hk2
  have F2 := F'.keeps hk2
  have N2 := News.grown N' hk2
  k_steps
  refine method_encode ?_
  k_steps
  refine call_encode hasc (by rw [sizeLine_eq]; omega) ?_
  intro t3 k3
  k_steps
  refine unheld ?_
  refine c_urlsafe (p := t.text.cps.toList) (X.keeps F2.keep) (T.keeps F2.keep) rfl (by show dp + 1 + 3 < 1000; omega) ?_ (by rw [Array.size_map]; show t.text.length ≤ _; omega) ?_
  · rw [Array.toList_map, List.map_map]
    conv => rhs; rw [← List.map_id t.text.cps.toList]
    apply List.map_congr_left
    intro c hc
    have := hasc c (Array.mem_toList_iff.mp hc)
    show c.toUInt8.toNat = c
    simp [Nat.toUInt8]; omega
  intro h4 tk4 t4 o hk4 ho
  have F4 := F2.keeps hk4
  have N4 := News.grown N2 hk4
  k_steps
  have h256 : ∀ c ∈ t.text.cps.toList, c < 256 := fun c hc => Nat.lt_trans (hasc c (Array.mem_toList_iff.mp hc)) (by decide)
  refine call_decode ?_ ?_ ?_
  · intro c hc
    refine tok64_ascii h256 c.toNat ?_
    rw [← ho]
    exact List.mem_map_of_mem (Array.mem_toList_iff.mpr hc)
  · have e := congrArg List.length ho
    rw [tok64_length h256] at e
    simp only [List.length_map, Array.length_toList] at e
    have e2 : t.text.cps.size = t.text.length := rfl
    rw [e, sizeLine_eq]; omega
  · intro t5 k5
    have e : (⟨o.map UInt8.toNat⟩ : Str) = tokStr t.text := by
      unfold tokStr
      rw [← ho]
      congr 1
      apply Array.toList_inj.mp
      simp
    rw [e]
    exact hQ _ _ _ F4.keep

theorem text_all {w : World} : ∀ (n : Nat) (t : T), t.dep ≤ n → Fit t → TextC w t := by
  intro n
  induction n with
  | zero => intro t h; obtain ⟨ag, dl, ks⟩ := t; rw [T.dep] at h; omega
  | succ n ih =>
    intro t h hf
    refine text_step hf ?_
    obtain ⟨ag, dl, ks⟩ := t
    intro k hk
    have hk' : k ∈ ks := hk
    have hfk : Fit k := by cases hf with | mk a b c d e f => exact f k hk'
    rw [T.dep] at h
    have := dep_le hk'
    exact @token_step w k hfk (@ih k (by omega) hfk)
theorem c_text {w : World} {t : T} (hf : Fit t) : TextC w t := @text_all w t.dep t (Nat.le_refl _) hf
end Mine
end

section
local macro_rules | `(tactic| walk_at "own MOct 0") => `(tactic| fail)
theorem Mine.offMOct : True := by w_top off; trivial
open PySem PySem.W PyProof.Rows PySem.Calls PySem.Spec
set_option maxRecDepth 100000
set_option maxHeartbeats 2000000
namespace Mine
theorem fillG : (fun (_ : OpenLaw) (_ : Params → Frag) => True) PySem.Challenge.rw_mr0112_01 hd.heap_39 := by k_fill; trivial

section
variable {prog : Program} {w : World} {A : Around} {E : Value → Shared → Prop} {s : Shared} {K : Frag}
  {name qual : Str} {params : Arguments} {body : List Stmt} {scope : Scope} {dV kV doc pm cdv ct oc : Value} {an od : Option Addr} {osl : Array (Option Value)} {f : Addr} {args : List Value} {kw : List (Str × Value)} {binds : List (Str × Value)}
theorem enterKC {Q : Value → Shared → Prop} (X : K.In s.heap) (hlim : s.heap.NoLimit)
    (ho : K.lookup f = some ⟨oc, od, .func (fnOf name qual params body scope dV kV doc pm an cdv ct), osl⟩) (hcd : codeIn K cdv qual = true) (hroom : A.depth < recursionLimit)
    (hbind : BindsTo s (fnOf name qual params body scope dV kV doc pm an cdv ct) ⟨args, kw⟩ binds) (hkind : (binds.all fun y => scope.names.lookup y.1 == some .local || scope.names.lookup y.1 == some .cell) = true)
    (hnd : ((cellsFrom 0 scope.names []).map (·.1)).Nodup)
    (hco : scope.isCoroutine = false) (hgen : scope.isGenerator = false) (hk : scope.kind = .function)
    (h : ∀ L' h₁ tk cells, Fr s.heap L' h₁ (bindL (envOfC qual scope L' f cdv).kindOf binds fun _ => none) → News s.heap L' h₁ cells → CellsAre (bindC (envOfC qual scope L' f cdv).kindOf binds fun _ => none) (cellsFrom (L' + 1) scope.names []) cells →
      wpAny (model prog w) (A.deeper (envOfC qual scope L' f cdv)) (execs body (envOfC qual scope L' f cdv))
        (fun fl s' => Q (match fl with | .ret v => v | _ => .none) s') (fun _ _ => False) { s with heap := h₁, toks := tk }) :
    wpAny (model prog w) A (call (.ref f) args kw) Q E s := by
  refine wpAny_call (codeAny_call_function (fd := fnOf name qual params body scope dV kV doc pm an cdv ct) hroom (X _ _ ho) rfl hco hgen rfl (codeRec_of X hcd) (hbind _ _ _ _ ?_))
  refine wpAny_newFunctionEnv_cells hk (kindsX hkind _) fun env' he s' x => ?_
  subst he
  refine ⟨hlim.keeps x.toInCall.keep, codeAny_func ?_⟩
  obtain ⟨h₁, tk, rfl, _⟩ := x.done
  have hk₁ := x.toInCall.keep
  obtain ⟨cells, NC, Y⟩ := Cl.news (h₀ := s.heap) (Nat.le_refl _) fun n c hm => ⟨x.cell n c (lookup_of_mem_nodup (cellsFrom_names scope.names 0 (s.heap.objs.size + 1) [] [] rfl ▸ hnd) hm), x.above n c hm⟩
  exact wpAny_mono (h s.heap.objs.size h₁ tk cells ⟨x.toInCall.ns, hk₁, Nat.le_refl _⟩ NC Y) (fun _ _ x => x) (fun _ _ x => x.elim)
end

theorem assign_cells {prog : Program} {w : World} {A : Around} {E : Value → Shared → Prop} {s : Shared} {env : Env} {a b : Str} {pa pb tp : Pos} {kk : Nat} {T c1 c2 : Addr} {x y : Value} {v1 v2 : Option Value} {Q : Unit → Shared → Prop} (hh : A.handled = none) (ht : s.heap.IsTuple T #[x, y])
    (hk : env.scope.kind = .function) (ha : env.kindOf a = some .cell) (hb : env.kindOf b = some .cell) (hc1 : env.cells.lookup a = some c1) (hc2 : env.cells.lookup b = some c2) (h12 : c1 ≠ c2) (hv1 : s.heap.IsCell c1 v1) (hv2 : s.heap.IsCell c2 v2)
    (h : ∀ (h' : Heap), h'.IsCell c1 (some x) → h'.IsCell c2 (some y) → (∀ c o, c ≠ c1 → c ≠ c2 → s.heap.get? c = some o → h'.get? c = some o) → Q () { s with heap := h' }) :
    wpAny (model prog w) A (assign (.Tuple [.Name a pa, .Name b pb] kk tp) env (.ref T)) Q E s := by
  refine wpAny_assign_Tuple hh ht rfl rfl fun h₁ he₁ => ?_
  have up₁ : ∀ c o, s.heap.get? c = some o → h₁.get? c = some o := fun c o e => he₁ c o (Nat.ne_of_lt (Heap.lt_size e)) e
  have hv1' : h₁.IsCell c1 v1 := let ⟨o, ho, hd⟩ := hv1; ⟨o, up₁ _ _ ho, hd⟩
  have hv2' : h₁.IsCell c2 v2 := let ⟨o, ho, hd⟩ := hv2; ⟨o, up₁ _ _ ho, hd⟩
  show wpAny _ _ (assignInOrder [assign (.Name a pa) env, assign (.Name b pb) env] [x, y]) _ _ _
  refine assignInOrder_cons ?_
  refine wpAny_assign_Name (wpAny_storeName_cell hk ha hc1 hv1' fun h₂ hn₂ hs₂ => ?_)
  refine assignInOrder_cons ?_
  have hv2'' : h₂.IsCell c2 v2 := let ⟨o, ho, hd⟩ := hv2'; ⟨o, hs₂.extBut _ _ (Ne.symm h12) ho, hd⟩
  refine wpAny_assign_Name (wpAny_storeName_cell hk hb hc2 hv2'' fun h₃ hn₃ hs₃ => ?_)
  refine assignInOrder_nil ?_
  exact h h₃ (let ⟨o, ho, hd⟩ := hn₂; ⟨o, hs₃.extBut _ _ h12 ho, hd⟩) hn₃ fun c o h1 h2 e => hs₃.extBut c o h2 (hs₂.extBut c o h1 (up₁ c o e))

def digStr (x : Str) : Str := ⟨((dig64 x.cps.toList).map sgc).toArray⟩
theorem takeWhile_rep (D : List Nat) (p : Nat) (h : ∀ c ∈ D, c ≠ 61) : ((D ++ List.replicate p 61).reverse.takeWhile (fun c => (#[61] : Array Nat).contains c)).length = p := by
  rw [List.reverse_append, List.reverse_replicate, List.takeWhile_append_of_pos]
  · have : (D.reverse.takeWhile (fun c => (#[61] : Array Nat).contains c)) = [] := by
      cases e : D.reverse with
      | nil => rfl
      | cons a r =>
        have ha : a ∈ D := by rw [← List.mem_reverse, e]; exact .head _
        rw [List.takeWhile_cons]
        have := h a ha
        simp [this]
    rw [this]; simp
  · intro c hc; rw [List.eq_of_mem_replicate hc]; simp
theorem rstrip_tok {x : Str} (hx : ∀ c ∈ x.cps, c < 128) : Txt.rstripChars (tokStr x) (Str.ofString "=") = digStr x := by
  have h256 : ∀ c ∈ x.cps.toList, c < 256 := fun c hc => Nat.lt_trans (hx c (Array.mem_toList_iff.mp hc)) (by decide)
  have hD : ∀ c ∈ (dig64 x.cps.toList).map sgc, c ≠ 61 := by
    intro c hc
    obtain ⟨d, hd, rfl⟩ := List.mem_map.mp hc
    exact (sgc_facts d ((dig64_facts h256).1 d hd)).2
  have e1 : (Str.ofString "=").cps = #[61] := by decide +kernel
  unfold Txt.rstripChars Txt.stripBy
  rw [e1]
  have hlen : (tokStr x).length = ((dig64 x.cps.toList).map sgc).length + pad64 x.cps.toList := by simp [tokStr, tok64, Str.length]
  have hhi : stripHi (#[61] : Array Nat).contains true (tokStr x) 0 = ((dig64 x.cps.toList).map sgc).length := by
    unfold stripHi
    simp only [if_true, List.drop_zero]
    have := takeWhile_rep ((dig64 x.cps.toList).map sgc) (pad64 x.cps.toList) hD
    have e2 : (tokStr x).cps.toList = (dig64 x.cps.toList).map sgc ++ List.replicate (pad64 x.cps.toList) 61 := by simp [tokStr, tok64]
    rw [e2, this, hlen]; omega
  have hlo : stripLo (#[61] : Array Nat).contains false (tokStr x) = 0 := rfl
  split
  · rename_i h
    unfold stripSame at h
    rw [hlo, hhi] at h
    have hp : pad64 x.cps.toList = 0 := by
      have h' : ((dig64 x.cps.toList).map sgc).length = (tokStr x).length := by simpa using h
      omega
    unfold tokStr digStr tok64
    rw [hp]; simp
  · unfold PySem.stripped
    rw [hlo, hhi]
    show (⟨(tokStr x).cps.extract 0 _⟩ : Str) = _
    unfold digStr tokStr tok64
    congr 1
    apply Array.toList_inj.mp
    simp
theorem call_rstrip {prog : Program} {w : World} {A : Around} {E : Value → Shared → Prop} {s : Shared} {x y : Str} {t u : Tok} {Q : Value → Shared → Prop} (hsz : x.length ≤ sizeLine) (hQ : ∀ t' k, Q (.str (Txt.rstripChars x y) t') { s with toks := k }) :
    wpAny (model prog w) A (call (.builtin "str.rstrip") [.str x t, .str y u]) Q E s :=
  call_gives F.slot_str_rstrip (typeIs_str _ _ _) F.entry_str_rstrip (F.args_str_rstrip_2 _ _) (gives_str_rstrip_chars x y t u) (post_val_or_made (fun _ => by
    unfold PySem.stripped
    refine Nat.le_trans ?_ hsz
    show ((x.cps.extract _ _).size) ≤ x.cps.size
    simp; omega) hQ)

local macro_rules | `(tactic| walk_at "call builtin:str.join") => `(tactic| (k_here; refine held ?_))
local macro_rules | `(tactic| walk_at "last call builtin:str.join") => `(tactic| (k_here; refine held ?_))
local macro_rules | `(tactic| walk_at "pyIter str") => `(tactic| (k_here; refine held ?_))

theorem find_sg : ∀ d, d < 64 → Txt.find (Str.ofString "ABCDEFGHIJKLMNOPQRSTUVWXYZabcdefghijklmnopqrstuvwxyz0123456789-_") ⟨#[sgc d]⟩ = (d : Int) := by decide +kernel

theorem cell_int {o : Obj} {a b : Int} {t : Tok} (h : o.data = .cell (some (.int a t))) (e : a = b) : ∃ t, o.data = .cell (some (.int b t)) := ⟨t, e ▸ h⟩

theorem oct_eq {A B m n L : Nat} {a : Int} (h : A = B * 2 ^ m) (ha : 1 ≤ a ∧ a ≤ (n : Int)) (hL : L = 8 * n + m) :
    (((A : Int).fdiv (2 ^ ((L : Int) - 8 * a).toNat)).fmod 256).toNat = B / 2 ^ (8 * (n - a.toNat)) % 256 := by
  have e : ((L : Int) - 8 * a).toNat = 8 * (n - a.toNat) + m := by omega
  rw [e]
  have e2 : ((2 : Int) ^ (8 * (n - a.toNat) + m)) = ((2 ^ (8 * (n - a.toNat) + m) : Nat) : Int) := by simp
  rw [e2, Int.fdiv_eq_ediv_of_nonneg _ (Int.natCast_nonneg _), ← Int.natCast_ediv, Int.fmod_eq_emod_of_nonneg _ (by decide)]
  have e3 : A / 2 ^ (8 * (n - a.toNat) + m) = B / 2 ^ (8 * (n - a.toNat)) := by
    rw [h, Nat.pow_add, Nat.mul_div_mul_right _ _ (Nat.pow_pos (by decide))]
  rw [e3]
  omega

theorem small_oct {n : Nat} (h : n ≤ 1100) : Builtin.Range.small 1 ((n : Int) + 1) 1 = true := small_one (by decide) (by decide) (by omega) (by omega)

theorem strs_of_carried {α : Type} {f : α → Str} : ∀ {vs : List Value} {as : List α}, CarriedAll vs (as.map fun a => PyData.str (f a)) → ∃ l : List (Str × Tok), vs = strValues l ∧ l.map (·.1) = as.map f
  | _, [], .nil => ⟨[], rfl, rfl⟩
  | _, a :: as, .cons (.str _ t) r => by
    obtain ⟨l, rfl, hm⟩ := strs_of_carried r
    exact ⟨(f a, t) :: l, by simp [strValues], by simp [hm]⟩

theorem join0_cps : ∀ l : List Str, (Str.join Str.empty l).cps.toList = l.flatMap (·.cps.toList)
  | [] => rfl
  | [x] => by simp [Str.join]
  | x :: y :: r => by
    have ih := join0_cps (y :: r)
    have e : Str.join Str.empty (x :: y :: r) = x ++ Str.empty ++ Str.join Str.empty (y :: r) := by rw [Str.join]; simp
    rw [e]
    simp only [List.flatMap_cons] at ih ⊢
    rw [← ih]
    simp [Str.append_empty, Str.cps_append]

theorem flat_one (f : Int → Nat) : ∀ l : List Int, (l.map fun k => (⟨#[f k]⟩ : Str)).flatMap (·.cps.toList) = l.map f
  | [] => rfl
  | a :: l => by simp [flat_one f l]

theorem join_oct {x : Str} {l : List (Str × Tok)} (hm : l.map (·.1) = (rangeInts 1 1 x.length).map fun k => (⟨#[val 256 x.cps.toList / 2 ^ (8 * (x.length - k.toNat)) % 256]⟩ : Str)) (h : ∀ c ∈ x.cps.toList, c < 256) : Str.join Str.empty (l.map (·.1)) = x := by
  have hx : x.length = x.cps.toList.length := by simp [Str.length]
  have : (Str.join Str.empty (l.map (·.1))).cps.toList = x.cps.toList := by
    rw [join0_cps, hm, flat_one fun k => val 256 x.cps.toList / 2 ^ (8 * (x.length - k.toNat)) % 256]
    rw [hx]
    apply List.ext_getElem
    · simp [rangeInts_length]
    · intro i h1 h2
      have q := octet_at h h2
      rw [List.getElem_map]
      have e : (rangeInts 1 1 x.cps.toList.length)[i]'(by rw [rangeInts_length]; exact h2) = 1 + (i : Int) * 1 := by
        have := rangeInts_get (a := 1) (c := 1) h2
        rw [List.getElem?_eq_getElem (by rw [rangeInts_length]; exact h2)] at this
        exact Option.some.inj this
      rw [e, show (1 + (i : Int) * 1).toNat = i + 1 by omega]
      exact q
  cases x; cases hq : Str.join Str.empty (l.map (·.1))
  rw [hq] at this
  simpa using this

theorem call_join0 {prog : Program} {w : World} {A : Around} {E : Value → Shared → Prop} {s : Shared} {t : Tok} {a : Addr} {l : List (Str × Tok)} {Q : Value → Shared → Prop} (hl : s.heap.IsList a (strValues l).toArray) (hsz : (Str.join Str.empty (l.map (·.1))).cps.toList.length ≤ 1000000)
    (hQ : ∀ t' k, Q (.str (Str.join Str.empty (l.map (·.1))) t') { s with toks := k }) : wpAny (model prog w) A (call (.builtin "str.join") [.str (Str.ofString "") t, .ref a]) Q E s := by
  have hok : Builtin.Str.tooLong ((l.map (·.1)).toArray.foldl (· + ·.length + (Str.ofString "").length) 0) = false := by
    rw [StrLaws.joinTotal]
    have e : (Str.ofString "").length = 0 := by decide +kernel
    rw [e]
    unfold Builtin.Str.tooLong
    simp only [decide_eq_false_iff_not]
    rw [join0_cps] at hsz
    simp only [List.length_map, sizeLine_eq, List.length_flatMap] at hsz ⊢
    have : (l.map fun y => y.1.length).sum = (l.map fun y => y.1.cps.toList.length).sum := by congr 1
    simp [Function.comp_def] at *
    omega
  refine call_meets F.slot_str_join (typeIs_str _ _ _) F.entry_str_join (F.args_str_join_2 _ _) (meets_str_join_list _ t a l hok) ⟨hl, post_join l ⟨joinFit_length hok, fun t' k => ?_⟩⟩
  show Q (.str (Builtin.Str.glued _ _) t') _
  rw [StrLaws.glued_eq_join]
  exact hQ t' k


theorem c_octets {prog : Program} {w : World} {A : Around} {E : Value → Shared → Prop} {s : Shared} {mg mb : Str → Option Value} {mean : ExcName → Option Value} {loose : List Str} {Q : Value → Shared → Prop} {x : Str} {t : Tok}
   (X : (hd.heap_39 w.params).In s.heap) (T : Top hd.view_39 loose mean mg mb s.heap) (hh : A.handled = none) (hdp : A.depth + 3 < 1000) (hun : A.units + 50 < 9900)
   (hx : ∀ c ∈ x.cps, c < 128) (hsz : x.length ≤ 1100)
   (hQ : ∀ h' tk t', (∀ b o, s.heap.get? b = some o → h'.get? b = some o) → Q (.str x t') { s with heap := h', toks := tk }) :
   wpAny (model prog w) A (call (.ref 124) [.str (tokStr x) t]) Q E s := by
  k_dflt (refine' enterKC (binds := [(Str.ofString "token", .str (tokStr x) t)]) X ?lim ?k6 ?k7 ?k8 ?k9 ?kB ?kD ?c2 ?c3 ?c4 ?_; (case k6 => k_is); (case k7 => k_is); (case k9 => exact BindsTo.of_eq rfl); (case kB => exact rfl); (case kD => decide +kernel); (case c2 => exact rfl); (case c3 => exact rfl); (case c4 => exact rfl); (case k8 => (show A.depth < 1000; omega)); (case lim => exact T.nolimit))
  intro L' h₁ tk cells F' N' Y'
  k_cells Y'
  try simp only [List.cons_append, List.nil_append] at N'
  try dsimp only
  try k_fold
  k_steps
  rename Fr _ _ _ _ => F2
  rename News _ _ _ _ => N2
  have n1 := N2 _ (.tail _ (.head _))
  have n2 := N2 _ (.tail _ (.tail _ (.head _)))
  refine assign_cells (c1 := L' + 1) (c2 := L' + 1 + 1) hh ⟨_, (N2 _ (.head _)).1, rfl, _, rfl⟩ rfl rfl rfl rfl rfl (Nat.ne_of_lt (Nat.lt_succ_self _)) ⟨_, n2.1, by assumption⟩ ⟨_, n1.1, by assumption⟩ ?_
  intro h3 hv1 hv2 hk3
  obtain ⟨o1, ho1, hd1⟩ := hv1
  obtain ⟨o2, ho2, hd2⟩ := hv2
  have F3 := fr_but F2 n2.2.2 n2.2.1 n1.2.2 n1.2.1 hk3
  have N3 : News s.heap L' h3 [(L' + 1, o1), (L' + 1 + 1, o2)] := by
    intro p hp
    rcases List.mem_cons.mp hp with rfl | hp
    · exact ⟨ho1, n2.2⟩
    · rw [List.mem_singleton.mp hp]; exact ⟨ho2, n1.2⟩
  clear F2 N2 n1 n2
  k_steps
  have hlen : (tokStr x).length ≤ 400000 := by
    rw [tokStr_length hx]; omega
  refine call_rstrip (by rw [sizeLine_eq]; omega) ?_
  intro t4 k4
  rw [rstrip_tok hx]
  k_steps
  refine unheld ?_
  rename Fr _ _ _ _ => F5
  rename News _ _ _ _ => N5
  have h256 : ∀ c ∈ x.cps.toList, c < 256 := fun c hc => Nat.lt_trans (hx c (Array.mem_toList_iff.mp hc)) (by decide)
  have hdig := (dig64_facts h256).1
  have hdl : 6 * (dig64 x.cps.toList).length = 8 * x.cps.toList.length + more64 x.cps.toList ∧ more64 x.cps.toList < 8 := ⟨(dig64_facts h256).2.1, (dig64_facts h256).2.2.2.1⟩
  have hxl : x.cps.toList.length = x.length := by simp [Str.length]
  refine iterStr (fun i m news => (∃ o1 o2, news = [(L' + 1, o1), (L' + 1 + 1, o2)] ∧ (∃ t, o1.data = .cell (some (.int (val 64 ((dig64 x.cps.toList).take i) : Int) t))) ∧ (∃ t, o2.data = .cell (some (.int ((6 * i : Nat) : Int) t)))) ∧
    (∃ t, m (Str.ofString "signs") = some (.str (Str.ofString "ABCDEFGHIJKLMNOPQRSTUVWXYZabcdefghijklmnopqrstuvwxyz0123456789-_") t))) hh F5 N5 ⟨⟨o1, o2, rfl, ⟨_, hd1⟩, ⟨_, hd2⟩⟩, ⟨_, rfl⟩⟩ ?_ ?_
  · rintro i c u m₁ news₁ h tk I o hc hoff ⟨⟨o1, o2, rfl, ⟨tA, hd1⟩, ⟨tB, hd2⟩⟩, ⟨tC, e1⟩⟩ F2 N2 Qf hend
    have hi : i < (dig64 x.cps.toList).length := by
      rcases Nat.lt_or_ge i (dig64 x.cps.toList).length with h | h
      · exact h
      · rw [show (digStr x).cps = ((dig64 x.cps.toList).map sgc).toArray from rfl, Array.getElem?_eq_none (by simpa using h)] at hc; cases hc
    have hc' : c = sgc ((dig64 x.cps.toList)[i]) := by
      rw [show (digStr x).cps = ((dig64 x.cps.toList).map sgc).toArray from rfl] at hc
      simp [hi] at hc
      exact hc.symm
    subst hc'
    have hd := hdig _ (List.getElem_mem hi)
    have htake : val 64 ((dig64 x.cps.toList).take (i + 1)) = val 64 ((dig64 x.cps.toList).take i) * 64 + (dig64 x.cps.toList)[i] := by
      rw [List.take_add_one, List.getElem?_eq_getElem hi]; exact val_snoc 64 _ _
    generalize (dig64 x.cps.toList)[i] = d at *
    have hne1 := @neN (L' + 1) I (hoff (L' + 1, o1) (.head _))
    have hne2 := @neN (L' + 1 + 1) I (hoff (L' + 1 + 1, o2) (.tail _ (.head _)))
    replace F2 := fr_put (x := Str.ofString "signs") F2 e1
    clear e1
    k_steps
    rename Fr _ _ _ _ => F3
    rename News _ _ _ _ => N3
    have n1 := N3 _ (.tail _ (.head _))
    have n2 := N3 _ (.tail _ (.tail _ (.head _)))
    have n3 := N3 _ (.tail _ (.tail _ (.tail _ (.head _))))
    rw [find_sg d hd] at N3
    refine assign_cells (c1 := L' + 1) (c2 := L' + 1 + 1) hh ⟨_, (N3 _ (.head _)).1, rfl, _, rfl⟩ rfl rfl rfl rfl rfl (Nat.ne_of_lt (Nat.lt_succ_self _)) ⟨_, n1.1, hd1⟩ ⟨_, n2.1, hd2⟩ ?_
    intro h4 hv1 hv2 hk4
    obtain ⟨o1', ho1, hd1'⟩ := hv1
    obtain ⟨o2', ho2, hd2'⟩ := hv2
    have F4 := fr_but F3 n1.2.2 n1.2.1 n2.2.2 n2.2.1 hk4
    have N4 : News s.heap L' h4 ([(L' + 1, o1'), (L' + 1 + 1, o2')] ++ [(I, o)]) := by
      intro p hp
      rcases List.mem_cons.mp hp with rfl | hp
      · exact ⟨ho1, n1.2⟩
      · rcases List.mem_cons.mp hp with rfl | hp
        · exact ⟨ho2, n2.2⟩
        · rw [List.mem_singleton.mp hp]; exact ⟨hk4 _ _ (Ne.symm hne1) (Ne.symm hne2) n3.1, n3.2⟩
    k_steps
    refine hend _ _ ⟨_, _, _, [(L' + 1, o1'), (L' + 1 + 1, o2')], rfl, F4, N4, ?_, ⟨o1', o2', rfl, cell_int hd1' ?_, cell_int hd2' ?_⟩, ⟨_, rfl⟩⟩
    · intro p hp
      rcases List.mem_cons.mp hp with rfl | hp
      · simpa using hne1
      · rw [List.mem_singleton.mp hp]; simpa using hne2
    · rw [htake]; omega
    · omega
  · rintro m₁ news₁ h tk ⟨⟨o1, o2, rfl, ⟨tA, hd1⟩, ⟨tB, hd2⟩⟩, ⟨tC, e1⟩⟩ F2 N2
    have hsize : (digStr x).cps.size = (dig64 x.cps.toList).length := by simp [digStr]
    rw [hsize] at hd1 hd2
    rw [List.take_length] at hd1
    k_steps
    refine ListComp_DCr (h₀ := s.heap) (L := L') (m := m₁) (pz := fun _ => true) (d := fun k => .str ⟨#[val 256 x.cps.toList / 2 ^ (8 * (x.length - k.toNat)) % 256]⟩) hh rfl (by decide) rfl (by decide) rfl ?_ (fun _ => rfl)
    refine wpAny_mono (Q := fun xv s₁ => Held _) ?_ (fun _ _ x => x) (fun _ _ x => x)
    k_steps
    rename IsRange _ _ _ _ _ _ _ _ => hR
    rename Fr _ _ _ _ => F6
    rename News _ _ _ _ => N6
    have hmany : (((6 * (dig64 x.cps.toList).length : Nat) : Int).fdiv 8 + 1) = (x.length : Int) + 1 := by
      rw [Int.fdiv_eq_ediv_of_nonneg _ (by decide)]
      have := hdl.1
      have := hdl.2
      omega
    rw [hmany] at hR
    refine unheld ⟨[(L' + 1, o1), (L' + 1 + 1, o2)], _, 1, _, 1, _, _, _, x.length, rfl, hR, ?_, ?_, by rw [sizeLine_eq]; omega, F6, N6, ?_, ?_, ?_⟩
    · exact small_oct hsz
    · unfold Builtin.Range.rangeSize
      simp only [Int.reduceLT, gt_iff_lt, if_true]
      split <;> omega
    · intro C a v s₂ m₂ E' hC ha hv hn hm hk
      exact wpAny_pure ⟨rfl, _, _, rfl, fun _ _ e => e⟩
    · intro C a v s₂ m₂ E' hC ha hv _ hn hm hk
      obtain ⟨tv, rfl⟩ := hv
      have ha1 : 1 ≤ a ∧ a ≤ (x.length : Int) := by
        unfold rangeInts at ha
        obtain ⟨i, hi, rfl⟩ := List.mem_map.mp ha
        have := List.mem_range.mp hi
        omega
      have hex : 0 ≤ ((6 * (dig64 x.cps.toList).length : Nat) : Int) - 8 * a ∧ ((6 * (dig64 x.cps.toList).length : Nat) : Int) - 8 * a ≤ 8900 := by
        have := hdl.1
        have := hdl.2
        omega
      k_steps
      · have e : (((val 64 (dig64 x.cps.toList) : Int).fdiv (2 ^ (((6 * (dig64 x.cps.toList).length : Nat) : Int) - 8 * a).toNat)).fmod 256).toNat = val 256 x.cps.toList / 2 ^ (8 * (x.length - a.toNat)) % 256 := oct_eq (dig64_facts h256).2.2.1 ha1 (by have := hdl.1; omega)
        rw [e]
        exact .str _ _
      · exact ⟨_, _, rfl, fun _ _ e => e⟩
    · intro D ys h' tk' F7 N7 hD hlD hnp hca
      k_steps
      refine unheld ?_
      have hft : ((rangeInts 1 1 x.length).filter fun _ => true) = rangeInts 1 1 x.length := by simp
      rw [hft] at hca
      obtain ⟨l, rfl, hm⟩ := strs_of_carried hca
      have hj := join_oct hm h256
      refine call_join0 hlD (by rw [hj, hxl]; exact Nat.le_trans hsz (by decide)) ?_
      intro t' k
      rw [hj]
      exact hQ _ _ _ F7.keep
end Mine
end

section
theorem Mine.offMKept : True := by w_top off; trivial
open PySem PySem.W PyProof.Rows PySem.Calls PySem.Spec
set_option maxRecDepth 100000
set_option maxHeartbeats 2000000
namespace Mine
theorem fillH : (fun (_ : OpenLaw) (_ : Params → Frag) => True) PySem.Challenge.rw_mr0112_01 hd.heap_39 := by k_fill; trivial

mutual
def T.kept : T → T
  | .mk ag dl ks => if ag.isEmpty then .mk [] none [] else .mk ag dl (kepts ks)
def kepts : List T → List T
  | [] => []
  | t :: ts => t.kept :: kepts ts
end
theorem kept_mk (ag : List Str) (dl : Option Int) (ks : List T) : (T.mk ag dl ks).kept = if ag.isEmpty then .mk [] none [] else .mk ag dl (kepts ks) := by rw [T.kept]
theorem kepts_eq : ∀ ts : List T, kepts ts = ts.map T.kept
  | [] => rfl
  | t :: ts => by rw [kepts, kepts_eq ts]; rfl

/-! a record whose objects all lie at addresses that `ok` names -/
mutual
inductive RecIn (h : Heap) (ok : Addr → Prop) : Value → T → Prop
  | mk {a g k : Addr} {dv : Value} {n1 n2 n3 : Nat} {l : List (Str × Tok)} {kvs : List Value} {dl : Option Int} {ks : List T} :
      ok a → ok g → ok k → h.get? a = some (W.listOf [Value.ref g, dv, Value.ref k].toArray n1) → h.get? g = some (W.listOf (strValues l).toArray n2) → DlVal dv dl → h.get? k = some (W.listOf kvs.toArray n3) → RecsIn h ok kvs ks → RecIn h ok (.ref a) (.mk (l.map (·.1)) dl ks)
inductive RecsIn (h : Heap) (ok : Addr → Prop) : List Value → List T → Prop
  | nil : RecsIn h ok [] []
  | cons {v : Value} {t : T} {vs : List Value} {ts : List T} : RecIn h ok v t → RecsIn h ok vs ts → RecsIn h ok (v :: vs) (t :: ts)
end
mutual
theorem RecIn.keeps {h h' : Heap} {ok ok' : Addr → Prop} (hk : ∀ b o, ok b → h.get? b = some o → h'.get? b = some o ∧ ok' b) : ∀ {v : Value} {t : T}, RecIn h ok v t → RecIn h' ok' v t
  | _, _, .mk o1 o2 o3 h1 h2 h3 h4 h5 => .mk (hk _ _ o1 h1).2 (hk _ _ o2 h2).2 (hk _ _ o3 h4).2 (hk _ _ o1 h1).1 (hk _ _ o2 h2).1 h3 (hk _ _ o3 h4).1 (h5.keeps hk)
theorem RecsIn.keeps {h h' : Heap} {ok ok' : Addr → Prop} (hk : ∀ b o, ok b → h.get? b = some o → h'.get? b = some o ∧ ok' b) : ∀ {vs : List Value} {ts : List T}, RecsIn h ok vs ts → RecsIn h' ok' vs ts
  | _, _, .nil => .nil
  | _, _, .cons h1 h2 => .cons (h1.keeps hk) (h2.keeps hk)
end
mutual
theorem RecIn.forget {h : Heap} {ok : Addr → Prop} : ∀ {v : Value} {t : T}, RecIn h ok v t → Rec h v t
  | _, _, .mk _ _ _ h1 h2 h3 h4 h5 => .mk h1 h2 h3 h4 h5.recs
theorem RecsIn.recs {h : Heap} {ok : Addr → Prop} : ∀ {vs : List Value} {ts : List T}, RecsIn h ok vs ts → Recs h vs ts
  | _, _, .nil => .nil
  | _, _, .cons h1 h2 => .cons h1.forget h2.recs
end
mutual
theorem Rec.inAll {h : Heap} : ∀ {v : Value} {t : T}, Rec h v t → RecIn h (fun _ => True) v t
  | _, _, .mk h1 h2 h3 h4 h5 => .mk trivial trivial trivial h1 h2 h3 h4 h5.inAll
theorem Recs.inAll {h : Heap} : ∀ {vs : List Value} {ts : List T}, Recs h vs ts → RecsIn h (fun _ => True) vs ts
  | _, _, .nil => .nil
  | _, _, .cons h1 h2 => .cons h1.inAll h2.inAll
end
theorem RecsIn.get {h : Heap} {ok : Addr → Prop} : ∀ {vs : List Value} {ts : List T}, RecsIn h ok vs ts → ∀ {i : Nat} {v : Value}, vs[i]? = some v → ∃ t, ts[i]? = some t ∧ RecIn h ok v t
  | _, _, .nil, i, v, e => by simp at e
  | _, _, .cons h1 h2, 0, v, e => by simp at e; subst e; exact ⟨_, rfl, h1⟩
  | _, _, .cons h1 h2, i + 1, v, e => by simp at e; obtain ⟨t, e1, e2⟩ := h2.get e; exact ⟨t, by simpa using e1, e2⟩
theorem recsIn_each {h : Heap} {ok : Addr → Prop} {f : T → T} : ∀ {ts : List T} {ys : List Value}, ys.length = ts.length → (∀ (i : Nat) (y : Value), ys[i]? = some y → ∀ (t : T), ts[i]? = some t → RecIn h ok y (f t)) → RecsIn h ok ys (ts.map f)
  | [], [], _, _ => .nil
  | [], _ :: _, e, _ => by simp at e
  | _ :: _, [], e, _ => by simp at e
  | t :: ts, y :: ys, e, hy => .cons (hy 0 y rfl t rfl) (recsIn_each (by simpa using e) fun i z hz u hu => hy (i + 1) z (by simpa using hz) u (by simpa using hu))

def KeptC (w : World) (t : T) : Prop := ∀ {prog : Program} {dp un : Nat} {gd : Option (List Code)} {outer : List Env} {base : Heap} {E : Value → Shared → Prop} {s : Shared} {mg mb : Str → Option Value} {mean : ExcName → Option Value} {loose : List Str} {Q : Value → Shared → Prop} {v : Value} (ok : Addr → Prop),
  (hd.heap_39 w.params).In s.heap → Top hd.view_39 loose mean mg mb s.heap → Below (A5 dp un gd outer) base outer s.heap → dp + 10 * t.dep + 5 < recursionLimit → un + 100 * t.dep + 100 < cLine → (∀ b, s.heap.get? b = none → ok b) → RecIn s.heap ok v t →
  (∀ h' tk v', (∀ b o, s.heap.get? b = some o → h'.get? b = some o) → RecIn h' ok v' t.kept → Q v' { s with heap := h', toks := tk }) →
  wpAny (model prog w) (A5 dp un gd outer) (call (.ref 136) [v]) Q E s

theorem strOk_low {x : Str} (h : ∀ c ∈ x.cps, c < 128) : PyData.strOk x = true := by
  unfold PyData.strOk
  rw [Array.all_eq_true']
  intro c hc
  have := h c hc
  simp; omega
theorem canLay_strs : ∀ {l : List Str}, (∀ x ∈ l, ∀ c ∈ x.cps, c < 128) → PyData.canLayAll0 (l.map .str) = true
  | [], _ => by simp [PyData.canLayAll0]
  | x :: l, h => by
    simp only [List.map_cons, PyData.canLayAll0, PyData.canLay0, Bool.and_eq_true]
    exact ⟨strOk_low (h x (.head _)), canLay_strs fun y hy => h y (.tail _ hy)⟩
theorem canLay_dl (dl : Option Int) : (dlPy dl).canLay0 = true := by
  cases dl <;> simp [dlPy, PyData.canLay0]
theorem canLayAll_of : ∀ {l : List PyData}, (∀ d ∈ l, d.canLay0 = true) → PyData.canLayAll0 l = true
  | [], _ => by simp [PyData.canLayAll0]
  | x :: l, h => by
    simp only [PyData.canLayAll0, Bool.and_eq_true]
    exact ⟨h x (.head _), canLayAll_of fun y hy => h y (.tail _ hy)⟩
theorem Fit.lay {t : T} (h : Fit t) : t.py.canLay0 = true := by
  induction h with
  | mk ha hd hl hn hk hf ih =>
    rename_i ag dl ks
    rw [T.py, pys_eq]
    simp only [PyData.canLay0, PyData.canLayAll0, Bool.and_eq_true, canLay_dl, and_true, true_and]
    refine ⟨canLay_strs fun x hx c hc => (ha x hx c hc).1, canLayAll_of fun d hd => ?_⟩
    obtain ⟨k, hk, rfl⟩ := List.mem_map.mp hd
    exact ih k hk
theorem depth_nil : (PyData.list []).depth ≤ 2 := by decide

local macro_rules | `(tactic| k_room) => `(tactic| ((try simp only [depth_mark, depth_under_make, depth_under_kw, depth_in1, depth_deeper]); (show (_ : Nat) < 1000); (try dsimp only); omega))
local macro_rules | `(tactic| k_units) => `(tactic| ((try simp only [units_in1, units_deeper, Around.mark_units]); (show (_ : Nat) < 9900); (try dsimp only); omega))
local macro_rules | `(tactic| walk_at "eval ListComp") => `(tactic| (k_here; (with_reducible apply compL'); (case hh => with_unfolding_all rfl); (case hclos => with_unfolding_all rfl); (case hcell => decide); (case hkind => with_unfolding_all rfl); (case hnames => decide); (case hx => with_unfolding_all rfl); (case hs => intro _; with_unfolding_all rfl)))
local macro_rules | `(tactic| walk_at "newList") => `(tactic| (k_here; (with_reducible show wpAny _ _ (newList (_ :: _ :: Value.ref _ :: _)) _ _ _); refine held ?_))
local macro_rules | `(tactic| walk_at "call ref") => `(tactic| (k_here; (with_reducible show wpAny _ _ (call (Value.ref 136) _ _) _ _ _); refine held ?_))

theorem kept_step {w : World} {t : T} (hf : Fit t) (IH : ∀ k ∈ (match t with | .mk _ _ ks => ks), KeptC w k) : KeptC w t := by
  obtain ⟨ag, dl, ks⟩ := t
  dsimp only at IH
  intro prog dp un gd outer base E s mg mb mean loose Q v ok X T B hdp hun hok hr hQ
  cases hr
  rename_i a g k dv n1 n2 n3 l kvs hoa hog hko hla hlg hlk hdv rk
  have Lla := isList_at hla
  have Llg := isList_at hlg
  have Llk := isList_at hlk
  rw [T.dep] at hdp hun
  replace hdp : dp + 10 * (1 + deps ks) + 5 < 1000 := hdp
  replace hun : un + 100 * (1 + deps ks) + 100 < 9900 := hun
  k_dflt (refine' enterK (binds := [(Str.ofString "record", .ref a)]) X ?lim ?k6 ?k7 ?k8 ?k9 ?kB ?c2 ?c3 ?c4 ?c5 ?_; (case k6 => k_is); (case k7 => k_is); (case k9 => first | exact BindsTo.of_eq rfl | exact binds_K (by k_in) rfl (by k_is) rfl rfl rfl); (case c5 => decide); (case kB => exact locs rfl); (case c2 => exact rfl); (case c3 => exact rfl); (case c4 => exact rfl); (case k8 => k_room); (case lim => exact T.nolimit))
  intro L' h₁ F' N'
  rw [look1] at F'
  try dsimp only
  try k_fold
  k_steps
  rename Fr s.heap L' _ _ => F2
  rename News s.heap L' _ _ => N2
  have hfa : ∀ x ∈ l.map (·.1), ∀ c ∈ x.cps, c < 128 ∧ c ≠ 10 := by cases hf with | mk a b c d e f => exact a
  refine SeqAt.compareNe_reads (da := .list ((l.map (·.1)).map .str)) (db := .list []) (Reads.list (F2.keep _ _ hlg) rfl rfl (by rw [List.toList_toArray]; exact readsAll_strValues _ l)) (Reads.list (N2 _ (.head _)).1 rfl rfl .nil) ?_ ?_ ?_ ?_
  · rw [PyData.canLay0]; exact canLay_strs fun x hx c hc => (hfa x hx c hc).1
  · decide
  · have := Nat.min_le_right (PyData.list ((l.map (·.1)).map .str)).depth (PyData.list []).depth
    have := depth_nil
    show un + 3 + _ < 9900
    omega
  rw [kept_mk] at hQ
  by_cases hcl : l = []
  · subst hcl
    have e : (!PyData.eqv (.list ((([] : List (Str × Tok)).map (·.1)).map .str)) (.list [])) = false := by simp [PyData.eqv, PyData.eqvAll]
    rw [e]
    replace hQ := hQ
    simp only [List.map_nil, List.isEmpty_nil, if_true] at hQ
    k_steps
    rename Fr s.heap L' _ _ => F3
    rename News s.heap L' _ _ => N3
    have n2 := N3 _ (.head _)
    have n3 := N3 _ (.tail _ (.head _))
    refine unheld (wpAny_newList ?_)
    exact hQ _ _ _ (fun b o e => Heap.get?_push_of_some _ (F3.keep _ _ e)) (.mk (l := []) (kvs := []) (dl := none) (n1 := 0) (hok _ (next_is_new F3)) (hok _ n3.2.2) (hok _ n2.2.2) (Heap.get?_push_size _ rfl) (Heap.get?_push_of_some _ n3.1) rfl (Heap.get?_push_of_some _ n2.1) .nil)
  · have e : (!PyData.eqv (.list ((l.map (·.1)).map .str)) (.list [])) = true := by
      cases l with
      | nil => exact absurd rfl hcl
      | cons => simp [PyData.eqv, PyData.eqvAll]
    rw [e]
    have e2 : (l.map (·.1)).isEmpty = false := by
      cases l with
      | nil => exact absurd rfl hcl
      | cons => rfl
    simp only [e2, Bool.false_eq_true, if_false] at hQ
    k_steps
    rename Fr s.heap L' _ _ => F3
    rename News s.heap L' _ _ => N3
    have hlen := rk.recs.length
    have hfk : ks.length ≤ 1000 := by cases hf with | mk a b c d e f => exact e
    have hfr : ∀ k ∈ ks, Fit k := by cases hf with | mk a b c d e f => exact f
    refine ⟨k, kvs, rfl, Llk.at fun o e => F3.keep _ o e, by rw [hlen, sizeLine_eq]; omega, fun i y h bad => ∀ t, ks[i]? = some t → RecIn h (fun b => ok b ∧ b ∉ bad) y t.kept, fun i y h h' bad r hk t ht => (r t ht).keeps fun b o hb e => ⟨hk b o hb.2 e, hb⟩, ?_, ?_⟩
    · intro I D C i v s₃ m₃ E' hv hI hD hC hoI hoD hn hm hk
      obtain ⟨t, ht, hrec⟩ := rk.get hv
      have hmem : t ∈ ks := List.mem_of_getElem? ht
      have hdep := dep_le hmem
      k_steps
      refine unheld ?_
      rename Fr s.heap L' _ _ => F4
      refine IH t hmem (fun b => ok b ∧ b ∉ [C, I, D]) (X.keeps F4.keep) (T.keeps F4.keep) ((Below.push B F4)) (by show dp + 1 + 10 * t.dep + 5 < 1000; omega) (by show un + 3 + 100 * t.dep + 100 < 9900; omega) ?_ ?_ ?_
      · intro b hb
        have hb1 : s.heap.get? b = none := by
          cases q : s.heap.get? b with
          | none => rfl
          | some o => have := F4.keep _ _ q; rw [hb] at this; cases this
        refine ⟨hok b hb1, fun hm => ?_⟩
        obtain ⟨oI, hoI⟩ := hoI
        obtain ⟨oD, hoD⟩ := hoD
        obtain ⟨oC, _, _, hoC, _⟩ := id hn
        rcases List.mem_cons.mp hm with e | hm
        · rw [e, hoC] at hb; cases hb
        · rcases List.mem_cons.mp hm with e | hm
          · rw [e, hoI] at hb; cases hb
          · rw [List.mem_singleton.mp hm, hoD] at hb; cases hb
      · refine hrec.keeps fun b o hb e => ⟨F4.keep _ _ e, hb, fun hm => ?_⟩
        have e3 := F3.keep _ _ e
        rcases List.mem_cons.mp hm with q | hm
        · rw [q] at e3; exact absurd (e3.symm.trans hC) (by simp)
        · rcases List.mem_cons.mp hm with q | hm
          · rw [q] at e3; exact absurd (e3.symm.trans hI) (by simp)
          · rw [List.mem_singleton.mp hm] at e3; exact absurd (e3.symm.trans hD) (by simp)
      · intro h5 tk5 v5 hk5 hr5
        exact ⟨fun t' ht' => by rw [ht] at ht'; cases ht'; exact hr5, _, _, rfl, hk5⟩
    · intro I D C h4 tk4 ys n4 hD hgD hys hyR hk4
      have F3k := F3.keep
      replace F3 := F3.keeps hk4
      replace N3 := News.grown N3 hk4
      have rk' : RecsIn h4 (fun b => ok b ∧ b ∉ [C, I, D]) ys.toList (ks.map Mine.T.kept) := recsIn_each (by rw [Array.length_toList, hys, hlen]) fun i y hy => hyR i y (by simpa using hy)
      k_steps
      refine unheld (wpAny_newList ?_)
      have hDs : s.heap.get? D = none := by
        cases q : s.heap.get? D with
        | none => rfl
        | some o => have := F3k _ _ q; rw [hD] at this; cases this
      refine hQ _ _ _ (fun b o e => Heap.get?_push_of_some _ (F3.keep _ _ e)) (.mk (n1 := 0) (kvs := ys.toList) (hok _ (next_is_new F3)) hog (hok _ hDs) (Heap.get?_push_size _ rfl) (Heap.get?_push_of_some _ (F3.keep _ _ hlg)) hdv (Heap.get?_push_of_some _ hgD) ?_)
      rw [kepts_eq]
      exact rk'.keeps fun b o hb e => ⟨Heap.get?_push_of_some _ e, hb.1⟩

theorem kept_all {w : World} : ∀ (n : Nat) (t : T), t.dep ≤ n → Fit t → KeptC w t := by
  intro n
  induction n with
  | zero => intro t h; obtain ⟨ag, dl, ks⟩ := t; rw [T.dep] at h; omega
  | succ n ih =>
    intro t h hf
    refine kept_step hf ?_
    obtain ⟨ag, dl, ks⟩ := t
    intro k hk
    have hk' : k ∈ ks := hk
    have hfk : Fit k := by cases hf with | mk a b c d e f => exact f k hk'
    rw [T.dep] at h
    have := dep_le hk'
    exact @ih k (by omega) hfk
theorem c_kept {w : World} {t : T} (hf : Fit t) : KeptC w t := @kept_all w t.dep t (Nat.le_refl _) hf
end Mine
end

section
local macro_rules | `(tactic| walk_at "own MLen 0") => `(tactic| fail)
theorem Mine.offMLen : True := by w_top off; trivial
open PySem PySem.W PyProof.Rows PySem.Calls PySem.Spec
set_option maxRecDepth 100000
set_option maxHeartbeats 2000000
namespace Mine
theorem fillI : (fun (_ : OpenLaw) (_ : Params → Frag) => True) PySem.Challenge.rw_mr0112_01 hd.heap_39 := by k_fill; trivial

def LenC (w : World) (t : T) : Prop := ∀ {prog : Program} {dp un : Nat} {gd : Option (List Code)} {outer : List Env} {base : Heap} {E : Value → Shared → Prop} {s : Shared} {mg mb : Str → Option Value} {mean : ExcName → Option Value} {loose : List Str} {Q : Value → Shared → Prop} {v : Value},
  (hd.heap_39 w.params).In s.heap → Top hd.view_39 loose mean mg mb s.heap → Below (A5 dp un gd outer) base outer s.heap → dp + 10 * t.dep + 5 < recursionLimit → un + 100 * t.dep + 100 < cLine → Rec s.heap v t →
  (∀ h' tk t', (∀ b o, s.heap.get? b = some o → h'.get? b = some o) → Q (.int (t.text.length : Int) t') { s with heap := h', toks := tk }) →
  wpAny (model prog w) (A5 dp un gd outer) (call (.ref 141) [v]) Q E s

local macro_rules | `(tactic| k_room) => `(tactic| ((try simp only [depth_mark, depth_under_make, depth_under_kw, depth_in1, depth_deeper]); (show (_ : Nat) < 1000); (try dsimp only); omega))
local macro_rules | `(tactic| k_units) => `(tactic| ((try simp only [units_in1, units_deeper, Around.mark_units]); (show (_ : Nat) < 9900); (try dsimp only); omega))
local macro_rules | `(tactic| walk_at "eval ListComp") => `(tactic| (k_here; refine held ?_))
local macro_rules | `(tactic| walk_at "call ref") => `(tactic| (k_here; (with_reducible show wpAny _ _ (call (Value.ref 141) _ _) _ _ _); refine held ?_))

local macro_rules | `(tactic| walk_at "newList") => `(tactic| (k_here; (with_reducible show wpAny _ _ (newList []) _ _ _); refine held ?_))
theorem new_led {prog : Program} {w : World} {A : Around} {E : Value → Shared → Prop} {s : Shared} {h₀ : Heap} {L : Addr} {m : Str → Option Value} {news : List (Addr × Obj)} {vs : List Value} {Q : Value → Shared → Prop} (F : Fr h₀ L s.heap m) (N : News h₀ L s.heap news)
    (h : ∀ D h', Fr h₀ L h' m → News h₀ L h' ((D, W.listOf vs.toArray 0) :: news) → (∀ b o, s.heap.get? b = some o → h'.get? b = some o) → (∀ p ∈ news, @Ne Nat p.1 D) → Q (.ref D) { s with heap := h' }) (hsz : vs.length ≤ sizeLine := by rw [sizeLine_eq]; decide) : wpAny (model prog w) A (newList vs) Q E s :=
  wpAny_newList (h _ _ (F.push _) (News.push F N _) (fun _ _ e => Heap.get?_push_of_some _ e) fun p hp => Nat.ne_of_lt (Heap.lt_size (N p hp).1)) (hsz := hsz)
theorem areOf_strs : ∀ l : List (Str × Tok), AreOf .str (strValues l) (l.map (·.1))
  | [] => .nil
  | (x, t) :: l => .cons ⟨t, rfl⟩ (areOf_strs l)

def KV : ItemKind Value := ⟨fun a v => a = v, fun v => some v, fun _ _ h => by rw [h]⟩
def notNone : Value → Bool
  | .none => false
  | _ => true
def dlLen : Value → PyData
  | .int d _ => .int (13 + ((Str.ofString (toString d)).length : Int))
  | _ => .int 0
def dlLens : Option Int → List Int
  | none => []
  | some d => [13 + ((Str.ofString (toString d)).length : Int)]
theorem dl_ints {dv : Value} {dl : Option Int} (h : DlVal dv dl) {ys : List Value} (c : CarriedAll ys (([dv].filter notNone).map dlLen)) : IntsAre ys (dlLens dl) := by
  cases dl with
  | none => cases h; exact CarriedAll.intsOf (as := ([] : List Int)) (f := id) c
  | some d => obtain ⟨t, rfl⟩ := h; exact CarriedAll.intsOf (as := [13 + ((Str.ofString (toString d)).length : Int)]) (f := id) c
theorem ag_len {ag : List Str} {dl : Option Int} {ks : List T} (he : ag.isEmpty = false) (h : (T.mk ag dl ks).text.length ≤ 100000) : ∀ x ∈ ag, x.length ≤ 100000 := by
  intro x hx
  rw [T.text, he] at h
  simp only [Bool.false_eq_true, if_false] at h
  have hm : uaLine x ∈ ag.map uaLine ++ dlLines dl ++ (if ks.isEmpty then [Str.ofString "Allow:"] else alLines ks) := List.mem_append_left _ (List.mem_append_left _ (List.mem_map_of_mem hx))
  have := join_mem_le nl _ _ hm
  have e : (uaLine x).length = (Str.ofString "User-agent: ").length + x.length := Str.length_append _ _
  omega

theorem add_ints' {prog : Program} {w : World} {A : Around} {E : Value → Shared → Prop} {s : Shared} {h₀ : Heap} {L : Addr} {m : Str → Option Value} {news : List (Addr × Obj)} {l b : Addr} {vs ws : List Value} {ns ms : List Int} {Q : Value → Shared → Prop} (F : Fr h₀ L s.heap m) (N : News h₀ L s.heap news) (hl : s.heap.IsList l vs.toArray) (hb : s.heap.IsList b ws.toArray)
    (hi : IntsAre vs ns) (hj : IntsAre ws ms) (hsz : ns.length + ms.length ≤ sizeLine)
    (h : ∀ D h', Fr h₀ L h' m → News h₀ L h' ((D, W.listOf (vs ++ ws).toArray 0) :: news) → IntsAre (vs ++ ws) (ns ++ ms) → Q (.ref D) { s with heap := h' }) :
    wpAny (model prog w) A (binaryOp .Add (.ref l) (.ref b)) Q E s :=
  add_lists_ints (hsz := hsz) F N hl hb hi hj fun h' F' N' hI => h _ h' F' N' hI
theorem ints_each {α : Type} {f : α → Int} : ∀ {ts : List α} {ys : List Value}, ys.length = ts.length → (∀ (i : Nat) (y : Value), ys[i]? = some y → ∀ (t : α), ts[i]? = some t → ∃ tk, y = .int (f t) tk) → IntsAre ys (ts.map f)
  | [], [], _, _ => .nil
  | [], _ :: _, e, _ => by simp at e
  | _ :: _, [], e, _ => by simp at e
  | t :: ts, y :: ys, e, hy => by
    obtain ⟨tk, rfl⟩ := hy 0 y rfl t rfl
    exact .cons _ _ (ints_each (by simpa using e) fun i z hz u hu => hy (i + 1) z (by simpa using hz) u (by simpa using hu))
theorem kids_eqv (ks : List PyData) : (PyData.list ks).eqv (.list []) = ks.isEmpty := by
  cases ks with
  | nil => simp [PyData.eqv, PyData.eqvAll]
  | cons => simp [PyData.eqv, PyData.eqvAll]
def sixes (b : Bool) : List Int := if b then [6] else []
def KidIs (ks : List T) (f : T → Int) (i : Nat) (y : Value) : Prop := ∀ t, ks[i]? = some t → ∃ tk, y = .int (f t) tk
theorem enter_list {h₀ h h' : Heap} {L D : Addr} {m : Str → Option Value} {news : List (Addr × Obj)} {o : Obj} (F : Fr h₀ L h m) (N : News h₀ L h' news) (hD : h.get? D = none) (hD' : h'.get? D = some o) : News h₀ L h' ((D, o) :: news) := by
  intro p hp
  rcases List.mem_cons.mp hp with rfl | hp
  · refine ⟨hD', ?_, ?_⟩
    · rintro rfl
      obtain ⟨o, _, _, e, _⟩ := F.ns
      rw [hD] at e; cases e
    · cases q : h₀.get? D with
      | none => rfl
      | some o' => have := F.keep _ _ q; rw [hD] at this; cases this
  · exact N p hp
def kidLen (t : T) : Int := 8 + ((t.text.length : Int) + 2) / 3 * 4

theorem sum_map_len : ∀ (ks : List T), (∀ k ∈ ks, ∀ c ∈ k.text.cps, c < 128) → ((((ks.map fun t => alLine t.text).map (·.length)).sum : Nat) : Int) = (ks.map kidLen).sum
  | [], _ => rfl
  | k :: ks, h => by
    have ih := sum_map_len ks fun x hx => h x (.tail _ hx)
    simp only [List.map_cons, List.sum_cons]
    rw [← ih]
    have e : (alLine k.text).length = 8 + (k.text.length + 2) / 3 * 4 := by
      unfold alLine
      rw [Str.length_append, tokStr_length (h k (.head _))]
      have : (Str.ofString "Allow: /").length = 8 := by decide +kernel
      omega
    rw [e]
    unfold kidLen
    push_cast
    omega
theorem sum_map_ua : ∀ (ag : List Str), ((((ag.map uaLine).map (·.length)).sum : Nat) : Int) = (ag.map fun x => 12 + (x.length : Int)).sum
  | [] => rfl
  | x :: ag => by
    have ih := sum_map_ua ag
    simp only [List.map_cons, List.sum_cons]
    rw [← ih]
    have e : (uaLine x).length = 12 + x.length := by
      unfold uaLine
      rw [Str.length_append]
      have : (Str.ofString "User-agent: ").length = 12 := by decide +kernel
      omega
    rw [e]
    push_cast
    omega
theorem sum_dl (dl : Option Int) : ((((dlLines dl).map (·.length)).sum : Nat) : Int) = (dlLens dl).sum := by
  cases dl with
  | none => rfl
  | some d =>
    have e : (Str.ofString "Crawl-delay: " ++ Str.ofString (toString d)).length = 13 + (Str.ofString (toString d)).length := by
      rw [Str.length_append]
      have : (Str.ofString "Crawl-delay: ").length = 13 := by decide +kernel
      omega
    simp only [dlLines, dlLens, List.map_cons, List.map_nil, List.sum_cons, List.sum_nil]
    rw [e]
    push_cast
    omega
theorem len_dl (dl : Option Int) : (dlLines dl).length = (dlLens dl).length := by cases dl <;> rfl
theorem len_sum {ag : List Str} {dl : Option Int} {ks : List T} (he : ag.isEmpty = false) (hd : ∀ d, dl = some d → 0 ≤ d ∧ d < 1000) (hk : ∀ k ∈ ks, ∀ c ∈ k.text.cps, c < 128) :
    ((T.mk ag dl ks).text.length : Int) = ((ag.map fun x => 12 + (x.length : Int)) ++ dlLens dl ++ ks.map kidLen ++ sixes ks.isEmpty).sum + (((ag.map fun x => 12 + (x.length : Int)).length + (dlLens dl).length + (ks.map kidLen).length + (sixes ks.isEmpty).length : Nat) : Int) - 1 := by
  rw [T.text, he]
  simp only [Bool.false_eq_true, if_false]
  have hne : ag.map uaLine ++ dlLines dl ++ (if ks.isEmpty then [Str.ofString "Allow:"] else alLines ks) ≠ [] := by
    cases ag with
    | nil => cases he
    | cons => simp
  have hj := join_len _ hne
  have h1 := sum_map_ua ag
  have h2 := sum_dl dl
  have h3 := sum_map_len ks hk
  have h4 := len_dl dl
  simp only [List.map_append, List.sum_append, List.length_append, List.length_map] at hj ⊢
  cases ks with
  | nil =>
    have e6 : (Str.ofString "Allow:").length = 6 := by decide +kernel
    simp only [List.isEmpty_nil, if_true, List.map_cons, List.map_nil, List.sum_cons, List.sum_nil, List.length_cons, List.length_nil, sixes, e6] at hj ⊢
    simp only [List.map_nil, List.sum_nil] at h3
    omega
  | cons k ks =>
    simp only [List.isEmpty_cons, Bool.false_eq_true, if_false, sixes, alLines_eq, List.length_map, List.sum_nil, List.length_nil] at hj ⊢
    omega

theorem len_step {w : World} {t : T} (hf : Fit t) (IH : ∀ k ∈ (match t with | .mk _ _ ks => ks), LenC w k) : LenC w t := by
  obtain ⟨ag, dl, ks⟩ := t
  dsimp only at IH
  intro prog dp un gd outer base E s mg mb mean loose Q v X T B hdp hun hr hQ
  cases hr
  rename_i a g k dv n1 n2 n3 l kvs hla hlg hlk hdv rk
  have Lla := isList_at hla
  have Llg := isList_at hlg
  have Llk := isList_at hlk
  rw [T.dep] at hdp hun
  replace hdp : dp + 10 * (1 + deps ks) + 5 < 1000 := hdp
  replace hun : un + 100 * (1 + deps ks) + 100 < 9900 := hun
  k_dflt (refine' enterK (binds := [(Str.ofString "record", .ref a)]) X ?lim ?k6 ?k7 ?k8 ?k9 ?kB ?c2 ?c3 ?c4 ?c5 ?_; (case k6 => k_is); (case k7 => k_is); (case k9 => first | exact BindsTo.of_eq rfl | exact binds_K (by k_in) rfl (by k_is) rfl rfl rfl); (case c5 => decide); (case kB => exact locs rfl); (case c2 => exact rfl); (case c3 => exact rfl); (case c4 => exact rfl); (case k8 => k_room); (case lim => exact T.nolimit))
  intro L' h₁ F' N'
  rw [look1] at F'
  try dsimp only
  try k_fold
  k_steps
  refine unheld (new_led (by k_asm) (by k_asm) ?_)
  intro D0 h0 F0 N0 _ _
  k_steps
  rename Fr s.heap L' _ _ => F2
  rename News s.heap L' _ _ => N2
  have hfa : ∀ x ∈ l.map (·.1), ∀ c ∈ x.cps, c < 128 ∧ c ≠ 10 := by cases hf with | mk a b c d e f => exact a
  refine SeqAt.compareEq_reads (da := .list ((l.map (·.1)).map .str)) (db := .list []) (Reads.list (F2.keep _ _ hlg) rfl rfl (by rw [List.toList_toArray]; exact readsAll_strValues _ l)) (Reads.list (N2 _ (.head _)).1 rfl rfl .nil) ?_ ?_ ?_ ?_
  · rw [PyData.canLay0]; exact canLay_strs fun x hx c hc => (hfa x hx c hc).1
  · decide
  · have := Nat.min_le_right (PyData.list ((l.map (·.1)).map .str)).depth (PyData.list []).depth
    have := depth_nil
    show un + 3 + _ < 9900
    omega
  by_cases hcl : l = []
  · subst hcl
    have e : (PyData.eqv (.list ((([] : List (Str × Tok)).map (·.1)).map .str)) (.list [])) = true := by simp [PyData.eqv, PyData.eqvAll]
    rw [e]
    have hQ' := hQ
    rw [show (Mine.T.mk (([] : List (Str × Tok)).map (·.1)) dl ks).text = Str.empty by rw [Mine.T.text]; rfl] at hQ'
    k_steps
    refine hQ' _ _ _ F2.keep
  · have e : (PyData.eqv (.list ((l.map (·.1)).map .str)) (.list [])) = false := by
      cases l with
      | nil => exact absurd rfl hcl
      | cons => simp [PyData.eqv, PyData.eqvAll]
    rw [e]
    have e2 : (l.map (·.1)).isEmpty = false := by
      cases l with
      | nil => exact absurd rfl hcl
      | cons => rfl
    k_steps
    have hln : l.length ≤ 1000 := by cases hf with | mk a b c d e f => simpa using d
    have hlk' : ks.length ≤ 1000 := by cases hf with | mk a b c d e f => exact e
    have hfr : ∀ k ∈ ks, Fit k := by cases hf with | mk a b c d e f => exact f
    have hagl : ∀ x ∈ l.map (·.1), x.length ≤ 100000 := ag_len e2 (by cases hf with | mk a b c d e f => exact c)
    have hdl : ∀ d, dl = some d → 0 ≤ d ∧ d < 1000 := by cases hf with | mk a b c d e f => exact b
    refine unheld (ListComp_DCn (K := .str) (h₀ := s.heap) (L := L') (m := fun y => if y = Str.ofString "record" then some (Value.ref a) else none) (pz := fun _ => true) (d := fun x => .int (12 + (x.length : Int))) rfl rfl (by decide) rfl (by decide) rfl ?_ (fun _ => rfl))
    refine wpAny_mono (Q := fun xv s₁ => Held _) ?_ (fun _ _ x => x) (fun _ _ x => x)
    k_steps
    refine unheld ⟨_, g, strValues l, l.map (·.1), rfl, Llg.at fun o e => F2.keep _ o e, areOf_strs l, by rw [sizeLine_eq]; simpa using Nat.le_trans hln (by decide), F2, N2, ?_, ?_, ?_⟩
    · intro C a v s₂ m₂ E' hC ha hv hn hm hk
      exact wpAny_pure ⟨rfl, _, _, rfl, fun _ _ e => e⟩
    · intro C a v s₂ m₂ E' hC ha hv _ hn hm hk
      obtain ⟨tv, rfl⟩ := hv
      have hal : a.length ≤ sizeLine := by have := hagl _ ha; rw [sizeLine_eq]; omega
      k_steps
      · exact .int _ _
      · exact ⟨_, _, rfl, fun _ _ e => e⟩
    · intro D ys h' tk' F3 N3 hD hlD hnp hca
      obtain ⟨nD, N4, ne4⟩ := gn_enter hnp F3 N3 hD
      have hI1 : IntsAre ys ((l.map (·.1)).map fun x => 12 + (x.length : Int)) := by
        rw [List.filter_eq_self.mpr (fun _ _ => rfl)] at hca
        exact CarriedAll.intsOf hca
      clear hca
      k_steps
      refine unheld (ListComp_DCn (K := KV) (h₀ := s.heap) (L := L') (m := fun y => if y = Str.ofString "record" then some (Value.ref a) else none) (pz := notNone) (d := dlLen) rfl rfl (by decide) rfl (by decide) rfl ?_ (fun _ => rfl))
      refine wpAny_mono (Q := fun xv s₁ => Held _) ?_ (fun _ _ x => x) (fun _ _ x => x)
      k_steps
      rename Fr s.heap L' _ _ => F5
      rename News s.heap L' _ _ => N5
      refine unheld ⟨_, _, [dv], [dv], rfl, News.isList N5 (.head _), .cons rfl .nil, by rw [sizeLine_eq]; show 1 ≤ _; decide, F5, N5, ?_, ?_, ?_⟩
      · intro C a v s₂ m₂ E' hC ha hv hn hm hk
        obtain rfl : a = dv := List.mem_singleton.mp ha
        obtain rfl : a = v := hv
        cases dl with
        | none =>
          obtain rfl : a = .none := hdv
          k_steps
          exact ⟨_, _, rfl, fun _ _ e => e⟩
        | some d =>
          obtain ⟨tv, rfl⟩ := hdv
          k_steps
          exact ⟨_, _, rfl, fun _ _ e => e⟩
      · intro C a v s₂ m₂ E' hC ha hv hz hn hm hk
        obtain rfl : a = dv := List.mem_singleton.mp ha
        obtain rfl : a = v := hv
        cases dl with
        | none => obtain rfl : a = .none := hdv; cases hz
        | some d =>
          obtain ⟨tv, rfl⟩ := hdv
          have hd3 := hdl d rfl
          have hd4 := int_text3 hd3.1 hd3.2
          k_steps
          · exact .int _ _
          · exact ⟨_, _, rfl, fun _ _ e => e⟩
      · intro D2 ys2 h2' tk2' F6 N6 hD2 hlD2 hnp2 hca2
        obtain ⟨nD2, N7, ne7⟩ := gn_enter hnp2 F6 N6 hD2
        have hI2 := dl_ints hdv hca2
        clear hca2
        k_steps
        have hn1 : ((l.map (·.1)).map fun x => 12 + (x.length : Int)).length ≤ 1000 := by simpa using hln
        have hn2 : (dlLens dl).length ≤ 1 := by cases dl <;> simp [dlLens]
        refine add_ints' F6 N7 (News.isList N7 (by k_mem)) hlD2 hI1 hI2 (by rw [sizeLine_eq]; omega) ?_
        intro D3 h8 F8 N8 hI8
        clear F6 N7 N6 N5 F5 hlD2
        k_steps
        refine unheld (compL' rfl rfl (by decide) rfl (by decide) rfl ?_ (fun _ => rfl))
        k_steps
        rename Fr s.heap L' _ _ => F9
        rename News s.heap L' _ _ => N9
        refine ⟨k, kvs, rfl, Llk.at fun o e => F9.keep _ o e, by rw [rk.length, sizeLine_eq]; omega, fun i y _ _ => KidIs ks kidLen i y, fun _ _ _ _ _ r _ => r, ?_, ?_⟩
        · intro I D C i v s₃ m₃ E' hv hI hD hC hoI hoD hn hm hk
          obtain ⟨t, ht, hrec⟩ := rk.get hv
          have hmem : t ∈ ks := List.mem_of_getElem? ht
          have hdep := dep_le hmem
          k_steps
          refine unheld ?_
          rename Fr s.heap L' _ _ => F10
          refine IH t hmem (X.keeps F10.keep) (T.keeps F10.keep) ((Below.push B F10)) (by show dp + 1 + 10 * t.dep + 5 < 1000; omega) (by show un + 3 + 100 * t.dep + 100 < 9900; omega) (hrec.keeps F10.keep) ?_
          intro h11 tk11 t11 hk11
          k_steps
          · intro t' ht'
            rw [ht] at ht'
            cases ht'
            unfold kidLen
            rw [← Int.fdiv_eq_ediv_of_nonneg _ (by decide : (0 : Int) ≤ 3)]
            exact ⟨_, rfl⟩
          · exact ⟨_, _, rfl, hk11⟩
        · intro I D C h10 tk10 ys3 n10 hD hgD hys hyR hk10
          have F10 := F9.keeps hk10
          obtain ⟨ys3⟩ := ys3
          have N10 := enter_list F9 (News.grown N9 hk10) hD hgD
          have hI3 : IntsAre ys3 (ks.map kidLen) := ints_each (by have := rk.length; simp at hys; omega) (fun i y hy => hyR i y (by simpa using hy))
          have hn3 : (ks.map kidLen).length ≤ 1000 := by simpa using hlk'
          clear F9 N9
          k_steps
          rename IntsAre _ (_ ++ _ ++ _) => hI11
          clear hI8
          refine unheld (ListComp_DCn (K := KV) (h₀ := s.heap) (L := L') (m := fun y => if y = Str.ofString "lines" then some (Value.ref D3) else if y = Str.ofString "record" then some (Value.ref a) else none) (pz := fun _ => ks.isEmpty) (d := fun _ => .int 6) rfl rfl (by decide) rfl (by decide) rfl ?_ (fun _ => rfl))
          refine wpAny_mono (Q := fun xv s₁ => Held _) ?_ (fun _ _ x => x) (fun _ _ x => x)
          k_steps
          rename Fr s.heap L' _ _ => F12
          rename News s.heap L' _ _ => N12
          refine unheld ⟨_, _, [.ref k], [.ref k], rfl, News.isList N12 (.head _), .cons rfl .nil, by rw [sizeLine_eq]; show 1 ≤ _; decide, F12, N12, ?_, ?_, ?_⟩
          · intro C a v s₂ m₂ E' hC ha hv hn hm hk
            obtain rfl : a = .ref k := List.mem_singleton.mp ha
            obtain rfl : Value.ref k = v := hv
            k_steps
            rename Fr s.heap L' s₂.heap _ => F13
            rename News s.heap L' s₂.heap _ => N13
            refine unheld (new_led F13 N13 ?_)
            clear F13 N13
            intro D0 h0 F13 N13 E13 _
            k_steps
            obtain ⟨as, rr⟩ := (rk.keeps F13.keep).reads
            refine SeqAt.compareEq_reads (da := .list (pys ks)) (db := .list []) (Reads.list (F13.keep _ _ hlk) rfl rfl (by rw [List.toList_toArray]; exact rr)) (Reads.list (N13 _ (.head _)).1 rfl rfl .nil) ?_ ?_ ?_ ?_
            · have h1 := hf.lay
              rw [Mine.T.py] at h1
              simp only [PyData.canLay0, PyData.canLayAll0, Bool.and_eq_true, and_true] at h1
              rw [PyData.canLay0]
              exact h1.2.2
            · decide
            · have := Nat.min_le_right (PyData.list (pys ks)).depth (PyData.list []).depth
              have := depth_nil
              show un + 3 + _ < 9900
              omega
            · rw [kids_eqv, pys_eq, List.isEmpty_map]
              k_steps
              exact ⟨_, _, rfl, E13⟩
          · intro C a v s₂ m₂ E' hC ha hv hz hn hm hk
            k_steps
            · exact .int _ _
            · exact ⟨_, _, rfl, fun _ _ e => e⟩
          · intro D5 ys5 h5' tk5' F13 N13 hD5 hlD5 hnp5 hca5
            obtain ⟨nD5, N14, ne14⟩ := gn_enter hnp5 F13 N13 hD5
            have hI5 : IntsAre ys5 (sixes ks.isEmpty) := by
              cases hq : ks.isEmpty <;> rw [hq] at hca5
              · exact CarriedAll.intsOf (as := ([] : List Int)) (f := id) hca5
              · exact CarriedAll.intsOf (as := ([6] : List Int)) (f := id) hca5
            have hn5 : (sixes ks.isEmpty).length ≤ 1 := by cases ks.isEmpty <;> simp [sixes]
            clear hca5 F12 N12 N13 hnp5
            k_steps
            rename Fr s.heap L' _ _ => F16
            have e := len_sum (dl := dl) (ks := ks) e2 hdl (fun k hk => (hfr k hk).ascii)
            rw [← e]
            exact hQ _ _ _ F16.keep
theorem len_all {w : World} : ∀ (n : Nat) (t : T), t.dep ≤ n → Fit t → LenC w t := by
  intro n
  induction n with
  | zero => intro t h; obtain ⟨ag, dl, ks⟩ := t; rw [T.dep] at h; omega
  | succ n ih =>
    intro t h hf
    refine len_step hf ?_
    obtain ⟨ag, dl, ks⟩ := t
    intro k hk
    have hk' : k ∈ ks := hk
    have hfk : Fit k := by cases hf with | mk a b c d e f => exact f k hk'
    rw [T.dep] at h
    have := dep_le hk'
    exact @ih k (by omega) hfk
theorem c_len {w : World} {t : T} (hf : Fit t) : LenC w t := @len_all w t.dep t (Nat.le_refl _) hf
end Mine
end

section
theorem Mine.offMSplit : True := by w_top off; trivial
open PySem PySem.W PyProof.Rows PySem.Calls PySem.Spec
set_option maxRecDepth 100000
namespace Mine

theorem cut_at {c : Nat} : ∀ {a b x y : List Nat}, a ++ c :: x = b ++ c :: y → c ∉ a → c ∉ b → a = b ∧ x = y
  | [], [], x, y, e, _, _ => by simpa using e
  | [], d :: b, x, y, e, _, h => by simp at e; exact absurd e.1 fun q => h (q ▸ .head _)
  | d :: a, [], x, y, e, h, _ => by simp at e; exact absurd e.1.symm fun q => h (q ▸ .head _)
  | d :: a, d' :: b, x, y, e, h, h' => by
    simp at e
    obtain ⟨rfl, e⟩ := e
    obtain ⟨rfl, rfl⟩ := cut_at (a := a) (b := b) (by simpa using e) (fun q => h (.tail _ q)) fun q => h' (.tail _ q)
    exact ⟨rfl, rfl⟩
theorem join_inj {c : Nat} : ∀ {A B : List Str}, A ≠ [] → B ≠ [] → (∀ p ∈ A, c ∉ p.cps.toList) → (∀ p ∈ B, c ∉ p.cps.toList) → Str.join ⟨#[c]⟩ A = Str.join ⟨#[c]⟩ B → A = B
  | [], _, h, _, _, _, _ => absurd rfl h
  | _, [], _, h, _, _, _ => absurd rfl h
  | [a], [b], _, _, _, _, e => by simp only [Str.join] at e; rw [e]
  | [a], b :: b' :: r, _, _, ha, _, e => by
    rw [join_cons_cons] at e
    simp only [Str.join] at e
    have := congrArg (fun x : Str => x.cps.toList) e
    simp only [cps_toList_append] at this
    exact absurd (by rw [this]; simp) (ha a (.head _))
  | a :: a' :: r, [b], _, _, _, hb, e => by
    rw [join_cons_cons] at e
    simp only [Str.join] at e
    have := congrArg (fun x : Str => x.cps.toList) e
    simp only [cps_toList_append] at this
    exact absurd (by rw [← this]; simp) (hb b (.head _))
  | a :: a' :: r, b :: b' :: r', _, _, ha, hb, e => by
    rw [join_cons_cons, join_cons_cons] at e
    have := congrArg (fun x : Str => x.cps.toList) e
    simp only [cps_toList_append, List.append_assoc] at this
    obtain ⟨e1, e2⟩ := cut_at (by simpa using this) (ha a (.head _)) (hb b (.head _))
    have ih := join_inj (A := a' :: r) (B := b' :: r') (by simp) (by simp) (fun p hp => ha p (.tail _ hp)) (fun p hp => hb p (.tail _ hp)) (str_of_list e2)
    rw [str_of_list e1, ih]

theorem split_join {c : Nat} {l : List Str} (hl : l ≠ []) (h : ∀ p ∈ l, c ∉ p.cps.toList) : Txt.split (Str.join ⟨#[c]⟩ l) ⟨#[c]⟩ = l := by
  refine join_inj (c := c) ?_ hl (StrLaws.split_free _ _) h (StrLaws.join_split _ _)
  intro e
  have := PyProof.Rows.split_pos (Str.join ⟨#[c]⟩ l) ⟨#[c]⟩
  rw [e] at this
  simp at this

theorem kind_le (x : Str) {c : Nat} (h : c < 256) : ¬ Builtin.Str.strKind x < Builtin.Str.strKind ⟨#[c]⟩ := by
  have e : Builtin.Str.strKind ⟨#[c]⟩ = 1 := by unfold Builtin.Str.strKind; rw [if_pos (by simp [h])]
  rw [e]
  unfold Builtin.Str.strKind
  split
  · decide
  · split <;> decide
theorem subAt_one (x : Str) (c i : Nat) : Builtin.Str.subAt x ⟨#[c]⟩ i = true ↔ x.cps.toList[i]? = some c := by
  obtain ⟨⟨l⟩⟩ := x
  unfold Builtin.Str.subAt
  show ((⟨l⟩ : Array Nat).extract i (i + 1) == #[c]) = true ↔ _
  rw [beq_iff_eq]
  constructor
  · intro e
    have e2 := congrArg (fun a : Array Nat => a.toList) e
    simp only [Array.toList_extract] at e2
    have e3 : (List.extract l i (i + 1)) = [c] := by simpa using e2
    simp only [List.extract_eq_take_drop] at e3
    have e4 := congrArg (fun z : List Nat => z[0]?) e3
    simp at e4
    simpa using e4
  · intro e
    apply Array.toList_inj.mp
    simp only [Array.toList_extract, List.extract_eq_take_drop]
    have h : i < l.length := by
      have := (List.getElem?_eq_some_iff.mp e).1; simpa using this
    have : l.drop i = c :: l.drop (i + 1) := by
      rw [List.drop_eq_getElem_cons h]
      have : l[i] = c := by have := (List.getElem?_eq_some_iff.mp e).2; simpa using this
      rw [this]
    simp [this]
theorem splitMax_one {c : Nat} (hc : c < 256) {k v : Str} (h : c ∉ k.cps.toList) : Txt.splitMax (k ++ ⟨#[c]⟩ ++ v) ⟨#[c]⟩ 1 = [k, v] := by
  have hlen : (k ++ ⟨#[c]⟩ ++ v).length = k.length + 1 + v.length := by rw [Str.length_append, Str.length_append]; rfl
  have hcl : (k ++ ⟨#[c]⟩ ++ v).cps.toList = k.cps.toList ++ c :: v.cps.toList := by rw [cps_toList_append, cps_toList_append]; simp
  have hkl : k.cps.toList.length = k.length := by simp [Str.length]
  have at0 : ∀ i, Builtin.Str.subAt (k ++ ⟨#[c]⟩ ++ v) ⟨#[c]⟩ i = true → k.length ≤ i := by
    intro i hi
    rw [subAt_one, hcl] at hi
    rcases Nat.lt_or_ge i k.length with q | q
    · rw [List.getElem?_append_left (by omega)] at hi
      exact absurd (List.mem_of_getElem? hi) h
    · exact q
  have at1 : Builtin.Str.subAt (k ++ ⟨#[c]⟩ ++ v) ⟨#[c]⟩ k.length = true := by
    rw [subAt_one, hcl, List.getElem?_append_right (by omega), hkl]; simp
  have ho : Builtin.Str.occurrences (k ++ ⟨#[c]⟩ ++ v) ⟨#[c]⟩ 0 (k ++ ⟨#[c]⟩ ++ v).length (limitOf (k ++ ⟨#[c]⟩ ++ v) 1) = [k.length] := by
    have hle := StrLaws.occ_length_le (k ++ ⟨#[c]⟩ ++ v) ⟨#[c]⟩ 0 (k ++ ⟨#[c]⟩ ++ v).length (limitOf (k ++ ⟨#[c]⟩ ++ v) 1)
    have hA : StrLaws.At (k ++ ⟨#[c]⟩ ++ v) ⟨#[c]⟩ (k ++ ⟨#[c]⟩ ++ v).length k.length := ⟨by rw [hlen]; show k.length + 1 ≤ _; omega, at1⟩
    rcases StrLaws.occ_head (k ++ ⟨#[c]⟩ ++ v) ⟨#[c]⟩ (limitOf (k ++ ⟨#[c]⟩ ++ v) 1) (Nat.le_refl 1) with ⟨_, hn⟩ | ⟨i, r, e, hi, hn⟩
    · exact absurd hA (hn _)
    · rw [e] at hle ⊢
      have h1 : limitOf (k ++ ⟨#[c]⟩ ++ v) 1 = 1 := rfl
      rw [h1, List.length_cons] at hle
      have hr : r = [] := List.eq_nil_of_length_eq_zero (by omega)
      have := at0 i hi.2
      rcases Nat.lt_or_ge k.length i with q | q
      · exact absurd hA (hn _ q)
      · rw [hr, Nat.le_antisymm q this]
  unfold Txt.splitMax
  rw [if_neg, ho, if_neg (by simp)]
  · show [Builtin.Str.strSub _ 0 k.length, Builtin.Str.strSub _ (k.length + 1) (k ++ ⟨#[c]⟩ ++ v).length] = _
    unfold Builtin.Str.strSub
    have e1 : (⟨(k ++ ⟨#[c]⟩ ++ v).cps.extract 0 k.length⟩ : Str) = k := by
      apply str_of_list
      simp only [Array.toList_extract, List.extract_eq_take_drop, hcl]
      simp [← hkl]
    have e2 : (⟨(k ++ ⟨#[c]⟩ ++ v).cps.extract (k.length + 1) (k ++ ⟨#[c]⟩ ++ v).length⟩ : Str) = v := by
      apply str_of_list
      simp only [Array.toList_extract, List.extract_eq_take_drop, hcl]
      rw [← hkl, List.drop_append]
      have : (k ++ ⟨#[c]⟩ ++ v).length - (k.cps.toList.length + 1) = v.cps.toList.length := by rw [hlen, hkl]; simp [Str.length]
      rw [this, List.drop_eq_nil_of_le (Nat.le_succ _)]
      simp only [List.nil_append, Nat.add_sub_cancel_left, List.drop_succ_cons, List.drop_zero, List.take_length]
    rw [e1, e2]
  · have := kind_le (k ++ ⟨#[c]⟩ ++ v) hc
    simp only [Bool.or_eq_true, decide_eq_true_eq, not_or]
    refine ⟨?_, this⟩
    rw [hlen]
    show ¬ _ < 1
    omega
end Mine
end

section
theorem Mine.offMIter : True := by w_top off; trivial
open PySem PySem.W PyProof.Rows PySem.Calls PySem.Spec
set_option maxRecDepth 100000
namespace Mine

section
variable {prog : Program} {w : World} {A : Around} {E : Value → Shared → Prop} {s : Shared} {env : Env} {h₀ : Heap} {x : Str} {body : List Stmt} {Q : Flow → Shared → Prop}
/-- a for over a list that the frame itself has made -/
theorem iterNew {l : Addr} {vs : List Value} {n : Nat} {m₀ : Str → Option Value} {news : List (Addr × Obj)} (J : Nat → (Str → Option Value) → List (Addr × Obj) → Prop)
    (hh : A.handled = none) (F : Fr h₀ env.locals s.heap m₀) (hl : s.heap.get? l = some (W.listOf vs.toArray n)) (hl0 : h₀.get? l = none) (hlL : l ≠ env.locals) (N : News h₀ env.locals s.heap news) (hj : J 0 m₀ news)
    (turn : ∀ i v m₁ news₁ h tk I o, vs[i]? = some v → I ≠ l → (∀ p ∈ news₁, p.1 ≠ I) → J i m₁ news₁ →
      Fr h₀ env.locals h (fun z => if z = x then some v else m₁ z) → News h₀ env.locals h (news₁ ++ [(I, o), (l, W.listOf vs.toArray n)]) →
      ∀ Qf : Flow → Shared → Prop, (∀ f s₂, TurnEnd h₀ env.locals [I] [(I, o), (l, W.listOf vs.toArray n)] (J (i + 1)) s Q f s₂ → Qf f s₂) → wpAny (model prog w) A (execs body env) Qf E { s with heap := h, toks := tk })
    (done : ∀ m₁ news₁ h tk, J vs.length m₁ news₁ → Fr h₀ env.locals h m₁ → News h₀ env.locals h news₁ → Q .next { s with heap := h, toks := tk }) :
    wpAny (model prog w) A (pyIter (.ref l)) (fun it s₂ => LoopAtV prog w A h₀ env x body Q E it s₂) E s := by
  have hls : s.heap.IsList l vs.toArray := isList_at hl
  have hne : l ≠ s.heap.objs.size := Nat.ne_of_lt (Heap.lt_size hl)
  refine wpAny_pyIter_list hls ?_
  have Wk := Walks.list (prog := prog) (w := w) hh s.heap.objs.size l hne vs.toArray
  have hlen : vs.toArray.size = vs.length := by simp
  rw [hlen] at Wk
  -- the list's own object may not change: it goes into the state of the walk
  have W2 : Walks prog w A s.heap.objs.size [s.heap.objs.size, l] [s.heap.objs.size] vs.length (fun i v => vs.toArray[i]? = some v) (fun i h => (h.IsListIter s.heap.objs.size l i ∧ h.IsList l vs.toArray) ∧ h.get? l = some (W.listOf vs.toArray n)) := by
    refine { sub := Wk.sub, frame := fun i h h' st hk => ⟨Wk.frame i h h' st.1 hk, hk l (by simp) _ st.2⟩, item := ?_, done := ?_, self := ?_ }
    · intro i s' Q' E' hi st hQ
      refine Wk.item i s' Q' E' hi st.1 fun v h₁ tk₁ hPv hst₁ hk₁ => hQ v h₁ tk₁ hPv ⟨hst₁, hk₁ l _ (fun hm => hne (List.mem_singleton.mp hm)) st.2⟩ hk₁
    · intro s' Q' E' st hQ
      exact Wk.done s' Q' E' st.1 hQ
    · intro i s' Q' E' st h
      exact Wk.self i s' Q' E' st.1 h
  generalize hIdef : s.heap.objs.size = I at *
  refine ⟨I, _, _, _, _, _, m₀, news, J, rfl, W2, ?_, ?_, ?_, ⟨⟨⟨_, hIdef ▸ Heap.get?_push_size _ rfl, rfl, rfl⟩, hls.at fun o e => Heap.get?_push_of_some _ e⟩, Heap.get?_push_of_some _ hl⟩, F.push _, (fun p hp => ⟨Heap.get?_push_of_some _ (N p hp).1, (N p hp).2⟩), hj, ?_, ?_⟩
  · intro hm
    rcases List.mem_cons.mp hm with e | hm
    · exact absurd F.ns.lt (by rw [e, hIdef]; exact Nat.lt_irrefl _)
    · exact hlL (List.mem_singleton.mp hm).symm
  · intro b hb
    rw [List.mem_singleton.mp hb, ← hIdef]
    exact next_is_new F
  · intro p hp hI
    exact absurd (Heap.lt_size (N p hp).1) (by rw [List.mem_singleton.mp hI, hIdef]; exact Nat.lt_irrefl _)
  · rintro i v m₁ news₁ s₁ own ⟨hh', tk', rfl⟩ hin hP hJ hoff hown hget hall hst' F₁ N₁
    obtain ⟨o, ho, _⟩ := id hst'.1.1
    have hwr : h₀.get? I = none := by rw [← hIdef]; exact next_is_new F
    have hIo : (I, o) ∈ own := hall I (.head _) hwr o ho
    have hlo : (l, W.listOf vs.toArray n) ∈ own := hall l (.tail _ (.head _)) hl0 _ hst'.2
    have hall' : ∀ p ∈ own, p = (I, o) ∨ p = (l, W.listOf vs.toArray n) := fun p hp => by
      have e2 := hget p hp
      obtain ⟨a, b⟩ := p
      rcases List.mem_cons.mp (hown _ hp) with e | e
      · dsimp only at e e2
        subst e
        dsimp only at ho
        rw [ho] at e2
        left; rw [Option.some.inj e2]
      · have e := List.mem_singleton.mp e
        dsimp only at e e2
        subst e
        have h2 := hst'.2
        dsimp only at h2
        rw [h2] at e2
        right; rw [Option.some.inj e2]
    have hv : vs[i]? = some v := by simpa using hP
    refine wpAny_mono (turn i v m₁ news₁ hh' tk' I o hv (Ne.symm hne) (fun p hp e => hoff p hp (e ▸ .head _)) hJ F₁
      (fun p hp => N₁ p ((List.mem_append.mp hp).elim (fun h => List.mem_append_right _ h) fun h => List.mem_append_left _ (by
        rcases List.mem_cons.mp h with rfl | h
        · exact hIo
        · rw [List.mem_singleton.mp h]; exact hlo))) _ (fun _ _ x => x)) (fun f s₂ p => ?_) fun _ _ e => e
    have back : ∀ {h' : Heap} {news' : List (Addr × Obj)}, News h₀ env.locals h' (news' ++ [(I, o), (l, W.listOf vs.toArray n)]) → News h₀ env.locals h' (own ++ news') := fun N' p hp =>
      N' p ((List.mem_append.mp hp).elim (fun h => List.mem_append_right _ (by
        rcases hall' p h with rfl | rfl
        · exact .head _
        · exact .tail _ (.head _))) fun h => List.mem_append_left _ h)
    cases f with
    | ret v => exact .ret p
    | brk => exact .brk p
    | next => obtain ⟨h', tk, m', news', rfl, F', N', o', j'⟩ := p; exact .next ⟨rfl, h', tk, m', news', rfl, F', back N', o', j'⟩
    | cont => obtain ⟨h', tk, m', news', rfl, F', N', o', j'⟩ := p; exact .cont ⟨rfl, h', tk, m', news', rfl, F', back N', o', j'⟩
  · rintro h' tk m' news' F' N' _ hJ
    exact done m' news' h' tk hJ F' N'
end

/-! a record told by what is known of places -/
mutual
inductive RecP (P : Addr → Obj → Prop) : Value → T → Prop
  | mk {a g k : Addr} {dv : Value} {n1 n2 n3 : Nat} {l : List (Str × Tok)} {kvs : List Value} {dl : Option Int} {ks : List T} :
      P a (W.listOf [Value.ref g, dv, Value.ref k].toArray n1) → P g (W.listOf (strValues l).toArray n2) → DlVal dv dl → P k (W.listOf kvs.toArray n3) → RecsP P kvs ks → RecP P (.ref a) (.mk (l.map (·.1)) dl ks)
inductive RecsP (P : Addr → Obj → Prop) : List Value → List T → Prop
  | nil : RecsP P [] []
  | cons {v : Value} {t : T} {vs : List Value} {ts : List T} : RecP P v t → RecsP P vs ts → RecsP P (v :: vs) (t :: ts)
end
mutual
theorem RecP.mono {P P' : Addr → Obj → Prop} (hk : ∀ b o, P b o → P' b o) : ∀ {v : Value} {t : T}, RecP P v t → RecP P' v t
  | _, _, .mk h1 h2 h3 h4 h5 => .mk (hk _ _ h1) (hk _ _ h2) h3 (hk _ _ h4) (h5.mono hk)
theorem RecsP.mono {P P' : Addr → Obj → Prop} (hk : ∀ b o, P b o → P' b o) : ∀ {vs : List Value} {ts : List T}, RecsP P vs ts → RecsP P' vs ts
  | _, _, .nil => .nil
  | _, _, .cons h1 h2 => .cons (h1.mono hk) (h2.mono hk)
end
mutual
theorem RecP.toIn {P : Addr → Obj → Prop} {h : Heap} {ok : Addr → Prop} (hk : ∀ b o, P b o → h.get? b = some o ∧ ok b) : ∀ {v : Value} {t : T}, RecP P v t → RecIn h ok v t
  | _, _, .mk h1 h2 h3 h4 h5 => .mk (hk _ _ h1).2 (hk _ _ h2).2 (hk _ _ h4).2 (hk _ _ h1).1 (hk _ _ h2).1 h3 (hk _ _ h4).1 (h5.toIn hk)
theorem RecsP.toIn {P : Addr → Obj → Prop} {h : Heap} {ok : Addr → Prop} (hk : ∀ b o, P b o → h.get? b = some o ∧ ok b) : ∀ {vs : List Value} {ts : List T}, RecsP P vs ts → RecsIn h ok vs ts
  | _, _, .nil => .nil
  | _, _, .cons h1 h2 => .cons (h1.toIn hk) (h2.toIn hk)
end
mutual
theorem RecIn.toL {h : Heap} {ok : Addr → Prop} : ∀ {v : Value} {t : T}, RecIn h ok v t → ∃ ex : List (Addr × Obj), RecP (fun b o => (b, o) ∈ ex) v t ∧ ∀ p ∈ ex, h.get? p.1 = some p.2 ∧ ok p.1
  | _, _, .mk (a := a) (g := g) (k := k) (dv := dv) (n1 := n1) (n2 := n2) (n3 := n3) (l := l) (kvs := kvs) o1 o2 o3 h1 h2 h3 h4 h5 => by
    obtain ⟨ex, r, e⟩ := h5.toL
    refine ⟨(a, W.listOf [Value.ref g, dv, Value.ref k].toArray n1) :: (g, W.listOf (strValues l).toArray n2) :: (k, W.listOf kvs.toArray n3) :: ex, .mk (n1 := n1) (n2 := n2) (n3 := n3) (.head _) (.tail _ (.head _)) h3 (.tail _ (.tail _ (.head _))) (r.mono fun b o hb => .tail _ (.tail _ (.tail _ hb))), ?_⟩
    intro p hp
    rcases List.mem_cons.mp hp with rfl | hp
    · exact ⟨h1, o1⟩
    · rcases List.mem_cons.mp hp with rfl | hp
      · exact ⟨h2, o2⟩
      · rcases List.mem_cons.mp hp with rfl | hp
        · exact ⟨h4, o3⟩
        · exact e p hp
theorem RecsIn.toL {h : Heap} {ok : Addr → Prop} : ∀ {vs : List Value} {ts : List T}, RecsIn h ok vs ts → ∃ ex : List (Addr × Obj), RecsP (fun b o => (b, o) ∈ ex) vs ts ∧ ∀ p ∈ ex, h.get? p.1 = some p.2 ∧ ok p.1
  | _, _, .nil => ⟨[], .nil, fun _ h => nomatch h⟩
  | _, _, .cons h1 h2 => by
    obtain ⟨ex1, r1, e1⟩ := h1.toL
    obtain ⟨ex2, r2, e2⟩ := h2.toL
    exact ⟨ex1 ++ ex2, .cons (r1.mono fun _ _ hb => List.mem_append_left _ hb) (r2.mono fun _ _ hb => List.mem_append_right _ hb), fun p hp => (List.mem_append.mp hp).elim (e1 p) (e2 p)⟩
end
theorem RecsP.snoc {P : Addr → Obj → Prop} {v : Value} {t : T} (h2 : RecP P v t) : ∀ {vs : List Value} {ts : List T}, RecsP P vs ts → RecsP P (vs ++ [v]) (ts ++ [t])
  | _, _, .nil => .cons h2 .nil
  | _, _, .cons h1 h3 => .cons h1 (h3.snoc h2)
end Mine
end

section
theorem Mine.offMRead : True := by w_top off; trivial
open PySem PySem.W PyProof.Rows PySem.Calls PySem.Spec
set_option maxRecDepth 100000
set_option maxHeartbeats 2000000
namespace Mine
theorem fillJ : (fun (_ : OpenLaw) (_ : Params → Frag) => True) PySem.Challenge.rw_mr0112_01 hd.heap_39 := by k_fill; trivial

/-- and the texts of the records below are short -/
inductive Fit2 : T → Prop
  | mk {ag : List Str} {dl : Option Int} {ks : List T} : Fit (.mk ag dl ks) → (∀ k ∈ ks, k.text.length ≤ 1100) → (∀ k ∈ ks, Fit2 k) → Fit2 (.mk ag dl ks)
theorem Fit2.fit {t : T} (h : Fit2 t) : Fit t := by cases h with | mk a b c => exact a

/-! the lines, by kind -/
inductive LK where
  | ua (x : Str)
  | dl (d : Int)
  | al (t : T)
  | no
def LK.line : LK → Str
  | .ua x => uaLine x
  | .dl d => Str.ofString "Crawl-delay: " ++ Str.ofString (toString d)
  | .al t => alLine t.text
  | .no => Str.ofString "Allow:"
abbrev RSt := List Str × Option Int × List T
def LK.eff (z : RSt) : LK → RSt
  | .ua x => (z.1 ++ [x], z.2.1, z.2.2)
  | .dl d => (z.1, some d, z.2.2)
  | .al t => (z.1, z.2.1, z.2.2 ++ [t.kept])
  | .no => z
def dlKinds : Option Int → List LK
  | none => []
  | some d => [.dl d]
def kinds (ag : List Str) (dl : Option Int) (ks : List T) : List LK :=
  if ag.isEmpty then [] else ag.map .ua ++ dlKinds dl ++ (if ks.isEmpty then [.no] else ks.map .al)
theorem kinds_lines {ag : List Str} {dl : Option Int} {ks : List T} (h : ag.isEmpty = false) : (kinds ag dl ks).map LK.line = lines ag dl ks := by
  unfold kinds lines
  rw [h]
  simp only [Bool.false_eq_true, if_false, List.map_append]
  congr 1
  · congr 1
    · rw [List.map_map]; rfl
    · cases dl <;> rfl
  · cases ks with
    | nil => rfl
    | cons k ks =>
      simp only [List.isEmpty_cons, Bool.false_eq_true, if_false]
      rw [alLines_eq, List.map_map]; rfl
theorem fold_ua : ∀ (ag : List Str) (z : RSt), (ag.map LK.ua).foldl LK.eff z = (z.1 ++ ag, z.2.1, z.2.2)
  | [], z => by simp
  | x :: ag, z => by
    rw [List.map_cons, List.foldl_cons, fold_ua ag]
    simp [LK.eff]
theorem fold_al : ∀ (ks : List T) (z : RSt), (ks.map LK.al).foldl LK.eff z = (z.1, z.2.1, z.2.2 ++ kepts ks)
  | [], z => by simp [kepts]
  | x :: ag, z => by
    rw [List.map_cons, List.foldl_cons, fold_al ag, kepts]
    simp [LK.eff]
theorem kinds_eff (ag : List Str) (dl : Option Int) (ks : List T) : (kinds ag dl ks).foldl LK.eff ([], none, []) = if ag.isEmpty then ([], none, []) else (ag, dl, kepts ks) := by
  unfold kinds
  cases h : ag.isEmpty
  · simp only [Bool.false_eq_true, if_false, List.foldl_append, fold_ua]
    cases dl with
    | none =>
      cases ks with
      | nil => simp [dlKinds, LK.eff, kepts]
      | cons k ks =>
        simp only [List.isEmpty_cons, Bool.false_eq_true, if_false, fold_al]
        simp [dlKinds]
    | some d =>
      cases ks with
      | nil => simp [dlKinds, LK.eff, kepts]
      | cons k ks =>
        simp only [List.isEmpty_cons, Bool.false_eq_true, if_false, fold_al]
        simp [dlKinds, LK.eff]
  · simp

def LK.ok (dl : Option Int) (ag : List Str) (ks : List T) : LK → Prop
  | .ua x => x ∈ ag
  | .dl d => dl = some d
  | .al t => t ∈ ks
  | .no => True
theorem kinds_ok {ag : List Str} {dl : Option Int} {ks : List T} : ∀ kd ∈ kinds ag dl ks, kd.ok dl ag ks := by
  intro kd h
  unfold kinds at h
  split at h
  · cases h
  · rcases List.mem_append.mp h with h | h
    · rcases List.mem_append.mp h with h | h
      · obtain ⟨x, hx, rfl⟩ := List.mem_map.mp h; exact hx
      · cases dl with
        | none => cases h
        | some d => rw [List.mem_singleton.mp h]; rfl
    · split at h
      · rw [List.mem_singleton.mp h]; trivial
      · obtain ⟨x, hx, rfl⟩ := List.mem_map.mp h; exact hx

def ReadC (w : World) (t : T) : Prop := ∀ {prog : Program} {dp un : Nat} {gd : Option (List Code)} {outer : List Env} {base : Heap} {E : Value → Shared → Prop} {s : Shared} {mg mb : Str → Option Value} {mean : ExcName → Option Value} {loose : List Str} {Q : Value → Shared → Prop} {tv : Tok},
  (hd.heap_39 w.params).In s.heap → Top hd.view_39 loose mean mg mb s.heap → Below (A5 dp un gd outer) base outer s.heap → dp + 10 * t.dep + 5 < recursionLimit → un + 100 * t.dep + 100 < cLine →
  (∀ h' tk v', (∀ b o, s.heap.get? b = some o → h'.get? b = some o) → RecIn h' (fun b => s.heap.get? b = none) v' t.kept → Q v' { s with heap := h', toks := tk }) →
  wpAny (model prog w) (A5 dp un gd outer) (call (.ref 131) [.str t.text tv]) Q E s

local macro_rules | `(tactic| k_room) => `(tactic| ((try simp only [depth_mark, depth_under_make, depth_under_kw, depth_in1, depth_deeper]); (show (_ : Nat) < 1000); (try dsimp only); omega))
local macro_rules | `(tactic| k_units) => `(tactic| ((try simp only [units_in1, units_deeper, Around.mark_units]); (show (_ : Nat) < 9900); (try dsimp only); omega))
local macro_rules | `(tactic| walk_at "call ref") => `(tactic| (k_here; (with_reducible show wpAny _ _ (call (Value.ref 131) _ _) _ _ _); refine held ?_))
local macro_rules | `(tactic| walk_at "call ref") => `(tactic| (k_here; (with_reducible show wpAny _ _ (call (Value.ref 124) _ _) _ _ _); refine held ?_))
local macro_rules | `(tactic| walk_at "exec For Name IfExp cons nil") => `(tactic| (k_here; (rename Fr _ _ _ _ => lF'); (with_unfolding_all refine' For_invVF lF' ?k1 ?k2 ?_; (case k1 => exact rfl); (case k2 => exact rfl))))
local macro_rules | `(tactic| walk_at "execs cons Assign cons") => `(tactic| ((with_reducible refine wpAny_execs_cons ?_); try dsimp only))
local macro_rules | `(tactic| walk_at "pyIter ref") => `(tactic| (k_here; refine held ?_))
local macro_rules | `(tactic| walk_at "call builtin:str.split") => `(tactic| (k_here; refine held ?_))

def RJ (a g k : Addr) (kd : List LK) (i : Nat) (m : Str → Option Value) (news : List (Addr × Obj)) : Prop :=
  ∃ (kvs : List Value) (l : List (Str × Tok)) (dv : Value) (ex : List (Addr × Obj)) (n1 n2 n3 : Nat), m (Str.ofString "record") = some (.ref a) ∧
    news = (k, W.listOf kvs.toArray n3) :: (g, W.listOf (strValues l).toArray n2) :: (a, W.listOf [Value.ref g, dv, Value.ref k].toArray n1) :: ex ∧
    l.map (·.1) = ((kd.take i).foldl LK.eff ([], none, [])).1 ∧ DlVal dv ((kd.take i).foldl LK.eff ([], none, [])).2.1 ∧ RecsP (fun b o => (b, o) ∈ ex) kvs ((kd.take i).foldl LK.eff ([], none, [])).2.2 ∧
    (∀ p ∈ ex, @Ne Nat p.1 k ∧ @Ne Nat p.1 g ∧ @Ne Nat p.1 a)
theorem fold_take {kd : List LK} {i : Nat} {κ : LK} (h : kd[i]? = some κ) (z : RSt) : (kd.take (i + 1)).foldl LK.eff z = κ.eff ((kd.take i).foldl LK.eff z) := by
  rw [List.take_add_one, h, List.foldl_append]; rfl
theorem sm_ua (x : Str) : Txt.splitMax (uaLine x) (Str.ofString ":") 1 = [Str.ofString "User-agent", Str.ofString " " ++ x] := by
  have e : uaLine x = Str.ofString "User-agent" ++ ⟨#[58]⟩ ++ (Str.ofString " " ++ x) := by
    apply str_of_list
    simp only [uaLine, cps_toList_append]
    rw [← List.append_assoc]
    congr 1
  rw [e]
  exact splitMax_one (c := 58) (by decide) (by decide +kernel)
theorem sm_dl (x : Str) : Txt.splitMax (Str.ofString "Crawl-delay: " ++ x) (Str.ofString ":") 1 = [Str.ofString "Crawl-delay", Str.ofString " " ++ x] := by
  have e : Str.ofString "Crawl-delay: " ++ x = Str.ofString "Crawl-delay" ++ ⟨#[58]⟩ ++ (Str.ofString " " ++ x) := by
    apply str_of_list
    simp only [cps_toList_append]
    rw [← List.append_assoc]
    congr 1
  rw [e]
  exact splitMax_one (c := 58) (by decide) (by decide +kernel)
theorem sm_al (x : Str) : Txt.splitMax (Str.ofString "Allow: /" ++ x) (Str.ofString ":") 1 = [Str.ofString "Allow", Str.ofString " /" ++ x] := by
  have e : Str.ofString "Allow: /" ++ x = Str.ofString "Allow" ++ ⟨#[58]⟩ ++ (Str.ofString " /" ++ x) := by
    apply str_of_list
    simp only [cps_toList_append]
    rw [← List.append_assoc]
    congr 1
  rw [e]
  exact splitMax_one (c := 58) (by decide) (by decide +kernel)
theorem sm_no : Txt.splitMax (Str.ofString "Allow:") (Str.ofString ":") 1 = [Str.ofString "Allow", Str.ofString ""] := by decide +kernel
theorem two_of {l : List (Str × Tok)} {a b : Str} (h : l.map (·.1) = [a, b]) : ∃ t u, l = [(a, t), (b, u)] := by
  match l, h with
  | [(x, t), (y, u)], h => simp at h; exact ⟨t, u, by rw [h.1, h.2]⟩

theorem RJ.fin {a g k : Addr} {kd : List LK} {n : Nat} {m : Str → Option Value} {news : List (Addr × Obj)} {h₀ h : Heap} {L : Addr} (H : RJ a g k kd n m news) (hn : kd.length ≤ n) (N : News h₀ L h news) :
    RecIn h (fun b => h₀.get? b = none) (.ref a) (.mk (kd.foldl LK.eff ([], none, [])).1 (kd.foldl LK.eff ([], none, [])).2.1 (kd.foldl LK.eff ([], none, [])).2.2) := by
  obtain ⟨kvs, l2, dv, ex, n1, n2, n3, e1, rfl, j1, j2, j3, j4⟩ := H
  rw [List.take_of_length_le hn] at j1 j2 j3
  rw [← j1]
  refine RecP.toIn (P := fun b o => (b, o) ∈ (k, W.listOf kvs.toArray n3) :: (g, W.listOf (strValues l2).toArray n2) :: (a, W.listOf [Value.ref g, dv, Value.ref k].toArray n1) :: ex) (fun b o hb => ⟨(N _ hb).1, (N _ hb).2.2⟩) ?_
  exact .mk (n1 := n1) (n2 := n2) (n3 := n3) (.tail _ (.tail _ (.head _))) (.tail _ (.head _)) j2 (.head _) (j3.mono fun b o hb => .tail _ (.tail _ (.tail _ hb)))
theorem split2 {prog : Program} {w : World} {A : Around} {E : Value → Shared → Prop} {s : Shared} {h₀ : Heap} {L : Addr} {m : Str → Option Value} {news : List (Addr × Obj)} {x p q : Str} {t u v : Tok} {Q : Value → Shared → Prop} (F : Fr h₀ L s.heap m) (N : News h₀ L s.heap news) (hx : Txt.splitMax x (Str.ofString ":") 1 = [p, q]) (hsz : x.length + 2 ≤ sizeLine)
    (h : ∀ D h' tk t1 t2, Fr h₀ L h' m → News h₀ L h' ((D, W.listOf #[.str p t1, .str q t2] 0) :: news) → (∀ p ∈ news, @Ne Nat p.1 D) → Q (.ref D) { s with heap := h', toks := tk }) :
    wpAny (model prog w) A (call (.builtin "str.split") [.str x t, .str (Str.ofString ":") u, .int 1 v]) Q E s := by
  refine splitN2A F N (by decide +kernel) (by decide) ?_ hsz
  intro l h' tk hl _ _ _ F' N'
  rw [hx] at hl
  obtain ⟨t1, t2, rfl⟩ := two_of hl
  exact h _ _ _ t1 t2 F' N' fun p hp => Nat.ne_of_lt (Heap.lt_size (N p hp).1)

theorem slice_app {p x : Str} {i : Int} (hi : i = p.length) : Txt.slice (p ++ x) (some i) none = x := by
  have hl : (p ++ x).length = p.length + x.length := Str.length_append _ _
  have hp : p.length = p.cps.toList.length := by simp [Str.length]
  have hxl : x.length = x.cps.toList.length := by simp [Str.length]
  rw [slice_from_eq (b := ((p ++ x).length : Int)) (by omega) (by omega) rfl]
  apply str_of_list
  show ((p ++ x).cps.toList.drop i.toNat).take _ = _
  rw [cps_toList_append]
  have e1 : i.toNat = p.cps.toList.length := by omega
  have e2 : (((p ++ x).length : Int) - i).toNat = x.cps.toList.length := by omega
  rw [e1, e2, List.drop_left, List.take_length]
theorem fold_le : ∀ (l : List LK) (z : RSt), (l.foldl LK.eff z).1.length ≤ z.1.length + l.length ∧ (l.foldl LK.eff z).2.2.length ≤ z.2.2.length + l.length
  | [], z => by simp
  | κ :: l, z => by
    have := fold_le l (κ.eff z)
    rw [List.foldl_cons, List.length_cons]
    have h1 : (κ.eff z).1.length ≤ z.1.length + 1 ∧ (κ.eff z).2.2.length ≤ z.2.2.length + 1 := by
      cases κ <;> simp [LK.eff]
    omega
theorem RecsP.length {P : Addr → Obj → Prop} : ∀ {vs : List Value} {ts : List T}, RecsP P vs ts → vs.length = ts.length
  | _, _, .nil => rfl
  | _, _, .cons _ h2 => by rw [List.length_cons, List.length_cons, h2.length]
theorem kinds_le (ag : List Str) (dl : Option Int) (ks : List T) : (kinds ag dl ks).length ≤ ag.length + ks.length + 2 := by
  unfold kinds
  split
  · simp
  · simp only [List.length_append, List.length_map]
    have h1 : (dlKinds dl).length ≤ 1 := by cases dl <;> simp [dlKinds]
    split <;> simp <;> omega
theorem set_K {prog : Program} {w : World} {A : Around} {E : Value → Shared → Prop} {s : Shared} {h₀ : Heap} {L D : Addr} {m : Str → Option Value} {news news' : List (Addr × Obj)} {its its' : Array Value} {n : Nat} {k : Int} {t : Tok} {v : Value} {Q : Unit → Shared → Prop}
    (F : Fr h₀ L s.heap m) (N : News h₀ L s.heap news) (U : Upd D (W.listOf its n) (W.listOf its' n) news news') (he : its.setIfInBounds k.toNat v = its') (h0 : 0 ≤ k) (hfit : k < 2 ^ 63) (hn : k < its.size)
    (h : ∀ h', Fr h₀ L h' m → News h₀ L h' news' → Q () { s with heap := h' }) : wpAny (model prog w) A (setItem (.ref D) (.int k t) v) Q E s := by
  obtain ⟨pre, post, rfl, rfl, a, b⟩ := U.split
  have z := N (D, W.listOf its n) (List.mem_append.mpr (.inr (.head _)))
  refine ki_setAt z.1 h0 hfit hn (h _ (F.change (Heap.SameBut.update ..) z.2.1 z.2.2) (ki_turn _ N a b he ?_))
  rw [if_pos (by rw [← he]; simp)]
local macro_rules | `(tactic| walk_at "setItem ref int") => `(tactic| (k_here; refine held ?_))
theorem read_step {w : World} {t : T} (hf2 : Fit2 t) (IH : ∀ k ∈ (match t with | .mk _ _ ks => ks), ReadC w k) : ReadC w t := by
  obtain ⟨ag, dl, ks⟩ := t
  dsimp only at IH
  intro prog dp un gd outer base E s mg mb mean loose Q tv X T B hdp hun hQ
  have hf := hf2.fit
  obtain ⟨hfa, hfd, hfl, hfn, hfk, hfr⟩ : _ ∧ _ ∧ _ ∧ _ ∧ _ ∧ _ := by cases hf with | mk a b c d e f => exact ⟨a, b, c, d, e, f⟩
  have hks : ∀ k ∈ ks, k.text.length ≤ 1100 := by cases hf2 with | mk a b c => exact b
  have hasc := hf.ascii
  rw [T.dep] at hdp hun
  replace hdp : dp + 10 * (1 + deps ks) + 5 < 1000 := hdp
  replace hun : un + 100 * (1 + deps ks) + 100 < 9900 := hun
  rw [kept_mk] at hQ
  by_cases hag : ag.isEmpty = true
  · have hx : (Mine.T.mk ag dl ks).text = Str.ofString "" := by rw [Mine.T.text, hag]; rfl
    rw [hx]
    rw [hag] at hQ
    simp only [if_true] at hQ
    k_dflt (refine' enterK (binds := [(Str.ofString "text", .str (Str.ofString "") tv)]) X ?lim ?k6 ?k7 ?k8 ?k9 ?kB ?c2 ?c3 ?c4 ?c5 ?_; (case k6 => k_is); (case k7 => k_is); (case k9 => first | exact BindsTo.of_eq rfl | exact binds_K (by k_in) rfl (by k_is) rfl rfl rfl); (case c5 => decide); (case kB => exact locs rfl); (case c2 => exact rfl); (case c3 => exact rfl); (case c4 => exact rfl); (case k8 => k_room); (case lim => exact T.nolimit))
    intro L' h₁ F' N'
    rw [look1] at F'
    try dsimp only
    try k_fold
    k_steps
    refine unheld ?_
    rename Fr s.heap L' _ _ => F2
    rename News s.heap L' _ _ => N2
    rename_i g _ _ k _ _ a _ hlt _ S h2 hlt2
    refine iterNew (RJ a g k []) (vs := []) rfl F2 (N2 _ (.head _)).1 (N2 _ (.head _)).2.2 (N2 _ (.head _)).2.1 (news := [(k, W.listOf #[] 0), (g, W.listOf #[] 0), (a, W.listOf #[Value.ref g, Value.none, Value.ref k] 0)]) ?_ ?_ ?_ ?_
    · intro p hp
      refine N2 p ?_
      rcases List.mem_cons.mp hp with rfl | hp
      · exact .tail _ (.tail _ (.head _))
      · rcases List.mem_cons.mp hp with rfl | hp
        · exact .tail _ (.tail _ (.tail _ (.head _)))
        · rw [List.mem_singleton.mp hp]; exact .tail _ (.head _)
    · exact ⟨[], [], .none, [], 0, 0, 0, rfl, rfl, by simp, by simp [DlVal], .nil, fun _ h => nomatch h⟩
    · intro i v m₁ news₁ h tk I o hv
      simp at hv
    · intro m₁ news₁ h tk hJ F4 N4
      have e1 : m₁ (Str.ofString "record") = some (.ref a) := by obtain ⟨_, _, _, _, _, _, _, e1, _⟩ := hJ; exact e1
      replace F4 := fr_put (x := Str.ofString "record") F4 e1
      k_steps
      exact hQ _ _ _ F4.keep (hJ.fin (Nat.zero_le _) N4)
  · replace hag : ag.isEmpty = false := by simpa using hag
    have hx : (Mine.T.mk ag dl ks).text = Str.join nl (lines ag dl ks) := by rw [Mine.T.text, hag]; rfl
    rw [hag] at hQ
    simp only [Bool.false_eq_true, if_false] at hQ
    generalize hx2 : (Mine.T.mk ag dl ks).text = txt at *
    have hne : txt ≠ Str.ofString "" := by
      intro e
      rw [e] at hx
      have h1 := congrArg Str.length hx
      rw [show (Str.ofString "").length = 0 by decide +kernel] at h1
      cases ag with
      | nil => cases hag
      | cons x ag =>
        have h2 := join_mem_le nl (lines (x :: ag) dl ks) (uaLine x) (by simp [lines])
        have h3 : (uaLine x).length = (Str.ofString "User-agent: ").length + x.length := Str.length_append _ _
        rw [show (Str.ofString "User-agent: ").length = 12 by decide +kernel] at h3
        omega
    k_dflt (refine' enterK (binds := [(Str.ofString "text", .str txt tv)]) X ?lim ?k6 ?k7 ?k8 ?k9 ?kB ?c2 ?c3 ?c4 ?c5 ?_; (case k6 => k_is); (case k7 => k_is); (case k9 => first | exact BindsTo.of_eq rfl | exact binds_K (by k_in) rfl (by k_is) rfl rfl rfl); (case c5 => decide); (case kB => exact locs rfl); (case c2 => exact rfl); (case c3 => exact rfl); (case c4 => exact rfl); (case k8 => k_room); (case lim => exact T.nolimit))
    intro L' h₁ F' N'
    rw [look1] at F'
    try dsimp only
    try k_fold
    k_steps
    · rename Fr s.heap L' _ _ => F2
      rename News s.heap L' _ _ => N2
      rename_i g _ _ k _ hgk a _ hka h2 hne2
      refine unheld (KSpl.split1 F2 N2 (by decide +kernel) ?_ (by rw [sizeLine_eq]; omega))
      intro S l h3 tk3 hl _ F3 N3 hltS
      have hl' : l.map (·.1) = (kinds ag dl ks).map LK.line := by
        rw [hl, hx, kinds_lines hag]
        refine split_join (c := 10) (by cases ag with | nil => cases hag | cons => simp [lines]) fun p hp hc => ?_
        exact (lines_codes hfa hfd (fun k hk => (hfr k hk).ascii) p hp 10 (Array.mem_toList_iff.mp hc)).2 rfl
      clear F2 N2
      k_steps
      refine unheld ?_
      refine iterNew (RJ a g k (kinds ag dl ks)) rfl F3 (N3 _ (.head _)).1 (N3 _ (.head _)).2.2 (N3 _ (.head _)).2.1 (news := [(k, W.listOf #[] 0), (g, W.listOf #[] 0), (a, W.listOf #[Value.ref g, Value.none, Value.ref k] 0)]) ?_ ?_ ?_ ?_
      · intro p hp
        refine N3 p ?_
        rcases List.mem_cons.mp hp with rfl | hp
        · exact .tail _ (.tail _ (.head _))
        · rcases List.mem_cons.mp hp with rfl | hp
          · exact .tail _ (.tail _ (.tail _ (.head _)))
          · rw [List.mem_singleton.mp hp]; exact .tail _ (.head _)
      · exact ⟨[], [], .none, [], 0, 0, 0, rfl, rfl, by simp, by simp [DlVal], .nil, fun _ h => nomatch h⟩
      · rintro i v m₁ news₁ h tk I o hv hIl hoff ⟨kvs, l2, dv, ex, n1, n2, n3, e1, rfl, j1, j2, j3, j4⟩ F4 N4 Qf hend
        obtain ⟨κ, hκ, tκ, hvκ⟩ : ∃ κ, (kinds ag dl ks)[i]? = some κ ∧ ∃ t, v = .str κ.line t := by
          have hi : i < l.length := by
            rcases Nat.lt_or_ge i l.length with h | h
            · exact h
            · rw [List.getElem?_eq_none (by simpa [strValues] using h)] at hv; cases hv
          have hv' : v = .str l[i].1 l[i].2 := by
            have : (strValues l)[i]? = some (.str l[i].1 l[i].2) := by simp [strValues, hi]
            rw [this] at hv; exact (Option.some.inj hv).symm
          have hi2 : i < (kinds ag dl ks).length := by
            have := congrArg List.length hl'; simp at this; omega
          refine ⟨(kinds ag dl ks)[i], List.getElem?_eq_getElem hi2, l[i].2, ?_⟩
          rw [hv']
          congr 1
          have := congrArg (fun z : List Str => z[i]?) hl'
          simpa [hi, hi2] using this
        subst hvκ
        have hok := kinds_ok κ (List.mem_of_getElem? hκ)
        have hft := fold_take hκ ([], none, [])
        replace F4 := fr_put (x := Str.ofString "record") F4 e1
        clear e1
        have hI1 := @neN k I (hoff (k, W.listOf kvs.toArray n3) (.head _))
        have hI2 := @neN g I (hoff (g, W.listOf (strValues l2).toArray n2) (.tail _ (.head _)))
        have hI3 := @neN a I (hoff (a, W.listOf [Value.ref g, dv, Value.ref k].toArray n1) (.tail _ (.tail _ (.head _))))
        have hgS : @Ne Nat S g := Nat.ne_of_gt (hltS _ (.tail _ (.tail _ (.head _))))
        have hkS : @Ne Nat S k := Nat.ne_of_gt (hltS _ (.tail _ (.head _)))
        have haS : @Ne Nat S a := Nat.ne_of_gt (hltS _ (.head _))
        have hkg : @Ne Nat k g := Nat.ne_of_gt hgk
        have hag2 : @Ne Nat a g := Nat.ne_of_gt hka.2
        have hak : @Ne Nat a k := Nat.ne_of_gt hka.1
        have hkl := kinds_le ag dl ks
        have hfl2 := fold_le ((kinds ag dl ks).take i) ([], none, [])
        have htl : ((kinds ag dl ks).take i).length ≤ (kinds ag dl ks).length := List.length_take_le' _ _
        have hzl : (strValues l2).toArray.size ≤ sizeLine := by
          have := congrArg List.length j1
          simp only [List.length_map, List.length_nil] at this hfl2
          rw [sizeLine_eq]; simp [strValues]; omega
        have hzk : kvs.toArray.size ≤ sizeLine := by
          have := j3.length
          simp only [List.length_nil] at hfl2
          rw [sizeLine_eq, List.size_toArray]; omega
        cases κ with
        | ua x =>
          simp only [LK.line] at F4
          have hxl : x.length ≤ 100000 := ag_len hag (by rw [hx2]; exact hfl) x hok
          have e12 : (Str.ofString "User-agent: ").length = 12 := by decide +kernel
          have e1 : (Str.ofString " ").length = 1 := by decide +kernel
          have hsz1 : (uaLine x).length ≤ 100012 := by unfold uaLine; rw [Str.length_append]; omega
          have hsz2 : (Str.ofString " " ++ x).length ≤ 100001 := by rw [Str.length_append]; omega
          k_steps
          refine unheld (split2 F4 N4 (sm_ua x) (by rw [sizeLine_eq]; omega) ?_)
          clear F4 N4
          intro D h5 tk5 t1 t2 F5 N5 hD5
          k_steps
          rename Fr s.heap L' _ _ => F6
          rename News s.heap L' _ _ => N6
          rw [slice_app (p := Str.ofString " ") (by rw [e1]; rfl)]
          refine append_K F6 N6 (.tail (@neN D g (Ne.symm (hD5 _ (.tail _ (.head _))))) (.tail hkg (.head ?_))) ?_ hzl
          · intro p hp
            rcases List.mem_cons.mp hp with rfl | hp
            · exact hag2
            · rcases List.mem_append.mp hp with hp | hp
              · exact (j4 p hp).2.1
              · rcases List.mem_cons.mp hp with rfl | hp
                · exact Ne.symm hI2
                · rw [List.mem_singleton.mp hp]; exact hgS
          intro h7 F7 N7
          k_steps
          rw [strValues_push] at N7
          rename Fr s.heap L' _ _ => F8
          refine hend _ _ ⟨_, _, _, (k, W.listOf kvs.toArray n3) :: (g, W.listOf (strValues (l2 ++ [(x, _)])).toArray (n2 + 1)) :: (a, W.listOf [Value.ref g, dv, Value.ref k].toArray n1) :: ex, rfl, F8, fun p hp => N7 p (.tail _ hp), ?_, ⟨kvs, l2 ++ [(x, _)], dv, ex, n1, n2 + 1, n3, rfl, rfl, ?_, ?_, ?_, j4⟩⟩
          · intro p hp hpI
            replace hpI := List.mem_singleton.mp hpI
            rcases List.mem_cons.mp hp with rfl | hp
            · exact hI1 hpI
            · rcases List.mem_cons.mp hp with rfl | hp
              · exact hI2 hpI
              · rcases List.mem_cons.mp hp with rfl | hp
                · exact hI3 hpI
                · exact hoff p (.tail _ (.tail _ (.tail _ hp))) hpI
          · rw [hft, List.map_append, j1]; rfl
          · rw [hft]; exact j2
          · rw [hft]; exact j3
        | dl d =>
          simp only [LK.line] at F4
          have hd1 := hfd d hok
          have hd3 := int_text3 hd1.1 hd1.2
          have e13 : (Str.ofString "Crawl-delay: ").length = 13 := by decide +kernel
          have e1 : (Str.ofString " ").length = 1 := by decide +kernel
          have hsz1 : (Str.ofString "Crawl-delay: " ++ Str.ofString (toString d)).length ≤ 100012 := by rw [Str.length_append]; omega
          have hsz2 : (Str.ofString " " ++ Str.ofString (toString d)).length ≤ 100001 := by rw [Str.length_append]; omega
          k_steps
          refine unheld (split2 F4 N4 (sm_dl _) (by rw [sizeLine_eq]; omega) ?_)
          clear F4 N4
          intro D h5 tk5 t1 t2 F5 N5 hD5
          k_steps
          rw [slice_app (p := Str.ofString " ") (by rw [e1]; rfl)]
          refine KIN.call_num hd1.1 (by omega) ?_
          k_steps
          refine unheld ?_
          rename Fr s.heap L' _ _ => F6
          rename News s.heap L' _ _ => N6
          refine set_K F6 N6 (.tail (@neN D a (Ne.symm (hD5 _ (.tail _ (.tail _ (.head _)))))) (.tail (Ne.symm hak) (.tail (Ne.symm hag2) (.head ?_)))) (its' := [Value.ref g, Value.int d _, Value.ref k].toArray) rfl (by decide) (by decide) (by show (1 : Int) < ((3 : Nat) : Int); decide) ?_
          · intro p hp
            rcases List.mem_append.mp hp with hp | hp
            · exact (j4 p hp).2.2
            · rcases List.mem_cons.mp hp with rfl | hp
              · exact Ne.symm hI3
              · rw [List.mem_singleton.mp hp]; exact haS
          intro h7 F7 N7
          k_steps
          rename Fr s.heap L' _ _ => F8
          refine hend _ _ ⟨_, _, _, (k, W.listOf kvs.toArray n3) :: (g, W.listOf (strValues l2).toArray n2) :: (a, W.listOf [Value.ref g, Value.int d _, Value.ref k].toArray n1) :: ex, rfl, F8, fun p hp => N7 p (.tail _ hp), ?_, ⟨kvs, l2, Value.int d _, ex, n1, n2, n3, rfl, rfl, ?_, ?_, ?_, j4⟩⟩
          · intro p hp hpI
            replace hpI := List.mem_singleton.mp hpI
            rcases List.mem_cons.mp hp with rfl | hp
            · exact hI1 hpI
            · rcases List.mem_cons.mp hp with rfl | hp
              · exact hI2 hpI
              · rcases List.mem_cons.mp hp with rfl | hp
                · exact hI3 hpI
                · exact hoff p (.tail _ (.tail _ (.tail _ hp))) hpI
          · rw [hft]; exact j1
          · rw [hft]; exact ⟨_, rfl⟩
          · rw [hft]; exact j3
        | al t =>
          simp only [LK.line] at F4
          have hft2 := hfr t hok
          have htl2 := tokStr_length hft2.ascii
          have hk11 := hks t hok
          have e8 : (Str.ofString "Allow: /").length = 8 := by decide +kernel
          have e2 : (Str.ofString " /").length = 2 := by decide +kernel
          have hsz1 : (alLine t.text).length ≤ 100012 := by unfold alLine; rw [Str.length_append]; omega
          have hsz2 : (Str.ofString " /" ++ tokStr t.text).length ≤ 100001 := by rw [Str.length_append]; omega
          k_steps
          refine unheld (split2 F4 N4 (sm_al _) (by rw [sizeLine_eq]; omega) ?_)
          clear F4 N4
          intro D h5 tk5 t1 t2 F5 N5 hD5
          k_steps
          rotate_left
          · rename (_ != _) = false => hb
            have := congrArg Str.length (show Str.ofString " /" ++ tokStr t.text = Str.ofString "" by simpa using hb)
            rw [Str.length_append, e2, show (Str.ofString "").length = 0 by decide +kernel] at this
            omega
          rw [slice_app (p := Str.ofString " /") (by rw [e2]; rfl)]
          refine unheld ?_
          rename Fr s.heap L' _ _ => F6
          rename News s.heap L' _ _ => N6
          have hdep := dep_le hok
          refine c_octets (X.keeps F6.keep) (T.keeps F6.keep) rfl (by show dp + 1 + 3 < 1000; omega) (by show un + 3 + 50 < 9900; omega) hft2.ascii hk11 ?_
          intro h7 tk7 t7 hk7
          have F7 := F6.keeps hk7
          have N7 := News.grown N6 hk7
          clear F6 N6
          k_steps
          refine unheld ?_
          refine IH t hok (X.keeps F7.keep) (T.keeps F7.keep) ((Below.push B F7)) (by show dp + 1 + 10 * t.dep + 5 < 1000; omega) (by show un + 3 + 100 * t.dep + 100 < 9900; omega) ?_
          intro h8 tk8 v8 hk8 hr8
          have F8 := F7.keeps hk8
          have N8 := News.grown N7 hk8
          obtain ⟨ex8, r8, e8x⟩ := hr8.toL
          have hx7 : ∀ {b : Addr} {q : Obj}, h7.get? b = some q → ∀ p ∈ ex8, @Ne Nat p.1 b := by
            intro b q hb p hp e
            have := (e8x p hp).2
            rw [show p.1 = b from e] at this
            exact absurd (hb.symm.trans this) (by simp)
          have hxI := hx7 (N7 (I, o) (.tail _ (List.mem_append_right _ (.head _)))).1
          have hxk := hx7 (N7 _ (.tail _ (.head _))).1
          have hxg := hx7 (N7 _ (.tail _ (.tail _ (.head _)))).1
          have hxa := hx7 (N7 _ (.tail _ (.tail _ (.tail _ (.head _))))).1
          have N9 : News s.heap L' h8 ((D, W.listOf #[Value.str (Str.ofString "Allow") t1, Value.str (Str.ofString " /" ++ tokStr t.text) t2] 0) :: (k, W.listOf kvs.toArray n3) :: (g, W.listOf (strValues l2).toArray n2) :: (a, W.listOf [Value.ref g, dv, Value.ref k].toArray n1) :: ((ex ++ ex8) ++ [(I, o), (S, W.listOf (strValues l).toArray 0)])) := by
            intro p hp
            have key : p ∈ ex8 ∨ p ∈ ((D, W.listOf #[Value.str (Str.ofString "Allow") t1, Value.str (Str.ofString " /" ++ tokStr t.text) t2] 0) :: ((k, W.listOf kvs.toArray n3) :: (g, W.listOf (strValues l2).toArray n2) :: (a, W.listOf [Value.ref g, dv, Value.ref k].toArray n1) :: ex ++ [(I, o), (S, W.listOf (strValues l).toArray 0)])) := by
              rcases List.mem_cons.mp hp with e | hp
              · exact .inr (e ▸ .head _)
              · rcases List.mem_cons.mp hp with e | hp
                · exact .inr (e ▸ .tail _ (.head _))
                · rcases List.mem_cons.mp hp with e | hp
                  · exact .inr (e ▸ .tail _ (.tail _ (.head _)))
                  · rcases List.mem_cons.mp hp with e | hp
                    · exact .inr (e ▸ .tail _ (.tail _ (.tail _ (.head _))))
                    · rcases List.mem_append.mp hp with hp | hp
                      · rcases List.mem_append.mp hp with hp | hp
                        · exact .inr (.tail _ (.tail _ (.tail _ (.tail _ (List.mem_append_left _ hp)))))
                        · exact .inl hp
                      · exact .inr (.tail _ (.tail _ (.tail _ (.tail _ (List.mem_append_right _ hp)))))
            rcases key with hp | hp
            · refine ⟨(e8x p hp).1, ?_, ?_⟩
              · obtain ⟨oL, _, _, hoL, _⟩ := F7.ns
                exact hx7 hoL p hp
              · cases q : s.heap.get? p.1 with
                | none => rfl
                | some o' => exact absurd rfl (hx7 (F7.keep _ _ q) p hp)
            · exact N8 p hp
          clear F7 N7 N8
          k_steps
          refine append_K F8 N9 (.tail (@neN D k (Ne.symm (hD5 _ (.head _)))) (.head ?_)) ?_ hzk
          · intro p hp
            rcases List.mem_cons.mp hp with rfl | hp
            · exact Ne.symm hkg
            · rcases List.mem_cons.mp hp with rfl | hp
              · exact hak
              · rcases List.mem_append.mp hp with hp | hp
                · rcases List.mem_append.mp hp with hp | hp
                  · exact (j4 p hp).1
                  · exact hxk p hp
                · rcases List.mem_cons.mp hp with rfl | hp
                  · exact Ne.symm hI1
                  · rw [List.mem_singleton.mp hp]; exact hkS
          intro h10 F10 N10
          k_steps
          rename Fr s.heap L' _ _ => F11
          have ep : kvs.toArray.push v8 = (kvs ++ [v8]).toArray := by simp
          rw [ep] at N10
          refine hend _ _ ⟨_, _, _, (k, W.listOf (kvs ++ [v8]).toArray (n3 + 1)) :: (g, W.listOf (strValues l2).toArray n2) :: (a, W.listOf [Value.ref g, dv, Value.ref k].toArray n1) :: (ex ++ ex8), rfl, F11, fun p hp => N10 p (.tail _ hp), ?_, ⟨kvs ++ [v8], l2, dv, ex ++ ex8, n1, n2, n3 + 1, rfl, rfl, ?_, ?_, ?_, ?_⟩⟩
          · intro p hp hpI
            replace hpI := List.mem_singleton.mp hpI
            rcases List.mem_cons.mp hp with rfl | hp
            · exact hI1 hpI
            · rcases List.mem_cons.mp hp with rfl | hp
              · exact hI2 hpI
              · rcases List.mem_cons.mp hp with rfl | hp
                · exact hI3 hpI
                · rcases List.mem_append.mp hp with hp | hp
                  · exact hoff p (.tail _ (.tail _ (.tail _ hp))) hpI
                  · exact hxI p hp hpI
          · rw [hft]; exact j1
          · rw [hft]; exact j2
          · rw [hft]; exact RecsP.snoc (r8.mono fun _ _ hb => List.mem_append_right _ hb) (j3.mono fun _ _ hb => List.mem_append_left _ hb)
          · intro p hp
            rcases List.mem_append.mp hp with hp | hp
            · exact j4 p hp
            · exact ⟨hxk p hp, hxg p hp, hxa p hp⟩
        | no =>
          simp only [LK.line] at F4
          k_steps
          refine unheld (split2 F4 N4 sm_no (by rw [sizeLine_eq]; decide +kernel) ?_)
          clear F4 N4
          intro D h5 tk5 t1 t2 F5 N5 hD5
          k_steps
          rename Fr s.heap L' _ _ => F8
          rename News s.heap L' _ _ => N7
          refine hend _ _ ⟨_, _, _, (k, W.listOf kvs.toArray n3) :: (g, W.listOf (strValues l2).toArray n2) :: (a, W.listOf [Value.ref g, dv, Value.ref k].toArray n1) :: ex, rfl, F8, fun p hp => N7 p (.tail _ hp), ?_, ⟨kvs, l2, dv, ex, n1, n2, n3, rfl, rfl, ?_, ?_, ?_, j4⟩⟩
          · intro p hp hpI
            replace hpI := List.mem_singleton.mp hpI
            rcases List.mem_cons.mp hp with rfl | hp
            · exact hI1 hpI
            · rcases List.mem_cons.mp hp with rfl | hp
              · exact hI2 hpI
              · rcases List.mem_cons.mp hp with rfl | hp
                · exact hI3 hpI
                · exact hoff p (.tail _ (.tail _ (.tail _ hp))) hpI
          · rw [hft]; exact j1
          · rw [hft]; exact j2
          · rw [hft]; exact j3
      · intro m₁ news₁ h tk hJ F4 N4
        have e1 : m₁ (Str.ofString "record") = some (.ref a) := by obtain ⟨_, _, _, _, _, _, _, e1, _⟩ := hJ; exact e1
        replace F4 := fr_put (x := Str.ofString "record") F4 e1
        k_steps
        have hfin := hJ.fin (by have := congrArg List.length hl'; simp at this; simp [strValues]; omega) N4
        rw [kinds_eff, hag] at hfin
        exact hQ _ _ _ F4.keep hfin
    · rename (txt != _) = false => hb
      exact absurd (by simpa using hb) hne
theorem read_all {w : World} : ∀ (n : Nat) (t : T), t.dep ≤ n → Fit2 t → ReadC w t := by
  intro n
  induction n with
  | zero => intro t h; obtain ⟨ag, dl, ks⟩ := t; rw [T.dep] at h; omega
  | succ n ih =>
    intro t h hf
    refine read_step hf ?_
    obtain ⟨ag, dl, ks⟩ := t
    intro k hk
    have hk' : k ∈ ks := hk
    have hfk : Fit2 k := by cases hf with | mk a b c => exact c k hk'
    rw [T.dep] at h
    have := dep_le hk'
    exact @ih k (by omega) hfk
theorem c_read {w : World} {t : T} (hf : Fit2 t) : ReadC w t := @read_all w t.dep t (Nat.le_refl _) hf
end Mine
end

section
theorem Mine.offMTreeP : True := by w_top off; trivial
open PySem PySem.W PyProof.Rows PySem.Calls PySem.Spec
set_option maxRecDepth 100000
set_option maxHeartbeats 2000000
namespace Mine

/-! what the records of the tree look like, and how long their texts can be -/
def agNames : List Str := [Str.ofString "fig", Str.ofString "*", Str.ofString "plum/2", Str.ofString "a: b", Str.ofString "~~~???", Str.ofString "plum", Str.ofString "bot"]
theorem ag_codes : ∀ x ∈ agNames, (∀ c ∈ x.cps.toList, c < 128 ∧ c ≠ 10) ∧ x.length ≤ 6 := by decide +kernel

inductive Nice : T → Prop
  | mk {ag : List Str} {dl : Option Int} {ks : List T} : (∀ x ∈ ag, x ∈ agNames) → (∀ d, dl = some d → 0 ≤ d ∧ d < 1000) → (∀ k ∈ ks, Nice k) → Nice (.mk ag dl ks)
mutual
def T.wt : T → Nat
  | .mk ag _ ks => 24 + (ag.map fun x => 13 + x.length).sum + wts ks
def wts : List T → Nat
  | [] => 0
  | t :: ts => (9 + (t.wt + 2) / 3 * 4) + wts ts
end
theorem wt_mk (ag : List Str) (dl : Option Int) (ks : List T) : (T.mk ag dl ks).wt = 24 + (ag.map fun x => 13 + x.length).sum + wts ks := by rw [T.wt]
theorem wts_snoc : ∀ (ks : List T) (t : T), wts (ks ++ [t]) = wts ks + (9 + (t.wt + 2) / 3 * 4)
  | [], t => by simp [wts]
  | k :: ks, t => by rw [List.cons_append, wts, wts, wts_snoc ks t]; omega
theorem wts_mem : ∀ {ks : List T} {t : T}, t ∈ ks → t.wt + 9 ≤ wts ks
  | k :: ks, t, h => by
    rw [wts]
    rcases List.mem_cons.mp h with rfl | h
    · omega
    · have := wts_mem h; omega
theorem wts_len : ∀ (ks : List T), 9 * ks.length ≤ wts ks
  | [] => by simp [wts]
  | k :: ks => by have := wts_len ks; rw [wts, List.length_cons]; omega
theorem wts_le {B : Nat} : ∀ {ks : List T}, (∀ k ∈ ks, k.wt ≤ B) → wts ks ≤ ks.length * (9 + (B + 2) / 3 * 4)
  | [], _ => by simp [wts]
  | k :: ks, h => by
    have h1 := wts_le (B := B) fun x hx => h x (.tail _ hx)
    have h2 := h k (.head _)
    rw [wts, List.length_cons, Nat.succ_mul]
    have : (k.wt + 2) / 3 ≤ (B + 2) / 3 := Nat.div_le_div_right (by omega)
    omega
theorem sum_ua (ag : List Str) : ((ag.map uaLine).map (·.length)).sum + ag.length = (ag.map fun x => 13 + x.length).sum := by
  induction ag with
  | nil => rfl
  | cons x ag ih =>
    simp only [List.map_cons, List.sum_cons, List.length_cons]
    have e : (uaLine x).length = 12 + x.length := by
      unfold uaLine
      rw [Str.length_append]
      have : (Str.ofString "User-agent: ").length = 12 := by decide +kernel
      omega
    omega
theorem sum_al : ∀ (ks : List T), (∀ k ∈ ks, ∀ c ∈ k.text.cps, c < 128) → (∀ k ∈ ks, k.text.length ≤ k.wt) → ((alLines ks).map (·.length)).sum + ks.length ≤ wts ks
  | [], _, _ => by simp [alLines, wts]
  | k :: ks, h, h' => by
    have ih := sum_al ks (fun x hx => h x (.tail _ hx)) fun x hx => h' x (.tail _ hx)
    rw [alLines, wts]
    simp only [List.map_cons, List.sum_cons, List.length_cons]
    have e : (alLine k.text).length = 8 + (k.text.length + 2) / 3 * 4 := by
      unfold alLine
      rw [Str.length_append, tokStr_length (h k (.head _))]
      have : (Str.ofString "Allow: /").length = 8 := by decide +kernel
      omega
    have := h' k (.head _)
    have : (k.text.length + 2) / 3 ≤ (k.wt + 2) / 3 := Nat.div_le_div_right (by omega)
    omega
theorem Nice.text {t : T} (h : Nice t) : (∀ c ∈ t.text.cps, c < 128) ∧ t.text.length ≤ t.wt := by
  induction h with
  | mk ha hd hk ih =>
    rename_i ag dl ks
    have ha' : ∀ x ∈ ag, ∀ c ∈ x.cps, c < 128 ∧ c ≠ 10 := fun x hx c hc => (ag_codes x (ha x hx)).1 c (Array.mem_toList_iff.mpr hc)
    rw [T.text, wt_mk]
    split
    · refine ⟨fun c hc => by simp [Str.empty] at hc, ?_⟩
      show 0 ≤ _
      omega
    · rename_i hag
      refine ⟨join_codes nl (by decide +kernel) _ fun x hx c hc => (lines_codes ha' hd (fun k hk => (ih k hk).1) x hx c hc).1, ?_⟩
      have hne : ag.map uaLine ++ dlLines dl ++ (if ks.isEmpty then [Str.ofString "Allow:"] else alLines ks) ≠ [] := by
        cases ag with
        | nil => simp at hag
        | cons => simp
      have hj := join_len _ hne
      have h1 := sum_ua ag
      have h2 : ((dlLines dl).map (·.length)).sum + (dlLines dl).length ≤ 17 := by
        cases dl with
        | none => simp [dlLines]
        | some d =>
          have := int_text3 (hd d rfl).1 (hd d rfl).2
          have e : (Str.ofString "Crawl-delay: ").length = 13 := by decide +kernel
          simp only [dlLines, List.map_cons, List.map_nil, List.sum_cons, List.sum_nil, List.length_cons, List.length_nil, Str.length_append]
          omega
      have h3 := sum_al ks (fun k hk => (ih k hk).1) fun k hk => (ih k hk).2
      simp only [List.map_append, List.sum_append, List.length_append, List.length_map] at hj
      cases ks with
      | nil =>
        have e6 : (Str.ofString "Allow:").length = 6 := by decide +kernel
        simp only [List.isEmpty_nil, if_true, List.map_cons, List.map_nil, List.sum_cons, List.sum_nil, List.length_cons, List.length_nil, e6] at hj ⊢
        omega
      | cons k ks =>
        simp only [List.isEmpty_cons, Bool.false_eq_true, if_false] at hj ⊢
        have e : (alLines (k :: ks)).length = (k :: ks).length := by rw [alLines_eq, List.length_map]
        rw [e] at hj
        omega
theorem ag_sum_len (ag : List Str) : 13 * ag.length ≤ (ag.map fun x => 13 + x.length).sum := by
  induction ag with
  | nil => simp
  | cons x ag ih => simp only [List.map_cons, List.sum_cons, List.length_cons]; omega
theorem ag_sum_le {ag : List Str} (h : ∀ x ∈ ag, x ∈ agNames) : (ag.map fun x => 13 + x.length).sum ≤ 19 * ag.length := by
  induction ag with
  | nil => simp
  | cons x ag ih =>
    have h1 := (ag_codes x (h x (.head _))).2
    have := ih fun y hy => h y (.tail _ hy)
    simp only [List.map_cons, List.sum_cons, List.length_cons]; omega
theorem wt_dep : ∀ (n : Nat) (t : T), t.wt ≤ n → 24 * t.dep ≤ t.wt := by
  intro n
  induction n with
  | zero => intro t h; obtain ⟨ag, dl, ks⟩ := t; rw [wt_mk] at h; omega
  | succ n ih =>
    intro t h
    obtain ⟨ag, dl, ks⟩ := t
    rw [wt_mk] at h ⊢
    rw [T.dep]
    have key : 24 * deps ks ≤ wts ks := by
      have hk : ∀ k ∈ ks, 24 * k.dep ≤ wts ks := fun k hk => by
        have := wts_mem hk
        have := ih k (by omega)
        omega
      clear ih h
      revert hk
      generalize wts ks = B
      intro hk
      induction ks with
      | nil => simp [deps]
      | cons k ks ih2 =>
        have h1 := hk k (.head _)
        have h2 := ih2 fun x hx => hk x (.tail _ hx)
        rw [deps]
        omega
    omega
theorem fit_of {ag : List Str} {dl : Option Int} {ks : List T} (h : Nice (.mk ag dl ks)) (h1 : (T.mk ag dl ks).wt ≤ 100000) (h2 : ag.length ≤ 1000) (h3 : ks.length ≤ 1000) (h4 : ∀ k ∈ ks, k.wt ≤ 1100 ∧ Fit2 k) : Fit2 (.mk ag dl ks) := by
  have ht := h.text
  cases h with
  | mk ha hd hk =>
    refine .mk (.mk (fun x hx c hc => (ag_codes x (ha x hx)).1 c (Array.mem_toList_iff.mpr hc)) hd (by omega) h2 h3 fun k hk => (h4 k hk).2.fit) (fun k hk' => ?_) fun k hk => (h4 k hk).2
    have := (hk k hk').text.2
    have := (h4 k hk').1
    omega
theorem fit_kid {t : T} (h : Nice t) : t.wt ≤ 1100 → Fit2 t := by
  induction h with
  | mk ha hd hk ih =>
    rename_i ag dl ks
    intro hw
    have hw' := hw
    rw [wt_mk] at hw'
    have h1 := ag_sum_len ag
    have h2 := wts_len ks
    refine fit_of (.mk ha hd hk) (by omega) (by omega) (by omega) fun k hk' => ?_
    have := wts_mem hk'
    exact ⟨by omega, ih k hk' (by omega)⟩

/-! the open records, the innermost first -/
def RSt.tree (r : RSt) : T := .mk r.1 r.2.1 r.2.2
def upT (t : T) : List RSt → T
  | [] => t
  | r :: rs => upT (.mk r.1 r.2.1 (r.2.2 ++ [t])) rs
def RootOk (c : Nat) (r : RSt) : Prop := Nice r.tree ∧ (∀ k ∈ r.2.2, k.wt ≤ 109 * c) ∧ r.1.length + r.2.2.length ≤ 1 + c
def Inv (c : Nat) : List RSt → Prop
  | [r0] => RootOk c r0
  | [r1, r0] => RootOk c r0 ∧ Nice r1.tree ∧ r1.tree.wt ≤ 109 * c
  | [r2, r1, r0] => RootOk c r0 ∧ Nice r1.tree ∧ Nice r2.tree ∧ r1.tree.wt + 9 + (r2.tree.wt + 2) / 3 * 4 ≤ 109 * c
  | _ => False
theorem nice_kid {r : RSt} {t : T} (h : Nice r.tree) (ht : Nice t) : Nice (.mk r.1 r.2.1 (r.2.2 ++ [t])) := by
  cases h with
  | mk a b c =>
    refine .mk a b fun k hk => ?_
    rcases List.mem_append.mp hk with hk | hk
    · exact c k hk
    · rw [List.mem_singleton.mp hk]; exact ht
theorem wt_kid (r : RSt) (t : T) : (T.mk r.1 r.2.1 (r.2.2 ++ [t])).wt = r.tree.wt + (9 + (t.wt + 2) / 3 * 4) := by
  rw [wt_mk, wts_snoc, RSt.tree, wt_mk]; omega
theorem RootOk.mono {c c' : Nat} (h : c ≤ c') {r : RSt} (hr : RootOk c r) : RootOk c' r :=
  ⟨hr.1, fun k hk => Nat.le_trans (hr.2.1 k hk) (Nat.mul_le_mul_left _ h), by have := hr.2.2; omega⟩
theorem RootOk.kid {c c' : Nat} (h : c + 1 ≤ c') {r : RSt} (hr : RootOk c r) {t : T} (ht : Nice t) (hw : t.wt ≤ 109 * c') : RootOk c' (r.1, r.2.1, r.2.2 ++ [t]) := by
  refine ⟨nice_kid hr.1 ht, fun k hk => ?_, ?_⟩
  · rcases List.mem_append.mp hk with hk | hk
    · exact Nat.le_trans (hr.2.1 k hk) (Nat.mul_le_mul_left _ (by omega))
    · rw [List.mem_singleton.mp hk]; exact hw
  · have := hr.2.2
    simp only [List.length_append, List.length_cons, List.length_nil]
    omega
theorem root_fit {r : RSt} (hn : Nice r.tree) (hk : ∀ k ∈ r.2.2, k.wt ≤ 1100) (hl : r.1.length + r.2.2.length ≤ 20) : Fit2 r.tree ∧ r.tree.dep ≤ 60 := by
  have hw : wts r.2.2 ≤ r.2.2.length * (9 + (1100 + 2) / 3 * 4) := wts_le hk
  have hag : (r.1.map fun x => 13 + x.length).sum ≤ 19 * r.1.length := by unfold RSt.tree at hn; cases hn with | mk a b c => exact ag_sum_le a
  have hwt : r.tree.wt ≤ 100000 := by
    unfold RSt.tree
    rw [wt_mk]
    have : r.2.2.length * (9 + (1100 + 2) / 3 * 4) ≤ 20 * (9 + (1100 + 2) / 3 * 4) := Nat.mul_le_mul_right _ (by omega)
    omega
  refine ⟨fit_of hn hwt (by omega) (by omega) fun k hk' => ⟨hk k hk', fit_kid ?_ (hk k hk')⟩, ?_⟩
  · unfold RSt.tree at hn; cases hn with | mk a b c => exact c k hk'
  · unfold RSt.tree
    rw [T.dep]
    have key : deps r.2.2 ≤ 50 := by
      have hd : ∀ k ∈ r.2.2, k.dep ≤ 50 := fun k hk' => by
        have := wt_dep _ k (Nat.le_refl _)
        have := hk k hk'
        omega
      revert hd
      generalize r.2.2 = ks
      intro hd
      induction ks with
      | nil => simp [deps]
      | cons k ks ih =>
        have h1 := hd k (.head _)
        have h2 := ih fun x hx => hd x (.tail _ hx)
        rw [deps]
        omega
    omega
theorem RootOk.shut {r : RSt} (hr : RootOk 10 r) {t : T} (ht : Nice t) (hw : t.wt ≤ 1100) : Fit2 (T.mk r.1 r.2.1 (r.2.2 ++ [t])) ∧ (T.mk r.1 r.2.1 (r.2.2 ++ [t])).dep ≤ 60 := by
  refine root_fit (r := (r.1, r.2.1, r.2.2 ++ [t])) (nice_kid hr.1 ht) (fun k hk => ?_) ?_
  · rcases List.mem_append.mp hk with hk | hk
    · have := hr.2.1 k hk; omega
    · rw [List.mem_singleton.mp hk]; exact hw
  · have := hr.2.2
    simp only [List.length_append, List.length_cons, List.length_nil]
    omega
theorem Inv.fit {Z : List RSt} {r : RSt} (h : Inv 10 (r :: Z)) : Fit2 (upT r.tree Z) ∧ (upT r.tree Z).dep ≤ 60 := by
  match Z, h with
  | [], h => exact root_fit h.1 (fun k hk => by have := h.2.1 k hk; omega) (by have := h.2.2; omega)
  | [r0], ⟨h0, h1, h2⟩ => exact h0.shut h1 (by omega)
  | [r1, r0], ⟨h0, h1, h2, h3⟩ => exact h0.shut (nice_kid h1 h2) (by rw [wt_kid]; omega)
theorem Inv.mono {c c' : Nat} (hc : c ≤ c') {Z : List RSt} (h : Inv c Z) : Inv c' Z := by
  have hm : 109 * c ≤ 109 * c' := Nat.mul_le_mul_left _ hc
  match Z, h with
  | [r0], h => exact RootOk.mono hc h
  | [r1, r0], ⟨h0, h1, h2⟩ => exact ⟨h0.mono hc, h1, by omega⟩
  | [r2, r1, r0], ⟨h0, h1, h2, h3⟩ => exact ⟨h0.mono hc, h1, h2, by omega⟩
theorem Inv.start : Inv 0 [([Str.ofString "fig"], none, [])] := by
  refine ⟨Nice.mk (fun x hx => ?_) (fun d hd => by cases hd) (fun k hk => nomatch hk), (fun k hk => nomatch hk), Nat.le_refl 1⟩
  rw [List.mem_singleton.mp hx]; exact .head _
/-- a top that weighs at most 65 more -/
theorem Inv.more {c : Nat} {r r' : RSt} {Z : List RSt} (h : Inv c (r :: Z)) (hn : Nice r.tree → Nice r'.tree) (hw : r'.tree.wt ≤ r.tree.wt + 65) (h0 : RootOk c r → RootOk (c + 1) r') : Inv (c + 1) (r' :: Z) := by
  match Z, h with
  | [], h => exact h0 h
  | [r0], ⟨h0, h1, h2⟩ => exact ⟨h0.mono (by omega), hn h1, by omega⟩
  | [r1, r0], ⟨h0, h1, h2, h3⟩ => exact ⟨h0.mono (by omega), h1, hn h2, by omega⟩
theorem Inv.delay {c : Nat} {r : RSt} {Z : List RSt} {d : Int} (h : Inv c (r :: Z)) (hd : 0 ≤ d ∧ d < 1000) : Inv c ((r.1, some d, r.2.2) :: Z) := by
  have hn : Nice r.tree → Nice (RSt.tree (r.1, some d, r.2.2)) := by
    intro hr
    unfold RSt.tree at hr ⊢
    cases hr with
    | mk a b c => exact .mk a (fun e he => by cases he; exact hd) c
  have hw : (RSt.tree (r.1, some d, r.2.2)).wt = r.tree.wt := by unfold RSt.tree; rw [wt_mk, wt_mk]
  match Z, h with
  | [], h => exact ⟨hn h.1, h.2.1, h.2.2⟩
  | [r0], ⟨h0, h1, h2⟩ => exact ⟨h0, hn h1, by rw [hw]; exact h2⟩
  | [r1, r0], ⟨h0, h1, h2, h3⟩ => exact ⟨h0, h1, hn h2, by rw [hw]; exact h3⟩
theorem Inv.agent {c : Nat} {r : RSt} {Z : List RSt} {x : Str} (h : Inv c (r :: Z)) (hx : x ∈ agNames) : Inv (c + 1) ((r.1 ++ [x], r.2.1, r.2.2) :: Z) := by
  have hn : Nice r.tree → Nice (RSt.tree (r.1 ++ [x], r.2.1, r.2.2)) := by
    intro hr
    unfold RSt.tree at hr ⊢
    cases hr with
    | mk a b c =>
      refine .mk (fun y hy => ?_) b c
      rcases List.mem_append.mp hy with hy | hy
      · exact a y hy
      · rw [List.mem_singleton.mp hy]; exact hx
  refine h.more hn ?_ fun h0 => ?_
  · unfold RSt.tree
    rw [wt_mk, wt_mk]
    have := (ag_codes x hx).2
    simp only [List.map_append, List.map_cons, List.map_nil, List.sum_append, List.sum_cons, List.sum_nil]
    omega
  · refine ⟨hn h0.1, fun k hk => Nat.le_trans (h0.2.1 k hk) (by omega), ?_⟩
    have := h0.2.2
    simp only [List.length_append, List.length_cons, List.length_nil]
    omega
theorem bot_nice {d : Int} (hd : 0 ≤ d ∧ d < 1000) : Nice (.mk [Str.ofString "bot"] (some d) []) :=
  .mk (fun x hx => by rw [List.mem_singleton.mp hx]; decide +kernel) (fun e he => by cases he; exact hd) (fun k hk => nomatch hk)
theorem bot_wt (dl : Option Int) : (T.mk [Str.ofString "bot"] dl []).wt = 40 := by
  rw [wt_mk, wts]; decide +kernel
theorem Inv.bot {c : Nat} {r : RSt} {Z : List RSt} {d : Int} (h : Inv c (r :: Z)) (hd : 0 ≤ d ∧ d < 1000) : Inv (c + 1) ((r.1, r.2.1, r.2.2 ++ [.mk [Str.ofString "bot"] (some d) []]) :: Z) := by
  refine h.more (fun hr => nice_kid hr (bot_nice hd)) ?_ fun h0 => ?_
  · show (T.mk r.1 r.2.1 (r.2.2 ++ [_])).wt ≤ _
    rw [wt_kid, bot_wt]; omega
  · exact h0.kid (Nat.le_refl _) (bot_nice hd) (by rw [bot_wt]; omega)
def threeNames : List Str := [Str.ofString "*", Str.ofString "~~~???", Str.ofString "plum"]
theorem three_wt : ∀ n, n < 4 → ((threeNames.take n).map fun x => 13 + x.length).sum ≤ 50 := by decide +kernel
theorem three_in : ∀ n, n < 4 → ∀ x ∈ threeNames.take n, x ∈ agNames := by decide +kernel
theorem Inv.opened {c n : Nat} {r : RSt} {Z : List RSt} (h : Inv c (r :: Z)) (hn : n < 4) (hz : Z.length < 2) : Inv (c + 1) ((threeNames.take n, none, []) :: r :: Z) := by
  have h1 : Nice (RSt.tree (threeNames.take n, none, [])) := .mk (three_in n hn) (fun d hd => by cases hd) (fun k hk => nomatch hk)
  have h2 : (RSt.tree (threeNames.take n, none, [])).wt ≤ 74 := by
    unfold RSt.tree
    rw [wt_mk, wts]
    have := three_wt n hn
    show 24 + ((threeNames.take n).map fun x => 13 + x.length).sum + 0 ≤ 74
    omega
  match Z, h with
  | [], h => exact ⟨RootOk.mono (by omega) h, h1, by omega⟩
  | [r0], ⟨h0, h3, h4⟩ => exact ⟨h0.mono (by omega), h3, h1, by omega⟩
theorem Inv.closed {c : Nat} {r r' : RSt} {Z : List RSt} (h : Inv c (r :: r' :: Z)) : Inv (c + 1) ((r'.1, r'.2.1, r'.2.2 ++ [r.tree]) :: Z) := by
  match Z, h with
  | [], ⟨h0, h1, h2⟩ => exact h0.kid (Nat.le_refl _) h1 (by omega)
  | [r0], ⟨h0, h1, h2, h3⟩ =>
    refine ⟨h0.mono (by omega), nice_kid h1 h2, ?_⟩
    show (T.mk r'.1 r'.2.1 (r'.2.2 ++ [_])).wt ≤ _
    rw [wt_kid]; omega
theorem Inv.depth {c : Nat} {r : RSt} {Z : List RSt} (h : Inv c (r :: Z)) : Z.length ≤ 2 := by
  match Z, h with
  | [], _ => exact Nat.zero_le _
  | [_], _ => exact Nat.le_succ _
  | [_, _], _ => exact Nat.le_refl _
/-- how many steps may make the tree heavier -/
def heavy (xs : List Int) : Nat := (xs.filter fun x => x.fmod 5 != 3).length
end Mine
end

section
theorem Mine.offMTreeQ : True := by w_top off; trivial
open PySem PySem.W PyProof.Rows PySem.Calls PySem.Spec
set_option maxRecDepth 100000
set_option maxHeartbeats 1000000
namespace Mine
/-- the open records below the innermost: child, their places in the path, what they are, their objects -/
inductive Outs (ex : List (Addr × Obj)) : Addr → List Value → List RSt → List (Addr × Obj) → Prop
  | nil {c : Addr} : Outs ex c [] [] []
  | cons {c a g k : Addr} {n1 n2 n3 : Nat} {dv : Value} {l : List (Str × Tok)} {kvs : List Value} {r : RSt} {pv : List Value} {Z : List RSt} {oo : List (Addr × Obj)} :
      l.map (·.1) = r.1 → DlVal dv r.2.1 → RecsP (fun b o => (b, o) ∈ ex) kvs r.2.2 → Outs ex a pv Z oo →
      Outs ex c (pv ++ [.ref a]) (r :: Z) ((k, W.listOf (kvs ++ [Value.ref c]).toArray n3) :: (g, W.listOf (strValues l).toArray n2) :: (a, W.listOf [Value.ref g, dv, Value.ref k].toArray n1) :: oo)
theorem Outs.more {ex ex' : List (Addr × Obj)} (h : ∀ p ∈ ex, p ∈ ex') {c : Addr} {pv : List Value} {Z : List RSt} {oo : List (Addr × Obj)} (H : Outs ex c pv Z oo) : Outs ex' c pv Z oo := by
  induction H with
  | nil => exact .nil
  | cons a b c _ ih => exact .cons a b (c.mono fun _ _ hb => h _ hb) ih
theorem Outs.len {ex : List (Addr × Obj)} {c : Addr} {pv : List Value} {Z : List RSt} {oo : List (Addr × Obj)} (H : Outs ex c pv Z oo) : pv.length = Z.length := by
  induction H with
  | nil => rfl
  | cons _ _ _ _ ih => simp [ih]
theorem Outs.up {ex : List (Addr × Obj)} {P : Addr → Obj → Prop} (h : ∀ p ∈ ex, P p.1 p.2) {c : Addr} {pv : List Value} {Z : List RSt} {oo : List (Addr × Obj)} (H : Outs ex c pv Z oo) :
    (∀ p ∈ oo, P p.1 p.2) → ∀ {t : T}, RecP P (.ref c) t → ∃ v, (pv ++ [.ref c])[0]? = some v ∧ RecP P v (upT t Z) := by
  induction H with
  | nil => intro _ t ht; exact ⟨_, rfl, ht⟩
  | cons h1 h2 h3 _ ih =>
    rename_i c a g k n1 n2 n3 dv l kvs r pv Z oo _
    intro hoo t ht
    have hr : RecP P (.ref a) (.mk r.1 r.2.1 (r.2.2 ++ [t])) := by
      rw [← h1]
      exact .mk (hoo _ (.tail _ (.tail _ (.head _)))) (hoo _ (.tail _ (.head _))) h2 (hoo _ (.head _)) (RecsP.snoc ht (h3.mono fun b o hb => h _ hb))
    obtain ⟨v, e, q⟩ := ih (fun p hp => hoo p (.tail _ (.tail _ (.tail _ hp)))) hr
    refine ⟨v, ?_, q⟩
    rw [List.getElem?_append_left (by simp)]
    exact e

structure TSt where
  (p a g k : Addr) (np n1 n2 n3 : Nat) (dv : Value) (l : List (Str × Tok)) (kvs pv : List Value) (r : RSt) (Z : List RSt) (oo ex : List (Addr × Obj))
abbrev TSt.led (z : TSt) : List (Addr × Obj) :=
  (z.p, W.listOf (z.pv ++ [Value.ref z.a]).toArray z.np) :: (z.k, W.listOf z.kvs.toArray z.n3) :: (z.g, W.listOf (strValues z.l).toArray z.n2) :: (z.a, W.listOf [Value.ref z.g, z.dv, Value.ref z.k].toArray z.n1) :: (z.oo ++ z.ex)
structure TSt.Ok (z : TSt) (c : Nat) : Prop where
  ag : z.l.map (·.1) = z.r.1
  dl : DlVal z.dv z.r.2.1
  ks : RecsP (fun b o => (b, o) ∈ z.ex) z.kvs z.r.2.2
  outs : Outs z.ex z.a z.pv z.Z z.oo
  inv : Inv c (z.r :: z.Z)
  nd : (z.led.map (·.1)).Nodup
def TJ (xs : List Int) (i : Nat) (m : Str → Option Value) (news : List (Addr × Obj)) : Prop :=
  ∃ z : TSt, m (Str.ofString "path") = some (.ref z.p) ∧ news = z.led ∧ z.Ok (heavy (xs.take i))

theorem not_in {l : List (Addr × Obj)} {a : Addr} (h : a ∉ l.map (·.1)) : ∀ q ∈ l, @Ne Nat q.1 a := fun q hq e => h (e ▸ List.mem_map_of_mem hq)
theorem in_not {l : List (Addr × Obj)} {a : Addr} (h : ∀ q ∈ l, @Ne Nat q.1 a) : a ∉ l.map (·.1) := fun hm => by
  obtain ⟨q, hq, e⟩ := List.mem_map.mp hm
  exact h q hq e
theorem nd_ins {A E R : List Addr} (h : (A ++ R).Nodup) (hE : E.Nodup) (hd : ∀ e ∈ E, e ∉ A ++ R) : (A ++ (E ++ R)).Nodup := by
  refine (List.perm_append_comm_assoc A E R).nodup_iff.mpr ?_
  rw [List.nodup_append]
  exact ⟨hE, h, fun a ha b hb e => hd a ha (e ▸ hb)⟩
theorem mem_mix {α : Type} {q : α} {E P O X Y : List α} (h : q ∈ (P ++ (O ++ (E ++ X))) ++ Y) : q ∈ E ++ (P ++ ((O ++ X) ++ Y)) := by
  simp only [List.mem_append] at h ⊢
  rcases h with (h | h | h | h) | h <;> simp [h]
theorem mem_open {α : Type} {q p d1 d2 d3 d4 : α} {R Y : List α} (h : q ∈ (p :: d3 :: d2 :: d4 :: R) ++ Y) : q ∈ d4 :: d3 :: d2 :: d1 :: p :: (R ++ Y) := by
  simp only [List.mem_append, List.mem_cons] at h ⊢
  rcases h with (h | h | h | h | h) | h <;> simp [h]
theorem mem_close {α : Type} {q d p : α} {B A O X Y : List α} (h : q ∈ (d :: (B ++ (O ++ (A ++ X)))) ++ Y) : q ∈ d :: p :: (A ++ (((B ++ O) ++ X) ++ Y)) := by
  simp only [List.mem_append, List.mem_cons] at h ⊢
  rcases h with (h | h | h | h | h) | h <;> simp [h]
theorem off_ads {z : TSt} {I : Addr} (h : I ∉ z.led.map (·.1)) : ∀ q ∈ z.led, q.1 ∉ [I] := by
  intro q hq hI
  exact h (List.mem_singleton.mp hI ▸ List.mem_map_of_mem hq)
theorem ads3 {AA X Y : List Addr} {D1 D2 D3 I : Addr} (nd : (AA ++ X).Nodup) (hI : I ∉ AA ++ X) (hY : I ∈ Y) (n1 : D1 ∉ (AA ++ X) ++ Y) (n2 : D2 ∉ D1 :: ((AA ++ X) ++ Y)) (n3 : D3 ∉ D2 :: D1 :: ((AA ++ X) ++ Y)) :
    I ∉ AA ++ ([D3, D2, D1] ++ X) ∧ (AA ++ ([D3, D2, D1] ++ X)).Nodup := by
  simp only [List.mem_append, List.mem_cons, not_or] at n1 n2 n3 hI
  refine ⟨?_, nd_ins nd ?_ ?_⟩
  · simp only [List.mem_append, List.mem_cons, List.not_mem_nil, or_false, not_or]
    exact ⟨hI.1, ⟨fun e => n3.2.2.2 (e ▸ hY), fun e => n2.2.2 (e ▸ hY), fun e => n1.2 (e ▸ hY)⟩, hI.2⟩
  · simp only [List.nodup_cons, List.mem_cons, List.not_mem_nil, or_false, not_or, not_false_eq_true, List.nodup_nil, and_true]
    exact ⟨⟨n3.1, n3.2.1⟩, n2.1⟩
  · intro e he
    simp only [List.mem_append, not_or]
    rcases List.mem_cons.mp he with rfl | he
    · exact n3.2.2.1
    · rcases List.mem_cons.mp he with rfl | he
      · exact n2.2.1
      · rw [List.mem_singleton.mp he]; exact n1.1
theorem bot_end {h₀ h : Heap} {L I : Addr} {o : Obj} {xs : List Int} {i : Nat} {s : Shared} {Q : Flow → Shared → Prop} {tk : Nat} {m : Str → Option Value} {D1 D2 D3 p a g k : Addr} {np n1 n2 n3 : Nat} {dv : Value} {l : List (Str × Tok)} {kvs pv : List Value} {r : RSt} {Z : List RSt} {oo ex : List (Addr × Obj)} {d : Int} {t1 t2 : Tok}
    (hI : I ∉ p :: k :: g :: a :: (oo ++ ex).map (·.1)) (F : Fr h₀ L h m)
    (N : News h₀ L h ((D3, W.listOf #[Value.ref D1, Value.int d t2, Value.ref D2] 0) :: (D2, W.listOf #[] 0) :: (D1, W.listOf #[Value.str (Str.ofString "bot") t1] 0) :: (p, W.listOf (pv ++ [Value.ref a]).toArray np) :: (k, W.listOf (kvs ++ [Value.ref D3]).toArray n3) :: (g, W.listOf (strValues l).toArray n2) :: (a, W.listOf [Value.ref g, dv, Value.ref k].toArray n1) :: (oo ++ ex ++ [(I, o)])))
    (nD1 : D1 ∉ p :: k :: g :: a :: (oo ++ ex ++ [(I, o)]).map (·.1)) (nD2 : D2 ∉ D1 :: p :: k :: g :: a :: (oo ++ ex ++ [(I, o)]).map (·.1)) (nD3 : D3 ∉ D2 :: D1 :: p :: k :: g :: a :: (oo ++ ex ++ [(I, o)]).map (·.1))
    (okag : l.map (·.1) = r.1) (okdl : DlVal dv r.2.1) (okks : RecsP (fun b o => (b, o) ∈ ex) kvs r.2.2) (okouts : Outs ex a pv Z oo) (okinv : Inv (heavy (xs.take (i + 1))) ((r.1, r.2.1, r.2.2 ++ [.mk [Str.ofString "bot"] (some d) []]) :: Z))
    (oknd : (p :: k :: g :: a :: (oo ++ ex).map (·.1)).Nodup) (e1 : m (Str.ofString "path") = some (.ref p)) :
    TurnEnd h₀ L [I] [(I, o)] (TJ xs (i + 1)) s Q .next { s with heap := h, toks := tk } := by
  rw [List.map_append] at oknd hI
  rw [List.map_append, List.map_append] at nD1 nD2 nD3
  have key := ads3 (AA := p :: k :: g :: a :: oo.map (fun q : Addr × Obj => q.1)) (X := ex.map (fun q : Addr × Obj => q.1)) (Y := [I]) (D1 := D1) (D2 := D2) (D3 := D3) oknd hI (.head _) nD1 nD2 nD3
  let E3 : List (Addr × Obj) := [(D3, W.listOf #[Value.ref D1, Value.int d t2, Value.ref D2] 0), (D2, W.listOf #[] 0), (D1, W.listOf #[Value.str (Str.ofString "bot") t1] 0)]
  refine ⟨h, tk, m, TSt.led ⟨p, a, g, k, np, n1, n2, n3, dv, l, kvs ++ [Value.ref D3], pv, (r.1, r.2.1, r.2.2 ++ [.mk [Str.ofString "bot"] (some d) []]), Z, oo, E3 ++ ex⟩, rfl, F, ?_, ?_, ⟨_, e1, rfl, ⟨okag, okdl, ?_, ?_, okinv, ?_⟩⟩⟩
  · intro q hq
    exact N q (mem_mix (E := E3) (P := [_, _, _, _]) hq)
  · refine off_ads ?_
    show I ∉ p :: k :: g :: a :: (oo ++ (E3 ++ ex)).map (fun q : Addr × Obj => q.1)
    rw [List.map_append, List.map_append]
    exact key.1
  · refine RecsP.snoc ?_ (okks.mono fun _ _ hb => List.mem_append_right _ hb)
    exact .mk (l := [(Str.ofString "bot", t1)]) (kvs := []) (n1 := 0) (n2 := 0) (n3 := 0) (List.mem_append_left _ (.head _)) (List.mem_append_left _ (.tail _ (.tail _ (.head _)))) ⟨_, rfl⟩ (List.mem_append_left _ (.tail _ (.head _))) .nil
  · exact okouts.more fun q hq => List.mem_append_right _ hq
  · show (p :: k :: g :: a :: (oo ++ (E3 ++ ex)).map (fun q : Addr × Obj => q.1)).Nodup
    rw [List.map_append, List.map_append]
    exact key.2
theorem open_end {h₀ h : Heap} {L I : Addr} {o : Obj} {xs : List Int} {i : Nat} {s : Shared} {Q : Flow → Shared → Prop} {tk : Nat} {m : Str → Option Value} {D1 D2 D3 D4 p a g k : Addr} {o1 : Obj} {np n1 n2 n3 : Nat} {dv : Value} {l l3 : List (Str × Tok)} {kvs pv : List Value} {r : RSt} {ags : List Str} {Z : List RSt} {oo ex : List (Addr × Obj)}
    (hI : I ∉ p :: k :: g :: a :: (oo ++ ex).map (·.1)) (F : Fr h₀ L h m)
    (N : News h₀ L h ((D4, W.listOf [Value.ref D2, Value.none, Value.ref D3].toArray 0) :: (D3, W.listOf ([] : List Value).toArray 0) :: (D2, W.listOf (strValues l3).toArray 0) :: (D1, o1) :: (p, W.listOf ((pv ++ [Value.ref a]) ++ [Value.ref D4]).toArray np) :: (k, W.listOf (kvs ++ [Value.ref D4]).toArray n3) :: (g, W.listOf (strValues l).toArray n2) :: (a, W.listOf [Value.ref g, dv, Value.ref k].toArray n1) :: (oo ++ ex ++ [(I, o)])))
    (nD2 : D2 ∉ D1 :: p :: k :: g :: a :: (oo ++ ex ++ [(I, o)]).map (·.1)) (nD3 : D3 ∉ D2 :: D1 :: p :: k :: g :: a :: (oo ++ ex ++ [(I, o)]).map (·.1)) (nD4 : D4 ∉ D3 :: D2 :: D1 :: p :: k :: g :: a :: (oo ++ ex ++ [(I, o)]).map (·.1))
    (okag : l.map (·.1) = r.1) (okdl : DlVal dv r.2.1) (okks : RecsP (fun b o => (b, o) ∈ ex) kvs r.2.2) (okouts : Outs ex a pv Z oo) (okl3 : l3.map (·.1) = ags) (okinv : Inv (heavy (xs.take (i + 1))) ((ags, none, []) :: r :: Z))
    (oknd : (p :: k :: g :: a :: (oo ++ ex).map (·.1)).Nodup) (e1 : m (Str.ofString "path") = some (.ref p)) :
    TurnEnd h₀ L [I] [(I, o)] (TJ xs (i + 1)) s Q .next { s with heap := h, toks := tk } := by
  rw [List.map_append (l₂ := [(I, o)])] at nD2 nD3 nD4
  have key := ads3 (AA := [p]) (X := k :: g :: a :: (oo ++ ex).map (fun q : Addr × Obj => q.1)) (Y := [I]) (D1 := D4) (D2 := D2) (D3 := D3) oknd hI (.head _) (fun hm => nD4 (.tail _ (.tail _ (.tail _ hm)))) (fun hm => (List.mem_cons.mp hm).elim (fun q => nD4 (q ▸ .tail _ (.head _))) fun hm => nD2 (.tail _ hm)) (fun hm => (List.mem_cons.mp hm).elim (fun q => nD3 (q ▸ .head _)) fun hm => (List.mem_cons.mp hm).elim (fun q => nD4 (q ▸ .head _)) fun hm => nD3 (.tail _ (.tail _ hm)))
  refine ⟨h, tk, m, TSt.led ⟨p, D4, D2, D3, np, 0, 0, 0, .none, l3, [], pv ++ [Value.ref a], (ags, none, []), r :: Z, (k, W.listOf (kvs ++ [Value.ref D4]).toArray n3) :: (g, W.listOf (strValues l).toArray n2) :: (a, W.listOf [Value.ref g, dv, Value.ref k].toArray n1) :: oo, ex⟩, rfl, F, ?_, ?_, ⟨_, e1, rfl, ⟨okl3, rfl, .nil, .cons okag okdl okks okouts, okinv, key.2⟩⟩⟩
  · intro q hq
    exact N q (mem_open hq)
  · exact off_ads key.1
theorem close_end {h₀ h : Heap} {L I : Addr} {o : Obj} {xs : List Int} {i : Nat} {s : Shared} {Q : Flow → Shared → Prop} {tk : Nat} {m : Str → Option Value} {D p a g k : Addr} {np n1 n2 n3 : Nat} {dv : Value} {l : List (Str × Tok)} {kvs pv : List Value} {r : RSt} {Z : List RSt} {oo ex : List (Addr × Obj)} {c : Nat}
    (hI : I ∉ p :: k :: g :: a :: (oo ++ ex).map (·.1)) (F : Fr h₀ L h m)
    (N : News h₀ L h ((D, W.listOf pv.toArray 0) :: (p, W.listOf (pv ++ [Value.ref a]).toArray np) :: (k, W.listOf kvs.toArray n3) :: (g, W.listOf (strValues l).toArray n2) :: (a, W.listOf [Value.ref g, dv, Value.ref k].toArray n1) :: (oo ++ ex ++ [(I, o)])))
    (nD : D ∉ p :: k :: g :: a :: (oo ++ ex ++ [(I, o)]).map (·.1))
    (okag : l.map (·.1) = r.1) (okdl : DlVal dv r.2.1) (okks : RecsP (fun b o => (b, o) ∈ ex) kvs r.2.2) (okouts : Outs ex a pv Z oo) (hZ : Z.length ≥ 1) (okinv : Inv c (r :: Z)) (hc : heavy (xs.take (i + 1)) = c + 1)
    (oknd : (p :: k :: g :: a :: (oo ++ ex).map (·.1)).Nodup) (e1 : m (Str.ofString "path") = some (.ref D)) :
    TurnEnd h₀ L [I] [(I, o)] (TJ xs (i + 1)) s Q .next { s with heap := h, toks := tk } := by
  cases okouts with
  | nil => simp at hZ
  | cons h1 h2 h3 h4 =>
    rename_i a1 g1 k1 m1 m2 m3 dv1 l1 kvs1 r1 pv1 Z1 oo1
    have e : (oo1 ++ ((k, W.listOf kvs.toArray n3) :: (g, W.listOf (strValues l).toArray n2) :: (a, W.listOf [Value.ref g, dv, Value.ref k].toArray n1) :: ex)).map (fun q : Addr × Obj => q.1) = oo1.map (fun q : Addr × Obj => q.1) ++ ([k, g, a] ++ ex.map (fun q : Addr × Obj => q.1)) := List.map_append
    have hpm := List.perm_append_comm_assoc (k1 :: g1 :: a1 :: oo1.map (fun q : Addr × Obj => q.1)) [k, g, a] (ex.map (fun q : Addr × Obj => q.1))
    rw [List.map_append, List.map_append] at nD
    rw [List.map_append] at hI oknd
    have hDI : D ≠ I := fun q => nD (.tail _ (.tail _ (.tail _ (.tail _ (List.mem_append_right _ (q ▸ .head _))))))
    refine ⟨h, tk, m, TSt.led ⟨D, a1, g1, k1, 0, m1, m2, m3, dv1, l1, kvs1 ++ [Value.ref a], pv1, (r1.1, r1.2.1, r1.2.2 ++ [r.tree]), Z1, oo1, (k, W.listOf kvs.toArray n3) :: (g, W.listOf (strValues l).toArray n2) :: (a, W.listOf [Value.ref g, dv, Value.ref k].toArray n1) :: ex⟩, rfl, F, ?_, off_ads ?_, ⟨_, e1, rfl, ⟨h1, h2, ?_, h4.more fun q hq => .tail _ (.tail _ (.tail _ hq)), by rw [hc]; exact okinv.closed, ?_⟩⟩⟩
    · intro q hq
      exact N q (mem_close (A := [_, _, _]) (B := [_, _, _]) hq)
    · show I ∉ D :: k1 :: g1 :: a1 :: _
      rw [e]
      refine fun hm => (List.mem_cons.mp hm).elim (fun q => hDI q.symm) fun hm => hI (.tail _ (hpm.mem_iff.mp hm))
    · refine RecsP.snoc ?_ (h3.mono fun _ _ hb => .tail _ (.tail _ (.tail _ hb)))
      unfold RSt.tree
      rw [← okag]
      exact .mk (n1 := n1) (n2 := n2) (n3 := n3) (.tail _ (.tail _ (.head _))) (.tail _ (.head _)) okdl (.head _) (okks.mono fun _ _ hb => .tail _ (.tail _ (.tail _ hb)))
    · show (D :: k1 :: g1 :: a1 :: _).Nodup
      rw [e]
      exact List.nodup_cons.mpr ⟨fun hm => nD (.tail _ (List.mem_append_left [I] (hpm.mem_iff.mp hm))), hpm.nodup_iff.mpr (List.nodup_cons.mp oknd).2⟩
end Mine
end

section
theorem Mine.offMTree : True := by w_top off; trivial
open PySem PySem.W PyProof.Rows PySem.Calls PySem.Spec
set_option maxRecDepth 100000
set_option maxHeartbeats 4000000
namespace Mine
theorem fillK : (fun (_ : OpenLaw) (_ : Params → Frag) => True) PySem.Challenge.rw_mr0112_01 hd.heap_39 := by k_fill; trivial

def TreeC (w : World) : Prop := ∀ {prog : Program} {dp un : Nat} {gd : Option (List Code)} {outer : List Env} {base : Heap} {E : Value → Shared → Prop} {s : Shared} {mg mb : Str → Option Value} {mean : ExcName → Option Value} {loose : List Str} {Q : Value → Shared → Prop} {nb : Addr} {vs : List Value} {xs : List Int},
  (hd.heap_39 w.params).In s.heap → Top hd.view_39 loose mean mg mb s.heap → Below (A5 dp un gd outer) base outer s.heap → dp + 10 < recursionLimit → un + 100 < cLine →
  s.heap.IsList nb vs.toArray → IntsAre vs xs → heavy xs ≤ 10 → xs.length ≤ 100 →
  (∀ h' tk v' t, (∀ b o, s.heap.get? b = some o → h'.get? b = some o) → RecIn h' (fun b => s.heap.get? b = none) v' t → Fit2 t → t.dep ≤ 60 → Q v' { s with heap := h', toks := tk }) →
  wpAny (model prog w) (A5 dp un gd outer) (call (.ref 107) [.ref nb]) Q E s

local macro_rules | `(tactic| k_room) => `(tactic| ((try simp only [depth_mark, depth_under_make, depth_under_kw, depth_in1, depth_deeper]); (show (_ : Nat) < 1000); (try dsimp only); omega))
local macro_rules | `(tactic| k_units) => `(tactic| ((try simp only [units_in1, units_deeper, Around.mark_units]); (show (_ : Nat) < 9900); (try dsimp only); omega))
local macro_rules | `(tactic| walk_at "exec For Name Name cons nil") => `(tactic| (k_here; (rename Fr _ _ _ _ => lF'); (with_unfolding_all refine' For_invVF lF' ?k1 ?k2 ?_; (case k1 => exact rfl); (case k2 => exact rfl))))
local macro_rules | `(tactic| walk_at "execs cons Assign cons") => `(tactic| ((with_reducible refine wpAny_execs_cons ?_); try dsimp only))
local macro_rules | `(tactic| walk_at "pyIter ref") => `(tactic| (k_here; refine held ?_))
local macro_rules | `(tactic| walk_at "newList") => `(tactic| (k_here; refine held ?_))

theorem tail_last {prog : Program} {w : World} {A : Around} {E : Value → Shared → Prop} {s : Shared} {value slice : Expr} {a : Addr} {u : Tok} {vs : List Value} {v : Value} {Q : Value → Shared → Prop} (hL : s.heap.IsList a (vs ++ [v]).toArray) (h : Q v s)
    (hs : subscripted slice false (.ref a) (.int (-1) u) = operate [.ref a, .int (-1) u] (getItem (.ref a) (.int (-1) u)) := by with_unfolding_all rfl) :
    wpAny (model prog w) A (subscriptTail value slice (.ref a) (.int (-1) u)) Q E s :=
  tail_any hL.typeIs slot_list_getitem.lookup (wpAny_getItem_list_neg hL (by decide) (by simp only [List.size_toArray, List.length_append, List.length_cons, List.length_nil]; omega) (by decide) (by
    have e : ((-1 : Int) + ((vs ++ [v]).toArray.size : Int)).toNat = vs.length := by simp only [List.size_toArray, List.length_append, List.length_cons, List.length_nil]; omega
    rw [e]; simp) h) hs
theorem tail_first {prog : Program} {w : World} {A : Around} {E : Value → Shared → Prop} {s : Shared} {value slice : Expr} {a : Addr} {u : Tok} {vs : List Value} {v : Value} {Q : Value → Shared → Prop} (hL : s.heap.IsList a vs.toArray) (hx : vs[0]? = some v) (h : Q v s)
    (hs : subscripted slice false (.ref a) (.int 0 u) = operate [.ref a, .int 0 u] (getItem (.ref a) (.int 0 u)) := by with_unfolding_all rfl) :
    wpAny (model prog w) A (subscriptTail value slice (.ref a) (.int 0 u)) Q E s :=
  tail_any hL.typeIs slot_list_getitem.lookup (wpAny_getItem_list hL (by decide) (by decide) (by simpa using hx) h) hs
theorem ints_at : ∀ {vs : List Value} {xs : List Int}, IntsAre vs xs → ∀ {i : Nat} {v : Value}, vs[i]? = some v → ∃ x tx, xs[i]? = some x ∧ v = .int x tx
  | _, _, .nil, i, v, e => by simp at e
  | _, _, .cons x t h, 0, v, e => by simp at e; subst e; exact ⟨x, t, rfl, rfl⟩
  | _, _, .cons x t h, i + 1, v, e => by
    simp at e
    obtain ⟨y, ty, h1, h2⟩ := ints_at h e
    exact ⟨y, ty, by simpa using h1, h2⟩
theorem tail_at {prog : Program} {w : World} {A : Around} {E : Value → Shared → Prop} {s : Shared} {value slice : Expr} {a : Addr} {k : Int} {u : Tok} {vs : List Value} {v : Value} {Q : Value → Shared → Prop} (hL : s.heap.IsList a vs.toArray) (h0 : 0 ≤ k) (h1 : k < 2 ^ 63) (hx : vs[k.toNat]? = some v) (h : Q v s)
    (hs : subscripted slice false (.ref a) (.int k u) = operate [.ref a, .int k u] (getItem (.ref a) (.int k u)) := by with_unfolding_all rfl) :
    wpAny (model prog w) A (subscriptTail value slice (.ref a) (.int k u)) Q E s :=
  tail_any hL.typeIs slot_list_getitem.lookup (wpAny_getItem_list hL h0 h1 (by simpa using hx) h) hs
theorem four_at {n : Int} (h0 : 0 ≤ n) (h1 : n < 4) (t0 t1 t2 t3 : Tok) : ∃ x t, [Value.str (Str.ofString "fig") t0, .str (Str.ofString "*") t1, .str (Str.ofString "plum/2") t2, .str (Str.ofString "a: b") t3][n.toNat]? = some (.str x t) ∧ x ∈ agNames := by
  have : n = 0 ∨ n = 1 ∨ n = 2 ∨ n = 3 := by omega
  rcases this with rfl | rfl | rfl | rfl
  · exact ⟨_, _, rfl, .head _⟩
  · exact ⟨_, _, rfl, .tail _ (.head _)⟩
  · exact ⟨_, _, rfl, .tail _ (.tail _ (.head _))⟩
  · exact ⟨_, _, rfl, .tail _ (.tail _ (.tail _ (.head _)))⟩
theorem heavy_step {xs : List Int} {i : Nat} {x : Int} (h : xs[i]? = some x) : heavy (xs.take (i + 1)) = heavy (xs.take i) + (if x.fmod 5 = 3 then 0 else 1) := by
  unfold heavy
  rw [List.take_add_one, h, List.filter_append, List.length_append]
  congr 1
  by_cases hx : x.fmod 5 = 3 <;> simp [hx]
local macro_rules | `(tactic| walk_at "call builtin:len") => `(tactic| (k_here; refine held ?_))
local macro_rules | `(tactic| walk_at "subscriptTail Name Slice ref ref") => `(tactic| (k_here; refine held ?_))
local macro_rules | `(tactic| walk_at "setItem ref int") => `(tactic| (k_here; refine held ?_))
local macro_rules | `(tactic| walk_at "call builtin:list.append") => `(tactic| (k_here; refine held ?_))
theorem Inv.small {c : Nat} {r : RSt} {Z : List RSt} (h : Inv c (r :: Z)) : r.1.length + r.2.2.length ≤ 1 + 109 * c := by
  have key : 13 * r.1.length + 9 * r.2.2.length ≤ r.tree.wt := by
    unfold RSt.tree
    rw [wt_mk]
    have := ag_sum_len r.1
    have := wts_len r.2.2
    omega
  match Z, h with
  | [], h => have := h.2.2; omega
  | [r0], ⟨h0, h1, h2⟩ => omega
  | [r1, r0], ⟨h0, h1, h2, h3⟩ => omega
theorem heavy_le (xs : List Int) : heavy xs ≤ xs.length := List.length_filter_le _ _
theorem fmod_lt {x n : Int} (h : 0 < n) : 0 ≤ x.fmod n ∧ x.fmod n < n := ⟨Int.fmod_nonneg_of_pos _ h, Int.fmod_lt_of_pos _ h⟩
theorem slice_led {prog : Program} {w : World} {A : Around} {E : Value → Shared → Prop} {h₀ : Heap} {L : Addr} {m : Str → Option Value} {news : List (Addr × Obj)} {H : Heap} {gn : Array GenState} {dr : Drawn} {tk : Nat} {os : OsState} {value slice : Expr} {l : Addr} {items its' : Array Value} {vl vu : Value} {lo hi : Option Int} {Q : Value → Shared → Prop}
    (F : Fr h₀ L H m) (N : News h₀ L H news) (hl : H.IsList l items) (pl : IsPart vl lo) (pu : IsPart vu hi) (hp : slicePick items lo hi none = its')
    (h : ∀ D h', Fr h₀ L h' m → News h₀ L h' ((D, W.listOf its' 0) :: news) → (∀ p ∈ news, @Ne Nat p.1 D) → Q (.ref D) ⟨h', gn, dr, tk, os⟩)
    (hsz : items.size ≤ sizeLine)
    (hs : subscripted slice false (.ref l) (.ref H.objs.size) = operate [.ref H.objs.size, .ref l] (getItem (.ref l) (.ref H.objs.size)) := by with_unfolding_all rfl)
    (ht : ∀ r, letTemporaryGo value (.ref l) r = pure () := by intro _; with_unfolding_all rfl) :
    wpAny (model prog w) A (subscriptTail value slice (.ref l) (.ref H.objs.size)) Q E ⟨H.push { cls := .type "slice", data := .fields #[vl, vu, .none] }, gn, dr, tk, os⟩ := by
  refine slice_list (s := ⟨H, gn, dr, tk, os⟩) F N hl pl pu (fun h' F' N' => ?_) hs ht hsz
  rw [hp] at N'
  exact h _ _ F' N' fun p hp => Nat.ne_of_lt (Nat.lt_succ_of_lt (Heap.lt_size (N p hp).1))
theorem pick_three {n : Int} (h0 : 0 ≤ n) (t1 t2 t3 : Tok) : slicePick #[Value.str (Str.ofString "*") t1, .str (Str.ofString "~~~???") t2, .str (Str.ofString "plum") t3] none (some n) none = (strValues ([(Str.ofString "*", t1), (Str.ofString "~~~???", t2), (Str.ofString "plum", t3)].take n.toNat)).toArray := by
  obtain ⟨b, rfl⟩ := Int.eq_ofNat_of_zero_le h0
  rw [slicePick_upto']
  simp [strValues, List.map_take]
theorem pick_but (pv : List Value) (v : Value) : slicePick (pv ++ [v]).toArray none (some (-1)) none = pv.toArray := by
  rw [show (-1 : Int) = -((1 : Nat) : Int) from rfl, slicePick_butLast _ 1 (Nat.le_refl _)]
  simp
theorem mod_lit {prog : Program} {w : World} {A : Around} {E : Value → Shared → Prop} {s : Shared} {a n r : Int} {t u : Tok} {Q : Value → Shared → Prop} (h : a.fmod n = r) (hn : n ≠ 0) (hQ : Q (.int r s.toks) { s with toks := s.toks + 1 }) : wpAny (model prog w) A (binaryOp .Mod (.int a t) (.int n u)) Q E s :=
  PyProof.Rows.mod_int hn (h ▸ hQ)
local macro_rules | `(tactic| walk_at "binaryOp Mod int int") => `(tactic| (k_here; (refine mod_lit (by assumption) (by decide) ?_)))
def Mid (s : Shared) (h₀ : Heap) (L : Addr) (m : Str → Option Value) (news : List (Addr × Obj)) (b c : Bool) (s' : Shared) : Prop := c = b ∧ ∃ h' tk', s' = { s with heap := h', toks := tk' } ∧ Fr h₀ L h' m ∧ News h₀ L h' news
theorem if_rule {prog : Program} {w : World} {A : Around} {E : Value → Shared → Prop} {s : Shared} {env : Env} {h₀ : Heap} {L : Addr} {m : Str → Option Value} {news : List (Addr × Obj)} {test : Expr} {body orelse : List Stmt} {pos : Pos} {b : Bool} {Q : Flow → Shared → Prop} (_F : Fr h₀ L s.heap m) (_N : News h₀ L s.heap news)
    (h1 : wpAny (model prog w) A (isTrue test env (eval test env)) (Mid s h₀ L m news b) E s)
    (h2 : b = true → ∀ h' tk', Fr h₀ L h' m → News h₀ L h' news → wpAny (model prog w) A (execs body env) Q E { s with heap := h', toks := tk' })
    (h3 : b = false → ∀ h' tk', Fr h₀ L h' m → News h₀ L h' news → wpAny (model prog w) A (execs orelse env) Q E { s with heap := h', toks := tk' }) :
    wpAny (model prog w) A (exec (.If test body orelse pos) env) Q E s := by
  refine wpAny_If (wpAny_mono h1 (fun c s' h => ?_) fun _ _ x => x)
  obtain ⟨rfl, h', tk', rfl, F', N'⟩ := h
  cases c with
  | true => exact h2 rfl h' tk' F' N'
  | false => exact h3 rfl h' tk' F' N'
local macro_rules | `(tactic| walk_at "exec If") => `(tactic| (k_here; refine held ?_))
theorem c_tree {w : World} : TreeC w := by
  intro prog dp un gd outer base E s mg mb mean loose Q nb vs xs X T B hdp hun hnb hxs hhv hxl hQ
  replace hdp : dp + 10 < 1000 := hdp
  replace hun : un + 100 < 9900 := hun
  k_dflt (refine' enterK (binds := [(Str.ofString "numbers", .ref nb)]) X ?lim ?k6 ?k7 ?k8 ?k9 ?kB ?c2 ?c3 ?c4 ?c5 ?_; (case k6 => k_is); (case k7 => k_is); (case k9 => first | exact BindsTo.of_eq rfl | exact binds_K (by k_in) rfl (by k_is) rfl rfl rfl); (case c5 => decide); (case kB => exact locs rfl); (case c2 => exact rfl); (case c3 => exact rfl); (case c4 => exact rfl); (case k8 => k_room); (case lim => exact T.nolimit))
  intro L' h₁ F' N'
  rw [look1] at F'
  try dsimp only
  try k_fold
  k_steps
  refine unheld (new_led (by k_asm) (by k_asm) ?_ (by rw [sizeLine_eq]; exact Nat.le_of_ble_eq_true rfl))
  clear F' N'
  intro g h1 F1 N1 _ ng
  k_steps
  refine unheld (new_led (by k_asm) (by k_asm) ?_ (by rw [sizeLine_eq]; exact Nat.le_of_ble_eq_true rfl))
  clear F1 N1
  intro k h2 F2 N2 _ nk
  k_steps
  refine unheld (new_led (by k_asm) (by k_asm) ?_ (by rw [sizeLine_eq]; exact Nat.le_of_ble_eq_true rfl))
  clear F2 N2
  intro a h3 F3 N3 _ na
  k_steps
  refine unheld (new_led (by k_asm) (by k_asm) ?_ (by rw [sizeLine_eq]; exact Nat.le_of_ble_eq_true rfl))
  clear F3 N3
  intro p h4 F4 N4 _ np
  k_steps
  refine unheld ?_
  rename Fr s.heap L' _ _ => F5
  rename News s.heap L' _ _ => N5
  refine iterList (TJ xs) rfl hnb F5 (news := [(p, W.listOf #[Value.ref a] 0), (k, W.listOf #[] 0), (g, W.listOf #[Value.str (Str.ofString "fig") (s.toks + [(Str.ofString "numbers", Value.ref nb)].length)] 0), (a, W.listOf #[Value.ref g, Value.none, Value.ref k] 0)]) ?_ ?_ ?_ ?_
  · intro q hq
    refine N5 q ?_
    rcases List.mem_cons.mp hq with rfl | hq
    · exact .head _
    · rcases List.mem_cons.mp hq with rfl | hq
      · exact .tail _ (.tail _ (.head _))
      · rcases List.mem_cons.mp hq with rfl | hq
        · exact .tail _ (.tail _ (.tail _ (.head _)))
        · rw [List.mem_singleton.mp hq]; exact .tail _ (.head _)
  · refine ⟨⟨p, a, g, k, 0, 0, 0, 0, .none, [(Str.ofString "fig", _)], [], [], ([Str.ofString "fig"], none, []), [], [], []⟩, rfl, rfl, ⟨rfl, rfl, .nil, .nil, Inv.start, ?_⟩⟩
    have h1 := np _ (.head _)
    have h2 := np _ (.tail _ (.head _))
    have h3 := np _ (.tail _ (.tail _ (.head _)))
    have h4 := na _ (.head _)
    have h5 := na _ (.tail _ (.head _))
    have h6 := nk _ (.head _)
    dsimp only at h1 h2 h3 h4 h5 h6
    simp only [TSt.led, List.map_cons, List.map_nil, List.append_nil, List.nodup_cons, List.mem_cons, List.not_mem_nil, not_or, or_false, not_false_eq_true, List.nodup_nil, and_true]
    exact ⟨⟨Ne.symm h2, Ne.symm h3, Ne.symm h1⟩, ⟨Ne.symm h6, h4⟩, h5⟩
  · rintro i v m₁ news₁ h tk I o hv hoff ⟨z, e1, rfl, ok⟩ F6 N6 Qf hend
    obtain ⟨p, a, g, k, np, n1, n2, n3, dv, l, kvs, pv, r, Z, oo, ex⟩ := z
    obtain ⟨okag, okdl, okks, okouts, okinv, oknd⟩ := ok
    dsimp only at e1 okag okdl okks okouts okinv oknd hoff N6
    obtain ⟨x, tx, hx, rfl⟩ : ∃ x tx, xs[i]? = some x ∧ v = .int x tx := ints_at hxs hv
    replace F6 := fr_put (x := Str.ofString "path") F6 e1
    clear e1
    simp only [TSt.led, List.cons_append] at N6
    k_steps
    refine tail_last (isList_at (N6 _ (.head _)).1) ?_
    have hst := heavy_step hx
    have hnd := oknd
    simp only [TSt.led, List.map_cons, List.nodup_cons, List.mem_cons, not_or] at hnd
    obtain ⟨⟨hpk, hpg, hpa, hpr⟩, ⟨hkg, hka, hkr⟩, ⟨hga, hgr⟩, har, hrest⟩ := hnd
    have hsm := okinv.small
    have hhl := heavy_le (xs.take i)
    have htl : (xs.take i).length ≤ xs.length := List.length_take_le' _ _
    have hzl : (strValues l).toArray.size ≤ sizeLine := by
      have := congrArg List.length okag
      rw [List.length_map] at this
      rw [sizeLine_eq]; simp [strValues]; omega
    have hzk : kvs.toArray.size ≤ sizeLine := by
      have := okks.length
      rw [sizeLine_eq, List.size_toArray]; omega
    have hIp := hoff _ (.head _)
    have hIk := hoff _ (.tail _ (.head _))
    have hIg := hoff _ (.tail _ (.tail _ (.head _)))
    have hIa := hoff _ (.tail _ (.tail _ (.tail _ (.head _))))
    have hI := in_not hoff
    dsimp only at hIp hIk hIg hIa
    have hpl := okouts.len
    have hdp2 := okinv.depth
    k_steps
    rename Fr s.heap L' _ _ => F7
    rename News s.heap L' _ _ => N7
    replace N7 := News.tail' N7
    refine unheld (if_rule (b := decide (x.fmod 5 = 0 ∧ Z.length < 2)) F7 N7 ?_ ?_ ?_)
    · by_cases hx0 : x.fmod 5 = 0
      · k_steps
        refine unheld (call_len_list (isList_at (N7 _ (.head _)).1) (by rw [List.size_toArray, List.length_append, hpl]; simp; omega) ?_)
        rcases Nat.lt_or_ge Z.length 2 with hZ | hZ
        · have hlt : (((pv ++ [Value.ref a]).toArray.size : Nat) : Int) < 3 := by rw [List.size_toArray, List.length_append, hpl]; simp; omega
          k_steps
          exact ⟨(decide_eq_true ⟨hx0, hZ⟩).symm, _, _, rfl, F7, N7⟩
        · have hlt : ¬ (((pv ++ [Value.ref a]).toArray.size : Nat) : Int) < 3 := by rw [List.size_toArray, List.length_append, hpl]; simp; omega
          k_steps
          exact ⟨(decide_eq_false (by omega)).symm, _, _, rfl, F7, N7⟩
      · k_steps
        all_goals first | (exfalso; omega) | exact ⟨(decide_eq_false (by omega)).symm, _, _, rfl, F7, N7⟩
    · -- open
      clear F7 N7
      intro hb h0 tk0 F7 N7
      obtain ⟨hx0, hZ⟩ := of_decide_eq_true hb
      k_steps
      refine unheld (new_led F7 N7 ?_ (by rw [sizeLine_eq]; exact Nat.le_of_ble_eq_true rfl))
      clear F7 N7
      intro D1 h1 F7 N7 _ nD1
      k_steps
      have hm4 := fmod_lt (x := x.fdiv 5) (n := 4) (by decide)
      refine unheld (slice_led F7 N7 (News.isList N7 (.head _)) .none (.int _ _) (pick_three hm4.1 _ _ _) ?_ (by rw [sizeLine_eq]; exact Nat.le_of_ble_eq_true rfl))
      clear F7 N7
      intro D2 h2 F7 N7 nD2
      k_steps
      refine unheld (new_led (by k_asm) (by k_asm) ?_ (by rw [sizeLine_eq]; exact Nat.le_of_ble_eq_true rfl))
      clear F7 N7
      intro D3 h3 F7 N7 _ nD3
      k_steps
      refine unheld (new_led (by k_asm) (by k_asm) ?_ (by rw [sizeLine_eq]; exact Nat.le_of_ble_eq_true rfl))
      clear F7 N7
      intro D4 h4 F7 N7 _ nD4
      k_steps
      refine unheld (append_K F7 N7 (.tail (Ne.symm (nD4 _ (.tail _ (.tail _ (.tail _ (.tail _ (.head _))))))) (.tail (Ne.symm (nD3 _ (.tail _ (.tail _ (.tail _ (.head _)))))) (.tail (Ne.symm (nD2 _ (.tail _ (.tail _ (.head _))))) (.tail (Ne.symm (nD1 _ (.tail _ (.head _)))) (.tail hpk (.head ?_)))))) ?_ hzk)
      · intro q hq
        rcases List.mem_cons.mp hq with rfl | hq
        · exact Ne.symm hkg
        · rcases List.mem_cons.mp hq with rfl | hq
          · exact Ne.symm hka
          · rcases List.mem_append.mp hq with hq | hq
            · exact not_in hkr q hq
            · rw [List.mem_singleton.mp hq]; exact Ne.symm hIk
      intro h8 F8 N8
      clear F7 N7
      have ep : kvs.toArray.push (Value.ref D4) = (kvs ++ [Value.ref D4]).toArray := by simp
      rw [ep] at N8
      k_steps
      refine tail_last (isList_at (N8 _ (.tail _ (.tail _ (.tail _ (.tail _ (.tail _ (.head _))))))).1) ?_
      k_steps
      refine unheld (append_K F8 N8 (.tail (Ne.symm (nD4 _ (.tail _ (.tail _ (.tail _ (.head _)))))) (.tail (Ne.symm (nD3 _ (.tail _ (.tail _ (.head _))))) (.tail (Ne.symm (nD2 _ (.tail _ (.head _)))) (.tail (Ne.symm (nD1 _ (.head _))) (.head ?_))))) ?_ (by rw [List.size_toArray, List.length_append, sizeLine_eq, hpl]; simp; omega))
      · intro q hq
        rcases List.mem_cons.mp hq with rfl | hq
        · exact Ne.symm hpk
        · rcases List.mem_cons.mp hq with rfl | hq
          · exact Ne.symm hpg
          · rcases List.mem_cons.mp hq with rfl | hq
            · exact Ne.symm hpa
            · rcases List.mem_append.mp hq with hq | hq
              · exact not_in hpr q hq
              · rw [List.mem_singleton.mp hq]; exact Ne.symm hIp
      intro h9 F9 N9
      clear F8 N8
      have ep2 : (pv ++ [Value.ref a]).toArray.push (Value.ref D4) = ((pv ++ [Value.ref a]) ++ [Value.ref D4]).toArray := by simp
      rw [ep2] at N9
      k_steps
      rename Fr s.heap L' _ _ => F10
      have hq2 : heavy (xs.take (i + 1)) = heavy (xs.take i) + 1 := by rw [hst, if_neg (by omega)]
      exact hend _ _ (open_end hI F10 N9 (in_not nD2) (in_not nD3) (in_not nD4) okag okdl okks okouts (ags := threeNames.take ((x.fdiv 5).fmod 4).toNat) (by rw [List.map_take]; rfl) (by rw [hq2]; exact okinv.opened (by omega) hZ) oknd rfl)
    clear F7 N7
    intro hb0 h0 tk0 F7 N7
    replace hb0 := of_decide_eq_false hb0
    k_steps
    refine unheld (if_rule (b := decide (x.fmod 5 = 1 ∧ Z.length ≥ 1)) F7 N7 ?_ ?_ ?_)
    · by_cases hx1 : x.fmod 5 = 1
      · k_steps
        refine unheld (call_len_list (isList_at (N7 _ (.head _)).1) (by rw [List.size_toArray, List.length_append, hpl]; simp; omega) ?_)
        rcases Nat.lt_or_ge Z.length 1 with hZ | hZ
        · have hlt : ¬ (((pv ++ [Value.ref a]).toArray.size : Nat) : Int) > 1 := by rw [List.size_toArray, List.length_append, hpl]; simp; omega
          k_steps
          exact ⟨(decide_eq_false (by omega)).symm, _, _, rfl, F7, N7⟩
        · have hlt : (((pv ++ [Value.ref a]).toArray.size : Nat) : Int) > 1 := by rw [List.size_toArray, List.length_append, hpl]; simp; omega
          k_steps
          exact ⟨(decide_eq_true ⟨hx1, hZ⟩).symm, _, _, rfl, F7, N7⟩
      · k_steps
        all_goals first | (exfalso; omega) | exact ⟨(decide_eq_false (by omega)).symm, _, _, rfl, F7, N7⟩
    · -- close
      clear F7 N7
      intro hb h0 tk0 F7 N7
      obtain ⟨hx1, hZ⟩ := of_decide_eq_true hb
      k_steps
      refine unheld (slice_led F7 N7 (isList_at (N7 _ (.head _)).1) .none (.int _ _) (pick_but pv _) ?_ (by rw [List.size_toArray, List.length_append, sizeLine_eq, hpl]; simp; omega))
      clear F7 N7
      intro D2 h2 F7 N7 nD2
      k_steps
      rename Fr s.heap L' _ _ => F9
      rename News s.heap L' _ _ => N9
      have hq2 : heavy (xs.take (i + 1)) = heavy (xs.take i) + 1 := by rw [hst, if_neg (by omega)]
      exact hend _ _ (close_end hI F9 N9 (in_not nD2) okag okdl okks okouts hZ okinv hq2 oknd rfl)
    clear F7 N7
    intro hb1 h0 tk0 F7 N7
    replace hb1 := of_decide_eq_false hb1
    k_steps
    refine unheld (if_rule (b := decide (x.fmod 5 = 2)) F7 N7 ?_ ?_ ?_)
    · by_cases hx2 : x.fmod 5 = 2
      · k_steps
        exact ⟨(decide_eq_true hx2).symm, _, _, rfl, F7, N7⟩
      · k_steps
        exact ⟨by rw [decide_eq_false hx2]; simp [hx2], _, _, rfl, F7, N7⟩
    · -- an agent
      clear F7 N7
      intro hb h0 tk F7 N7
      have hx2 := of_decide_eq_true hb
      k_steps
      refine unheld (new_led F7 N7 ?_ (by rw [sizeLine_eq]; exact Nat.le_of_ble_eq_true rfl))
      clear F7 N7
      intro D1 h1 F7 N7 _ nD1
      k_steps
      have hm4 := fmod_lt (x := x.fdiv 5) (n := 4) (by decide)
      obtain ⟨nm, tn, hnm, hnmIn⟩ := four_at hm4.1 hm4.2 (tk + 1) (tk + 1 + 1) (tk + 1 + 1 + 1) (tk + 1 + 1 + 1 + 1)
      refine tail_at (News.isList N7 (.head _)) hm4.1 (by omega) hnm ?_
      k_steps
      refine unheld (append_K F7 N7 (.tail (Ne.symm (nD1 _ (.tail _ (.tail _ (.head _))))) (.tail hpg (.tail hkg (.head ?_)))) ?_ hzl)
      · intro q hq
        rcases List.mem_cons.mp hq with rfl | hq
        · exact Ne.symm hga
        · rcases List.mem_append.mp hq with hq | hq
          · exact not_in hgr q hq
          · rw [List.mem_singleton.mp hq]; exact Ne.symm hIg
      intro h8 F8 N8
      clear F7 N7
      k_steps
      rename Fr s.heap L' _ _ => F9
      rw [strValues_push] at N8
      replace N8 := News.tail' N8
      have hq2 : heavy (xs.take (i + 1)) = heavy (xs.take i) + 1 := by rw [hst, if_neg (by omega)]
      refine hend _ _ ⟨_, _, _, TSt.led ⟨p, a, g, k, np, n1, n2 + 1, n3, dv, l ++ [(nm, tn)], kvs, pv, (r.1 ++ [nm], r.2.1, r.2.2), Z, oo, ex⟩, rfl, F9, N8, ?_, ⟨_, rfl, rfl, ⟨by rw [List.map_append, okag]; rfl, okdl, okks, okouts, by rw [hq2]; exact okinv.agent hnmIn, oknd⟩⟩⟩
      exact off_ads hI
    clear F7 N7
    intro hb2 h0 tk0 F7 N7
    replace hb2 := of_decide_eq_false hb2
    k_steps
    refine unheld (if_rule (b := decide (x.fmod 5 = 3)) F7 N7 ?_ ?_ ?_)
    · by_cases hx3 : x.fmod 5 = 3
      · k_steps
        exact ⟨(decide_eq_true hx3).symm, _, _, rfl, F7, N7⟩
      · k_steps
        exact ⟨by rw [decide_eq_false hx3]; simp [hx3], _, _, rfl, F7, N7⟩
    · -- the delay
      clear F7 N7
      intro hb h0 tk0 F7 N7
      have hx3 := of_decide_eq_true hb
      k_steps
      have hm4 := fmod_lt (x := x.fdiv 5) (n := 1000) (by decide)
      refine unheld (set_K F7 N7 (.tail hpa (.tail hka (.tail hga (.head ?_)))) (its' := [Value.ref g, Value.int _ _, Value.ref k].toArray) rfl (by decide) (by decide) (by show (1 : Int) < ((3 : Nat) : Int); decide) ?_)
      · intro q hq
        rcases List.mem_append.mp hq with hq | hq
        · exact not_in har q hq
        · rw [List.mem_singleton.mp hq]; exact Ne.symm hIa
      intro h8 F8 N8
      clear F7 N7
      k_steps
      rename Fr s.heap L' _ _ => F9
      have hq2 : heavy (xs.take (i + 1)) = heavy (xs.take i) := by rw [hst, if_pos hx3]; rfl
      refine hend _ _ ⟨_, _, _, TSt.led ⟨p, a, g, k, np, n1, n2, n3, Value.int _ _, l, kvs, pv, (r.1, some ((x.fdiv 5).fmod 1000), r.2.2), Z, oo, ex⟩, rfl, F9, N8, ?_, ⟨_, rfl, rfl, ⟨okag, ⟨_, rfl⟩, okks, okouts, by rw [hq2]; exact okinv.delay hm4, oknd⟩⟩⟩
      exact off_ads hI
    · -- a bot
      clear F7 N7
      intro hb3 h0 tk0 F7 N7
      replace hb3 := of_decide_eq_false hb3
      k_steps
      refine unheld (new_led F7 N7 ?_ (by rw [sizeLine_eq]; exact Nat.le_of_ble_eq_true rfl))
      clear F7 N7
      intro D1 h1 F7 N7 _ nD1
      k_steps
      refine unheld (new_led (by k_asm) (by k_asm) ?_ (by rw [sizeLine_eq]; exact Nat.le_of_ble_eq_true rfl))
      clear F7 N7
      intro D2 h2 F7 N7 _ nD2
      k_steps
      refine unheld (new_led (by k_asm) (by k_asm) ?_ (by rw [sizeLine_eq]; exact Nat.le_of_ble_eq_true rfl))
      clear F7 N7
      intro D3 h3 F7 N7 _ nD3
      k_steps
      have hm4 := fmod_lt (x := x.fdiv 5) (n := 60) (by decide)
      refine unheld (append_K F7 N7 (.tail (Ne.symm (nD3 _ (.tail _ (.tail _ (.tail _ (.head _)))))) (.tail (Ne.symm (nD2 _ (.tail _ (.tail _ (.head _))))) (.tail (Ne.symm (nD1 _ (.tail _ (.head _)))) (.tail hpk (.head ?_))))) ?_ hzk)
      · intro q hq
        rcases List.mem_cons.mp hq with rfl | hq
        · exact Ne.symm hkg
        · rcases List.mem_cons.mp hq with rfl | hq
          · exact Ne.symm hka
          · rcases List.mem_append.mp hq with hq | hq
            · exact not_in hkr q hq
            · rw [List.mem_singleton.mp hq]; exact Ne.symm hIk
      intro h8 F8 N8
      clear F7 N7
      k_steps
      rename Fr s.heap L' _ _ => F9
      have ep : kvs.toArray.push (Value.ref D3) = (kvs ++ [Value.ref D3]).toArray := by simp
      rw [ep] at N8
      have hq2 : heavy (xs.take (i + 1)) = heavy (xs.take i) + 1 := by rw [hst, if_neg (by omega)]
      refine hend _ _ (bot_end hI F9 N8 (in_not nD1) (in_not nD2) (in_not nD3) okag okdl okks okouts (by rw [hq2]; exact okinv.bot ⟨hm4.1, Int.lt_trans hm4.2 (by decide)⟩) oknd rfl)
  · rintro m₁ news₁ h tk ⟨z, e1, rfl, ok⟩ F6 N6
    obtain ⟨p, a, g, k, np, n1, n2, n3, dv, l, kvs, pv, r, Z, oo, ex⟩ := z
    obtain ⟨okag, okdl, okks, okouts, okinv, oknd⟩ := ok
    dsimp only at e1 okag okdl okks okouts okinv oknd N6
    replace F6 := fr_put (x := Str.ofString "path") F6 e1
    clear e1
    k_steps
    obtain ⟨v, hv, hr⟩ := okouts.up (P := fun b o => h.get? b = some o ∧ s.heap.get? b = none) (fun q hq => have z := N6 q (.tail _ (.tail _ (.tail _ (.tail _ (List.mem_append_right _ hq))))); ⟨z.1, z.2.2⟩) (fun q hq => have z := N6 q (.tail _ (.tail _ (.tail _ (.tail _ (List.mem_append_left _ hq))))); ⟨z.1, z.2.2⟩)
      (t := r.tree) (by
        unfold RSt.tree
        rw [← okag]
        have z1 := N6 _ (.tail _ (.tail _ (.tail _ (.head _))))
        have z2 := N6 _ (.tail _ (.tail _ (.head _)))
        have z3 := N6 _ (.tail _ (.head _))
        exact .mk ⟨z1.1, z1.2.2⟩ ⟨z2.1, z2.2.2⟩ okdl ⟨z3.1, z3.2.2⟩ (okks.mono fun b o hb => have z := N6 _ (.tail _ (.tail _ (.tail _ (.tail _ (List.mem_append_right _ hb))))); ⟨z.1, z.2.2⟩))
    refine tail_first (isList_at (N6 _ (.head _)).1) hv ?_
    k_steps
    have hle : heavy (xs.take vs.length) ≤ 10 := by
      rw [List.take_of_length_le (Nat.le_of_eq hxs.length.symm)]; exact hhv
    have hfit := (okinv.mono hle).fit
    exact hQ _ _ _ _ F6.keep (RecP.toIn (fun b o hb => hb) hr) hfit.1 hfit.2
end Mine
end

section
theorem Mine.offMMain : True := by w_top off; trivial
open PySem PySem.W PyProof.Rows PySem.Calls PySem.Spec
set_option maxRecDepth 100000
namespace Mine
theorem fillL : (fun (_ : OpenLaw) (_ : Params → Frag) => True) PySem.Challenge.rw_mr0112_01 hd.heap_39 := by k_fill; trivial
theorem xs_heavy (xs : List Int) : heavy (xs.take 4 ++ [38, 5, 1, 0, 4, 1, 10, 3]) ≤ 10 := by
  unfold heavy
  rw [List.filter_append, List.length_append]
  have h1 := List.length_filter_le (fun x : Int => x.fmod 5 != 3) (xs.take 4)
  have h2 : (xs.take 4).length ≤ 4 := List.length_take_le _ _
  have h3 : ((([38, 5, 1, 0, 4, 1, 10, 3] : List Int)).filter fun x => x.fmod 5 != 3).length = 6 := by decide
  omega
theorem xs_len (xs : List Int) : (xs.take 4 ++ [38, 5, 1, 0, 4, 1, 10, 3]).length ≤ 100 := by
  have h2 : (xs.take 4).length ≤ 4 := List.length_take_le _ _
  rw [List.length_append]
  simp only [List.length_cons, List.length_nil]
  omega
theorem kept_lay {t : T} (h : Fit t) : t.kept.py.canLay0 = true := by
  induction h with
  | mk ha hd hl hn hk hf ih =>
    rename_i ag dl ks
    rw [kept_mk]
    split
    · decide
    · rw [T.py, pys_eq, kepts_eq]
      simp only [PyData.canLay0, PyData.canLayAll0, Bool.and_eq_true, canLay_dl, and_true, true_and]
      refine ⟨canLay_strs fun x hx c hc => (ha x hx c hc).1, canLayAll_of fun d hd => ?_⟩
      obtain ⟨k1, hk1, rfl⟩ := List.mem_map.mp hd
      obtain ⟨k2, hk2, rfl⟩ := List.mem_map.mp hk1
      exact ih k2 hk2
theorem depth_strs : ∀ l : List Str, PyData.depthAll (l.map .str) ≤ 1
  | [] => by decide
  | x :: l => by
    have := depth_strs l
    simp only [List.map_cons, PyData.depthAll, PyData.depth]
    omega
theorem depth_dl (dl : Option Int) : (dlPy dl).depth ≤ 1 := by cases dl <;> simp [dlPy, PyData.depth]
theorem depthAll_le {n : Nat} : ∀ {l : List PyData}, (∀ d ∈ l, d.depth ≤ n) → PyData.depthAll l ≤ n
  | [], _ => by simp [PyData.depthAll]
  | d :: l, h => by
    have h1 := h d (.head _)
    have h2 := depthAll_le fun x hx => h x (.tail _ hx)
    rw [PyData.depthAll]; omega
theorem depth_py : ∀ (n : Nat) (t : T), t.dep ≤ n → t.py.depth ≤ 3 * n + 3 := by
  intro n
  induction n with
  | zero => intro t h; obtain ⟨ag, dl, ks⟩ := t; rw [T.dep] at h; omega
  | succ n ih =>
    intro t h
    obtain ⟨ag, dl, ks⟩ := t
    rw [T.dep] at h
    rw [T.py, pys_eq]
    have h1 := depth_strs ag
    have h2 := depth_dl dl
    have h3 : PyData.depthAll (ks.map T.py) ≤ 3 * n + 3 := depthAll_le fun d hd => by
      obtain ⟨k, hk, rfl⟩ := List.mem_map.mp hd
      exact ih k (by have := dep_le hk; omega)
    simp only [PyData.depth, PyData.depthAll]
    omega
theorem kept_dep : ∀ (n : Nat) (t : T), t.dep ≤ n → t.kept.dep ≤ n := by
  intro n
  induction n with
  | zero => intro t h; obtain ⟨ag, dl, ks⟩ := t; rw [T.dep] at h; omega
  | succ n ih =>
    intro t h
    obtain ⟨ag, dl, ks⟩ := t
    rw [T.dep] at h
    rw [kept_mk]
    split
    · rw [T.dep, deps]; omega
    · rw [T.dep, kepts_eq]
      have key : deps (ks.map T.kept) ≤ n := by
        have hd : ∀ k ∈ ks, k.kept.dep ≤ n := fun k hk => ih k (by have := dep_le hk; omega)
        clear ih h
        induction ks with
        | nil => simp [deps]
        | cons k ks ih2 =>
          have h1 := hd k (.head _)
          have h2 := ih2 fun x hx => hd x (.tail _ hx)
          rw [List.map_cons, deps]
          omega
      omega
theorem led_of {h₀ h h' : Heap} {L : Addr} {m : Str → Option Value} {ex : List (Addr × Obj)} (F : Fr h₀ L h m) (e : ∀ p ∈ ex, h'.get? p.1 = some p.2 ∧ h.get? p.1 = none) : News h₀ L h' ex := by
  intro p hp
  refine ⟨(e p hp).1, ?_, ?_⟩
  · intro q
    obtain ⟨o, _, _, ho, _⟩ := F.ns
    have := (e p hp).2
    rw [show p.1 = L from q, ho] at this
    cases this
  · cases q : h₀.get? p.1 with
    | none => rfl
    | some o => have := F.keep _ _ q; rw [(e p hp).2] at this; cases this
end Mine
open Mine
local macro_rules | `(tactic| walk_at "call ref") => `(tactic| (k_here; (with_reducible show wpAny _ _ (call (Value.ref 107) _ _) _ _ _); refine held ?_))
local macro_rules | `(tactic| walk_at "call ref") => `(tactic| (k_here; (with_reducible show wpAny _ _ (call (Value.ref 119) _ _) _ _ _); refine held ?_))
local macro_rules | `(tactic| walk_at "call ref") => `(tactic| (k_here; (with_reducible show wpAny _ _ (call (Value.ref 131) _ _) _ _ _); refine held ?_))
local macro_rules | `(tactic| walk_at "call ref") => `(tactic| (k_here; (with_reducible show wpAny _ _ (call (Value.ref 136) _ _) _ _ _); refine held ?_))
local macro_rules | `(tactic| walk_at "call ref") => `(tactic| (k_here; (with_reducible show wpAny _ _ (call (Value.ref 141) _ _) _ _ _); refine held ?_))
set_option maxRecDepth 100000 in
set_option maxHeartbeats 8000000 in
theorem PySem.Challenge.cw_mr0112_01_holds : PySem.Challenge.rw_mr0112_01.Holds :=
  Mine.hd (by
  k_go0
  all_goals try k_fold
  k_steps
  refine unheld ?_
  rename Fr _ _ _ _ => F2
  rename News _ _ _ _ => N2
  rename Top _ _ _ _ _ _ => T0
  rename Below _ _ _ _ => B0
  rename Frag.In _ _ => X0
  rename IntsAre _ (_ ++ _) => hI
  refine c_tree (X0.keeps F2.keep) (T0.keeps F2.keep) (Below.push B0 F2) ?_ ?_ (News.isList N2 (.head _)) hI (xs_heavy _) (xs_len _) ?_
  · decide
  · decide
  intro h3 tk3 v3 t hk3 hr3 hf2 hdep
  have hf := hf2.fit
  have hlen : t.text.length ≤ 100000 := by cases hf; assumption
  obtain ⟨ex, r3, e3⟩ := hr3.toL
  have N3 := led_of F2 e3
  have F3 := F2.keeps hk3
  clear hr3 e3 F2 N2
  k_steps
  refine unheld ?_
  rename Fr _ _ _ _ => F4
  rename News _ _ _ _ => N4
  have hd1 : callerA.depth + 1 + 10 * t.dep + 5 < recursionLimit := by
    have : callerA.depth + 1 + 10 * 60 + 5 < recursionLimit := by decide
    omega
  have hu1 : callerA.units + 3 + 100 * t.dep + 100 < cLine := by
    have : callerA.units + 3 + 100 * 60 + 100 < cLine := by decide
    omega
  refine c_text hf (X0.keeps F4.keep) (T0.keeps F4.keep) (Below.push B0 F4) hd1 hu1 (RecP.toIn (ok := fun _ => True) (fun b o hb => ⟨(N4 _ hb).1, trivial⟩) r3).forget ?_
  intro h5 tk5 t5 hk5
  have F5 := F4.keeps hk5
  have N5 := News.grown N4 hk5
  clear F4 N4
  k_steps
  refine unheld ?_
  rename Fr _ _ _ _ => F6
  rename News _ _ _ _ => N6
  refine c_read hf2 (X0.keeps F6.keep) (T0.keeps F6.keep) (Below.push B0 F6) hd1 hu1 ?_
  intro h7 tk7 v7 hk7 hr7
  have F7 := F6.keeps hk7
  have N7 := News.grown N6 hk7
  clear F6 N6
  k_steps
  refine unheld ?_
  refine c_kept hf (fun _ => True) (X0.keeps F7.keep) (T0.keeps F7.keep) (Below.push B0 F7) hd1 hu1 (fun _ _ => trivial) (RecP.toIn (fun b o hb => ⟨(N7 _ hb).1, trivial⟩) r3) ?_
  intro h8 tk8 v8 hk8 hr8
  have F8 := F7.keeps hk8
  have N8 := News.grown N7 hk8
  clear F7 N7
  k_steps
  have hr7' := hr7.forget.keeps hk8
  obtain ⟨as7, q7⟩ := hr7'.reads
  obtain ⟨as8, q8⟩ := hr8.forget.reads
  have hlay := kept_lay hf
  refine SeqAt.compareEq_reads q7 q8 hlay hlay ?_ ?_
  · have h1 := depth_py 60 t.kept (kept_dep 60 t hdep)
    have h2 : callerA.units + 3 + (3 * 60 + 3) < cLine := by decide
    rw [Nat.min_self]
    show callerA.units + 3 + _ < cLine
    omega
  rw [SeqAt.eqv_refl _ hlay]
  have hsl : t.text.length ≤ sizeLine := by rw [sizeLine_eq]; omega
  k_steps
  refine unheld ?_
  refine c_len hf (X0.keeps F8.keep) (T0.keeps F8.keep) (Below.push B0 F8) hd1 hu1 (RecP.toIn (ok := fun _ => True) (fun b o hb => ⟨(N8 _ hb).1, trivial⟩) r3).forget ?_
  intro h9 tk9 t9 hk9
  have F9 := F8.keeps hk9
  have N9 := News.grown N8 hk9
  clear F8 N8
  k_steps
  all_goals (try k_data))
end
