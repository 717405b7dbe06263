import PyProof.Rows.All
import Wide.All
import OpenK.AllK
import Wide.FinOn
import Lean
import PySem.Challenge.RW_pg0169_01
set_option Elab.async false
section
open PySem PySem.W PyProof.Rows
set_option maxRecDepth 100000
set_option maxHeartbeats 8000000
namespace Mine
open_top hd for PySem.Challenge.rw_pg0169_01
end Mine
end
section
open PySem PySem.W PyProof.Rows
namespace Mine
noncomputable abbrev PV : Program := hd.view_39
noncomputable abbrev LZ : List Str := looseW hd.view_39 [Str.ofString "Whitespace", Str.ofString "COMPILER_FLAG_NAMES"]
noncomputable abbrev PG : Program := PySem.Challenge.rw_pg0169_01.row.prog
abbrev Led := List (Addr × Obj)
/-- what a call stands in -/
structure At (w : World) (mean : ExcName → Option Value) (mg mb : Str → Option Value) (A₀ : Around) (base h₀ : Heap) (outer : List Env) (L : Addr) (m : Str → Option Value) (news : Led) (s : Shared) (cs : Scope) (dp un : Nat) (k : Nat) : Prop where
  B : Below A₀ base outer h₀
  F : Fr h₀ L s.heap m
  X : (hd.heap_39 w.params).In h₀
  N : News h₀ L s.heap news
  T : Top PV LZ mean mg mb h₀
  hk : cs.kind = .function
  hd : dp + k < recursionLimit
  hu : un + 8 * k < cLine
end Mine
end
section
open PySem PySem.W PyProof.Rows PySem.Spec
namespace Mine
section
variable {prog : Program} {w : World} {A : Around} {E : Value → Shared → Prop} {s : Shared} {env : Env} {h₀ : Heap} {x : Str} {body : List Stmt} {Q : Flow → Shared → Prop}

def AllNe (d : Addr) : List (Addr × Obj) → Prop
  | [] => True
  | p :: r => @Ne Nat p.1 d ∧ AllNe d r
theorem allNe_iff {d : Addr} : ∀ {l : List (Addr × Obj)}, AllNe d l ↔ ∀ q ∈ l, q.1 ≠ d
  | [] => ⟨fun _ _ hp => (nomatch hp), fun _ => trivial⟩
  | q :: r => by
    constructor
    · intro h p hp
      rcases List.mem_cons.mp hp with rfl | hp
      · exact h.1
      · exact allNe_iff.mp h.2 p hp
    · intro h
      exact ⟨h q (.head _), allNe_iff.mpr fun p hp => h p (.tail _ hp)⟩

/-- shut to the walk till it is opened -/
def Hold (P : Prop) : Prop := P
theorem Hold.out {P : Prop} (h : Hold P) : P := h

def TurnEnd {σ : Type} (Ld : σ → List (Addr × Obj)) (ps : σ → List (Str × Value)) (Inv : Nat → σ → Prop) (x : Str) (stored : List Str) (m₀ : Str → Option Value) (h₀ : Heap) (L I : Addr) (oI : Obj) (i : Nat) (s₁ s₂ : Shared) : Prop :=
  ∃ c h' tk m', s₂ = { s₁ with heap := h', toks := tk } ∧ Fr h₀ L h' m' ∧ News h₀ L h' ((I, oI) :: Ld c) ∧ AllNe I (Ld c) ∧ Inv (i + 1) c ∧ (∀ p ∈ ps c, m' p.1 = some p.2) ∧
    (∀ z, z ≠ x → (∀ p ∈ ps c, z ≠ p.1) → stored.contains z = false → m' z = m₀ z)
def TurnPost {σ : Type} (Ld : σ → List (Addr × Obj)) (ps : σ → List (Str × Value)) (Inv : Nat → σ → Prop) (x : Str) (stored : List Str) (m₀ : Str → Option Value) (h₀ : Heap) (L I : Addr) (oI : Obj) (i : Nat) (s₁ : Shared) (Q : Flow → Shared → Prop) (f : Flow) (s₂ : Shared) : Prop :=
  match f with
  | .ret v => Q (.ret v) s₂
  | .brk => Q .next s₂
  | _ => TurnEnd Ld ps Inv x stored m₀ h₀ L I oI i s₁ s₂

theorem loop_gen {σ : Type} {I : Addr} {fp : List Addr} {n : Nat} {P : Nat → Value → Prop} {St : Nat → Heap → Prop} {m₀ : Str → Option Value}
    (Ld : σ → List (Addr × Obj)) (ps : σ → List (Str × Value)) (Inv : Nat → σ → Prop) (stored : List Str) (c₀ : σ)
    (W : Walks prog w A I fp [I] n P St) (hLf : env.locals ∉ fp) (hI : h₀.get? I = none) (hlive : ∀ i h, St i h → ∃ o, h.get? I = some o)
    (hfp : ∀ b ∈ fp, b ≠ I → h₀.get? b ≠ none ∨ ∃ o, ∀ c, (b, o) ∈ Ld c)
    (hst : St 0 s.heap) (F : Fr h₀ env.locals s.heap m₀) (N : News h₀ env.locals s.heap (Ld c₀)) (hoff : ∀ q ∈ Ld c₀, q.1 ≠ I) (h0 : Inv 0 c₀) (hk : ∀ p ∈ ps c₀, m₀ p.1 = some p.2)
    (turn : ∀ i v c (u : Str → Option Value) oI h tk, i < n → P i v → Inv i c → AllNe I (Ld c) →
      Fr h₀ env.locals h (fun y => if y = x then some v else kstB (fun z => if stored.contains z then u z else m₀ z) (ps c) y) → News h₀ env.locals h ((I, oI) :: Ld c) →
      wpAny (model prog w) A (execs body env) (TurnPost Ld ps Inv x stored m₀ h₀ env.locals I oI i { s with heap := h, toks := tk } Q) E { s with heap := h, toks := tk })
    (done : ∀ c (u : Str → Option Value) h tk, Inv n c → Fr h₀ env.locals h (fun y => if y = x then u y else kstB (fun z => if stored.contains z then u z else m₀ z) (ps c) y) → News h₀ env.locals h (Ld c) → Q .next { s with heap := h, toks := tk }) :
    LoopAtV prog w A h₀ env x body Q E (.ref I) s := by
  let J : Nat → (Str → Option Value) → List (Addr × Obj) → Prop := fun i m nx => ∃ c, nx = Ld c ∧ Inv i c ∧ (∀ p ∈ ps c, m p.1 = some p.2) ∧ (∀ z, z ≠ x → (∀ p ∈ ps c, z ≠ p.1) → stored.contains z = false → m z = m₀ z)
  have hIf : I ∈ fp := W.sub I (by simp)
  refine ⟨I, fp, [I], n, P, St, m₀, Ld c₀, J, rfl, W, hLf, ?_, ?_, hst, F, N, ⟨c₀, rfl, h0, hk, fun _ _ _ _ => rfl⟩, ?_, ?_⟩
  · intro b hb
    rw [List.mem_singleton.mp hb]
    exact hI
  · intro p hp hq
    exact hoff p hp (List.mem_singleton.mp hq)
  · rintro i v m₁ news₁ s₁ own ⟨hh', tk', rfl⟩ hin hP ⟨c, rfl, hJ, h1, h2⟩ hof hown hget hmem hst' F₁ N₁
    obtain ⟨oI, hoI⟩ := hlive _ _ hst'
    have hIo : (I, oI) ∈ own := hmem I hIf hI oI hoI
    have N₂ : News h₀ env.locals hh' ((I, oI) :: Ld c) := fun p hp => N₁ p (by
      rcases List.mem_cons.mp hp with rfl | hp
      · exact List.mem_append_left _ hIo
      · exact List.mem_append_right _ hp)
    have hoff' : ∀ q ∈ Ld c, q.1 ≠ I := fun q hq e => hof q hq (by simp [e])
    refine wpAny_mono (turn i v c m₁ oI hh' tk' hin hP hJ (allNe_iff.mpr hoff') (kst_fr h1 h2 F₁) N₂) (fun f s₂ p => ?_) fun _ _ e => e
    have fin : TurnEnd Ld ps Inv x stored m₀ h₀ env.locals I oI i { s with heap := hh', toks := tk' } s₂ → LoopStepU h₀ env.locals [I] own (J (i + 1)) { s with heap := hh', toks := tk' } .next s₂ := by
      rintro ⟨c', h', tk, m', e, F', N', ho', hi', k1, k2⟩
      refine ⟨rfl, h', tk, m', Ld c', e, F', ?_, fun p hp hq => allNe_iff.mp ho' p hp (List.mem_singleton.mp hq), c', rfl, hi', k1, k2⟩
      intro p hp
      rcases List.mem_append.mp hp with hp | hp
      · by_cases hpI : p.1 = I
        · have e1 := hget p hp
          rw [hpI, hoI] at e1
          have e2 : p = (I, oI) := by
            obtain ⟨a, b⟩ := p
            cases hpI
            cases e1
            rfl
          rw [e2]
          exact N' _ (.head _)
        · rcases hfp p.1 (hown p hp) hpI with hb | ⟨o, ho⟩
          · exact absurd (N₁ p (List.mem_append_left _ hp)).2.2 hb
          · have e1 := hget p hp
            have e2 := (N₁ _ (List.mem_append_right own (ho c))).1
            dsimp only at e1 e2
            rw [e1] at e2
            have e3 : p = (p.1, o) := by
              obtain ⟨a, b⟩ := p
              cases e2
              rfl
            rw [e3]
            exact N' _ (.tail _ (ho c'))
      · exact N' p (.tail _ hp)
    cases f with
    | ret v => exact .ret p
    | brk => exact .brk p
    | next => exact .next (fin p)
    | cont => exact .cont (fin p)
  · rintro h' tk m' news' F' N' _ ⟨c, rfl, hJ, h1, h2⟩
    exact done c m' h' tk hJ (kst_frOut h1 h2 F') N'

theorem TurnPost.onward {σ : Type} {Ld : σ → List (Addr × Obj)} {ps : σ → List (Str × Value)} {Inv : Nat → σ → Prop} {stored : List Str} {m₀ m' : Str → Option Value} {L I : Addr} {oI : Obj} {i : Nat} {s₁ : Shared} {h' : Heap} {tk : Nat} {nw : List (Addr × Obj)}
    (c : σ) (F : Fr h₀ L h' m') (N : News h₀ L h' nw) (hs : ∀ p ∈ (I, oI) :: Ld c, p ∈ nw) (hof : AllNe I (Ld c)) (hi : Inv (i + 1) c) (k1 : ∀ p ∈ ps c, m' p.1 = some p.2)
    (k2 : ∀ z, z ≠ x → (∀ p ∈ ps c, z ≠ p.1) → stored.contains z = false → m' z = m₀ z) : TurnPost Ld ps Inv x stored m₀ h₀ L I oI i s₁ Q .next { s₁ with heap := h', toks := tk } :=
  ⟨c, h', tk, m', rfl, F, fun p hp => N p (hs p hp), hof, hi, k1, k2⟩

theorem loop_str {σ : Type} {base : List (Addr × Obj)} {xt : Str} {tx : Tok} {m₀ : Str → Option Value}
    (Ld : List (Addr × Obj) → σ → List (Addr × Obj)) (ps : σ → List (Str × Value)) (Inv : List (Addr × Obj) → Nat → σ → Prop) (stored : List Str) (c₀ : σ)
    (hh : A.handled = none) (F : Fr h₀ env.locals s.heap m₀) (N : News h₀ env.locals s.heap (Ld base c₀)) (h0 : Inv base 0 c₀) (hk : ∀ p ∈ ps c₀, m₀ p.1 = some p.2)
    (turn : Hold (∀ i k t c (u : Str → Option Value) I oI h tk, xt.cps[i]? = some k → Inv base i c → AllNe I (Ld base c) →
      Fr h₀ env.locals h (fun y => if y = x then some (.str ⟨#[k]⟩ t) else kstB (fun z => if stored.contains z then u z else m₀ z) (ps c) y) → News h₀ env.locals h ((I, oI) :: Ld base c) →
      wpAny (model prog w) A (execs body env) (TurnPost (Ld base) ps (Inv base) x stored m₀ h₀ env.locals I oI i { s with heap := h, toks := tk } Q) E { s with heap := h, toks := tk }))
    (done : Hold (∀ c (u : Str → Option Value) h tk, Inv base xt.cps.size c → Fr h₀ env.locals h (fun y => if y = x then u y else kstB (fun z => if stored.contains z then u z else m₀ z) (ps c) y) → News h₀ env.locals h (Ld base c) → Q .next { s with heap := h, toks := tk })) :
    wpAny (model prog w) A (pyIter (.str xt tx)) (fun it s₂ => LoopAtV prog w A h₀ env x body Q E it s₂) E s := by
  have hne : env.locals ≠ s.heap.objs.size := Nat.ne_of_lt F.ns.lt
  have go : ∀ (o : Obj) (St : Nat → Heap → Prop), Walks prog w A s.heap.objs.size [s.heap.objs.size] [s.heap.objs.size] xt.cps.size (SignAt xt) St → St 0 (s.heap.push o) → (∀ i h, St i h → ∃ o, h.get? s.heap.objs.size = some o) →
      LoopAtV prog w A h₀ env x body Q E (.ref s.heap.objs.size) { s with heap := s.heap.push o } := by
    intro o St W hst hlive
    refine loop_gen (s := { s with heap := s.heap.push o }) (Ld base) ps (Inv base) stored c₀ W (by simpa using hne) (next_is_new F) hlive (by intro b hb h1; exact absurd (List.mem_singleton.mp hb) h1) hst (F.push o)
      (fun p hp => ⟨Heap.get?_push_of_some _ (N p hp).1, (N p hp).2⟩) (fun q hq e => absurd (Heap.lt_size (N q hq).1) (by rw [e]; exact Nat.lt_irrefl _)) h0 hk ?_ done
    rintro i v c u oI h tk hi ⟨k, t, hk', rfl⟩ hinv hoff F' N'
    exact turn i k t c u _ oI h tk hk' hinv hoff F' N'
  cases ha : xt.cps.all (· < 128)
  · exact wpAny_pyIter_wide ha (go _ _ (Walks.strWide hh _ xt tx) ⟨_, Heap.get?_push_size _ rfl, rfl, rfl⟩ (fun i h st => by obtain ⟨o, ho, _⟩ := st; exact ⟨o, ho⟩))
  · exact wpAny_pyIter_ascii ha (go _ _ (Walks.strAscii hh _ xt tx) ⟨_, Heap.get?_push_size _ rfl, rfl, rfl⟩ (fun i h st => by obtain ⟨o, ho, _⟩ := st; exact ⟨o, ho⟩))

theorem loop_range {σ : Type} {base : List (Addr × Obj)} {r : Addr} {a₀ b₀ : Int} {t₀ u₀ v₀ : Tok} {n : Nat} {m₀ : Str → Option Value}
    (Ld : List (Addr × Obj) → σ → List (Addr × Obj)) (ps : σ → List (Str × Value)) (Inv : List (Addr × Obj) → Nat → σ → Prop) (stored : List Str) (c₀ : σ)
    (hh : A.handled = none) (hr : IsRange s.heap r a₀ b₀ 1 t₀ u₀ v₀) (hsmall : Builtin.Range.small a₀ b₀ 1 = true) (hn : Builtin.Range.rangeSize a₀ b₀ 1 = (n : Int))
    (F : Fr h₀ env.locals s.heap m₀) (N : News h₀ env.locals s.heap (Ld base c₀)) (h0 : Inv base 0 c₀) (hk : ∀ p ∈ ps c₀, m₀ p.1 = some p.2)
    (turn : Hold (∀ i t c (u : Str → Option Value) I oI h tk, i < n → Inv base i c → AllNe I (Ld base c) →
      Fr h₀ env.locals h (fun y => if y = x then some (.int (a₀ + (i : Int)) t) else kstB (fun z => if stored.contains z then u z else m₀ z) (ps c) y) → News h₀ env.locals h ((I, oI) :: Ld base c) →
      wpAny (model prog w) A (execs body env) (TurnPost (Ld base) ps (Inv base) x stored m₀ h₀ env.locals I oI i { s with heap := h, toks := tk } Q) E { s with heap := h, toks := tk }))
    (done : Hold (∀ c (u : Str → Option Value) h tk, Inv base n c → Fr h₀ env.locals h (fun y => if y = x then u y else kstB (fun z => if stored.contains z then u z else m₀ z) (ps c) y) → News h₀ env.locals h (Ld base c) → Q .next { s with heap := h, toks := tk })) :
    wpAny (model prog w) A (pyIter (.ref r)) (fun it s₂ => LoopAtV prog w A h₀ env x body Q E it s₂) E s := by
  have hne : env.locals ≠ s.heap.objs.size := Nat.ne_of_lt F.ns.lt
  refine wpAny_pyIter_range hr hsmall ?_
  refine loop_gen (s := { s with heap := s.heap.push _ }) (Ld base) ps (Inv base) stored c₀ (Walks.range hh s.heap.objs.size a₀ 1 n) (by simpa using hne) (next_is_new F) (fun i h st => ⟨_, st⟩) (by intro b hb h1; exact absurd (List.mem_singleton.mp hb) h1)
    (by show IsRangeIter _ _ _ _ _; rw [hn]; simpa using Heap.get?_push_size _ rfl) (F.push _)
    (fun p hp => ⟨Heap.get?_push_of_some _ (N p hp).1, (N p hp).2⟩) (fun q hq e => absurd (Heap.lt_size (N q hq).1) (by rw [e]; exact Nat.lt_irrefl _)) h0 hk ?_ done
  rintro i v c u oI h tk hi ⟨t, rfl⟩ hinv hoff F' N'
  rw [Int.mul_one] at F'
  exact turn i t c u _ oI h tk hi hinv hoff F' N'

theorem loop_list {σ : Type} {base : List (Addr × Obj)} {l : Addr} {vs : List Value} {nn : Nat} {m₀ : Str → Option Value}
    (Ld : List (Addr × Obj) → σ → List (Addr × Obj)) (ps : σ → List (Str × Value)) (Inv : List (Addr × Obj) → Nat → σ → Prop) (stored : List Str) (c₀ : σ)
    (hh : A.handled = none) (hl : ∀ c, (l, listOf vs.toArray nn) ∈ Ld base c) (F : Fr h₀ env.locals s.heap m₀) (N : News h₀ env.locals s.heap (Ld base c₀)) (h0 : Inv base 0 c₀) (hk : ∀ p ∈ ps c₀, m₀ p.1 = some p.2)
    (turn : Hold (∀ i v c (u : Str → Option Value) I oI h tk, vs[i]? = some v → Inv base i c → AllNe I (Ld base c) →
      Fr h₀ env.locals h (fun y => if y = x then some v else kstB (fun z => if stored.contains z then u z else m₀ z) (ps c) y) → News h₀ env.locals h ((I, oI) :: Ld base c) →
      wpAny (model prog w) A (execs body env) (TurnPost (Ld base) ps (Inv base) x stored m₀ h₀ env.locals I oI i { s with heap := h, toks := tk } Q) E { s with heap := h, toks := tk }))
    (done : Hold (∀ c (u : Str → Option Value) h tk, Inv base vs.length c → Fr h₀ env.locals h (fun y => if y = x then u y else kstB (fun z => if stored.contains z then u z else m₀ z) (ps c) y) → News h₀ env.locals h (Ld base c) → Q .next { s with heap := h, toks := tk })) :
    wpAny (model prog w) A (pyIter (.ref l)) (fun it s₂ => LoopAtV prog w A h₀ env x body Q E it s₂) E s := by
  have hne : env.locals ≠ s.heap.objs.size := Nat.ne_of_lt F.ns.lt
  have hls : s.heap.IsList l vs.toArray := News.isList N (hl c₀)
  have hlt : l < s.heap.objs.size := Heap.lt_size (N _ (hl c₀)).1
  have hLl : env.locals ≠ l := fun e => (N _ (hl c₀)).2.1 e.symm
  refine wpAny_pyIter_list hls ?_
  have W := Walks.list (prog := prog) (w := w) hh s.heap.objs.size l (Nat.ne_of_lt hlt) vs.toArray
  have hsz : vs.toArray.size = vs.length := List.size_toArray
  rw [hsz] at W
  refine loop_gen (s := { s with heap := s.heap.push _ }) (Ld base) ps (Inv base) stored c₀ W ?_ (next_is_new F) ?_ ?_
    ⟨⟨_, Heap.get?_push_size _ rfl, rfl, rfl⟩, hls.at fun o e => Heap.get?_push_of_some _ e⟩ (F.push _)
    (fun p hp => ⟨Heap.get?_push_of_some _ (N p hp).1, (N p hp).2⟩) (fun q hq e => absurd (Heap.lt_size (N q hq).1) (by rw [e]; exact Nat.lt_irrefl _)) h0 hk ?_ done
  · intro hm
    rcases List.mem_cons.mp hm with e | hm
    · exact hne e
    · exact hLl (List.mem_singleton.mp hm)
  · rintro i h ⟨⟨o, ho, _⟩, _⟩
    exact ⟨o, ho⟩
  · intro b hb h1
    rcases List.mem_cons.mp hb with e | hb
    · exact absurd e h1
    · rw [List.mem_singleton.mp hb]
      exact .inr ⟨_, hl⟩
  rintro i v c u oI h tk hi hP hinv hoff F' N'
  exact turn i v c u _ oI h tk (by simpa using hP) hinv hoff F' N'
end
end Mine
end
section
open PySem PySem.W PyProof.Rows PySem.Spec
namespace Mine
/-- the normal form of a run of leading blanks and tabs: the counts, the blanks behind, the signs, the tabs -/
structure WD where
  cs : List Int
  b : Nat
  n : Nat
  nt : Nat
def bump (cs : List Int) (b : Nat) : List Int :=
  (cs ++ List.replicate (b + 1 - cs.length) (0 : Int)).set b ((cs ++ List.replicate (b + 1 - cs.length) (0 : Int)).getD b 0 + 1)
def wsStep (d : WD) (k : Nat) : WD := if k = 32 then ⟨d.cs, d.b + 1, d.n + 1, d.nt⟩ else ⟨bump d.cs d.b, 0, d.n + 1, d.nt + 1⟩
def wsRun (ks : List Nat) : WD := ks.foldl wsStep ⟨[], 0, 0, 0⟩
theorem wsRun_take (ks : List Nat) (i k : Nat) (h : ks[i]? = some k) : wsRun (ks.take (i + 1)) = wsStep (wsRun (ks.take i)) k := by
  unfold wsRun
  rw [List.take_add_one, h]
  simp
theorem flatten_ones (n : Nat) : (List.replicate n [(0 : Int)]).flatten = List.replicate n 0 := by
  induction n with
  | zero => rfl
  | succ n ih => simp [List.replicate_succ, ih]
theorem bump_ext (cs : List Int) (b : Nat) (h : cs.length ≤ b) :
    (cs ++ (List.replicate ((b : Int) - (cs.length : Int) + 1).toNat [(0 : Int)]).flatten).set ((b : Int)).toNat ((cs ++ (List.replicate ((b : Int) - (cs.length : Int) + 1).toNat [(0 : Int)]).flatten).getD ((b : Int)).toNat 0 + 1) = bump cs b := by
  have e : ((b : Int) - (cs.length : Int) + 1).toNat = b + 1 - cs.length := by omega
  rw [e, flatten_ones, Int.toNat_natCast]
  rfl
theorem bump_in (cs : List Int) (b : Nat) (h : b < cs.length) : cs.set ((b : Int)).toNat (cs.getD ((b : Int)).toNat 0 + 1) = bump cs b := by
  have e : b + 1 - cs.length = 0 := by omega
  unfold bump
  rw [e, Int.toNat_natCast]
  simp
theorem bump_length (cs : List Int) (b : Nat) : (bump cs b).length = max cs.length (b + 1) := by
  unfold bump
  simp
  omega
theorem news_cons {h₀ h : Heap} {L a : Addr} {nw r : List (Addr × Obj)} {o : Obj} (N : News h₀ L h nw) (hm : (a, o) ∈ nw) (R : News h₀ L h r) : News h₀ L h ((a, o) :: r) := fun p hp => by
  rcases List.mem_cons.mp hp with rfl | hp
  · exact N _ hm
  · exact R p hp
/-- the fields of a Whitespace -/
abbrev wsDict (w : World) (S : Str) (d : WD) (q : Addr) (k1 k2 k3 k4 k5 t1 t2 t3 : Tok) : Obj :=
  dictOf [⟨PyData.keyHash w.params (Str.ofString "raw"), .str (Str.ofString "raw") k1, .str S t1⟩,
    ⟨PyData.keyHash w.params (Str.ofString "n"), .str (Str.ofString "n") k2, .int (d.n : Int) t2⟩,
    ⟨PyData.keyHash w.params (Str.ofString "nt"), .str (Str.ofString "nt") k3, .int (d.nt : Int) t3⟩,
    ⟨PyData.keyHash w.params (Str.ofString "norm"), .str (Str.ofString "norm") k4, .ref q⟩,
    ⟨PyData.keyHash w.params (Str.ofString "is_simple"), .str (Str.ofString "is_simple") k5, .bool (decide ((d.cs.length : Int) ≤ 1))⟩] 5
abbrev tupOf (vs : List Value) : Obj := { cls := .type "tuple", data := .seq vs.toArray }
end Mine
end
section
open PySem PySem.W PyProof.Rows
namespace Mine
theorem allLt_mem {d : Addr} : ∀ {l : Led}, AllLt d l → ∀ p ∈ l, p.1 ≠ d
  | [], _, _, hp => nomatch hp
  | q :: r, h, p, hp => by
    rcases List.mem_cons.mp hp with rfl | hp
    · exact Nat.ne_of_lt h.1
    · exact allLt_mem h.2 p hp
theorem allLt_iff {d : Addr} : ∀ {l : Led}, AllLt d l ↔ ∀ p ∈ l, p.1 < d
  | [] => ⟨fun _ _ hp => (nomatch hp), fun _ => trivial⟩
  | q :: r => by
    constructor
    · intro h p hp
      rcases List.mem_cons.mp hp with rfl | hp
      · exact h.1
      · exact allLt_iff.mp h.2 p hp
    · intro h
      exact ⟨h q (.head _), allLt_iff.mpr fun p hp => h p (.tail _ hp)⟩
theorem news_ne {h₀ h : Heap} {L a b : Addr} {news : Led} {o₁ o₂ : Obj} (N : News h₀ L h news) (ha : (a, o₁) ∈ news) (hb : (b, o₂) ∈ news) (hc : o₁.cls ≠ o₂.cls) : a ≠ b := by
  intro e
  subst e
  have h1 := (N _ ha).1
  have h2 := (N _ hb).1
  dsimp only at h1 h2
  rw [h1] at h2
  cases h2
  exact hc rfl

structure WO where
  x : Addr
  dx : Addr
  q : Addr
  p : Addr
  vs : List Value
  S : Str
  d : WD
  k1 : Tok
  k2 : Tok
  k3 : Tok
  k4 : Tok
  k5 : Tok
  t1 : Tok
  t2 : Tok
  t3 : Tok
  t4 : Tok
/-- a Whitespace stands in the ledger -/
structure WsIn (w : World) (news : Led) (o : WO) : Prop where
  hx : (o.x, instObj 76 o.dx) ∈ news
  hdx : (o.dx, wsDict w o.S o.d o.q o.k1 o.k2 o.k3 o.k4 o.k5 o.t1 o.t2 o.t3) ∈ news
  hq : (o.q, tupOf [.ref o.p, .int (o.d.b : Int) o.t4]) ∈ news
  hp : (o.p, tupOf o.vs) ∈ news
  hv : IntsAre o.vs o.d.cs
  hl : o.d.cs.length ≤ 200
  hb : o.d.b ≤ 200
  hn : o.d.n ≤ 200
  ht : o.d.nt ≤ 200
  hc : ∀ e ∈ o.d.cs, 0 ≤ e ∧ e ≤ 200
end Mine
end
section
open PySem PySem.W PyProof.Rows PySem.Spec
namespace Mine
section
variable {prog : Program} {w : World} {A : Around} {E : Value → Shared → Prop} {s : Shared} {h₀ : Heap} {L : Addr} {news : Led}
theorem len_tupN {p : Addr} {vs : List Value} {ns : List Int} {Q : Value → Shared → Prop} (N : News h₀ L s.heap news) (hm : (p, tupOf vs) ∈ news) (hI : IntsAre vs ns) (hl : ns.length ≤ 1000000)
    (h : ∀ t t', Q (.int (ns.length : Int) t) { s with toks := t' }) : wpAny (model prog w) A (call (.builtin "len") [.ref p]) Q E s := by
  have e : vs.toArray.size = ns.length := by rw [List.size_toArray, hI.length]
  refine PyProof.Rows.len_tuple (News.isTup N hm) (by rw [e]; omega) ?_
  rw [e]
  exact h _ _
theorem item_tupN {value slice : PySem.Expr} {l : Addr} {vs : List Value} {ns : List Int} {k : Int} {u : Tok} {Q : Value → Shared → Prop} (N : News h₀ L s.heap news) (hm : (l, tupOf vs) ∈ news) (hI : IntsAre vs ns) (h0 : 0 ≤ k) (h1 : k < ns.length) (hl : ns.length ≤ 1000000)
    (h : ∀ t, Q (.int (ns.getD k.toNat 0) t) s)
    (hs : subscripted slice false (.ref l) (.int k u) = operate [.ref l, .int k u] (getItem (.ref l) (.int k u)) := by with_unfolding_all rfl) (hg : ∀ r, letTemporaryGo value (.ref l) r = pure () := by intro _; with_unfolding_all rfl) :
    wpAny (model prog w) A (subscriptTail value slice (.ref l) (.int k u)) Q E s :=
  item_tuple_ints (News.isTup N hm) hI h0 h1 (by omega) h hs hg
theorem dat_shaped {d : Dat} (hd : kqdOk 8 d = true) : SeqAt.shaped (kqdP d) = true := by
  have l := kqd_lay 8 d hd
  unfold SeqAt.shaped
  rw [l.1, Bool.true_and]
  exact decide_eq_true (Nat.le_trans l.2 (by decide))
theorem dat_eq {va vb : Value} {d e : Dat} {Q : Value → Shared → Prop} (r : Bool) (N : News h₀ L s.heap news) (Da : DatIn news va d) (Db : DatIn news vb e) (ha : kqdOk 8 d = true) (hb : kqdOk 8 e = true) (hu : A.units + 64 < cLine)
    (hr : r = true ↔ d = e) (h : Q (.bool r) s) : wpAny (model prog w) A (compareOp .Eq va vb) Q E s := by
  obtain ⟨as, ra⟩ := kqd_in N 8 Da ha
  obtain ⟨bs, rb⟩ := kqd_in N 8 Db hb
  have e1 : PyData.eqv (kqdP d) (kqdP e) = r := by
    have q := kqd_eqv 8 d e 8 ha hb
    cases r with
    | true => exact q.mpr (hr.mp rfl)
    | false => exact Bool.eq_false_iff.mpr fun x => Bool.false_ne_true (hr.mpr (q.mp x))
  exact eq_dataH ra rb (dat_shaped ha) (dat_shaped hb) hu (by rw [e1]; exact h)
theorem dat_ne {va vb : Value} {d e : Dat} {Q : Value → Shared → Prop} (r : Bool) (N : News h₀ L s.heap news) (Da : DatIn news va d) (Db : DatIn news vb e) (ha : kqdOk 8 d = true) (hb : kqdOk 8 e = true) (hu : A.units + 64 < cLine)
    (hr : r = true ↔ d = e) (h : Q (.bool (!r)) s) : wpAny (model prog w) A (compareOp .NotEq va vb) Q E s := by
  obtain ⟨as, ra⟩ := kqd_in N 8 Da ha
  obtain ⟨bs, rb⟩ := kqd_in N 8 Db hb
  have e1 : PyData.eqv (kqdP d) (kqdP e) = r := by
    have q := kqd_eqv 8 d e 8 ha hb
    cases r with
    | true => exact q.mpr (hr.mp rfl)
    | false => exact Bool.eq_false_iff.mpr fun x => Bool.false_ne_true (hr.mpr (q.mp x))
  exact ne_dataH ra rb (dat_shaped ha) (dat_shaped hb) hu (by rw [e1]; exact h)
theorem datAll_ints {vs : List Value} {ns : List Int} (h : IntsAre vs ns) : DatAll news vs (ns.map Dat.int) := by
  induction h with
  | nil => exact .nil
  | cons n t _ ih => exact .cons (.int n t) ih
end
theorem getD_bound {cs : List Int} {lo hi : Int} (h : ∀ e ∈ cs, lo ≤ e ∧ e ≤ hi) (h0 : lo ≤ 0 ∧ 0 ≤ hi) (j : Nat) : lo ≤ cs.getD j 0 ∧ cs.getD j 0 ≤ hi := by
  rw [List.getD_eq_getElem?_getD]
  cases e : cs[j]? with
  | none => exact h0
  | some v => exact h v (List.mem_of_getElem? e)
theorem fdiv_bound {a b : Int} (ha : 0 ≤ a) (hb : 1 ≤ b) : 0 ≤ a.fdiv b ∧ a.fdiv b ≤ a := by
  rw [Int.fdiv_eq_ediv_of_nonneg _ (by omega)]
  exact ⟨Int.ediv_nonneg ha (by omega), Int.ediv_le_self _ ha⟩
/-- the sum that indent_level reckons -/
def indAcc (cs : List Int) (ts : Int) : Nat → Int
  | 0 => 0
  | i + 1 => indAcc cs ts i + (ts + (i : Int)).fdiv ts * cs.getD (ts + (i : Int)).toNat 0
def indV (d : WD) (ts : Int) : Int := (d.b : Int) + ts * (indAcc d.cs ts ((d.cs.length : Int) - ts).toNat + (d.nt : Int))
def longV (d : WD) : Int := max ((d.cs.length : Int) - 1) (d.b : Int)
def topV (a b : WD) : Int := max (longV a) (longV b) + 1
def lessV (a b : WD) : Bool :=
  if (b.n : Int) ≤ (a.n : Int) then false
  else if (a.cs.length : Int) ≤ 1 ∧ (b.cs.length : Int) ≤ 1 then decide ((a.nt : Int) ≤ (b.nt : Int))
  else (List.range (topV a b + 1 - 2).toNat).all fun i => decide (indV a (2 + (i : Int)) < indV b (2 + (i : Int)))
theorem WsIn.mono {w : World} {news news' : Led} {o : WO} (h : WsIn w news o) (hs : ∀ p ∈ news, p ∈ news') : WsIn w news' o :=
  ⟨hs _ h.hx, hs _ h.hdx, hs _ h.hq, hs _ h.hp, h.hv, h.hl, h.hb, h.hn, h.ht, h.hc⟩
def normD (d : WD) : Dat := .tuple [.tuple (d.cs.map Dat.int), .int (d.b : Int)]
theorem normD_ok (d : WD) : kqdOk 8 (normD d) = true := by
  simp [normD, kqdOk]
theorem map_int_inj {a b : List Int} : a.map Dat.int = b.map Dat.int ↔ a = b := by
  constructor
  · intro h
    exact List.map_inj_right (f := Dat.int) (fun x y e => by cases e; rfl) |>.mp h
  · rintro rfl; rfl
theorem normD_eq (a b : WD) : decide (a.cs = b.cs ∧ a.b = b.b) = true ↔ normD a = normD b := by
  rw [decide_eq_true_eq]
  constructor
  · rintro ⟨h1, h2⟩
    unfold normD
    rw [h1, h2]
  · intro h
    unfold normD at h
    injection h with h
    injection h with h1 h2
    injection h1 with h1
    injection h2 with h2
    injection h2 with h2
    exact ⟨map_int_inj.mp h1, by omega⟩
theorem WsIn.norm {w : World} {news : Led} {o : WO} (h : WsIn w news o) : DatIn news (.ref o.q) (normD o.d) :=
  .tuple h.hq (.cons (.tuple h.hp (datAll_ints h.hv)) (.cons (.int _ _) .nil))
def tripD (x : Int × Int × Int) : Dat := .tuple [.int x.1, .int x.2.1, .int x.2.2]
def nlAt (a b : WD) (i : Nat) : Option (Int × Int × Int) := if indV b (1 + (i : Int)) ≤ indV a (1 + (i : Int)) then some (1 + (i : Int), indV a (1 + (i : Int)), indV b (1 + (i : Int))) else none
def neAt (a b : WD) (i : Nat) : Option (Int × Int × Int) := if indV a (1 + (i : Int)) = indV b (1 + (i : Int)) then none else some (1 + (i : Int), indV a (1 + (i : Int)), indV b (1 + (i : Int)))
def nlV (a b : WD) : List (Int × Int × Int) := (List.range (topV a b).toNat).filterMap (nlAt a b)
def neV (a b : WD) : List (Int × Int × Int) := (List.range (topV a b).toNat).filterMap (neAt a b)
theorem fm_some {α : Type} {f : Nat → Option α} {i : Nat} {x : α} (h : f i = some x) : (List.range (i + 1)).filterMap f = (List.range i).filterMap f ++ [x] := by
  rw [List.range_succ, List.filterMap_append]
  simp [h]
theorem fm_none {α : Type} {f : Nat → Option α} {i : Nat} (h : f i = none) : (List.range (i + 1)).filterMap f = (List.range i).filterMap f := by
  rw [List.range_succ, List.filterMap_append]
  simp [h]
theorem datAll_snoc {news : Led} {vs : List Value} {ds : List Dat} {v : Value} {d : Dat} (h : DatAll news vs ds) (hv : DatIn news v d) : DatAll news (vs ++ [v]) (ds ++ [d]) := by
  induction vs generalizing ds with
  | nil => cases h; exact .cons hv .nil
  | cons x xs ih => cases h with | cons h1 h2 => exact .cons h1 (ih h2)
def colV (runs : List Int) (size : Int) : Int := runs.foldl (fun c r => (c + r).fdiv size * size + size) 0
theorem foldl_take {α β : Type} (g : β → α → β) (b : β) (l : List α) (i : Nat) (x : α) (h : l[i]? = some x) : (l.take (i + 1)).foldl g b = g ((l.take i).foldl g b) x := by
  rw [List.take_add_one, h]
  simp
end Mine
end
section
open PySem PySem.W PyProof.Rows PySem.Spec
open PyProof.Rows.LCg PyProof.Rows.LCt
namespace Mine
section
variable {prog : Program} {w : World} {A : Around} {E : Value → Shared → Prop} {s : Shared} {h₀ : Heap} {L : Addr} {m : Str → Option Value} {env : Env} {elt ct : PySem.Expr} {x : Str} {scope : Scope} {cl : List (Str × Addr)} {S : List (Addr × Obj) → Prop} {P : Nat → Value → Prop} {Fin : List Value → List (Addr × Obj) → Prop} {news : Led}
/-- a comprehension without a test: each item gives a datum -/
theorem comp_rest {n : Nat} (f : Nat → Dat)
    (turn : Hold (∀ i v I oI C oC D m₂ ys h tk nw (E' : Value → Shared → Prop), i < n → P i v → NsObj oC m₂ → m₂ x = some v → Fr h₀ L h m → News h₀ L h ((I, oI) :: (C, oC) :: (D, lst ys) :: nw) → Off3 I C D nw → ((@Ne Nat I C) ∧ (@Ne Nat I D) ∧ (@Ne Nat C D)) → S nw → (∀ p ∈ news, p ∈ nw) →
      wpAny (model prog w) A (eval elt (compEnvC scope cl C env)) (CompEnd h₀ L m { s with heap := h, toks := tk } I oI C oC D (lst ys) S (fun y nw' => DatIn nw' y (f i) ∧ ∀ p ∈ nw, p ∈ nw')) E' { s with heap := h, toks := tk }))
    (hS : S news)
    (fin : Hold (∀ ys nw, DatAll nw ys ((List.range n).map f) → S nw → (∀ p ∈ news, p ∈ nw) → Fin ys nw)) :
    CompRest prog w A h₀ L m env elt x scope cl s S P Fin n 0 [] news := by
  have key : ∀ (j i : Nat) (ys : List Value) (nw : Led), i + j = n → DatAll nw ys ((List.range i).map f) → S nw → (∀ p ∈ news, p ∈ nw) → CompRest prog w A h₀ L m env elt x scope cl s S P Fin j i ys nw := by
    intro j
    induction j with
    | zero =>
      intro i ys nw hi hd hs hsub
      have e : i = n := by omega
      subst e
      exact CompRest.zero (fin ys nw hd hs hsub)
    | succ j ih =>
      intro i ys nw hi hd hs hsub
      refine CompRest.succ ?_
      intro v I oI C oC D m₂ h tk E' hv hC hx F N off ne
      refine wpAny_mono (turn i v I oI C oC D m₂ ys h tk nw E' (by omega) hv hC hx F N off ne hs hsub) (fun y s₂ hq => ?_) fun _ _ e => e
      obtain ⟨h', tk', nw', e, F', N', off', hS', hy, hsub'⟩ := hq
      refine ⟨h', tk', nw', e, F', N', off', hS', ?_⟩
      refine ih (i + 1) _ nw' (by omega) ?_ hS' (fun p hp => hsub' p (hsub p hp))
      rw [List.range_succ, List.map_append]
      exact datAll_snoc (DatAll.mono hsub' hd) hy
  exact key n 0 [] news (by omega) .nil hS (fun p hp => hp)
/-- the same with one test -/
theorem comp_restT {n : Nat} (g : Nat → Option Dat)
    (turn : Hold (∀ i v I oI C oC D m₂ ys h tk nw (E' : Value → Shared → Prop), i < n → P i v → NsObj oC m₂ → m₂ x = some v → Fr h₀ L h m → News h₀ L h ((I, oI) :: (C, oC) :: (D, lst ys) :: nw) → Off3 I C D nw → ((@Ne Nat I C) ∧ (@Ne Nat I D) ∧ (@Ne Nat C D)) → S nw → (∀ p ∈ news, p ∈ nw) →
      wpAny (model prog w) A (isTrue ct (compEnvC scope cl C env) (eval ct (compEnvC scope cl C env))) (fun ok s' => if ok = true then
        wpAny (model prog w) A (eval elt (compEnvC scope cl C env)) (CompEnd h₀ L m { s with heap := h, toks := tk } I oI C oC D (lst ys) S (fun y nw' => (∃ d, g i = some d ∧ DatIn nw' y d) ∧ ∀ p ∈ nw, p ∈ nw')) E' s'
        else CompEnd h₀ L m { s with heap := h, toks := tk } I oI C oC D (lst ys) S (fun _ nw' => g i = none ∧ ∀ p ∈ nw, p ∈ nw') Value.none s') E' { s with heap := h, toks := tk }))
    (hS : S news)
    (fin : Hold (∀ ys nw, DatAll nw ys ((List.range n).filterMap g) → S nw → (∀ p ∈ news, p ∈ nw) → Fin ys nw)) :
    CompRestT prog w A h₀ L m env ct elt x scope cl s S P Fin n 0 [] news := by
  have key : ∀ (j i : Nat) (ys : List Value) (nw : Led), i + j = n → DatAll nw ys ((List.range i).filterMap g) → S nw → (∀ p ∈ news, p ∈ nw) → CompRestT prog w A h₀ L m env ct elt x scope cl s S P Fin j i ys nw := by
    intro j
    induction j with
    | zero =>
      intro i ys nw hi hd hs hsub
      have e : i = n := by omega
      subst e
      exact CompRestT.zero (fin ys nw hd hs hsub)
    | succ j ih =>
      intro i ys nw hi hd hs hsub
      refine CompRestT.succ ?_
      intro v I oI C oC D m₂ h tk E' hv hC hx F N off ne
      refine wpAny_mono (turn i v I oI C oC D m₂ ys h tk nw E' (by omega) hv hC hx F N off ne hs hsub) (fun ok s₂ hq => ?_) fun _ _ e => e
      cases ok with
      | true =>
        simp only [if_true] at hq ⊢
        refine wpAny_mono hq (fun y s₃ hq => ?_) fun _ _ e => e
        obtain ⟨h', tk', nw', e, F', N', off', hS', ⟨d, hg, hy⟩, hsub'⟩ := hq
        refine ⟨h', tk', nw', e, F', N', off', hS', ?_⟩
        refine ih (i + 1) _ nw' (by omega) ?_ hS' (fun p hp => hsub' p (hsub p hp))
        rw [fm_some hg]
        exact datAll_snoc (DatAll.mono hsub' hd) hy
      | false =>
        simp only [Bool.false_eq_true, if_false] at hq ⊢
        obtain ⟨h', tk', nw', e, F', N', off', hS', hg, hsub'⟩ := hq
        refine ⟨h', tk', nw', e, F', N', off', hS', ?_⟩
        refine ih (i + 1) _ nw' (by omega) ?_ hS' (fun p hp => hsub' p (hsub p hp))
        rw [fm_none hg]
        exact DatAll.mono hsub' hd
  exact key n 0 [] news (by omega) .nil hS (fun p hp => hp)
theorem comp_end {I C D : Addr} {oI oC oD : Obj} {s₁ : Shared} {y : Value} {h' : Heap} {tk : Nat} {d : Dat} {nw : Led} (F : Fr h₀ L h' m) (N : News h₀ L h' ((I, oI) :: (C, oC) :: (D, oD) :: nw)) (off : Off3 I C D nw) (hS : S nw) (hy : DatIn nw y d) :
    CompEnd h₀ L m s₁ I oI C oC D oD S (fun y nw' => DatIn nw' y d ∧ ∀ p ∈ nw, p ∈ nw') y { s₁ with heap := h', toks := tk } :=
  ⟨h', tk, nw, rfl, F, N, off, hS, hy, fun _ hp => hp⟩
theorem comp_endT {I C D : Addr} {oI oC oD : Obj} {s₁ : Shared} {y : Value} {h' : Heap} {tk : Nat} {d : Dat} {o : Option Dat} {nw : Led} (F : Fr h₀ L h' m) (N : News h₀ L h' ((I, oI) :: (C, oC) :: (D, oD) :: nw)) (off : Off3 I C D nw) (hS : S nw) (hg : o = some d) (hy : DatIn nw y d) :
    CompEnd h₀ L m s₁ I oI C oC D oD S (fun y nw' => (∃ d, o = some d ∧ DatIn nw' y d) ∧ ∀ p ∈ nw, p ∈ nw') y { s₁ with heap := h', toks := tk } :=
  ⟨h', tk, nw, rfl, F, N, off, hS, ⟨d, hg, hy⟩, fun _ hp => hp⟩
theorem comp_endF {I C D : Addr} {oI oC oD : Obj} {s₁ : Shared} {y : Value} {h' : Heap} {tk : Nat} {o : Option Dat} {nw : Led} (F : Fr h₀ L h' m) (N : News h₀ L h' ((I, oI) :: (C, oC) :: (D, oD) :: nw)) (off : Off3 I C D nw) (hS : S nw) (hg : o = none) :
    CompEnd h₀ L m s₁ I oI C oC D oD S (fun _ nw' => o = none ∧ ∀ p ∈ nw, p ∈ nw') y { s₁ with heap := h', toks := tk } :=
  ⟨h', tk, nw, rfl, F, N, off, hS, hg, fun _ hp => hp⟩
end
theorem ints_of_dat {news : Led} {vs : List Value} {ns : List Int} (h : DatAll news vs (ns.map Dat.int)) : IntsAre vs ns := by
  induction ns generalizing vs with
  | nil => cases h; exact .nil
  | cons n r ih => cases h with | cons h1 h2 => cases h1 with | int i t => exact .cons n t (ih h2)
theorem strs_of_dat {news : Led} {vs : List Value} {xs : List Str} (h : DatAll news vs (xs.map Dat.str)) : StrsAre vs xs := by
  induction xs generalizing vs with
  | nil => cases h; exact .nil
  | cons n r ih => cases h with | cons h1 h2 => cases h1 with | str i t => exact .cons n t (ih h2)
theorem dat_of_strs {news : Led} {vs : List Value} {xs : List Str} (h : StrsAre vs xs) : DatAll news vs (xs.map Dat.str) := by
  induction h with
  | nil => exact .nil
  | cons n t _ ih => exact .cons (.str n t) ih
theorem dat_len {news : Led} {vs : List Value} {ds : List Dat} (h : DatAll news vs ds) : vs.length = ds.length := by
  induction vs generalizing ds with
  | nil => cases h; rfl
  | cons v r ih => cases h with | cons h1 h2 => simp [ih h2]
theorem dat_get {news : Led} {vs : List Value} {ds : List Dat} (h : DatAll news vs ds) {i : Nat} {v : Value} (hv : vs[i]? = some v) : ∃ d, ds[i]? = some d ∧ DatIn news v d := by
  induction vs generalizing ds i with
  | nil => cases hv
  | cons x r ih =>
    cases h with
    | cons h1 h2 =>
      cases i with
      | zero => cases hv; exact ⟨_, rfl, h1⟩
      | succ i => exact ih h2 hv
theorem range_map {α β : Type} (g : α → β) (d : α) (l : List α) : (List.range l.length).map (fun i => g (l.getD i d)) = l.map g := by
  apply List.ext_getElem
  · simp
  · intro i h1 h2
    simp at h1
    simp [h1]
theorem getD_of {α : Type} {l : List α} {i : Nat} {d x : α} (h : l[i]? = some x) : l.getD i d = x := by
  rw [List.getD_eq_getElem?_getD, h]; rfl
def pieceV (k : Int) : Str := Txt.mul (Str.ofString " ") k ++ Str.ofString "\t"
def leadV (ns : List Int) : Str := Txt.join (Str.ofString "") (ns.map pieceV)
def runV (m : Nat) (i : Nat) : Int := if m.testBit i then [2, 3, 5, 7].getD i 0 else [2, 3, 5, 7].getD i 0 - 1
def runsV (m : Nat) : List Int := (List.range 4).map (runV m)
end Mine
end
section
open PySem PySem.W PyProof.Rows PySem.Spec
open PyProof.Rows.LCg PyProof.Rows.LCt
set_option maxHeartbeats 2000000
namespace Mine
section
variable {prog : Program} {w : World} {A : Around} {E : Value → Shared → Prop} {s : Shared} {h₀ : Heap} {L : Addr} {m : Str → Option Value} {env : Env}
/-- nothing that is told has turned -/
def Same (h₀ : Heap) (L : Addr) (m : Str → Option Value) (all : Led) (s₁ s₂ : Shared) : Prop := ∃ h' tk', s₂ = { s₁ with heap := h', toks := tk' } ∧ Fr h₀ L h' m ∧ News h₀ L h' all
def ElI (h₀ : Heap) (L : Addr) (m : Str → Option Value) (all : Led) (s₁ : Shared) (v : Int) (y : Value) (s₂ : Shared) : Prop := (∃ t, y = .int v t) ∧ Same h₀ L m all s₁ s₂
def ElT (h₀ : Heap) (L : Addr) (m : Str → Option Value) (all : Led) (s₁ : Shared) (o : Option Int) (y : Value) (s₂ : Shared) : Prop := (∃ v t, o = some v ∧ y = .int v t) ∧ Same h₀ L m all s₁ s₂
def ElF (h₀ : Heap) (L : Addr) (m : Str → Option Value) (all : Led) (s₁ : Shared) (o : Option Int) (s₂ : Shared) : Prop := o = none ∧ Same h₀ L m all s₁ s₂
theorem ElI.intro {h₀ h' : Heap} {L : Addr} {m : Str → Option Value} {all : Led} {s₁ : Shared} {v v' : Int} {t tk : Tok} (e : v' = v) (F : Fr h₀ L h' m) (N : News h₀ L h' all) : ElI h₀ L m all s₁ v (.int v' t) { s₁ with heap := h', toks := tk } := ⟨⟨t, by rw [e]⟩, h', tk, rfl, F, N⟩
theorem ElT.intro {h₀ h' : Heap} {L : Addr} {m : Str → Option Value} {all : Led} {s₁ : Shared} {o : Option Int} {v' : Int} {t tk : Tok} (e : o = some v') (F : Fr h₀ L h' m) (N : News h₀ L h' all) : ElT h₀ L m all s₁ o (.int v' t) { s₁ with heap := h', toks := tk } := ⟨⟨v', t, e, rfl⟩, h', tk, rfl, F, N⟩
theorem ElF.intro {h₀ h' : Heap} {L : Addr} {m : Str → Option Value} {all : Led} {s₁ : Shared} {o : Option Int} {tk : Tok} (e : o = none) (F : Fr h₀ L h' m) (N : News h₀ L h' all) : ElF h₀ L m all s₁ o { s₁ with heap := h', toks := tk } := ⟨e, h', tk, rfl, F, N⟩
/-- what an assignment to the target does -/
def Binds (prog : Program) (w : World) (A : Around) (target : PySem.Expr) (scope : Scope) (cl : List (Str × Addr)) (env : Env) (Pt : Nat → Array Value → Prop) (Bd : Array Value → (Str → Option Value) → Prop) : Prop :=
  ∀ (C : Addr) (s : Shared) (T : Addr) (vals : Array Value) (m' : Str → Option Value) (Q : Unit → Shared → Prop) (E : Value → Shared → Prop), s.heap.IsTuple T vals → (∃ i, Pt i vals) → s.heap.Ns C m' →
    (∀ h' tk m'', h'.Ns C m'' → Bd vals m'' → (∀ b o, b ≠ C → s.heap.get? b = some o → h'.get? b = some o) → Q () { s with heap := h', toks := tk }) → wpAny (model prog w) A (assign target (compEnvC scope cl C env) (.ref T)) Q E s
theorem ints_snoc {vs : List Value} {ns : List Int} {k : Int} {t : Tok} (h : IntsAre vs ns) : IntsAre (vs ++ [.int k t]) (ns ++ [k]) := by
  induction h with
  | nil => exact .cons k t .nil
  | cons n t _ ih => exact .cons n t ih
theorem off1_of {D : Addr} : ∀ {l : Led}, (∀ p ∈ l, p.1 ≠ D) → Off1 D l
  | [], _ => trivial
  | _ :: _, h => ⟨h _ List.mem_cons_self, off1_of fun p hp => h p (List.mem_cons_of_mem _ hp)⟩

theorem block_I {target elt iter : PySem.Expr} {scope : Scope} {cl : List (Str × Addr)} {pos : Pos} {s₂ : Shared} {I : Addr} {fp wr : List Addr} {n : Nat} {Pt : Nat → Array Value → Prop} {St : Nat → Heap → Prop} {Mid : Nat → Addr → Heap → Prop} {Bd : Array Value → (Str → Option Value) → Prop} {news : Led}
    {RR : Value → Addr → Result → Shared → Prop} (f : Nat → Int)
    (htg : ∃ elts k p, target = .Tuple elts k p)
    (W : WalksU prog w A I fp wr n Pt St Mid) (hsz : n ≤ sizeLine) (hfp0 : ∀ b ∈ fp, h₀.get? b = none)
    (hasg : Binds prog w A target scope cl env Pt Bd)
    (hcell : ∀ y ∈ scope.names, y.2 ≠ .cell) (hkind : scope.kind = .function) (hst : St 0 s₂.heap) (hfp : ∀ b ∈ fp, b < s₂.heap.objs.size)
    (F : Fr h₀ L s₂.heap m) (N : News h₀ L s₂.heap news) (hLf : L ∉ fp) (off : ∀ p ∈ news, p.1 ∉ wr)
    (turn : ∀ i vals C oC D ys m₂ h tk all (E' : Value → Shared → Prop), i < n → Pt i vals → NsObj oC m₂ → Bd vals m₂ → Fr h₀ L h m → News h₀ L h all → (C, oC) ∈ all → (D, lst ys) ∈ all → (∀ p ∈ news, p ∈ all) →
      wpAny (model prog w) A (eval elt (compEnvC scope cl C env)) (ElI h₀ L m all { s₂ with heap := h, toks := tk } (f i)) E' { s₂ with heap := h, toks := tk })
    (hRR : ∀ D C h tk m' ys, IntsAre ys ((List.range n).map f) → Fr h₀ L h m → News h₀ L h ((D, lst ys) :: news) → Off1 D news → h.Ns C m' → h₀.get? C = none → h₀.get? D = none → C ≠ L → D ≠ L → C ≠ D → (∀ p ∈ news, p.1 ≠ C) → RR (.ref D) C (.ok .next) { s₂ with heap := h, toks := tk }) :
    wpAny (model prog w) A (newList []) (fun acc s₃ => wpAny (model prog w) A (newFunctionEnv scope env.globals cl [] env.qual none .none (some env)) (fun cenv s₄ =>
      codeAny (model prog w) A (.compStart (.ListComp elt [⟨target, iter, [], 0⟩] scope pos) 0 (.ref I) acc { cenv with scope := relabel scope env }) (RR acc cenv.locals) s₄) E s₃) E s₂ := by
  obtain ⟨elts, kk, tp, rfl⟩ := htg
  refine wpAny_newObj_type (wpAny_newFunctionEnv hcell (by intro y hy; simp at hy) (fun h₁ hns₁ hsb₁ => ?_) hkind)
  dsimp only at hns₁ hsb₁ ⊢
  generalize hH2 : s₂.heap.push { cls := .type "list", dict := none, data := .seq ([] : List Value).toArray } = H2 at hns₁ hsb₁ ⊢
  have hC : H2.objs.size = s₂.heap.objs.size + 1 := by rw [← hH2, Heap.size_push]
  have hDC : s₂.heap.objs.size ≠ H2.objs.size := by rw [hC]; exact Nat.ne_of_lt (Nat.lt_succ_self _)
  have below : ∀ b, b < s₂.heap.objs.size → b ≠ H2.objs.size ∧ b ≠ s₂.heap.objs.size := fun b hb => ⟨by rw [hC]; exact Nat.ne_of_lt (Nat.lt_succ_of_lt hb), Nat.ne_of_lt hb⟩
  have hDf : s₂.heap.objs.size ∉ fp := fun hm => Nat.lt_irrefl _ (hfp _ hm)
  have hCf : H2.objs.size ∉ fp := fun hm => by have := hfp _ hm; rw [hC] at this; exact Nat.lt_irrefl _ (Nat.lt_of_succ_lt this)
  have old : ∀ b o, s₂.heap.get? b = some o → h₁.get? b = some o := fun b o e => hsb₁.extBut b o (below b (Heap.lt_size e)).1 (Heap.get?_push_of_some _ (hH2 ▸ Heap.get?_push_of_some _ e))
  have hacc : h₁.get? s₂.heap.objs.size = some (lst []) := hsb₁.extBut _ _ hDC (Heap.get?_push_of_some _ (hH2 ▸ Heap.get?_push_size _ rfl))
  have hst₁ : St 0 h₁ := W.frame _ _ _ hst fun b _ o e => old b o e
  have fresh : ∀ a, s₂.heap.objs.size ≤ a → s₂.heap.get? a = none := fun a ha => by
    cases e : s₂.heap.get? a with
    | none => rfl
    | some o' => exact absurd (Heap.lt_size e) (Nat.not_lt.mpr ha)
  have fresh₀ : ∀ a, s₂.heap.objs.size ≤ a → h₀.get? a = none := fun a ha => by
    cases e : h₀.get? a with
    | none => rfl
    | some o' => have := F.keep a o' e; rw [fresh a ha] at this; cases this
  have hD₀ : h₀.get? s₂.heap.objs.size = none := fresh₀ _ (Nat.le_refl _)
  have hC₀ : h₀.get? H2.objs.size = none := fresh₀ _ (by rw [hC]; exact Nat.le_succ _)
  have hLlt : L < s₂.heap.objs.size := F.ns.lt
  have hDL : s₂.heap.objs.size ≠ L := Ne.symm (below L hLlt).2
  have hCL : H2.objs.size ≠ L := Ne.symm (below L hLlt).1
  have offC : ∀ p ∈ news, p.1 ≠ H2.objs.size := fun p hp => (below _ (Heap.lt_size (N p hp).1)).1
  have offD : ∀ p ∈ news, p.1 ≠ s₂.heap.objs.size := fun p hp => (below _ (Heap.lt_size (N p hp).1)).2
  have hwr0 : ∀ b ∈ wr, h₀.get? b = none := fun b hb => hfp0 b (W.sub b hb)
  have hLw : L ∉ wr := fun h => hLf (W.sub _ h)
  have frBut : ∀ (ha hb : Heap), (∀ b o, b ∉ wr → ha.get? b = some o → hb.get? b = some o) → Fr h₀ L ha m → Fr h₀ L hb m := fun ha hb hk F' =>
    ⟨F'.ns.at' fun o e => hk L o hLw e, fun b o e => hk b o (fun hm => by rw [hwr0 b hm] at e; cases e) (F'.keep b o e), F'.above⟩
  have neBut : ∀ (ha hb : Heap), (∀ b o, b ∉ wr → ha.get? b = some o → hb.get? b = some o) → News h₀ L ha news → News h₀ L hb news := fun ha hb hk N' p hp => ⟨hk _ _ (off p hp) (N' p hp).1, (N' p hp).2⟩
  have hCw : H2.objs.size ∉ wr := fun h => hCf (W.sub _ h)
  have hDw : s₂.heap.objs.size ∉ wr := fun h => hDf (W.sub _ h)
  have loop : ∀ s₃ : Shared, s₃ = { s₂ with heap := h₁, toks := s₂.toks + ([] : List (Str × Value)).length } →
      codeAny (model prog w) A (.compLoop (.ListComp elt [⟨.Tuple elts kk tp, iter, [], 0⟩] scope pos) 0 (.ref I) (.ref s₂.heap.objs.size) (compEnvC scope cl H2.objs.size env))
        (RR (.ref s₂.heap.objs.size) H2.objs.size) s₃ := by
    rintro s₃ rfl
    refine kcp_loop
      (fun k s' => ∃ h' tk i ys m', s' = { s₂ with heap := h', toks := tk } ∧ i ≤ n ∧ k = n + 1 - i ∧ ys.length ≤ i ∧ St i h' ∧ Fr h₀ L h' m ∧ h'.Ns H2.objs.size m' ∧ h'.get? s₂.heap.objs.size = some (lst ys) ∧ News h₀ L h' news ∧ IntsAre ys ((List.range i).map f)) ?_ (n + 1)
      ⟨h₁, _, 0, [], _, rfl, Nat.zero_le _, rfl, Nat.le_refl _, hst₁, F.keeps old, hns₁, hacc, fun p hp => ⟨old _ _ (N p hp).1, (N p hp).2⟩, .nil⟩
    · rintro k s' ⟨h', tk, i, ys, m', rfl, hi, rfl, hyl, hst', F', hn', hD', N', hI'⟩
      by_cases hlt : i < n
      · refine W.item i _ _ _ hlt hst' fun T vals h₂ tk₂ hPv hTv hMid hk₂ => ?_
        refine W.go elts kk tp i T _ _ _ hMid fun h₂' hst₂ hk₂' => ?_
        have hT₂ : h₂'.IsTuple T vals := hTv.at fun o e => hk₂' T o (W.apart _ _ _ hMid) e
        have hkk : ∀ b o, b ∉ wr → h'.get? b = some o → h₂'.get? b = some o := fun b o hb e => hk₂' b o hb (hk₂ b o hb e)
        refine hasg H2.objs.size _ T vals m' _ _ hT₂ ⟨i, hPv⟩ (hn'.at' fun o e => hkk _ o hCw e) fun h₃ tk₃ m₃ hn₃ hBd hk₃ => ?_
        have hst₃ : St (i + 1) h₃ := W.frame _ _ _ hst₂ fun b hb o e => hk₃ b o (fun q => hCf (by rw [← q]; exact hb)) e
        obtain ⟨oC, heC, hoC⟩ := ns_obj hn₃
        have F₂ : Fr h₀ L h₂' m := frBut _ _ hkk F'
        have F₃ : Fr h₀ L h₃ m := ⟨F₂.ns.at' fun o e => hk₃ L o (Ne.symm hCL) e, fun b o e => hk₃ b o (fun q => by rw [q, hC₀] at e; cases e) (F₂.keep b o e), F₂.above⟩
        have N₂ : News h₀ L h₂' news := neBut _ _ hkk N'
        have Nall : News h₀ L h₃ ((fp.filterMap fun b => (h₃.get? b).map fun o => (b, o)) ++ (H2.objs.size, oC) :: (s₂.heap.objs.size, lst ys) :: news) := fun p hp => by
          rcases List.mem_append.mp hp with hp | hp
          · obtain ⟨b, hb, hq⟩ := List.mem_filterMap.mp hp
            cases e : h₃.get? b with
            | none => rw [e] at hq; cases hq
            | some o =>
              rw [e] at hq
              cases hq
              exact ⟨e, fun q => hLf (by rw [← q]; exact hb), hfp0 b hb⟩
          · rcases List.mem_cons.mp hp with rfl | hp
            · exact ⟨heC, hCL, hC₀⟩
            rcases List.mem_cons.mp hp with rfl | hp
            · exact ⟨hk₃ _ _ hDC (hkk _ _ hDw hD'), hDL, hD₀⟩
            · exact ⟨hk₃ _ _ (offC p hp) (N₂ p hp).1, (N₂ p hp).2⟩
        have stAt : ∀ h₄ : Heap, News h₀ L h₄ ((fp.filterMap fun b => (h₃.get? b).map fun o => (b, o)) ++ (H2.objs.size, oC) :: (s₂.heap.objs.size, lst ys) :: news) → St (i + 1) h₄ := fun h₄ N₄ =>
          W.frame _ _ _ hst₃ fun b hb o e => (N₄ (b, o) (List.mem_append_left _ (List.mem_filterMap.mpr ⟨b, hb, by rw [e]; rfl⟩))).1
        refine wpAny_mono (turn i vals H2.objs.size oC s₂.heap.objs.size ys _ h₃ _ _ _ hlt hPv hoC hBd F₃ Nall (List.mem_append_right _ (.head _)) (List.mem_append_right _ (.tail _ (.head _))) (fun p hp => List.mem_append_right _ (.tail _ (.tail _ hp)))) (fun y s₅ h₅ => ?_) fun _ _ e => e
        obtain ⟨⟨tv, rfl⟩, h₄, tk₄, rfl, F₄, N₄⟩ := h₅
        have zC := (N₄ (H2.objs.size, oC) (List.mem_append_right _ (.head _))).1
        have zD := (N₄ (s₂.heap.objs.size, lst ys) (List.mem_append_right _ (.tail _ (.head _)))).1
        refine append_at (hsz := by show ys.toArray.size ≤ sizeLine; rw [List.size_toArray]; exact Nat.le_trans (Nat.le_trans hyl hi) hsz) zD fun h₅ hs₅ hD₅ => ?_
        refine ⟨n + 1 - (i + 1), by omega, h₅, tk₄, i + 1, ys ++ [_], _, rfl, hlt, rfl, by rw [List.length_append, List.length_singleton]; exact Nat.succ_le_succ hyl, W.frame _ _ _ (stAt h₄ N₄) fun b hb o e => hs₅.extBut b o (fun q => hDf (q ▸ hb)) e, F₄.change hs₅ hDL hD₀,
          (hoC.ns zC).sameBut hs₅ (Ne.symm hDC), hD₅.trans (congrArg some (lst_snoc ys _)), fun p hp => ?_, ?_⟩
        · have z := N₄ p (List.mem_append_right _ (.tail _ (.tail _ hp)))
          exact ⟨hs₅.extBut _ _ (offD p hp) z.1, z.2⟩
        · rw [List.range_succ, List.map_append]
          exact ints_snoc hI'
      · obtain rfl : i = n := Nat.le_antisymm hi (Nat.not_lt.mp hlt)
        refine W.done _ _ _ hst' fun h₂ tk₂ hk₂ => ?_
        have N₂ := neBut _ _ hk₂ N'
        refine hRR _ _ h₂ tk₂ _ ys hI' (frBut _ _ hk₂ F') (fun p hp => ?_) ?_ (hn'.at' fun o e => hk₂ _ o hCw e) hC₀ hD₀ hCL hDL (Ne.symm hDC) offC
        · rcases List.mem_cons.mp hp with rfl | hp
          · exact ⟨hk₂ _ _ hDw hD', hDL, hD₀⟩
          · exact N₂ p hp
        · exact off1_of offD
  exact codeAny_compStart_list (loop _ rfl) (W.self 0 _ _ _ hst₁ (loop _ rfl))

theorem comp_I {target elt iter : PySem.Expr} {scope : Scope} {cl : List (Str × Addr)} {pos : Pos} {Pt : Nat → Array Value → Prop} {Bd : Array Value → (Str → Option Value) → Prop} {n : Nat} {Q : Value → Shared → Prop} (_F₀ : Fr h₀ L s.heap m) (f : Nat → Int)
    (htg : ∃ elts k p, target = .Tuple elts k p) (hsz : n ≤ sizeLine)
    (hclos : closureFor scope env = pure cl) (hcell : ∀ y ∈ scope.names, y.2 ≠ .cell) (hkind : scope.kind = .function)
    (hnames : ∀ y ∈ scope.names, y.2 = .local → scope.names.lookup y.1 = some .local)
    (hasg : Binds prog w A target scope cl env Pt Bd)
    (h : wpAny (model prog w) A (eval iter env) (fun xv s₁ => ∃ news, News h₀ L s₁.heap news ∧ Fr h₀ L s₁.heap m ∧ wpAny (model prog w) A (pyIter xv) (fun it s₂ => ∃ I fp wr St Mid, it = .ref I ∧ WalksU prog w A I fp wr n Pt St Mid ∧ (∀ b ∈ fp, h₀.get? b = none) ∧
        St 0 s₂.heap ∧ (∀ b ∈ fp, b < s₂.heap.objs.size) ∧ Fr h₀ L s₂.heap m ∧ News h₀ L s₂.heap news ∧ L ∉ fp ∧ (∀ p ∈ news, p.1 ∉ wr) ∧
        (∀ i vals C oC D ys m₂ h tk all (E' : Value → Shared → Prop), i < n → Pt i vals → NsObj oC m₂ → Bd vals m₂ → Fr h₀ L h m → News h₀ L h all → (C, oC) ∈ all → (D, lst ys) ∈ all → (∀ p ∈ news, p ∈ all) →
          wpAny (model prog w) A (eval elt (compEnvC scope cl C env)) (ElI h₀ L m all { s₂ with heap := h, toks := tk } (f i)) E' { s₂ with heap := h, toks := tk }) ∧
        (∀ D h tk ys, IntsAre ys ((List.range n).map f) → Fr h₀ L h m → News h₀ L h ((D, lst ys) :: news) → Off1 D news → Q (.ref D) { s₂ with heap := h, toks := tk })) E s₁) E s)
    (hs : ∀ x, foldedSetIterable iter env x = pure x := by intro _; rfl) :
    wpAny (model prog w) A (eval (.ListComp elt [⟨target, iter, [], 0⟩] scope pos) env) Q E s := by
  rw [eval_ListComp]
  refine wpAny_comprehension_free (use := none) rfl hs hclos hkind hnames (wpAny_mono h (fun xv s₁ h₁ => ?_) fun _ _ e => e)
  obtain ⟨news, _, _, h₂⟩ := h₁
  refine wpAny_mono h₂ (fun it s₂ h₃ => ?_) fun _ _ e => e
  obtain ⟨I, fp, wr, St, Mid, rfl, W, hfp0, hst, hfp, F, N, hLf, off, turn, fin⟩ := h₃
  refine block_I f htg W hsz hfp0 hasg hcell hkind hst hfp F N hLf off turn ?_
  intro D C h tk m' ys hI F' N' o1 hn hC₀ hD₀ hCL hDL hCD offC
  refine ⟨m', hn, fun h'' hs'' => fin D h'' tk ys hI (F'.change hs'' hCL hC₀) (fun p hp => ?_) o1⟩
  refine ⟨hs''.extBut _ _ ?_ (N' p hp).1, (N' p hp).2⟩
  rcases List.mem_cons.mp hp with rfl | hp
  · exact Ne.symm hCD
  · exact offC p hp

theorem block_IT {target elt iter : PySem.Expr} {ct : PySem.Expr} {scope : Scope} {cl : List (Str × Addr)} {pos : Pos} {s₂ : Shared} {I : Addr} {fp wr : List Addr} {n : Nat} {Pt : Nat → Array Value → Prop} {St : Nat → Heap → Prop} {Mid : Nat → Addr → Heap → Prop} {Bd : Array Value → (Str → Option Value) → Prop} {news : Led}
    {RR : Value → Addr → Result → Shared → Prop} (f : Nat → Option Int)
    (htg : ∃ elts k p, target = .Tuple elts k p)
    (W : WalksU prog w A I fp wr n Pt St Mid) (hsz : n ≤ sizeLine) (hfp0 : ∀ b ∈ fp, h₀.get? b = none)
    (hasg : Binds prog w A target scope cl env Pt Bd)
    (hcell : ∀ y ∈ scope.names, y.2 ≠ .cell) (hkind : scope.kind = .function) (hst : St 0 s₂.heap) (hfp : ∀ b ∈ fp, b < s₂.heap.objs.size)
    (F : Fr h₀ L s₂.heap m) (N : News h₀ L s₂.heap news) (hLf : L ∉ fp) (off : ∀ p ∈ news, p.1 ∉ wr)
    (turn : ∀ i vals C oC D ys m₂ h tk all (E' : Value → Shared → Prop), i < n → Pt i vals → NsObj oC m₂ → Bd vals m₂ → Fr h₀ L h m → News h₀ L h all → (C, oC) ∈ all → (D, lst ys) ∈ all → (∀ p ∈ news, p ∈ all) →
      wpAny (model prog w) A (isTrue ct (compEnvC scope cl C env) (eval ct (compEnvC scope cl C env))) (fun ok s' => if ok = true then wpAny (model prog w) A (eval elt (compEnvC scope cl C env)) (ElT h₀ L m all { s₂ with heap := h, toks := tk } (f i)) E' s'
          else ElF h₀ L m all { s₂ with heap := h, toks := tk } (f i) s') E' { s₂ with heap := h, toks := tk })
    (hRR : ∀ D C h tk m' ys, IntsAre ys ((List.range n).filterMap f) → Fr h₀ L h m → News h₀ L h ((D, lst ys) :: news) → Off1 D news → h.Ns C m' → h₀.get? C = none → h₀.get? D = none → C ≠ L → D ≠ L → C ≠ D → (∀ p ∈ news, p.1 ≠ C) → RR (.ref D) C (.ok .next) { s₂ with heap := h, toks := tk }) :
    wpAny (model prog w) A (newList []) (fun acc s₃ => wpAny (model prog w) A (newFunctionEnv scope env.globals cl [] env.qual none .none (some env)) (fun cenv s₄ =>
      codeAny (model prog w) A (.compStart (.ListComp elt [⟨target, iter, [ct], 0⟩] scope pos) 0 (.ref I) acc { cenv with scope := relabel scope env }) (RR acc cenv.locals) s₄) E s₃) E s₂ := by
  obtain ⟨elts, kk, tp, rfl⟩ := htg
  refine wpAny_newObj_type (wpAny_newFunctionEnv hcell (by intro y hy; simp at hy) (fun h₁ hns₁ hsb₁ => ?_) hkind)
  dsimp only at hns₁ hsb₁ ⊢
  generalize hH2 : s₂.heap.push { cls := .type "list", dict := none, data := .seq ([] : List Value).toArray } = H2 at hns₁ hsb₁ ⊢
  have hC : H2.objs.size = s₂.heap.objs.size + 1 := by rw [← hH2, Heap.size_push]
  have hDC : s₂.heap.objs.size ≠ H2.objs.size := by rw [hC]; exact Nat.ne_of_lt (Nat.lt_succ_self _)
  have below : ∀ b, b < s₂.heap.objs.size → b ≠ H2.objs.size ∧ b ≠ s₂.heap.objs.size := fun b hb => ⟨by rw [hC]; exact Nat.ne_of_lt (Nat.lt_succ_of_lt hb), Nat.ne_of_lt hb⟩
  have hDf : s₂.heap.objs.size ∉ fp := fun hm => Nat.lt_irrefl _ (hfp _ hm)
  have hCf : H2.objs.size ∉ fp := fun hm => by have := hfp _ hm; rw [hC] at this; exact Nat.lt_irrefl _ (Nat.lt_of_succ_lt this)
  have old : ∀ b o, s₂.heap.get? b = some o → h₁.get? b = some o := fun b o e => hsb₁.extBut b o (below b (Heap.lt_size e)).1 (Heap.get?_push_of_some _ (hH2 ▸ Heap.get?_push_of_some _ e))
  have hacc : h₁.get? s₂.heap.objs.size = some (lst []) := hsb₁.extBut _ _ hDC (Heap.get?_push_of_some _ (hH2 ▸ Heap.get?_push_size _ rfl))
  have hst₁ : St 0 h₁ := W.frame _ _ _ hst fun b _ o e => old b o e
  have fresh : ∀ a, s₂.heap.objs.size ≤ a → s₂.heap.get? a = none := fun a ha => by
    cases e : s₂.heap.get? a with
    | none => rfl
    | some o' => exact absurd (Heap.lt_size e) (Nat.not_lt.mpr ha)
  have fresh₀ : ∀ a, s₂.heap.objs.size ≤ a → h₀.get? a = none := fun a ha => by
    cases e : h₀.get? a with
    | none => rfl
    | some o' => have := F.keep a o' e; rw [fresh a ha] at this; cases this
  have hD₀ : h₀.get? s₂.heap.objs.size = none := fresh₀ _ (Nat.le_refl _)
  have hC₀ : h₀.get? H2.objs.size = none := fresh₀ _ (by rw [hC]; exact Nat.le_succ _)
  have hLlt : L < s₂.heap.objs.size := F.ns.lt
  have hDL : s₂.heap.objs.size ≠ L := Ne.symm (below L hLlt).2
  have hCL : H2.objs.size ≠ L := Ne.symm (below L hLlt).1
  have offC : ∀ p ∈ news, p.1 ≠ H2.objs.size := fun p hp => (below _ (Heap.lt_size (N p hp).1)).1
  have offD : ∀ p ∈ news, p.1 ≠ s₂.heap.objs.size := fun p hp => (below _ (Heap.lt_size (N p hp).1)).2
  have hwr0 : ∀ b ∈ wr, h₀.get? b = none := fun b hb => hfp0 b (W.sub b hb)
  have hLw : L ∉ wr := fun h => hLf (W.sub _ h)
  have frBut : ∀ (ha hb : Heap), (∀ b o, b ∉ wr → ha.get? b = some o → hb.get? b = some o) → Fr h₀ L ha m → Fr h₀ L hb m := fun ha hb hk F' =>
    ⟨F'.ns.at' fun o e => hk L o hLw e, fun b o e => hk b o (fun hm => by rw [hwr0 b hm] at e; cases e) (F'.keep b o e), F'.above⟩
  have neBut : ∀ (ha hb : Heap), (∀ b o, b ∉ wr → ha.get? b = some o → hb.get? b = some o) → News h₀ L ha news → News h₀ L hb news := fun ha hb hk N' p hp => ⟨hk _ _ (off p hp) (N' p hp).1, (N' p hp).2⟩
  have hCw : H2.objs.size ∉ wr := fun h => hCf (W.sub _ h)
  have hDw : s₂.heap.objs.size ∉ wr := fun h => hDf (W.sub _ h)
  have loop : ∀ s₃ : Shared, s₃ = { s₂ with heap := h₁, toks := s₂.toks + ([] : List (Str × Value)).length } →
      codeAny (model prog w) A (.compLoop (.ListComp elt [⟨.Tuple elts kk tp, iter, [ct], 0⟩] scope pos) 0 (.ref I) (.ref s₂.heap.objs.size) (compEnvC scope cl H2.objs.size env))
        (RR (.ref s₂.heap.objs.size) H2.objs.size) s₃ := by
    rintro s₃ rfl
    refine kct_loop
      (fun k s' => ∃ h' tk i ys m', s' = { s₂ with heap := h', toks := tk } ∧ i ≤ n ∧ k = n + 1 - i ∧ ys.length ≤ i ∧ St i h' ∧ Fr h₀ L h' m ∧ h'.Ns H2.objs.size m' ∧ h'.get? s₂.heap.objs.size = some (lst ys) ∧ News h₀ L h' news ∧ IntsAre ys ((List.range i).filterMap f)) ?_ (n + 1)
      ⟨h₁, _, 0, [], _, rfl, Nat.zero_le _, rfl, Nat.le_refl _, hst₁, F.keeps old, hns₁, hacc, fun p hp => ⟨old _ _ (N p hp).1, (N p hp).2⟩, .nil⟩
    · rintro k s' ⟨h', tk, i, ys, m', rfl, hi, rfl, hyl, hst', F', hn', hD', N', hI'⟩
      by_cases hlt : i < n
      · refine W.item i _ _ _ hlt hst' fun T vals h₂ tk₂ hPv hTv hMid hk₂ => ?_
        refine W.go elts kk tp i T _ _ _ hMid fun h₂' hst₂ hk₂' => ?_
        have hT₂ : h₂'.IsTuple T vals := hTv.at fun o e => hk₂' T o (W.apart _ _ _ hMid) e
        have hkk : ∀ b o, b ∉ wr → h'.get? b = some o → h₂'.get? b = some o := fun b o hb e => hk₂' b o hb (hk₂ b o hb e)
        refine hasg H2.objs.size _ T vals m' _ _ hT₂ ⟨i, hPv⟩ (hn'.at' fun o e => hkk _ o hCw e) fun h₃ tk₃ m₃ hn₃ hBd hk₃ => ?_
        have hst₃ : St (i + 1) h₃ := W.frame _ _ _ hst₂ fun b hb o e => hk₃ b o (fun q => hCf (by rw [← q]; exact hb)) e
        obtain ⟨oC, heC, hoC⟩ := ns_obj hn₃
        have F₂ : Fr h₀ L h₂' m := frBut _ _ hkk F'
        have F₃ : Fr h₀ L h₃ m := ⟨F₂.ns.at' fun o e => hk₃ L o (Ne.symm hCL) e, fun b o e => hk₃ b o (fun q => by rw [q, hC₀] at e; cases e) (F₂.keep b o e), F₂.above⟩
        have N₂ : News h₀ L h₂' news := neBut _ _ hkk N'
        have Nall : News h₀ L h₃ ((fp.filterMap fun b => (h₃.get? b).map fun o => (b, o)) ++ (H2.objs.size, oC) :: (s₂.heap.objs.size, lst ys) :: news) := fun p hp => by
          rcases List.mem_append.mp hp with hp | hp
          · obtain ⟨b, hb, hq⟩ := List.mem_filterMap.mp hp
            cases e : h₃.get? b with
            | none => rw [e] at hq; cases hq
            | some o =>
              rw [e] at hq
              cases hq
              exact ⟨e, fun q => hLf (by rw [← q]; exact hb), hfp0 b hb⟩
          · rcases List.mem_cons.mp hp with rfl | hp
            · exact ⟨heC, hCL, hC₀⟩
            rcases List.mem_cons.mp hp with rfl | hp
            · exact ⟨hk₃ _ _ hDC (hkk _ _ hDw hD'), hDL, hD₀⟩
            · exact ⟨hk₃ _ _ (offC p hp) (N₂ p hp).1, (N₂ p hp).2⟩
        have stAt : ∀ h₄ : Heap, News h₀ L h₄ ((fp.filterMap fun b => (h₃.get? b).map fun o => (b, o)) ++ (H2.objs.size, oC) :: (s₂.heap.objs.size, lst ys) :: news) → St (i + 1) h₄ := fun h₄ N₄ =>
          W.frame _ _ _ hst₃ fun b hb o e => (N₄ (b, o) (List.mem_append_left _ (List.mem_filterMap.mpr ⟨b, hb, by rw [e]; rfl⟩))).1
        refine wpAny_mono (turn i vals H2.objs.size oC s₂.heap.objs.size ys _ h₃ _ _ _ hlt hPv hoC hBd F₃ Nall (List.mem_append_right _ (.head _)) (List.mem_append_right _ (.tail _ (.head _))) (fun p hp => List.mem_append_right _ (.tail _ (.tail _ hp)))) (fun ok s₄ h₄ => ?_) fun _ _ e => e
        cases ok with
        | true =>
          simp only [if_true] at h₄ ⊢
          refine wpAny_mono h₄ (fun y s₅ h₅ => ?_) fun _ _ e => e
          obtain ⟨⟨v, tv, hfv, rfl⟩, h₄, tk₄, rfl, F₄, N₄⟩ := h₅
          have zC := (N₄ (H2.objs.size, oC) (List.mem_append_right _ (.head _))).1
          have zD := (N₄ (s₂.heap.objs.size, lst ys) (List.mem_append_right _ (.tail _ (.head _)))).1
          refine append_at (hsz := by show ys.toArray.size ≤ sizeLine; rw [List.size_toArray]; exact Nat.le_trans (Nat.le_trans hyl hi) hsz) zD fun h₅ hs₅ hD₅ => ?_
          refine ⟨n + 1 - (i + 1), by omega, h₅, tk₄, i + 1, ys ++ [_], _, rfl, hlt, rfl, by rw [List.length_append, List.length_singleton]; exact Nat.succ_le_succ hyl, W.frame _ _ _ (stAt h₄ N₄) fun b hb o e => hs₅.extBut b o (fun q => hDf (q ▸ hb)) e, F₄.change hs₅ hDL hD₀,
            (hoC.ns zC).sameBut hs₅ (Ne.symm hDC), hD₅.trans (congrArg some (lst_snoc ys _)), fun p hp => ?_, ?_⟩
          · have z := N₄ p (List.mem_append_right _ (.tail _ (.tail _ hp)))
            exact ⟨hs₅.extBut _ _ (offD p hp) z.1, z.2⟩
          · rw [fm_some hfv]
            exact ints_snoc hI'
        | false =>
          simp only [Bool.false_eq_true, if_false] at h₄ ⊢
          obtain ⟨hfv, h₄, tk₄, rfl, F₄, N₄⟩ := h₄
          have zC := (N₄ (H2.objs.size, oC) (List.mem_append_right _ (.head _))).1
          have zD := (N₄ (s₂.heap.objs.size, lst ys) (List.mem_append_right _ (.tail _ (.head _)))).1
          refine ⟨n + 1 - (i + 1), by omega, h₄, tk₄, i + 1, ys, _, rfl, hlt, rfl, Nat.le_succ_of_le hyl, stAt h₄ N₄, F₄, hoC.ns zC, zD, fun p hp => N₄ p (List.mem_append_right _ (.tail _ (.tail _ hp))), ?_⟩
          rw [fm_none hfv]
          exact hI'
      · obtain rfl : i = n := Nat.le_antisymm hi (Nat.not_lt.mp hlt)
        refine W.done _ _ _ hst' fun h₂ tk₂ hk₂ => ?_
        have N₂ := neBut _ _ hk₂ N'
        refine hRR _ _ h₂ tk₂ _ ys hI' (frBut _ _ hk₂ F') (fun p hp => ?_) ?_ (hn'.at' fun o e => hk₂ _ o hCw e) hC₀ hD₀ hCL hDL (Ne.symm hDC) offC
        · rcases List.mem_cons.mp hp with rfl | hp
          · exact ⟨hk₂ _ _ hDw hD', hDL, hD₀⟩
          · exact N₂ p hp
        · exact off1_of offD
  exact codeAny_compStart_list (loop _ rfl) (W.self 0 _ _ _ hst₁ (loop _ rfl))

theorem comp_IT {target elt iter : PySem.Expr} {ct : PySem.Expr} {scope : Scope} {cl : List (Str × Addr)} {pos : Pos} {Pt : Nat → Array Value → Prop} {Bd : Array Value → (Str → Option Value) → Prop} {n : Nat} {Q : Value → Shared → Prop} (_F₀ : Fr h₀ L s.heap m) (f : Nat → Option Int)
    (htg : ∃ elts k p, target = .Tuple elts k p) (hsz : n ≤ sizeLine)
    (hclos : closureFor scope env = pure cl) (hcell : ∀ y ∈ scope.names, y.2 ≠ .cell) (hkind : scope.kind = .function)
    (hnames : ∀ y ∈ scope.names, y.2 = .local → scope.names.lookup y.1 = some .local)
    (hasg : Binds prog w A target scope cl env Pt Bd)
    (h : wpAny (model prog w) A (eval iter env) (fun xv s₁ => ∃ news, News h₀ L s₁.heap news ∧ Fr h₀ L s₁.heap m ∧ wpAny (model prog w) A (pyIter xv) (fun it s₂ => ∃ I fp wr St Mid, it = .ref I ∧ WalksU prog w A I fp wr n Pt St Mid ∧ (∀ b ∈ fp, h₀.get? b = none) ∧
        St 0 s₂.heap ∧ (∀ b ∈ fp, b < s₂.heap.objs.size) ∧ Fr h₀ L s₂.heap m ∧ News h₀ L s₂.heap news ∧ L ∉ fp ∧ (∀ p ∈ news, p.1 ∉ wr) ∧
        (∀ i vals C oC D ys m₂ h tk all (E' : Value → Shared → Prop), i < n → Pt i vals → NsObj oC m₂ → Bd vals m₂ → Fr h₀ L h m → News h₀ L h all → (C, oC) ∈ all → (D, lst ys) ∈ all → (∀ p ∈ news, p ∈ all) →
          wpAny (model prog w) A (isTrue ct (compEnvC scope cl C env) (eval ct (compEnvC scope cl C env))) (fun ok s' => if ok = true then wpAny (model prog w) A (eval elt (compEnvC scope cl C env)) (ElT h₀ L m all { s₂ with heap := h, toks := tk } (f i)) E' s'
          else ElF h₀ L m all { s₂ with heap := h, toks := tk } (f i) s') E' { s₂ with heap := h, toks := tk }) ∧
        (∀ D h tk ys, IntsAre ys ((List.range n).filterMap f) → Fr h₀ L h m → News h₀ L h ((D, lst ys) :: news) → Off1 D news → Q (.ref D) { s₂ with heap := h, toks := tk })) E s₁) E s)
    (hs : ∀ x, foldedSetIterable iter env x = pure x := by intro _; rfl) :
    wpAny (model prog w) A (eval (.ListComp elt [⟨target, iter, [ct], 0⟩] scope pos) env) Q E s := by
  rw [eval_ListComp]
  refine wpAny_comprehension_free (use := none) rfl hs hclos hkind hnames (wpAny_mono h (fun xv s₁ h₁ => ?_) fun _ _ e => e)
  obtain ⟨news, _, _, h₂⟩ := h₁
  refine wpAny_mono h₂ (fun it s₂ h₃ => ?_) fun _ _ e => e
  obtain ⟨I, fp, wr, St, Mid, rfl, W, hfp0, hst, hfp, F, N, hLf, off, turn, fin⟩ := h₃
  refine block_IT f htg W hsz hfp0 hasg hcell hkind hst hfp F N hLf off turn ?_
  intro D C h tk m' ys hI F' N' o1 hn hC₀ hD₀ hCL hDL hCD offC
  refine ⟨m', hn, fun h'' hs'' => fin D h'' tk ys hI (F'.change hs'' hCL hC₀) (fun p hp => ?_) o1⟩
  refine ⟨hs''.extBut _ _ ?_ (N' p hp).1, (N' p hp).2⟩
  rcases List.mem_cons.mp hp with rfl | hp
  · exact Ne.symm hCD
  · exact offC p hp

theorem binds2 {a b : Str} {pa pb tp : Pos} {kk : Nat} {scope : Scope} {cl : List (Str × Addr)} {Pt : Nat → Array Value → Prop} (hh : A.handled = none) (hkind : scope.kind = .function) (ha : scope.names.lookup a = some .local) (hb : scope.names.lookup b = some .local) (hab : a ≠ b)
    (hP : ∀ i vals, Pt i vals → ∃ x y, vals = #[x, y]) : Binds prog w A (.Tuple [.Name a pa, .Name b pb] kk tp) scope cl env Pt (fun vals m => ∃ x y, vals = #[x, y] ∧ m a = some x ∧ m b = some y) := by
  rintro C s T vals m' Q E hT ⟨i, hi⟩ hn h
  obtain ⟨x, y, rfl⟩ := hP i vals hi
  exact kcp_assign (env := compEnvC scope cl C env) hh hT (lookup_relabel_local ha) (lookup_relabel_local hb) (by simp [compEnvC, relabel, hkind]) hn fun h' tk hn' hk => h h' tk _ hn' ⟨x, y, rfl, by simp [hab], by simp⟩ hk
theorem binds3 {a b c : Str} {pa pb pc tp : Pos} {kk : Nat} {scope : Scope} {cl : List (Str × Addr)} {Pt : Nat → Array Value → Prop} (hh : A.handled = none) (hkind : scope.kind = .function) (ha : scope.names.lookup a = some .local) (hb : scope.names.lookup b = some .local) (hc : scope.names.lookup c = some .local)
    (hab : a ≠ b) (hac : a ≠ c) (hbc : b ≠ c)
    (hP : ∀ i vals, Pt i vals → ∃ x y z, vals = #[x, y, z]) : Binds prog w A (.Tuple [.Name a pa, .Name b pb, .Name c pc] kk tp) scope cl env Pt (fun vals m => ∃ x y z, vals = #[x, y, z] ∧ m a = some x ∧ m b = some y ∧ m c = some z) := by
  rintro C s T vals m' Q E hT ⟨i, hi⟩ hn h
  obtain ⟨x, y, z, rfl⟩ := hP i vals hi
  have hp : ((compEnvC scope cl C env).scope.kind == .class || ((compEnvC scope cl C env).scope.kind == .module && (compEnvC scope cl C env).locals != (compEnvC scope cl C env).globals)) = false := by simp [compEnvC, relabel, hkind]
  refine wpAny_assign_Tuple hh hT rfl rfl fun h₁ he₁ => ?_
  have hL : C ≠ s.heap.objs.size := Nat.ne_of_lt hn.lt
  have hn₁ : h₁.Ns C m' := hn.at' fun o e => he₁ _ o hL e
  have up₁ : ∀ c o, s.heap.get? c = some o → h₁.get? c = some o := fun c o e => he₁ c o (Nat.ne_of_lt (Heap.lt_size e)) e
  show wpAny _ _ (assignInOrder [assign (.Name a pa) _, assign (.Name b pb) _, assign (.Name c pc) _] [x, y, z]) _ _ _
  refine PyProof.Rows.assignInOrder_cons ?_
  refine wpAny_assign_Name (wpAny_storeName_local (lookup_relabel_local ha) hn₁ (fun h₂ hn₂ hs₂ => ?_) hp)
  refine PyProof.Rows.assignInOrder_cons ?_
  refine wpAny_assign_Name (wpAny_storeName_local (lookup_relabel_local hb) hn₂ (fun h₃ hn₃ hs₃ => ?_) hp)
  refine PyProof.Rows.assignInOrder_cons ?_
  refine wpAny_assign_Name (wpAny_storeName_local (lookup_relabel_local hc) hn₃ (fun h₄ hn₄ hs₄ => ?_) hp)
  refine PyProof.Rows.assignInOrder_nil ?_
  exact h h₄ _ _ hn₄ ⟨x, y, z, rfl, by simp [hab, hac], by simp [hbc], by simp⟩ fun d o hd e => hs₄.extBut d o hd (hs₃.extBut d o hd (hs₂.extBut d o hd (up₁ d o e)))
end
end Mine
end
section
open PySem PySem.W PyProof.Rows PySem.Spec
open PyProof.Rows.LCg
namespace Mine
theorem walksU_weaken {prog : Program} {w : World} {A : Around} {I : Addr} {fp wr : List Addr} {n : Nat} {Pt Pt' : Nat → Array Value → Prop} {St : Nat → Heap → Prop} {Mid : Nat → Addr → Heap → Prop}
    (W : WalksU prog w A I fp wr n Pt St Mid) (hP : ∀ i v, Pt i v → Pt' i v) : WalksU prog w A I fp wr n Pt' St Mid where
  sub := W.sub
  frame := W.frame
  item := fun i s Q E hi st hQ => W.item i s Q E hi st fun T vals h' tk hp hT hm hk => hQ T vals h' tk (hP _ _ hp) hT hm hk
  go := W.go
  apart := W.apart
  done := W.done
  self := W.self
section
variable {prog : Program} {w : World} {A : Around} {E : Value → Shared → Prop} {s : Shared} {h₀ : Heap} {L : Addr} {m : Str → Option Value} {news : Led}
/-- a zip object of two lists of the ledger, ready to be walked -/
def ZipReady (prog : Program) (w : World) (A : Around) (h₀ : Heap) (L : Addr) (m : Str → Option Value) (news : Led) (n : Nat) (Pt : Nat → Array Value → Prop) (s : Shared) (h' : Heap) (z : Addr) : Prop :=
  Fr h₀ L h' m ∧ News h₀ L h' news ∧ (∀ p ∈ news, p.1 < z) ∧ ∀ (Q2 : Value → Shared → Prop) (E2 : Value → Shared → Prop), (∀ I fp wr St Mid, WalksU prog w A I fp wr n Pt St Mid → (∀ b ∈ fp, h₀.get? b = none) → St 0 h' → (∀ b ∈ fp, b < h'.objs.size) → L ∉ fp → (∀ p ∈ news, p.1 ∉ wr) → Q2 (.ref I) { s with heap := h' }) →
    wpAny (model prog w) A (pyIter (.ref z)) Q2 E2 { s with heap := h' }
theorem zip_go {l1 l2 : Addr} {xs ys : List Value} {e1 e2 n : Nat} {Pt : Nat → Array Value → Prop} {Q : Value → Shared → Prop} (hh : A.handled = none) (F : Fr h₀ L s.heap m) (N : News h₀ L s.heap news) (m1 : (l1, listOf xs.toArray e1) ∈ news) (m2 : (l2, listOf ys.toArray e2) ∈ news)
    (hn : min xs.length ys.length = n) (hP : ∀ i x y, xs[i]? = some x → ys[i]? = some y → Pt i #[x, y])
    (k : ∀ z h', ZipReady prog w A h₀ L m news n Pt s h' z → Q (.ref z) { s with heap := h' }) :
    wpAny (model prog w) A (call (.type "zip") [.ref l1, .ref l2]) Q E s := by
  have hl1 : s.heap.IsList l1 xs.toArray := News.isList N m1
  have hl2 : s.heap.IsList l2 ys.toArray := News.isList N m2
  have a1 : l1 < s.heap.objs.size := Heap.lt_size (N _ m1).1
  have a2 : l2 < s.heap.objs.size := Heap.lt_size (N _ m2).1
  refine call_zip_2 hl1 hl2 fun h' hz hTI hTO hi1 hi2 hsz hk => k _ _ ⟨F.keeps hk, fun p hp => ⟨hk _ _ (N p hp).1, (N p hp).2⟩, fun p hp => Nat.lt_of_lt_of_le (Heap.lt_size (N p hp).1) (Nat.le_add_right _ 4), fun Q2 E2 hq => ?_⟩
  refine wpAny_pyIter_zip hz ?_
  have D := zipApart_new a1 a2
  have W := (WalksT.zip2 (prog := prog) (w := w) hh _ _ _ _ _ l1 l2 D xs.toArray ys.toArray).toU
  have fresh₀ : ∀ a, s.heap.objs.size ≤ a → h₀.get? a = none := fun a ha => by
    cases e : h₀.get? a with
    | none => rfl
    | some o' => exact absurd (Heap.lt_size (F.keep a o' e)) (Nat.not_lt.mpr ha)
  have hL := F.ns.lt
  have up : ∀ k, s.heap.objs.size ≤ s.heap.objs.size + k := fun k => Nat.le_add_right _ k
  have hn' : min xs.toArray.size ys.toArray.size = n := by simp only [List.size_toArray]; exact hn
  rw [hn'] at W
  refine hq _ _ _ _ _ (walksU_weaken W ?_) ?_ ⟨hz, hTI, ⟨_, _, hTO⟩, hi1, hi2, hl1.at fun o e => hk _ o e, hl2.at fun o e => hk _ o e⟩ ?_ ?_ ?_
  · rintro i v ⟨x, y, hx, hy, rfl⟩
    exact hP i x y (by simpa using hx) (by simpa using hy)
  · intro b hb
    simp only [List.mem_cons, List.not_mem_nil, or_false] at hb
    rcases hb with rfl | rfl | rfl | rfl | rfl | rfl | rfl
    · exact fresh₀ _ (up _)
    · exact fresh₀ _ (up _)
    · exact fresh₀ _ (up _)
    · exact fresh₀ _ (up 0)
    · exact fresh₀ _ (up _)
    · exact (N _ m1).2.2
    · exact (N _ m2).2.2
  · intro b hb
    rw [hsz]
    simp only [List.mem_cons, List.not_mem_nil, or_false] at hb
    rcases hb with rfl | rfl | rfl | rfl | rfl | rfl | rfl
    · exact Nat.add_lt_add_left (by decide) _
    · exact Nat.add_lt_add_left (by decide) _
    · exact Nat.add_lt_add_left (by decide) _
    · exact Nat.lt_add_of_pos_right (by decide)
    · exact Nat.add_lt_add_left (by decide) _
    · exact Nat.lt_of_lt_of_le a1 (up 5)
    · exact Nat.lt_of_lt_of_le a2 (up 5)
  · intro hb
    have lt : ∀ k, L ≠ s.heap.objs.size + k := fun k => Nat.ne_of_lt (Nat.lt_of_lt_of_le hL (up k))
    simp only [List.mem_cons, List.not_mem_nil, or_false] at hb
    rcases hb with e | e | e | e | e | e | e
    · exact lt _ e
    · exact lt _ e
    · exact lt _ e
    · exact lt 0 e
    · exact lt _ e
    · exact (N _ m1).2.1 e.symm
    · exact (N _ m2).2.1 e.symm
  · intro p hp hb
    have hlt := Heap.lt_size (N p hp).1
    have lt : ∀ k, p.1 ≠ s.heap.objs.size + k := fun k => Nat.ne_of_lt (Nat.lt_of_lt_of_le hlt (up k))
    simp only [List.mem_cons, List.not_mem_nil, or_false] at hb
    rcases hb with e | e | e | e
    · exact lt _ e
    · exact lt _ e
    · exact lt 0 e
    · exact lt _ e
end
theorem strs_at {vs : List Value} {xs : List Str} (h : StrsAre vs xs) {i : Nat} {v : Value} (hv : vs[i]? = some v) : ∃ y t, v = .str y t ∧ xs[i]? = some y := by
  induction h generalizing i with
  | nil => cases hv
  | cons y t _ ih =>
    cases i with
    | zero => cases hv; exact ⟨y, t, rfl, rfl⟩
    | succ i => exact ih hv
theorem mem_map_str {W : List Str} {x : Str} : Dat.str x ∈ W.map Dat.str ↔ x ∈ W := by
  rw [List.mem_map]
  constructor
  · rintro ⟨y, hy, e⟩; cases e; exact hy
  · intro h; exact ⟨x, h, rfl⟩
section
variable {prog : Program} {w : World} {A : Around} {E : Value → Shared → Prop} {s : Shared} {h₀ : Heap} {L : Addr} {m : Str → Option Value} {news : Led}
theorem str_in {a : Addr} {ws : List Value} {ep : Nat} {W : List Str} {x : Str} {t : Tok} {Q : Value → Shared → Prop} (r : Bool) (N : News h₀ L s.heap news) (hm : (a, listOf ws.toArray ep) ∈ news) (hW : StrsAre ws W) (hWo : ∀ x ∈ W, PyData.strOk x = true) (hx : PyData.strOk x = true)
    (hu : A.units + 64 < cLine) (hr : r = true ↔ x ∈ W) (h : Q (.bool r) s) : wpAny (model prog w) A (compareOp .In (.str x t) (.ref a)) Q E s := by
  refine kqd_isIn (d := .str x) N hm rfl rfl (dat_of_strs (news := news) hW) (fun _ hp => hp) (DatIn.str (news := news) x t) (fun _ hp => hp) ?_ (by simpa [kqdOk] using hx) hu ?_
  · intro d hd
    obtain ⟨y, hy, rfl⟩ := List.mem_map.mp hd
    simpa [kqdOk] using hWo y hy
  · have key : ∀ inst : Decidable (Dat.str x ∈ W.map Dat.str), @decide _ inst = r := by
      intro inst
      cases r with
      | true => exact @decide_eq_true _ inst (mem_map_str.mpr (hr.mp rfl))
      | false => exact @decide_eq_false _ inst (fun hh => Bool.false_ne_true (hr.mpr (mem_map_str.mp hh)))
    rw [key]
    exact h
theorem str_notIn {a : Addr} {ws : List Value} {ep : Nat} {W : List Str} {x : Str} {t : Tok} {Q : Value → Shared → Prop} (r : Bool) (N : News h₀ L s.heap news) (hm : (a, listOf ws.toArray ep) ∈ news) (hW : StrsAre ws W) (hWo : ∀ x ∈ W, PyData.strOk x = true) (hx : PyData.strOk x = true)
    (hu : A.units + 64 < cLine) (hr : r = true ↔ x ∈ W) (h : Q (.bool (!r)) s) : wpAny (model prog w) A (compareOp .NotIn (.str x t) (.ref a)) Q E s := by
  refine kqd_notIn (d := .str x) N hm rfl rfl (dat_of_strs (news := news) hW) (fun _ hp => hp) (DatIn.str (news := news) x t) (fun _ hp => hp) ?_ (by simpa [kqdOk] using hx) hu ?_
  · intro d hd
    obtain ⟨y, hy, rfl⟩ := List.mem_map.mp hd
    simpa [kqdOk] using hWo y hy
  · have key : ∀ inst : Decidable (Dat.str x ∈ W.map Dat.str), @decide _ inst = r := by
      intro inst
      cases r with
      | true => exact @decide_eq_true _ inst (mem_map_str.mpr (hr.mp rfl))
      | false => exact @decide_eq_false _ inst (fun hh => Bool.false_ne_true (hr.mpr (mem_map_str.mp hh)))
    rw [key]
    exact h
end
def lowV : List Str := [Str.ofString "OPTIMIZED", Str.ofString "NEWLOCALS", Str.ofString "VARARGS", Str.ofString "VARKEYWORDS", Str.ofString "NESTED", Str.ofString "GENERATOR", Str.ofString "NOFREE", Str.ofString "COROUTINE", Str.ofString "ITERABLE_COROUTINE", Str.ofString "ASYNC_GENERATOR"]
/-- the name of the flag of number j -/
def nmV (j : Nat) : Str := if j < 10 then lowV.getD j Str.empty else (Str.ofString "0x" ++ Txt.item (Str.ofString "1248") ((j : Int).fmod 4)) ++ Txt.mul (Str.ofString "0") ((j : Int).fdiv 4)
def namesV (b : Nat) : List Str := (List.range 4).map fun i => nmV (b + i)
end Mine
end
section
open PySem PySem.W PyProof.Rows
set_option maxRecDepth 100000
set_option maxHeartbeats 8000000
namespace Mine
section
variable {prog : Program} {w : World} {A : Around} {E : Value → Shared → Prop} {s : Shared} {env : Env} {h₀ : Heap} {x : Str} {px : Pos} {body orelse : List Stmt} {Q : Flow → Shared → Prop}
/-- what is left of a loop once its iterator is made -/
def ElseAt (prog : Program) (w : World) (A : Around) (env : Env) (x : Str) (px : Pos) (body orelse : List Stmt) (Q : Flow → Shared → Prop) (E : Value → Shared → Prop) (it : Value) (s₂ : Shared) : Prop :=
  codeAny (model prog w) A (.forLoop (.Name x px) it body orelse env) (fun r s' => match r with | .ok f => Q f s' | .error e => cameBackBy (model prog w) A env E e s') s₂
theorem For_else {iter : Expr} {pos : Pos}
    (h : wpAny (model prog w) A (eval iter env) (fun xv s₁ => wpAny (model prog w) A (pyIter xv) (fun it s₂ => ElseAt prog w A env x px body orelse Q E it s₂) E s₁) E s)
    (hs : ∀ x, foldedSetIterable iter env x = pure x := by intro _; rfl) :
    wpAny (model prog w) A (exec (.For (.Name x px) iter body orelse pos) env) Q E s :=
  wpAny_For (wpAny_mono h (fun _ _ h₁ => wpAny_mono h₁ (fun _ _ h₂ => h₂) fun _ _ e => e) fun _ _ e => e) hs
theorem loop_else_range {σ : Type} {base : List (Addr × Obj)} {r : Addr} {a₀ b₀ : Int} {t₀ u₀ v₀ : Tok} {n : Nat} {m₀ : Str → Option Value}
    (Ld : List (Addr × Obj) → σ → List (Addr × Obj)) (ps : σ → List (Str × Value)) (Inv : List (Addr × Obj) → Nat → σ → Prop) (stored : List Str) (c₀ : σ)
    (hh : A.handled = none) (hr : IsRange s.heap r a₀ b₀ 1 t₀ u₀ v₀) (hsmall : Builtin.Range.small a₀ b₀ 1 = true) (hn : Builtin.Range.rangeSize a₀ b₀ 1 = (n : Int))
    (hx : env.kindOf x = some .local) (hp : (env.scope.kind == .class || (env.scope.kind == .module && env.locals != env.globals)) = false)
    (hE : PassesOwn (model prog w) A env E)
    (F : Fr h₀ env.locals s.heap m₀) (N : News h₀ env.locals s.heap (Ld base c₀)) (h0 : Inv base 0 c₀) (hk : ∀ p ∈ ps c₀, m₀ p.1 = some p.2)
    (turn : Hold (∀ i t c (u : Str → Option Value) I oI h tk, i < n → Inv base i c → AllNe I (Ld base c) →
      Fr h₀ env.locals h (fun y => if y = x then some (.int (a₀ + (i : Int)) t) else kstB (fun z => if stored.contains z then u z else m₀ z) (ps c) y) → News h₀ env.locals h ((I, oI) :: Ld base c) →
      wpAny (model prog w) A (execs body env) (TurnPost (Ld base) ps (Inv base) x stored m₀ h₀ env.locals I oI i { s with heap := h, toks := tk } Q) E { s with heap := h, toks := tk }))
    (done : Hold (∀ c (u : Str → Option Value) h tk, Inv base n c → Fr h₀ env.locals h (fun y => if y = x then u y else kstB (fun z => if stored.contains z then u z else m₀ z) (ps c) y) → News h₀ env.locals h (Ld base c) →
      wpAny (model prog w) A (execs orelse env) Q E { s with heap := h, toks := tk })) :
    wpAny (model prog w) A (pyIter (.ref r)) (fun it s₂ => ElseAt prog w A env x px body orelse Q E it s₂) E s := by
  have hne : env.locals ≠ s.heap.objs.size := Nat.ne_of_lt F.ns.lt
  refine wpAny_pyIter_range hr hsmall ?_
  generalize hI : s.heap.objs.size = I at hne ⊢
  have hnI : h₀.get? I = none := hI ▸ next_is_new F
  have W := Walks.range (prog := prog) (w := w) hh I a₀ 1 n
  have hlive : ∀ j h, IsRangeIter h I (a₀ + ((j : Nat) : Int) * 1) ((n : Int) - (j : Nat)) 1 → ∃ o, h.get? I = some o := fun j h e => ⟨_, e⟩
  generalize hSt : (fun (j : Nat) (h : Heap) => IsRangeIter h I (a₀ + (j : Int) * 1) ((n : Int) - (j : Int)) 1) = St at W
  have hlive' : ∀ j h, St j h → ∃ o, h.get? I = some o := by rw [← hSt]; exact hlive
  have hst : St 0 (s.heap.push { cls := .type "range_iterator", data := .fields #[rawInt a₀, rawInt (Builtin.Range.rangeSize a₀ b₀ 1), rawInt 1] }) := by
    rw [← hSt, hn]
    show IsRangeIter _ _ _ _ _
    have e := Heap.get?_push_size s.heap (o := { cls := .type "range_iterator", data := .fields #[rawInt a₀, rawInt (n : Int), rawInt 1] }) rfl
    rw [hI] at e
    simpa using e
  have old : ∀ b o, h₀.get? b = some o → b ∉ [I] := fun b o e hb => by rw [List.mem_singleton.mp hb, hnI] at e; cases e
  have hLI : env.locals ∉ [I] := fun e => hne (List.mem_singleton.mp e)
  refine codeAny_forLoop (fun k s' => ∃ (i : Nat) (c : σ) (m' : Str → Option Value) (h' : Heap) (tk : Nat), s' = { s with heap := h', toks := tk } ∧ St i h' ∧ Fr h₀ env.locals h' m' ∧ News h₀ env.locals h' (Ld base c) ∧ (∀ q ∈ Ld base c, q.1 ≠ I) ∧ Inv base i c ∧
      (∀ p ∈ ps c, m' p.1 = some p.2) ∧ (∀ z, z ≠ x → (∀ p ∈ ps c, z ≠ p.1) → stored.contains z = false → m' z = m₀ z) ∧ i ≤ n ∧ k = n - i) ?_ n ?_
  · rintro k s' ⟨i, c, m', h', tk, rfl, st, F', N', off, hi, k1, k2, hin, rfl⟩
    have onto : ∀ h₁ : Heap, (∀ b o, b ∉ [I] → h'.get? b = some o → h₁.get? b = some o) → Fr h₀ env.locals h₁ m' ∧ News h₀ env.locals h₁ (Ld base c) := fun h₁ hk₁ =>
      ⟨⟨F'.ns.at' fun o e => hk₁ _ o hLI e, fun b o e => hk₁ b o (old b o e) (F'.keep b o e), F'.above⟩, fun p hp => ⟨hk₁ _ _ (fun e => off p hp (List.mem_singleton.mp e)) (N' p hp).1, (N' p hp).2⟩⟩
    by_cases hlt : i < n
    · refine W.item i _ _ _ hlt st fun v h₁ tk₁ hP st₁ hk₁ => ?_
      obtain ⟨t, rfl⟩ := hP
      rw [Int.mul_one]
      obtain ⟨F₁, N₁⟩ := onto h₁ hk₁
      refine wpAny_assign_Name (wpAny_storeName_local hx F₁.ns (fun h₂ hn₂ hs₂ => ?_) hp)
      have F₂ := F₁.set hn₂ hs₂
      have N₂ : News h₀ env.locals h₂ (Ld base c) := N₁.set hs₂
      have st₂ : St (i + 1) h₂ := W.frame _ _ _ st₁ fun b hb o e => (hs₂.2 b fun q => hLI (q ▸ hb)).trans e
      obtain ⟨oI, hoI⟩ := hlive' _ _ st₂
      have NI : News h₀ env.locals h₂ ((I, oI) :: Ld base c) := fun p hp => by
        rcases List.mem_cons.mp hp with rfl | hp
        · exact ⟨hoI, fun e => hne e.symm, hnI⟩
        · exact N₂ p hp
      have fin : ∀ s₃, TurnEnd (Ld base) ps (Inv base) x stored m₀ h₀ env.locals I oI i { s with heap := h₂, toks := tk₁ + 1 } s₃ →
          ∃ k', k' < n - i ∧ ∃ (i : Nat) (c : σ) (m' : Str → Option Value) (h' : Heap) (tk : Nat), s₃ = { s with heap := h', toks := tk } ∧ St i h' ∧ Fr h₀ env.locals h' m' ∧ News h₀ env.locals h' (Ld base c) ∧ (∀ q ∈ Ld base c, q.1 ≠ I) ∧ Inv base i c ∧
            (∀ p ∈ ps c, m' p.1 = some p.2) ∧ (∀ z, z ≠ x → (∀ p ∈ ps c, z ≠ p.1) → stored.contains z = false → m' z = m₀ z) ∧ i ≤ n ∧ k' = n - i := by
        rintro s₃ ⟨c', h₃, tk₃, m₃, e, F₃, N₃, ho, hi₃, q1, q2⟩
        refine ⟨n - (i + 1), by omega, i + 1, c', m₃, h₃, tk₃, e, ?_, F₃, fun p hp => N₃ p (.tail _ hp), allNe_iff.mp ho, hi₃, q1, q2, hlt, rfl⟩
        refine W.frame _ _ _ st₂ fun b hb o e => ?_
        rw [List.mem_singleton.mp hb] at e ⊢
        rw [hoI] at e
        rw [← e]
        exact (N₃ _ (.head _)).1
      refine wpAny_passesOwn hE ?_
      have := (turn i t c m' I oI h₂ (tk₁ + 1) hlt hi (allNe_iff.mpr off) (kst_fr k1 k2 F₂) NI)
      refine wpAny_mono this (fun f s₃ p => ?_) fun _ _ e => e
      cases f with
      | ret v => exact p
      | brk => exact p
      | next => exact fin _ p
      | cont => exact fin _ p
    · have hin : i = n := by omega
      subst hin
      refine W.done _ _ _ st fun h₁ tk₁ hk₁ => ?_
      obtain ⟨F₁, N₁⟩ := onto h₁ hk₁
      refine wpAny_passesOwn hE ?_
      exact done c m' h₁ tk₁ hi (kst_frOut k1 k2 F₁) N₁
  · exact ⟨0, c₀, m₀, _, s.toks, rfl, hst, F.push _, fun p hp => ⟨Heap.get?_push_of_some _ (N p hp).1, (N p hp).2⟩, fun q hq e => absurd (Heap.lt_size (N q hq).1) (by rw [hI, e]; exact Nat.lt_irrefl _), h0, hk, fun _ _ _ _ => rfl, Nat.zero_le _, rfl⟩
end
end Mine
end
section
open PySem PySem.W PyProof.Rows
set_option maxRecDepth 100000
namespace Mine
/-- what pretty_flags calls the bit at place i -/
def flagV (i : Nat) : Str := if i < 10 then lowV.getD i Str.empty else baseText "0x" 16 ((2 ^ i : Nat) : Int)
def flagsAt (f : Nat) : Nat → List Str
  | 0 => []
  | i + 1 => if f.testBit i then flagsAt f i ++ [flagV i] else flagsAt f i
def flagsV (f : Nat) : List Str := if f = 0 then [baseText "0x" 16 0] else flagsAt f 32
theorem flagsAt_top {f k : Nat} (h : f < 2 ^ k) : ∀ n, k ≤ n → flagsAt f n = flagsAt f k := by
  intro n hn
  induction n with
  | zero => rw [Nat.le_zero.mp hn]
  | succ n ih =>
    by_cases hk : k = n + 1
    · rw [hk]
    · have hlt : f.testBit n = false := Nat.testBit_lt_two_pow (Nat.lt_of_lt_of_le h (Nat.pow_le_pow_right (by decide) (by omega)))
      show (if f.testBit n = true then _ else _) = _
      rw [hlt, if_neg (by decide)]
      exact ih (by omega)
theorem flagV_len : ∀ i, i < 32 → (flagV i).length ≤ 40 := by decide +kernel
theorem flagsAt_len (f : Nat) : ∀ n, n ≤ 32 → ((flagsAt f n).map (·.length)).sum + (flagsAt f n).length ≤ 41 * n := by
  intro n hn
  induction n with
  | zero => exact Nat.le_refl _
  | succ n ih =>
    have := ih (by omega)
    have h2 := flagV_len n (by omega)
    show ((if f.testBit n = true then _ else _ : List Str).map _).sum + (if f.testBit n = true then _ else _ : List Str).length ≤ _
    split
    · simp only [List.map_append, List.map_cons, List.map_nil, List.sum_append, List.sum_cons, List.sum_nil, List.length_append, List.length_cons, List.length_nil]
      omega
    · omega
theorem and_pow (n i : Nat) : n &&& 2 ^ i = (n.testBit i).toNat * 2 ^ i := by
  refine Nat.eq_of_testBit_eq fun j => ?_
  rw [Nat.testBit_and, Nat.testBit_two_pow]
  by_cases h : i = j
  · subst h
    cases hb : n.testBit i
    · simp
    · simp
  · rw [decide_eq_false h, Bool.and_false]
    cases hb : n.testBit i
    · simp
    · rw [Bool.toNat_true, Nat.one_mul, Nat.testBit_two_pow, decide_eq_false h]
theorem low_bit {f i : Nat} : (f - f % 2 ^ i).testBit i = f.testBit i := by
  have e : f - f % 2 ^ i = 2 ^ i * (f / 2 ^ i) := by have := Nat.div_add_mod f (2 ^ i); omega
  rw [e, Nat.testBit_two_pow_mul, Nat.sub_self, Nat.testBit_zero, Nat.testBit_eq_decide_div_mod_eq]
  simp
theorem low_next {f i : Nat} (h : f.testBit i = true) : f - f % 2 ^ (i + 1) = (f - f % 2 ^ i) - 2 ^ i ∧ 2 ^ i ≤ f - f % 2 ^ i := by
  have e := Nat.mod_pow_succ (x := f) (b := 2) (k := i)
  rw [Nat.testBit_eq_decide_div_mod_eq, decide_eq_true_eq] at h
  rw [h, Nat.mul_one] at e
  have h2 := Nat.mod_le f (2 ^ (i + 1))
  omega
theorem low_same {f i : Nat} (h : f.testBit i = false) : f - f % 2 ^ (i + 1) = f - f % 2 ^ i := by
  have e := Nat.mod_pow_succ (x := f) (b := 2) (k := i)
  rw [Nat.testBit_eq_decide_div_mod_eq, decide_eq_false_iff_not] at h
  have h0 : f / 2 ^ i % 2 = 0 := by omega
  rw [h0, Nat.mul_zero] at e
  rw [e, Nat.add_zero]
section
variable {prog : Program} {w : World} {A : Around} {E : Value → Shared → Prop} {s : Shared} {Q : Value → Shared → Prop}
theorem shl_one {i : Nat} {n : Int} {t u : Tok} (hn : n = (i : Int)) (hi : i < 32) (h : Q (.int ((2 ^ i : Nat) : Int) s.toks) { s with toks := s.toks + 1 }) : wpAny (model prog w) A (binaryOp .LShift (.int 1 t) (.int n u)) Q E s := by
  subst hn
  refine lshift_int_small (by omega) (by omega) (by decide) ?_
  have e : (1 : Int) * 2 ^ ((i : Int)).toNat = ((2 ^ i : Nat) : Int) := by rw [Int.one_mul, Int.toNat_natCast]; push_cast; rfl
  rw [e]
  exact h
theorem bitAnd_low {f g i : Nat} (hg : g = f - f % 2 ^ i) : Builtin.bitAnd (g : Int) ((2 ^ i : Nat) : Int) = (((f.testBit i).toNat * 2 ^ i : Nat) : Int) := by
  have h0 : (0 : Int) ≤ (g : Int) := by omega
  have h1 : (0 : Int) ≤ ((2 ^ i : Nat) : Int) := Int.natCast_nonneg _
  rw [bitAnd_pp h0 h1]
  rw [Int.toNat_natCast, Int.toNat_natCast, and_pow, hg, low_bit]
theorem and_bit {f g i : Nat} {t u : Tok} (hg : g = f - f % 2 ^ i) (h1 : f.testBit i = true → Q (.int ((2 ^ i : Nat) : Int) s.toks) { s with toks := s.toks + 1 }) (h0 : f.testBit i = false → Q (.int 0 s.toks) { s with toks := s.toks + 1 }) :
    wpAny (model prog w) A (binaryOp .BitAnd (.int (g : Int) t) (.int ((2 ^ i : Nat) : Int) u)) Q E s := by
  refine and_int ?_
  rw [bitAnd_low hg]
  cases hb : f.testBit i
  · rw [show ((Bool.toNat false * 2 ^ i : Nat) : Int) = 0 by simp]
    exact h0 hb
  · rw [show Bool.toNat true * 2 ^ i = 2 ^ i by simp]
    exact h1 hb
theorem xor_bit {f g i : Nat} {t u : Tok} (hg : g = f - f % 2 ^ i) (hb : f.testBit i = true) (h : ∀ g' : Nat, g' = f - f % 2 ^ (i + 1) → Q (.int (g' : Int) s.toks) { s with toks := s.toks + 1 }) :
    wpAny (model prog w) A (inplaceOp .BitXor (.int (g : Int) t) (.int ((2 ^ i : Nat) : Int) u)) Q E s := by
  refine ixor_int ?_
  have e := low_next hb
  have h1 := h _ rfl
  rw [bitXor_and, bitAnd_low hg, hb]
  rw [e.1, ← hg] at h1
  rw [← hg] at e
  have e2 : (g : Int) + ((2 ^ i : Nat) : Int) - 2 * ((Bool.toNat true * 2 ^ i : Nat) : Int) = ((g - 2 ^ i : Nat) : Int) := by
    rw [show Bool.toNat true * 2 ^ i = 2 ^ i by simp]
    omega
  rw [e2]
  exact h1
theorem get_flag {i : Nat} {d : Addr} {D : List (PyData × PyData)} {t u : Tok} (hi : i < 32) (T : IntTab prog w s.heap d D) (hl : ∀ j < 32, PySem.Spec.lookup (.int ((2 ^ j : Nat) : Int)) D = if j < 10 then some (.str (lowV.getD j Str.empty)) else none)
    (h : ∀ t', Q (.str (flagV i) t') { s with toks := s.toks + 1 }) : wpAny (model prog w) A (call (.builtin "dict.get") [.ref d, .int ((2 ^ i : Nat) : Int) t, .str (baseText "0x" 16 ((2 ^ i : Nat) : Int)) u]) Q E s := by
  have e := hl i hi
  unfold flagV at h
  by_cases h10 : i < 10
  · rw [if_pos h10] at e h
    refine kt_get2_thereI T e (PyProof.V.Flat.str _ _) fun v hv => ?_
    obtain ⟨t', rfl⟩ := hv.str_inv
    exact h t'
  · rw [if_neg h10] at e h
    refine kt_get2_noneI T e (PyProof.V.Flat.str _ _) fun v hv => ?_
    obtain ⟨t', rfl⟩ := hv.str_inv
    exact h t'
end
abbrev flagD : List (Int × PyData) := [(1, PyData.str { cps := #[79, 80, 84, 73, 77, 73, 90, 69, 68] }), (2, PyData.str { cps := #[78, 69, 87, 76, 79, 67, 65, 76, 83] }), (4, PyData.str { cps := #[86, 65, 82, 65, 82, 71, 83] }), (8, PyData.str { cps := #[86, 65, 82, 75, 69, 89, 87, 79, 82, 68, 83] }), (16, PyData.str { cps := #[78, 69, 83, 84, 69, 68] }), (32, PyData.str { cps := #[71, 69, 78, 69, 82, 65, 84, 79, 82] }), (64, PyData.str { cps := #[78, 79, 70, 82, 69, 69] }), (128, PyData.str { cps := #[67, 79, 82, 79, 85, 84, 73, 78, 69] }), (256, PyData.str { cps := #[73, 84, 69, 82, 65, 66, 76, 69, 95, 67, 79, 82, 79, 85, 84, 73, 78, 69] }), (512, PyData.str { cps := #[65, 83, 89, 78, 67, 95, 71, 69, 78, 69, 82, 65, 84, 79, 82] })]
theorem flag_look : ∀ j, j < 32 → PySem.Spec.lookup (.int ((2 ^ j : Nat) : Int)) (flagD.map fun p => (PyData.int p.1, p.2)) = if j < 10 then some (.str (lowV.getD j Str.empty)) else none
  | 0, _ => by kernel_rfl
  | 1, _ => by kernel_rfl
  | 2, _ => by kernel_rfl
  | 3, _ => by kernel_rfl
  | 4, _ => by kernel_rfl
  | 5, _ => by kernel_rfl
  | 6, _ => by kernel_rfl
  | 7, _ => by kernel_rfl
  | 8, _ => by kernel_rfl
  | 9, _ => by kernel_rfl
  | 10, _ => by kernel_rfl
  | 11, _ => by kernel_rfl
  | 12, _ => by kernel_rfl
  | 13, _ => by kernel_rfl
  | 14, _ => by kernel_rfl
  | 15, _ => by kernel_rfl
  | 16, _ => by kernel_rfl
  | 17, _ => by kernel_rfl
  | 18, _ => by kernel_rfl
  | 19, _ => by kernel_rfl
  | 20, _ => by kernel_rfl
  | 21, _ => by kernel_rfl
  | 22, _ => by kernel_rfl
  | 23, _ => by kernel_rfl
  | 24, _ => by kernel_rfl
  | 25, _ => by kernel_rfl
  | 26, _ => by kernel_rfl
  | 27, _ => by kernel_rfl
  | 28, _ => by kernel_rfl
  | 29, _ => by kernel_rfl
  | 30, _ => by kernel_rfl
  | 31, _ => by kernel_rfl
  | _ + 32, h => absurd h (by omega)
structure FlS where
  l : Addr
  g : Nat
  t : Tok
  vs : List Value
  ep : Nat
def FlI (f : Nat) (l : Addr) (i : Nat) (c : FlS) : Prop := c.l = l ∧ c.g = f - f % 2 ^ i ∧ (f ≠ 0 → c.g ≠ 0) ∧ StrsAre c.vs (flagsAt f i) ∧ c.ep ≤ c.vs.length
theorem onF {news : Led} {f : Nat} {m₀ m' : Str → Option Value} {h₀ h' : Heap} {L I l : Addr} {oI : Obj} {i g' ep tk : Nat} {s₁ : Shared} {Q : Flow → Shared → Prop} {vs : List Value} {t tg' : Tok}
    (F : Fr h₀ L h' m') (N : News h₀ L h' ((I, oI) :: (l, listOf (vs.toArray.push (.str (flagV i) t)) (ep + 1)) :: news))
    (hof : @Ne Nat l I ∧ AllNe I news) (hg' : g' = f - f % 2 ^ (i + 1)) (hn : (g' : Int) ≠ 0) (hb : f.testBit i = true) (hss : StrsAre vs (flagsAt f i)) (hep : ep ≤ vs.length)
    (k1 : m' (Str.ofString "flags") = some (.int (g' : Int) tg')) (k2 : ∀ z, z ≠ Str.ofString "i" → z ≠ Str.ofString "flags" → [Str.ofString "flag"].contains z = false → m' z = m₀ z) :
    TurnPost (fun c : FlS => (c.l, listOf c.vs.toArray c.ep) :: news) (fun c => [(Str.ofString "flags", .int (c.g : Int) c.t)]) (fun i c => FlI f l i c) (Str.ofString "i") [Str.ofString "flag"] m₀ h₀ L I oI i s₁ Q .next { s₁ with heap := h', toks := tk } := by
  refine TurnPost.onward (⟨l, g', tg', vs ++ [.str (flagV i) t], ep + 1⟩ : FlS) F N ?_ hof ⟨rfl, hg', fun _ => by dsimp only; omega, ?_, ?_⟩ ?_ (fun z h1 h2 h3 => k2 z h1 (h2 _ (.head _)) h3)
  · intro p hp
    rcases List.mem_cons.mp hp with rfl | hp
    · exact .head _
    rcases List.mem_cons.mp hp with rfl | hp
    · exact .tail _ (by
        have e : (vs ++ [Value.str (flagV i) t]).toArray = vs.toArray.push (.str (flagV i) t) := by simp
        dsimp only
        rw [e]
        exact .head _)
    · exact .tail _ (.tail _ hp)
  · dsimp only
    rw [flagsAt, if_pos hb]
    exact hss.append' (.cons _ _ .nil)
  · dsimp only
    rw [List.length_append]
    exact Nat.succ_le_succ hep
  · intro p hp
    rw [List.mem_singleton.mp hp]
    exact k1
theorem on0 {news : Led} {f : Nat} {m₀ m' : Str → Option Value} {h₀ h' : Heap} {L I l : Addr} {oI : Obj} {i g ep tk : Nat} {s₁ : Shared} {Q : Flow → Shared → Prop} {vs : List Value} {tg : Tok}
    (F : Fr h₀ L h' m') (N : News h₀ L h' ((I, oI) :: (l, listOf vs.toArray ep) :: news))
    (hof : @Ne Nat l I ∧ AllNe I news) (hg : g = f - f % 2 ^ i) (hz : f ≠ 0 → g ≠ 0) (hb : f.testBit i = false) (hss : StrsAre vs (flagsAt f i)) (hep : ep ≤ vs.length)
    (k1 : m' (Str.ofString "flags") = some (.int (g : Int) tg)) (k2 : ∀ z, z ≠ Str.ofString "i" → z ≠ Str.ofString "flags" → [Str.ofString "flag"].contains z = false → m' z = m₀ z) :
    TurnPost (fun c : FlS => (c.l, listOf c.vs.toArray c.ep) :: news) (fun c => [(Str.ofString "flags", .int (c.g : Int) c.t)]) (fun i c => FlI f l i c) (Str.ofString "i") [Str.ofString "flag"] m₀ h₀ L I oI i s₁ Q .next { s₁ with heap := h', toks := tk } := by
  refine TurnPost.onward (⟨l, g, tg, vs, ep⟩ : FlS) F N (fun p hp => hp) hof ⟨rfl, by rw [low_same hb]; exact hg, hz, by rw [flagsAt, if_neg (by rw [hb]; decide)]; exact hss, hep⟩ ?_ (fun z h1 h2 h3 => k2 z h1 (h2 _ (.head _)) h3)
  intro p hp
  rw [List.mem_singleton.mp hp]
  exact k1
theorem flags_end {f i : Nat} {g' : Nat} (hi : i < 32) (hg' : g' = f - f % 2 ^ (i + 1)) (hb : f.testBit i = true) (h0 : (g' : Int) = 0) : flagsV f = flagsAt f i ++ [flagV i] := by
  have hlt : f < 2 ^ (i + 1) := by
    have := Nat.mod_lt f (Nat.two_pow_pos (i + 1))
    omega
  have hne : f ≠ 0 := fun e => by rw [e, Nat.zero_testBit] at hb; exact absurd hb (by decide)
  rw [flagsV, if_neg hne, flagsAt_top hlt 32 (by omega), flagsAt, if_pos hb]
theorem flagsV_len (f : Nat) : ((flagsV f).map (·.length)).sum + (flagsV f).length ≤ 1048576 := by
  unfold flagsV
  split
  · decide +kernel
  · exact Nat.le_trans (flagsAt_len f 32 (by omega)) (by decide)
end Mine
end
section
open PySem PySem.W PyProof.Rows
set_option maxRecDepth 100000
namespace Mine
theorem lead_size : ∀ m, m < 16 → (leadV (runsV m)).cps.size ≤ 90 := by decide +kernel
theorem lead_ws : ∀ m, m < 16 → ∀ k ∈ (leadV (runsV m)).cps.toList, k = 32 ∨ k = 9 := by decide +kernel
theorem runs_b : ∀ m, m < 16 → ∀ e ∈ runsV m, 0 ≤ e ∧ e ≤ 100 := by decide +kernel
theorem runs_w : ∀ m, m < 16 → (((runsV m).map pieceV).map (·.length)).sum + ((runsV m).map pieceV).length ≤ 1048576 := by decide +kernel
theorem more_ws : ∀ m, m < 16 → ∀ k ∈ (leadV (runsV m) ++ Str.ofString " ").cps.toList, k = 32 ∨ k = 9 := by decide +kernel
theorem more_size : ∀ m, m < 16 → (leadV (runsV m) ++ Str.ofString " ").cps.size ≤ 91 := by decide +kernel
def wdV (m : Nat) : WD := wsRun (leadV (runsV m)).cps.toList
def wdB (m : Nat) : WD := wsRun (leadV (runsV m) ++ Str.ofString " ").cps.toList
structure WdOk (d : WD) : Prop where
  hl : d.cs.length ≤ 200
  hb : d.b ≤ 200
  hn : d.n ≤ 200
  ht : d.nt ≤ 200
  hc : ∀ e ∈ d.cs, 0 ≤ e ∧ e ≤ 200
theorem wdOk_of {d : WD} (h : d.cs.length ≤ 200 ∧ d.b ≤ 200 ∧ d.n ≤ 200 ∧ d.nt ≤ 200 ∧ ∀ e ∈ d.cs, 0 ≤ e ∧ e ≤ 200) : WdOk d := ⟨h.1, h.2.1, h.2.2.1, h.2.2.2.1, h.2.2.2.2⟩
theorem wdV_c : ∀ m, m < 16 → (wdV m).cs.length ≤ 200 ∧ (wdV m).b ≤ 200 ∧ (wdV m).n ≤ 200 ∧ (wdV m).nt ≤ 200 ∧ ∀ e ∈ (wdV m).cs, 0 ≤ e ∧ e ≤ 200 := by decide +kernel
theorem wdV_ok (m : Nat) (hm : m < 16) : WdOk (wdV m) := wdOk_of (wdV_c m hm)
theorem wdB_c : ∀ m, m < 16 → (wdB m).cs.length ≤ 200 ∧ (wdB m).b ≤ 200 ∧ (wdB m).n ≤ 200 ∧ (wdB m).nt ≤ 200 ∧ ∀ e ∈ (wdB m).cs, 0 ≤ e ∧ e ≤ 200 := by decide +kernel
theorem wdB_ok (m : Nat) (hm : m < 16) : WdOk (wdB m) := wdOk_of (wdB_c m hm)
def lackB (m1 m2 i : Nat) : Bool := m1.testBit i && !m2.testBit i
def unlikeB (m1 m2 i : Nat) : Bool := m1.testBit i != m2.testBit i
def pickV (p : Nat → Bool) : List Nat := (List.range 4).filter p
def sizesV (i : Nat) : Int := [2, 3, 5, 7].getD i 0
def namedV (c : Bool) (l : List Nat) : List Int := (if c then [1] else []) ++ l.map sizesV
theorem less_law : ∀ m1, m1 < 16 → ∀ m2, m2 < 16 → lessV (wdV m1) (wdB m2) = decide (pickV (lackB m1 m2) = []) := by decide +kernel
theorem equal_law : ∀ m1, m1 < 16 → ∀ m2, m2 < 16 → decide ((wdV m1).cs = (wdV m2).cs ∧ (wdV m1).b = (wdV m2).b) = decide (pickV (unlikeB m1 m2) = []) := by decide +kernel
def gtB (m1 m2 : Nat) : Bool := decide ((runsV m2).sum < (runsV m1).sum)
def neB (m1 m2 : Nat) : Bool := decide ((runsV m1).sum ≠ (runsV m2).sum)
theorem nl_law : ∀ m1, m1 < 16 → ∀ m2, m2 < 16 → nlV (wdV m1) (wdB m2) = (namedV (gtB m1 m2) (pickV (lackB m1 m2))).map fun z => (z, colV (runsV m1) z, colV (runsV m2) z + 1) := by decide +kernel
theorem ne_law : ∀ m1, m1 < 16 → ∀ m2, m2 < 16 → neV (wdV m1) (wdV m2) = (namedV (neB m1 m2) (pickV (unlikeB m1 m2))).map fun z => (z, colV (runsV m1) z, colV (runsV m2) z) := by decide +kernel
def pickI (p : Nat → Bool) : List Int := (pickV p).map fun i : Nat => (i : Int)
theorem fm_pick (p : Nat → Bool) : ((List.range 4).filterMap fun i : Nat => if p i then some (Dat.int ((0 : Int) + (i : Int))) else none) = (pickI p).map Dat.int := by
  have h : List.range 4 = [0, 1, 2, 3] := rfl
  unfold pickI pickV
  rw [h]
  cases h0 : p 0 <;> cases h1 : p 1 <;> cases h2 : p 2 <;> cases h3 : p 3 <;> simp [List.filterMap, List.filter, h0, h1, h2, h3]
theorem kq_pick (p : Nat → Bool) : kqdOk 8 (.list ((pickI p).map Dat.int)) = true := by
  have h : List.range 4 = [0, 1, 2, 3] := rfl
  unfold pickI pickV
  rw [h]
  cases h0 : p 0 <;> cases h1 : p 1 <;> cases h2 : p 2 <;> cases h3 : p 3 <;> simp only [List.filter, h0, h1, h2, h3] <;> rfl
theorem pick_nil (p : Nat → Bool) : decide (pickV p = []) = true ↔ Dat.list ((pickI p).map Dat.int) = Dat.list [] := by
  unfold pickI
  rw [decide_eq_true_eq]
  constructor
  · intro h
    rw [h]; rfl
  · intro h
    injection h with h
    simpa using h
theorem names_at {b i : Nat} (h : i < 4) : (namesV b)[i]? = some (nmV (b + i)) := by
  unfold namesV
  rw [List.getElem?_map, List.getElem?_range h]
  rfl
section
variable {prog : Program} {w : World} {A : Around} {E : Value → Shared → Prop} {s : Shared} {h₀ : Heap} {L : Addr} {m : Str → Option Value} {news : Led}
theorem item_strL {value slice : PySem.Expr} {l : Addr} {vs : List Value} {ep : Nat} {K : List Str} {x : Str} {i : Int} {u : Tok} {Q : Value → Shared → Prop} (j : Nat) (N : News h₀ L s.heap news) (hm : (l, listOf vs.toArray ep) ∈ news) (hS : StrsAre vs K) (hj : K[j]? = some x) (hi : i = (j : Int)) (hl : K.length ≤ 1000000)
    (h : ∀ t, Q (.str x t) s)
    (hs : subscripted slice false (.ref l) (.int i u) = operate [.ref l, .int i u] (getItem (.ref l) (.int i u)) := by with_unfolding_all rfl) (hg : ∀ r, letTemporaryGo value (.ref l) r = pure () := by intro _; with_unfolding_all rfl) :
    wpAny (model prog w) A (subscriptTail value slice (.ref l) (.int i u)) Q E s := by
  subst hi
  have hlt : j < K.length := (List.getElem?_eq_some_iff.mp hj).1
  obtain ⟨t, ht⟩ := hS.at hj
  exact item_listL (News.isList N hm) (by omega) (by omega) (by rw [Int.toNat_natCast]; exact ht) (h t) hs hg
theorem item_intL {value slice : PySem.Expr} {l : Addr} {vs : List Value} {ep : Nat} {K : List Int} {x : Int} {i : Int} {u : Tok} {Q : Value → Shared → Prop} (j : Nat) (N : News h₀ L s.heap news) (hm : (l, listOf vs.toArray ep) ∈ news) (hS : IntsAre vs K) (hj : K[j]? = some x) (hi : i = (j : Int)) (hl : K.length ≤ 1000000)
    (h : ∀ t, Q (.int x t) s)
    (hs : subscripted slice false (.ref l) (.int i u) = operate [.ref l, .int i u] (getItem (.ref l) (.int i u)) := by with_unfolding_all rfl) (hg : ∀ r, letTemporaryGo value (.ref l) r = pure () := by intro _; with_unfolding_all rfl) :
    wpAny (model prog w) A (subscriptTail value slice (.ref l) (.int i u)) Q E s := by
  subst hi
  have hlt : j < K.length := (List.getElem?_eq_some_iff.mp hj).1
  have hv : ∃ v, vs[j]? = some v := ⟨_, List.getElem?_eq_getElem (by rw [hS.length]; exact hlt)⟩
  obtain ⟨v, hv⟩ := hv
  obtain ⟨k, t, rfl, hk⟩ := IntsAre.at hS j v hv
  rw [hj] at hk
  cases hk
  exact item_listL (News.isList N hm) (by omega) (by omega) (by rw [Int.toNat_natCast]; exact hv) (h t) hs hg
end
theorem wsIn_mk {w : World} {h₀ h : Heap} {L : Addr} {news : Led} (_N : News h₀ L h news) {x dx q p : Addr} {vs : List Value} {S : Str} {d : WD} {k1 k2 k3 k4 k5 t1 t2 t3 t4 : Tok} (ok : WdOk d) (hv : IntsAre vs d.cs)
    (hx : (x, instObj 76 dx) ∈ news) (hdx : (dx, wsDict w S d q k1 k2 k3 k4 k5 t1 t2 t3) ∈ news) (hq : (q, tupOf [.ref p, .int (d.b : Int) t4]) ∈ news) (hp : (p, tupOf vs) ∈ news) :
    ∃ o : WO, o.x = x ∧ o.d = d ∧ WsIn w news o :=
  ⟨⟨x, dx, q, p, vs, S, d, k1, k2, k3, k4, k5, t1, t2, t3, t4⟩, rfl, rfl, ⟨hx, hdx, hq, hp, hv, ok.hl, ok.hb, ok.hn, ok.ht, ok.hc⟩⟩
end Mine
end
section
open PySem PySem.W PyProof.Rows
namespace Mine
theorem ne_cell {h₀ h : Heap} {L a b : Addr} {news : Led} {o o' : Obj} {v : Option Value} (N : News h₀ L h news) (ha : (a, o) ∈ news) (hd : o.data = Data.cell v) (hb : (b, o') ∈ news) (hb' : ∀ v, o'.data ≠ Data.cell v) : a ≠ b := by
  intro e
  subst e
  have h1 := (N _ ha).1
  have h2 := (N _ hb).1
  dsimp only at h1 h2
  rw [h1] at h2
  cases h2
  exact hb' _ hd
theorem kall_lt9 {l : Led} {a d : Nat} (h : ∀ p ∈ l, p.1 < a) (hd : a ≤ d) : ∀ p ∈ l, p.1 ≠ d := fun p hp e => by
  have := h p hp
  rw [e] at this
  exact Nat.lt_irrefl _ (Nat.lt_of_lt_of_le this hd)
end Mine
end
section
open PySem PySem.W PyProof.Rows PySem.Spec
open PyProof.Rows.LCg
namespace Mine
section
variable {prog : Program} {w : World} {A : Around} {E : Value → Shared → Prop} {s : Shared} {h₀ : Heap} {L : Addr} {m : Str → Option Value} {news : Led}
/-- a list of ints has been made, nothing that was told has turned -/
def LstPost (h₀ : Heap) (L : Addr) (m : Str → Option Value) (base : Led) (K : List Int) (s₁ : Shared) (v : Value) (s₂ : Shared) : Prop :=
  ∃ l vs ep nw h' tk', v = .ref l ∧ s₂ = { s₁ with heap := h', toks := tk' } ∧ IntsAre vs K ∧ (l, listOf vs.toArray ep) ∈ nw ∧ (∀ p ∈ base, p ∈ nw) ∧ Fr h₀ L h' m ∧ News h₀ L h' nw
theorem LstPost.intro {base nw : Led} {K : List Int} {s₁ : Shared} {l : Addr} {vs : List Value} {ep : Nat} {h' : Heap} {tk' : Tok} (hi : IntsAre vs K) (hm : (l, listOf vs.toArray ep) ∈ nw) (hs : ∀ p ∈ base, p ∈ nw) (F : Fr h₀ L h' m) (N : News h₀ L h' nw) :
    LstPost h₀ L m base K s₁ (.ref l) { s₁ with heap := h', toks := tk' } := ⟨l, vs, ep, nw, h', tk', rfl, rfl, hi, hm, hs, F, N⟩
theorem cut_lst {e : PySem.Expr} {env : Env} {Q : Value → Shared → Prop} (_F : Fr h₀ L s.heap m) (base : Led) (K : List Int)
    (h1 : wpAny (model prog w) A (eval e env) (LstPost h₀ L m base K s) E s)
    (h2 : Hold (∀ l vs ep nw h' tk', IntsAre vs K → (l, listOf vs.toArray ep) ∈ nw → (∀ p ∈ base, p ∈ nw) → Fr h₀ L h' m → News h₀ L h' nw → Q (.ref l) { s with heap := h', toks := tk' })) :
    wpAny (model prog w) A (eval e env) Q E s := by
  refine wpAny_mono h1 (fun v s₂ h => ?_) fun _ _ e => e
  obtain ⟨l, vs, ep, nw, h', tk', rfl, rfl, hi, hm, hs, F, N⟩ := h
  exact h2 l vs ep nw h' tk' hi hm hs F N
theorem sum_led {l : Addr} {vs : List Value} {ep : Nat} {ns : List Int} {Q : Value → Shared → Prop} (F : Fr h₀ L s.heap m) (N : News h₀ L s.heap news) (hh : A.handled = none) (hm : (l, listOf vs.toArray ep) ∈ news) (hi : IntsAre vs ns)
    (h : ∀ h' tk t', Fr h₀ L h' m → News h₀ L h' news → Q (.int ns.sum t') { s with heap := h', toks := tk }) : wpAny (model prog w) A (call (.builtin "sum") [.ref l]) Q E s :=
  LSm.sum_ints F N hh (News.isList N hm) hi h
theorem cat_led {a b : Addr} {vs ws : List Value} {ea eb : Nat} {ns ms : List Int} {Q : Value → Shared → Prop} (F : Fr h₀ L s.heap m) (N : News h₀ L s.heap news) (ha : (a, listOf vs.toArray ea) ∈ news) (hb : (b, listOf ws.toArray eb) ∈ news) (hi : IntsAre vs ns) (hj : IntsAre ws ms)
    (hz : ns.length + ms.length ≤ sizeLine)
    (h : ∀ D us h', Fr h₀ L h' m → News h₀ L h' ((D, listOf (List.toArray us) 0) :: news) → (∀ p ∈ news, p.1 < D) → IntsAre us (ns ++ ms) → Q (.ref D) { s with heap := h' }) :
    wpAny (model prog w) A (binaryOp .Add (.ref a) (.ref b)) Q E s :=
  kmk_add_ints F N (News.isList N ha) (News.isList N hb) hi hj h hz
end
section
open PyProof.Rows.LCg PyProof.Rows.LCt
variable {prog : Program} {w : World} {A : Around} {E : Value → Shared → Prop} {s : Shared} {h₀ : Heap} {L : Addr} {m : Str → Option Value} {env : Env} {elt ct : PySem.Expr} {x : Str} {scope : Scope} {cl : List (Str × Addr)} {S : List (Addr × Obj) → Prop} {P : Nat → Value → Prop} {Fin : List Value → List (Addr × Obj) → Prop} {news : Led}
/-- comp_rest, the frame a letter in the turn -/
theorem comp_restM {n : Nat} (f : Nat → Dat)
    (turn : Hold (∀ (M : Str → Option Value) i v I oI C oC D m₂ ys h tk nw (E' : Value → Shared → Prop), i < n → P i v → NsObj oC m₂ → m₂ x = some v → Fr h₀ L h M → News h₀ L h ((I, oI) :: (C, oC) :: (D, lst ys) :: nw) → Off3 I C D nw → ((@Ne Nat I C) ∧ (@Ne Nat I D) ∧ (@Ne Nat C D)) → S nw → (∀ p ∈ news, p ∈ nw) →
      wpAny (model prog w) A (eval elt (compEnvC scope cl C env)) (CompEnd h₀ L M { s with heap := h, toks := tk } I oI C oC D (lst ys) S (fun y nw' => DatIn nw' y (f i) ∧ ∀ p ∈ nw, p ∈ nw')) E' { s with heap := h, toks := tk }))
    (hS : S news)
    (fin : Hold (∀ ys nw, DatAll nw ys ((List.range n).map f) → S nw → (∀ p ∈ news, p ∈ nw) → Fin ys nw)) :
    CompRest prog w A h₀ L m env elt x scope cl s S P Fin n 0 [] news := comp_rest f (Hold.out turn m) hS fin
theorem comp_restTM {n : Nat} (g : Nat → Option Dat)
    (turn : Hold (∀ (M : Str → Option Value) i v I oI C oC D m₂ ys h tk nw (E' : Value → Shared → Prop), i < n → P i v → NsObj oC m₂ → m₂ x = some v → Fr h₀ L h M → News h₀ L h ((I, oI) :: (C, oC) :: (D, lst ys) :: nw) → Off3 I C D nw → ((@Ne Nat I C) ∧ (@Ne Nat I D) ∧ (@Ne Nat C D)) → S nw → (∀ p ∈ news, p ∈ nw) →
      wpAny (model prog w) A (isTrue ct (compEnvC scope cl C env) (eval ct (compEnvC scope cl C env))) (fun ok s' => if ok = true then
        wpAny (model prog w) A (eval elt (compEnvC scope cl C env)) (CompEnd h₀ L M { s with heap := h, toks := tk } I oI C oC D (lst ys) S (fun y nw' => (∃ d, g i = some d ∧ DatIn nw' y d) ∧ ∀ p ∈ nw, p ∈ nw')) E' s'
        else CompEnd h₀ L M { s with heap := h, toks := tk } I oI C oC D (lst ys) S (fun _ nw' => g i = none ∧ ∀ p ∈ nw, p ∈ nw') Value.none s') E' { s with heap := h, toks := tk }))
    (hS : S news)
    (fin : Hold (∀ ys nw, DatAll nw ys ((List.range n).filterMap g) → S nw → (∀ p ∈ news, p ∈ nw) → Fin ys nw)) :
    CompRestT prog w A h₀ L m env ct elt x scope cl s S P Fin n 0 [] news := comp_restT g (Hold.out turn m) hS fin
end
def sizeI (k : Int) : Int := sizesV k.toNat
theorem pick_lt {p : Nat → Bool} {k : Int} (h : k ∈ pickI p) : ∃ j : Nat, k = (j : Int) ∧ j < 4 := by
  unfold pickI pickV at h
  obtain ⟨j, hj, rfl⟩ := List.mem_map.mp h
  exact ⟨j, rfl, List.mem_range.mp (List.mem_filter.mp hj).1⟩
theorem pickI_len (p : Nat → Bool) : (pickI p).length ≤ 4 := by
  unfold pickI pickV
  rw [List.length_map]
  exact Nat.le_trans (List.length_filter_le _ _) (by rw [List.length_range]; exact Nat.le_refl _)
theorem size_at {j : Nat} (h : j < 4) : ([2, 3, 5, 7] : List Int)[j]? = some (sizeI (j : Int)) := by
  match j, h with
  | 0, _ => rfl
  | 1, _ => rfl
  | 2, _ => rfl
  | 3, _ => rfl
theorem named_eq (c : Bool) (p : Nat → Bool) : (if c then [1] else []) ++ (pickI p).map sizeI = namedV c (pickV p) := by
  unfold namedV pickI
  rw [List.map_map]
  rfl
theorem tripD_ok (l : List (Int × Int × Int)) : kqdOk 8 (.list (l.map tripD)) = true := by
  simp [kqdOk, tripD]
theorem named_b {c : Bool} {p : Nat → Bool} {k : Int} (h : k ∈ namedV c (pickV p)) : 1 ≤ k ∧ k ≤ 7 := by
  unfold namedV at h
  rcases List.mem_append.mp h with h | h
  · cases c
    · exact absurd h (by simp)
    · simp at h; omega
  · obtain ⟨j, hj, rfl⟩ := List.mem_map.mp h
    unfold pickV at hj
    have hj4 := List.mem_range.mp (List.mem_filter.mp hj).1
    match j, hj4 with
    | 0, _ => decide
    | 1, _ => decide
    | 2, _ => decide
    | 3, _ => decide
theorem named_len (c : Bool) (p : Nat → Bool) : (namedV c (pickV p)).length ≤ 5 := by
  have h := pickI_len p
  unfold pickI at h
  rw [List.length_map] at h
  unfold namedV
  rw [List.length_append, List.length_map]
  cases c <;> simp <;> omega
theorem srcAt_cons {h₀ : Heap} {ax : Addr} {its : Array Value} {q : Addr × Obj} {nw : Led} (h : SrcAt h₀ ax its nw) : SrcAt h₀ ax its (q :: nw) := by
  rcases h with h | ⟨o, hm, h⟩
  · exact .inl h
  · exact .inr ⟨o, .tail _ hm, h⟩
theorem comp_endN {h₀ : Heap} {L : Addr} {m : Str → Option Value} {S : Led → Prop} {T I C D : Addr} {oT oI oC oD : Obj} {s₁ : Shared} {y : Value} {h' : Heap} {tk : Nat} {d : Dat} {nw : Led} (F : Fr h₀ L h' m) (N : News h₀ L h' ((T, oT) :: (I, oI) :: (C, oC) :: (D, oD) :: nw)) (lt : I < T ∧ C < T ∧ D < T ∧ AllLt T nw)
    (off : Off3 I C D nw) (hS : S ((T, oT) :: nw)) (hy : DatIn ((T, oT) :: nw) y d) :
    CompEnd h₀ L m s₁ I oI C oC D oD S (fun y nw' => DatIn nw' y d ∧ ∀ p ∈ nw, p ∈ nw') y { s₁ with heap := h', toks := tk } := by
  refine ⟨h', tk, (T, oT) :: nw, rfl, F, fun p hp => N p ?_, ⟨⟨Ne.symm (Nat.ne_of_lt lt.1), Ne.symm (Nat.ne_of_lt lt.2.1), Ne.symm (Nat.ne_of_lt lt.2.2.1)⟩, off⟩, hS, hy, fun _ hp => .tail _ hp⟩
  rcases List.mem_cons.mp hp with rfl | hp
  · exact .tail _ (.head _)
  rcases List.mem_cons.mp hp with rfl | hp
  · exact .tail _ (.tail _ (.head _))
  rcases List.mem_cons.mp hp with rfl | hp
  · exact .tail _ (.tail _ (.tail _ (.head _)))
  rcases List.mem_cons.mp hp with rfl | hp
  · exact .head _
  · exact .tail _ (.tail _ (.tail _ (.tail _ hp)))
end Mine
end
section
open PySem PySem.W PyProof.Rows PySem.Spec
set_option maxRecDepth 100000
namespace Mine
def flN (b : Nat) (l : List Nat) : Nat := (l.map fun i => 2 ^ (b + i)).sum
def fAt (b : Nat) (z : Int) : Option Int := if 1 < z then some ((2 ^ (b + ([2, 3, 5, 7] : List Int).idxOf z) : Nat) : Int) else none
def dueN (b : Nat) (l : List Nat) : List Str := l.map fun i => nmV (b + i)
def dueV (b : Nat) (l : List Nat) : Str := if l = [] then Str.ofString "0x0" else Txt.join (Str.ofString ", ") (dueN b l)
def pick4 (q0 q1 q2 q3 : Bool) : List Nat := (if q0 then [0] else []) ++ ((if q1 then [1] else []) ++ ((if q2 then [2] else []) ++ (if q3 then [3] else [])))
theorem pick_four (q : Nat → Bool) : pickV q = pick4 (q 0) (q 1) (q 2) (q 3) := by
  have h : List.range 4 = [0, 1, 2, 3] := rfl
  unfold pickV pick4
  rw [h]
  cases h0 : q 0 <;> cases h1 : q 1 <;> cases h2 : q 2 <;> cases h3 : q 3 <;> simp [List.filter, h0, h1, h2, h3]
theorem range_fm {α β : Type} (g : α → Option β) (d : α) (l : List α) : (List.range l.length).filterMap (fun i => g (l.getD i d)) = l.filterMap g := by
  induction l with
  | nil => rfl
  | cons x r ih =>
    rw [List.length_cons, List.range_succ_eq_map, List.filterMap_cons, List.filterMap_map, List.filterMap_cons]
    have e : (fun i => g ((x :: r).getD i d)) ∘ Nat.succ = fun i => g (r.getD i d) := by
      funext i
      simp
    rw [e, ih]
    rfl
theorem fl_sum4 (b : Nat) (c q0 q1 q2 q3 : Bool) : ((namedV c (pick4 q0 q1 q2 q3)).filterMap (fAt b)).sum = (flN b (pick4 q0 q1 q2 q3) : Int) := by
  have e1 : fAt b 1 = none := rfl
  have e2 : fAt b (sizesV 0) = some ((2 ^ (b + 0) : Nat) : Int) := rfl
  have e3 : fAt b (sizesV 1) = some ((2 ^ (b + 1) : Nat) : Int) := rfl
  have e5 : fAt b (sizesV 2) = some ((2 ^ (b + 2) : Nat) : Int) := rfl
  have e7 : fAt b (sizesV 3) = some ((2 ^ (b + 3) : Nat) : Int) := rfl
  cases c <;> cases q0 <;> cases q1 <;> cases q2 <;> cases q3 <;> simp [namedV, pick4, List.filterMap, e1, e2, e3, e5, e7, flN]
theorem fl_sum (b : Nat) (c : Bool) (q : Nat → Bool) : ((List.range (namedV c (pickV q)).length).filterMap fun i => fAt b ((namedV c (pickV q)).getD i 0)).sum = (flN b (pickV q) : Int) := by
  rw [range_fm, pick_four]
  exact fl_sum4 _ _ _ _ _ _
theorem fl_text4 : ∀ q0 q1 q2 q3 : Bool, ∀ b, b < 29 → flagsV (flN b (pick4 q0 q1 q2 q3)) = (if pick4 q0 q1 q2 q3 = [] then [Str.ofString "0x0"] else dueN b (pick4 q0 q1 q2 q3)) := by decide +kernel
theorem fl_lt4 : ∀ q0 q1 q2 q3 : Bool, ∀ b, b < 29 → flN b (pick4 q0 q1 q2 q3) < 4294967296 := by decide +kernel
theorem fl_lt (b : Nat) (hb : b ≤ 28) (q : Nat → Bool) : flN b (pickV q) < 4294967296 := by
  rw [pick_four]
  exact fl_lt4 _ _ _ _ b (by omega)
theorem fl_flags (b : Nat) (hb : b ≤ 28) (q : Nat → Bool) : flagsV (flN b (pickV q)) = (if pickV q = [] then [Str.ofString "0x0"] else dueN b (pickV q)) := by
  rw [pick_four]
  exact fl_text4 _ _ _ _ b (by omega)
theorem join_zero : Txt.join (Str.ofString ", ") [Str.ofString "0x0"] = Str.ofString "0x0" := by decide +kernel
theorem fl_text (b : Nat) (hb : b ≤ 28) (q : Nat → Bool) : Txt.join (Str.ofString ", ") (flagsV (flN b (pickV q))) = dueV b (pickV q) := by
  rw [fl_flags b hb]
  unfold dueV
  by_cases h : pickV q = []
  · rw [if_pos h, if_pos h]
    exact join_zero
  · rw [if_neg h, if_neg h]
theorem due_len4 : ∀ q0 q1 q2 q3 : Bool, ∀ b, b < 29 → ((dueN b (pick4 q0 q1 q2 q3)).map (·.length)).sum + (dueN b (pick4 q0 q1 q2 q3)).length ≤ 1048576 ∧ (Txt.join (Str.ofString ", ") (dueN b (pick4 q0 q1 q2 q3))).length ≤ 1000 ∧
    (((Txt.join (Str.ofString ", ") (dueN b (pick4 q0 q1 q2 q3))).length : Int) != 0) = !(pick4 q0 q1 q2 q3 == []) := by decide +kernel
theorem due_len (b : Nat) (hb : b ≤ 28) (q : Nat → Bool) : ((dueN b (pickV q)).map (·.length)).sum + (dueN b (pickV q)).length ≤ 1048576 ∧ (Txt.join (Str.ofString ", ") (dueN b (pickV q))).length ≤ 1000 ∧
    (((Txt.join (Str.ofString ", ") (dueN b (pickV q))).length : Int) != 0) = !(pickV q == []) := by
  rw [pick_four]
  exact due_len4 _ _ _ _ b (by omega)
theorem named_size {c : Bool} {p : Nat → Bool} {k : Int} (h : k ∈ namedV c (pickV p)) (h1 : 1 < k) : k ∈ ([2, 3, 5, 7] : List Int) := by
  unfold namedV at h
  rcases List.mem_append.mp h with h | h
  · cases c
    · exact absurd h (by simp)
    · simp at h; omega
  · obtain ⟨j, hj, rfl⟩ := List.mem_map.mp h
    unfold pickV at hj
    have hj4 := List.mem_range.mp (List.mem_filter.mp hj).1
    match j, hj4 with
    | 0, _ => decide
    | 1, _ => decide
    | 2, _ => decide
    | 3, _ => decide
theorem idx_lt {k : Int} (h : k ∈ ([2, 3, 5, 7] : List Int)) : ([2, 3, 5, 7] : List Int).idxOf k < 4 := List.idxOf_lt_length_of_mem h
section
variable {prog : Program} {w : World} {A : Around} {E : Value → Shared → Prop} {s : Shared} {h₀ : Heap} {L : Addr} {m : Str → Option Value} {news : Led}
/-- a text has been made, nothing that was told has turned -/
def StrPost (h₀ : Heap) (L : Addr) (m : Str → Option Value) (base : Led) (X : Str) (s₁ : Shared) (v : Value) (s₂ : Shared) : Prop :=
  ∃ t nw h' tk', v = .str X t ∧ s₂ = { s₁ with heap := h', toks := tk' } ∧ (∀ p ∈ base, p ∈ nw) ∧ Fr h₀ L h' m ∧ News h₀ L h' nw
theorem StrPost.intro {base nw : Led} {X Y : Str} {s₁ : Shared} {t : Tok} {h' : Heap} {tk' : Tok} (e : Y = X) (hs : ∀ p ∈ base, p ∈ nw) (F : Fr h₀ L h' m) (N : News h₀ L h' nw) :
    StrPost h₀ L m base X s₁ (.str Y t) { s₁ with heap := h', toks := tk' } := ⟨t, nw, h', tk', by rw [e], rfl, hs, F, N⟩
theorem cut_str {e : PySem.Expr} {env : Env} {Q : Value → Shared → Prop} (_F : Fr h₀ L s.heap m) (base : Led) (X : Str)
    (h1 : wpAny (model prog w) A (eval e env) (StrPost h₀ L m base X s) E s)
    (h2 : Hold (∀ t nw h' tk', (∀ p ∈ base, p ∈ nw) → Fr h₀ L h' m → News h₀ L h' nw → Q (.str X t) { s with heap := h', toks := tk' })) :
    wpAny (model prog w) A (eval e env) Q E s := by
  refine wpAny_mono h1 (fun v s₂ h => ?_) fun _ _ e => e
  obtain ⟨t, nw, h', tk', rfl, rfl, hs, F, N⟩ := h
  exact h2 t nw h' tk' hs F N
end
theorem ne3 {a b c z : Str} (h : [a, b, c].contains z = false) : z ≠ a ∧ z ≠ b ∧ z ≠ c := by
  refine ⟨?_, ?_, ?_⟩ <;> intro e <;> subst e <;> simp at h
end Mine
end
section
open PySem PySem.W PyProof.Rows PySem.Spec
namespace Mine
/-- how a turn may end that keeps all that was told: the frame has turned at the stored names alone -/
def TurnOk (h₀ : Heap) (L : Addr) (m : Str → Option Value) (stored : List Str) (all : Led) (s₁ : Shared) (Q : Flow → Shared → Prop) (f : Flow) (s₂ : Shared) : Prop :=
  match f with
  | .ret v => Q (.ret v) s₂
  | .brk => Q .next s₂
  | _ => ∃ h' tk m', s₂ = { s₁ with heap := h', toks := tk } ∧ Fr h₀ L h' m' ∧ News h₀ L h' all ∧ ∀ z, stored.contains z = false → m' z = m z
section
variable {prog : Program} {w : World} {A : Around} {E : Value → Shared → Prop} {s : Shared} {env : Env} {h₀ : Heap} {target : PySem.Expr} {body : List Stmt} {Q : Flow → Shared → Prop}
theorem TurnOk.goes {L : Addr} {m m' : Str → Option Value} {stored : List Str} {all nw : Led} {s₁ : Shared} {h' : Heap} {tk : Nat} (F : Fr h₀ L h' m') (N : News h₀ L h' nw) (hs : ∀ p ∈ all, p ∈ nw) (hm : ∀ z, stored.contains z = false → m' z = m z) :
    TurnOk h₀ L m stored all s₁ Q .next { s₁ with heap := h', toks := tk } := ⟨h', tk, m', rfl, F, fun p hp => N p (hs p hp), hm⟩
theorem turns_same {I : Addr} {fp wr : List Addr} {n : Nat} {P Md : Nat → Value → Heap → Prop} {St : Nat → Heap → Prop} {m : Str → Option Value} {base : Led} (stored : List Str)
    (W : KTurns prog w A target I fp wr n P Md St) (hLf : env.locals ∉ fp) (hwr : ∀ b ∈ wr, h₀.get? b = none) (off : ∀ p ∈ base, p.1 ∉ wr) (hst : St 0 s.heap) (F : Fr h₀ env.locals s.heap m) (N : News h₀ env.locals s.heap base)
    (turn : Hold (∀ (i : Nat) (v : Value) (u : Str → Option Value) h tk all, i < n → P i v h → (∀ p ∈ base, p ∈ all) → Fr h₀ env.locals h (fun z => if stored.contains z then u z else m z) → News h₀ env.locals h all →
      wpAny (model prog w) A (assign target env v) (fun _ s₃ => wpAny (model prog w) A (execs body env) (TurnOk h₀ env.locals m stored all { s with heap := h, toks := tk } Q) E s₃) E { s with heap := h, toks := tk }))
    (done : Hold (∀ (u : Str → Option Value) h tk, Fr h₀ env.locals h (fun z => if stored.contains z then u z else m z) → News h₀ env.locals h base → Q .next { s with heap := h, toks := tk })) :
    TurnsAt prog w A h₀ env target body Q E (.ref I) s := by
  have fr : ∀ (u : Str → Option Value), (∀ z, stored.contains z = false → u z = m z) → u = fun z => if stored.contains z then u z else m z := fun u hu => by
    funext z
    cases e : stored.contains z with
    | true => simp
    | false => simp [hu z e]
  refine ⟨I, fp, wr, n, P, Md, St, m, base, fun _ u nw => nw = base ∧ ∀ z, stored.contains z = false → u z = m z, rfl, W, hLf, hwr, off, hst, F, N, ⟨rfl, fun _ _ => rfl⟩, ?_, ?_⟩
  · rintro i v u nw h tk own hi hP ⟨rfl, hu⟩ hoff hown hget hlive st F₁ N₁
    rw [fr u hu] at F₁
    refine wpAny_mono (turn i v u h tk (own ++ nw) hi hP (fun p hp => List.mem_append_right _ hp) F₁ N₁) (fun _ s₃ h₃ => wpAny_mono h₃ (fun f s₄ h₄ => ?_) fun _ _ e => e) fun _ _ e => e
    have fin : (∃ h' tk' m', s₄ = { ({ s with heap := h, toks := tk } : Shared) with heap := h', toks := tk' } ∧ Fr h₀ env.locals h' m' ∧ News h₀ env.locals h' (own ++ nw) ∧ ∀ z, stored.contains z = false → m' z = m z) →
        LoopStepU h₀ env.locals wr own (fun (u : Str → Option Value) (nw' : Led) => nw' = nw ∧ ∀ z, stored.contains z = false → u z = m z) { s with heap := h, toks := tk } .next s₄ := by
      rintro ⟨h', tk', m', e, F', N', hm⟩
      exact ⟨rfl, h', tk', m', nw, e, F', N', hoff, rfl, hm⟩
    cases f with
    | ret v => exact .ret h₄
    | brk => exact .brk h₄
    | next => exact .next (fin h₄)
    | cont => exact .cont (fin h₄)
  · rintro h tk u nw F' N' _ ⟨rfl, hu⟩
    rw [fr u hu] at F'
    exact done u h tk F' N'
theorem turns_list {l : Addr} {vs : List Value} {ep : Nat} {m : Str → Option Value} {base : Led} (stored : List Str)
    (hh : A.handled = none) (F : Fr h₀ env.locals s.heap m) (N : News h₀ env.locals s.heap base) (hl : (l, listOf vs.toArray ep) ∈ base)
    (turn : Hold (∀ (i : Nat) (v : Value) (u : Str → Option Value) h tk all, vs[i]? = some v → (∀ p ∈ base, p ∈ all) → Fr h₀ env.locals h (fun z => if stored.contains z then u z else m z) → News h₀ env.locals h all →
      wpAny (model prog w) A (assign target env v) (fun _ s₃ => wpAny (model prog w) A (execs body env) (TurnOk h₀ env.locals m stored all { s with heap := h, toks := tk } Q) E s₃) E { s with heap := h, toks := tk }))
    (done : Hold (∀ (u : Str → Option Value) h tk, Fr h₀ env.locals h (fun z => if stored.contains z then u z else m z) → News h₀ env.locals h base → Q .next { s with heap := h, toks := tk })) :
    wpAny (model prog w) A (pyIter (.ref l)) (fun it s₂ => TurnsAt prog w A h₀ env target body Q E it s₂) E s := by
  have hls : s.heap.IsList l vs.toArray := News.isList N hl
  have hlt : l < s.heap.objs.size := Heap.lt_size (N _ hl).1
  refine wpAny_pyIter_list hls ?_
  refine turns_same (s := { s with heap := s.heap.push _ }) stored (KTurns.ofWalks (Walks.list hh s.heap.objs.size l (Nat.ne_of_lt hlt) vs.toArray) fun i v s Q E st q => letGo_listiter st.1 q) ?_ ?_ ?_
    ⟨⟨_, Heap.get?_push_size _ rfl, rfl, rfl⟩, hls.at fun o e => Heap.get?_push_of_some _ e⟩ (F.push _) (fun p hp => ⟨Heap.get?_push_of_some _ (N p hp).1, (N p hp).2⟩) ?_ done
  · intro hI
    rcases List.mem_cons.mp hI with e | hI
    · exact absurd F.ns.lt (e ▸ Nat.lt_irrefl _)
    · exact (N _ hl).2.1 (List.mem_singleton.mp hI).symm
  · intro b hb
    rw [List.mem_singleton.mp hb]
    exact next_is_new F
  · intro p hp hI
    exact absurd (Heap.lt_size (N p hp).1) ((List.mem_singleton.mp hI) ▸ Nat.lt_irrefl _)
  · intro i v u h tk all hi hP hb F₁ N₁
    exact turn i v u h tk all (by simpa using hP) hb F₁ N₁
theorem turns_listM {l : Addr} {vs : List Value} {ep : Nat} {m : Str → Option Value} {base : Led} (stored : List Str)
    (hh : A.handled = none) (F : Fr h₀ env.locals s.heap m) (N : News h₀ env.locals s.heap base) (hl : (l, listOf vs.toArray ep) ∈ base)
    (turn : Hold (∀ (M : Str → Option Value) (i : Nat) (v : Value) h tk all, vs[i]? = some v → (∀ p ∈ base, p ∈ all) → Fr h₀ env.locals h M → News h₀ env.locals h all →
      wpAny (model prog w) A (assign target env v) (fun _ s₃ => wpAny (model prog w) A (execs body env) (TurnOk h₀ env.locals M stored all { s with heap := h, toks := tk } Q) E s₃) E { s with heap := h, toks := tk }))
    (done : Hold (∀ (M : Str → Option Value) h tk, Fr h₀ env.locals h M → News h₀ env.locals h base → Q .next { s with heap := h, toks := tk })) :
    wpAny (model prog w) A (pyIter (.ref l)) (fun it s₂ => TurnsAt prog w A h₀ env target body Q E it s₂) E s := by
  refine turns_list stored hh F N hl ?_ fun u h tk F' N' => Hold.out done _ h tk F' N'
  intro i v u h tk all hi hb F' N'
  refine wpAny_mono (Hold.out turn _ i v h tk all hi hb F' N') (fun _ s₃ h₃ => wpAny_mono h₃ (fun f s₄ h₄ => ?_) fun _ _ e => e) fun _ _ e => e
  have fin : (∃ h' tk' m', s₄ = { ({ s with heap := h, toks := tk } : Shared) with heap := h', toks := tk' } ∧ Fr h₀ env.locals h' m' ∧ News h₀ env.locals h' all ∧ ∀ z, stored.contains z = false → m' z = if stored.contains z then u z else m z) →
      ∃ h' tk' m', s₄ = { ({ s with heap := h, toks := tk } : Shared) with heap := h', toks := tk' } ∧ Fr h₀ env.locals h' m' ∧ News h₀ env.locals h' all ∧ ∀ z, stored.contains z = false → m' z = m z := by
    rintro ⟨h', tk', m', e, F₁, N₁, hm⟩
    exact ⟨h', tk', m', e, F₁, N₁, fun z hz => by rw [hm z hz, if_neg (by rw [hz]; exact Bool.false_ne_true)]⟩
  cases f with
  | ret v => exact h₄
  | brk => exact h₄
  | next => exact fin h₄
  | cont => exact fin h₄
theorem turns_zip {elts : List PySem.Expr} {kk : Nat} {pos : Pos} {I : Addr} {fp wr : List Addr} {n : Nat} {Pt : Nat → Array Value → Prop} {St : Nat → Heap → Prop} {Mid : Nat → Addr → Heap → Prop} {m : Str → Option Value} {base : Led} (stored : List Str)
    (W : WalksU prog w A I fp wr n Pt St Mid) (hLf : env.locals ∉ fp) (hfp0 : ∀ b ∈ fp, h₀.get? b = none) (off : ∀ p ∈ base, p.1 ∉ wr) (hst : St 0 s.heap) (F : Fr h₀ env.locals s.heap m) (N : News h₀ env.locals s.heap base)
    (turn : Hold (∀ i T vals (u : Str → Option Value) h tk all, i < n → Pt i vals → h.IsTuple T vals → (∀ p ∈ base, p ∈ all) → Fr h₀ env.locals h (fun z => if stored.contains z then u z else m z) → News h₀ env.locals h all →
      wpAny (model prog w) A (assign (.Tuple elts kk pos) env (.ref T)) (fun _ s₃ => wpAny (model prog w) A (execs body env) (TurnOk h₀ env.locals m stored all { s with heap := h, toks := tk } Q) E s₃) E { s with heap := h, toks := tk }))
    (done : Hold (∀ (u : Str → Option Value) h tk, Fr h₀ env.locals h (fun z => if stored.contains z then u z else m z) → News h₀ env.locals h base → Q .next { s with heap := h, toks := tk })) :
    TurnsAt prog w A h₀ env (.Tuple elts kk pos) body Q E (.ref I) s := by
  refine turns_same stored (KTurns.ofWalksU W) hLf (fun b hb => hfp0 b (W.sub b hb)) off hst F N ?_ done
  rintro i v u h tk all hi ⟨T, vals, rfl, hPt, hT⟩ hb F₁ N₁
  exact turn i T vals u h tk all hi hPt hT hb F₁ N₁
end
end Mine
end
section
open PySem PySem.W PyProof.Rows PySem.Spec
namespace Mine
def refsOf (vs : List Value) : List Addr := vs.filterMap fun v => match v with | .ref T => some T | _ => none
theorem walksU_list {prog : Program} {w : World} {A : Around} (hh : A.handled = none) (I l : Addr) (hne : l ≠ I) (vs : List Value) (Pt : Nat → Array Value → Prop) (hI : I ∉ refsOf vs) (hr : ∀ (j : Nat) v, vs[j]? = some v → ∃ T, v = .ref T) :
    WalksU prog w A I (I :: l :: refsOf vs) [I] vs.length Pt
      (fun i h => (h.IsListIter I l i ∧ h.IsList l vs.toArray) ∧ ∀ (j : Nat) T, vs[j]? = some (.ref T) → ∃ xs, Pt j xs ∧ h.IsTuple T xs)
      (fun i T h => T ∈ refsOf vs ∧ (h.IsListIter I l (i + 1) ∧ h.IsList l vs.toArray) ∧ ∀ (j : Nat) T, vs[j]? = some (.ref T) → ∃ xs, Pt j xs ∧ h.IsTuple T xs) := by
  have W := Walks.list (prog := prog) (w := w) hh I l hne vs.toArray
  have hsz : vs.toArray.size = vs.length := List.size_toArray
  rw [hsz] at W
  have inr : ∀ (j : Nat) T, vs[j]? = some (.ref T) → T ∈ refsOf vs := fun j T h => List.mem_filterMap.mpr ⟨_, List.mem_of_getElem? h, rfl⟩
  have notI : ∀ T, T ∈ refsOf vs → T ∉ [I] := fun T h e => hI (List.mem_singleton.mp e ▸ h)
  have up : ∀ (h h' : Heap), (∀ b o, b ∉ [I] → h.get? b = some o → h'.get? b = some o) → (∀ (j : Nat) T, vs[j]? = some (.ref T) → ∃ xs, Pt j xs ∧ h.IsTuple T xs) → ∀ (j : Nat) T, vs[j]? = some (.ref T) → ∃ xs, Pt j xs ∧ h'.IsTuple T xs := fun h h' hk st j T hj => by
    obtain ⟨xs, hp, ht⟩ := st j T hj
    exact ⟨xs, hp, ht.at fun o e => hk T o (notI T (inr j T hj)) e⟩
  constructor
  · intro b hb
    rw [List.mem_singleton.mp hb]
    exact List.mem_cons_self
  · intro i h h' st hk
    refine ⟨W.frame i h h' st.1 fun b hb o e => hk b ?_ o e, fun j T hj => ?_⟩
    · rcases List.mem_cons.mp hb with rfl | hb
      · exact .head _
      · rw [List.mem_singleton.mp hb]
        exact .tail _ (.head _)
    · obtain ⟨xs, hp, ht⟩ := st.2 j T hj
      exact ⟨xs, hp, ht.at fun o e => hk T (.tail _ (.tail _ (inr j T hj))) o e⟩
  · intro i s Q E hi st hQ
    refine W.item i s Q E hi st.1 fun v h' tk hv st' hk => ?_
    have hv' : vs[i]? = some v := by simpa using hv
    obtain ⟨T, rfl⟩ := hr i v hv'
    have ups := up _ _ hk st.2
    obtain ⟨xs, hp, ht⟩ := ups i T hv'
    exact hQ T xs h' tk hp ht ⟨inr i T hv', st', ups⟩ hk
  · intro elts k pos i T s Q E hm hQ
    exact letGo_listiter hm.2.1.1 (hQ s.heap hm.2 fun _ _ _ e => e)
  · intro i T h hm
    exact notI T hm.1
  · intro s Q E st hQ
    exact W.done s Q E st.1 hQ
  · intro i s Q E st hQ
    exact W.self i s Q E st.1 hQ
section
variable {prog : Program} {w : World} {A : Around} {E : Value → Shared → Prop} {s : Shared} {h₀ : Heap} {L : Addr} {m : Str → Option Value} {base : Led}
/-- the iterator of a list of the ledger that holds tuples of the ledger -/
theorem tups_go {l : Addr} {vs : List Value} {ep : Nat} (Pt : Nat → Array Value → Prop) {Q : Value → Shared → Prop} (hh : A.handled = none) (F : Fr h₀ L s.heap m) (N : News h₀ L s.heap base) (hm : (l, listOf vs.toArray ep) ∈ base)
    (ht : ∀ (i : Nat) v, vs[i]? = some v → ∃ T xs n, v = .ref T ∧ (T, ({ cls := .type "tuple", data := .seq (List.toArray xs) n } : Obj)) ∈ base ∧ Pt i xs.toArray)
    (k : ∀ I fp wr St Mid h', WalksU prog w A I fp wr vs.length Pt St Mid → (∀ b ∈ fp, h₀.get? b = none) → St 0 h' → (∀ b ∈ fp, b < h'.objs.size) → L ∉ fp → (∀ p ∈ base, p.1 ∉ wr) → Fr h₀ L h' m → News h₀ L h' base → Q (.ref I) { s with heap := h' }) :
    wpAny (model prog w) A (pyIter (.ref l)) Q E s := by
  have hls : s.heap.IsList l vs.toArray := News.isList N hm
  have hlt : l < s.heap.objs.size := Heap.lt_size (N _ hm).1
  have inb : ∀ T ∈ refsOf vs, ∃ o, (T, o) ∈ base := fun T hT => by
    obtain ⟨v, hv, e⟩ := List.mem_filterMap.mp hT
    obtain ⟨i, hi⟩ := List.getElem?_of_mem hv
    obtain ⟨T', xs, n, rfl, hx, _⟩ := ht i v hi
    cases e
    exact ⟨_, hx⟩
  refine wpAny_pyIter_list hls ?_
  have up : ∀ b o, s.heap.get? b = some o → (s.heap.push { cls := .type "list_iterator", data := .fields #[.ref l, rawInt 0] }).get? b = some o := fun b o e => Heap.get?_push_of_some _ e
  have hsz := Heap.size_push s.heap { cls := .type "list_iterator", data := .fields #[.ref l, rawInt 0] }
  have hnew := Heap.get?_push_size s.heap (o := { cls := .type "list_iterator", data := .fields #[.ref l, rawInt 0] }) rfl
  refine k s.heap.objs.size _ _ _ _ _ (walksU_list hh s.heap.objs.size l (Nat.ne_of_lt hlt) vs Pt ?_ ?_) ?_ ⟨⟨⟨_, hnew, rfl, rfl⟩, hls.at fun o e => up _ o e⟩, ?_⟩ ?_ ?_ ?_ (F.push _) (fun p hp => ⟨up _ _ (N p hp).1, (N p hp).2⟩)
  · intro hI
    obtain ⟨xs, hx⟩ := inb _ hI
    exact absurd (Heap.lt_size (N _ hx).1) (Nat.lt_irrefl _)
  · intro j v hv
    obtain ⟨T, xs, n, e, _⟩ := ht j v hv
    exact ⟨T, e⟩
  · intro b hb
    rcases List.mem_cons.mp hb with rfl | hb
    · exact next_is_new F
    rcases List.mem_cons.mp hb with rfl | hb
    · exact (N _ hm).2.2
    · obtain ⟨xs, hx⟩ := inb _ hb
      exact (N _ hx).2.2
  · intro j T hj
    obtain ⟨T', xs, n, e, hx, hp⟩ := ht j _ hj
    cases e
    have hT : s.heap.IsTuple T xs.toArray := ⟨_, (N _ hx).1, rfl, n, rfl⟩
    exact ⟨xs.toArray, hp, hT.at fun o e => up _ o e⟩
  · intro b hb
    refine Nat.lt_of_lt_of_eq ?_ hsz.symm
    rcases List.mem_cons.mp hb with rfl | hb
    · exact Nat.lt_succ_self _
    rcases List.mem_cons.mp hb with rfl | hb
    · exact Nat.lt_succ_of_lt hlt
    · obtain ⟨xs, hx⟩ := inb _ hb
      exact Nat.lt_succ_of_lt (Heap.lt_size (N _ hx).1)
  · intro hL
    rcases List.mem_cons.mp hL with e | hL
    · exact absurd F.ns.lt (e ▸ Nat.lt_irrefl _)
    rcases List.mem_cons.mp hL with e | hL
    · exact (N _ hm).2.1 e.symm
    · obtain ⟨xs, hx⟩ := inb _ hL
      exact (N _ hx).2.1 rfl
  · intro p hp hI
    exact absurd (Heap.lt_size (N p hp).1) ((List.mem_singleton.mp hI) ▸ Nat.lt_irrefl _)
end
end Mine
end
section
open PySem PySem.W PyProof.Rows PySem.Spec
namespace Mine
open PySem.StrLaws PySem.Builtin PySem.Builtin.Str
theorem at_char {x y : Str} {c : Nat} {t : List Nat} {k hi : Nat} (hy : y.cps.toList = c :: t) (h : StrLaws.At x y hi k) : x.cps.toList[k]? = some c := by
  have h2 := h.2
  rw [subAt_eq] at h2
  have h3 := eq_of_beq h2
  rw [hy] at h3
  have hl : y.length = t.length + 1 := by
    show y.cps.size = _
    rw [← Array.length_toList, hy]
    rfl
  rw [hl] at h3
  have h4 : (List.take (t.length + 1) (List.drop k x.cps.toList))[0]? = some c := by rw [h3]; rfl
  rw [List.getElem?_take_of_lt (Nat.succ_pos _), List.getElem?_drop] at h4
  exact h4
theorem parts_of (x y : Str) (c : Nat) (t : List Nat) (hy : y.cps.toList = c :: t) : ∀ (ws : List Str) (a : Nat) (cuts : List Nat) (f : Nat), (∀ w ∈ ws, c ∉ w.cps.toList) → ws ≠ [] → x.cps.toList.drop a = (Str.join y ws).cps.toList → a ≤ x.length →
    ChainG x y x.length a cuts f → (∀ k, f ≤ k → ¬ StrLaws.At x y x.length k) → partsFrom x y.length a cuts = ws
  | [], _, _, _, _, hne, _, _, _, _ => absurd rfl hne
  | [w], a, cuts, f, hc, _, hd, ha, hG, hn => by
    have hX : x.cps.toList.length = x.length := by simp [Str.length]
    have hd' : x.cps.toList.drop a = w.cps.toList := hd
    cases cuts with
    | nil =>
      show [strSub x a x.length] = [w]
      congr 1
      apply Str.ext'
      apply Array.toList_inj.mp
      rw [strSub_toList, hd']
      apply List.take_of_length_le
      rw [← hd', List.length_drop, hX]
      exact Nat.le_refl _
    | cons k r =>
      have e := at_char hy hG.2.1
      have e2 : (x.cps.toList.drop a)[k - a]? = some c := by
        rw [List.getElem?_drop, Nat.add_sub_cancel' hG.1]
        exact e
      rw [hd'] at e2
      exact absurd (List.mem_of_getElem? e2) (hc w (.head _))
  | w :: w2 :: r, a, cuts, f, hc, _, hd, ha, hG, hn => by
    have hX : x.cps.toList.length = x.length := by simp [Str.length]
    have hyl : y.cps.toList.length = y.length := by simp [Str.length]
    have hwl : w.cps.toList.length = w.length := by simp [Str.length]
    have hd' : x.cps.toList.drop a = w.cps.toList ++ (y.cps.toList ++ (Str.join y (w2 :: r)).cps.toList) := by
      rw [hd]
      show ((w ++ y) ++ Str.join y (w2 :: r)).cps.toList = _
      simp only [Str.cps_append, Array.toList_append, List.append_assoc]
    have hdp : x.cps.toList.drop (a + w.length) = y.cps.toList ++ (Str.join y (w2 :: r)).cps.toList := by
      rw [← List.drop_drop, hd', ← hwl, List.drop_left]
    have hlen := congrArg List.length hd'
    rw [List.length_drop, List.length_append, List.length_append, hX, hwl, hyl] at hlen
    have hAt : StrLaws.At x y x.length (a + w.length) := by
      refine ⟨by omega, ?_⟩
      rw [subAt_eq, hdp, ← hyl, List.take_left]
      exact beq_self_eq_true _
    cases cuts with
    | nil =>
      have e : f = a := hG
      exact absurd hAt (hn _ (by omega))
    | cons k r' =>
      obtain ⟨h1, h2, h3, h4⟩ := hG
      have hk : k = a + w.length := by
        rcases Nat.lt_trichotomy k (a + w.length) with hlt | e | hgt
        · have e := at_char hy h2
          have e2 : (x.cps.toList.drop a)[k - a]? = some c := by
            rw [List.getElem?_drop, Nat.add_sub_cancel' h1]
            exact e
          rw [hd', List.getElem?_append_left (by omega)] at e2
          exact absurd (List.mem_of_getElem? e2) (hc w (.head _))
        · exact e
        · exact absurd hAt (h3 _ (by omega) hgt)
      subst hk
      show strSub x a (a + w.length) :: partsFrom x y.length (a + w.length + y.length) r' = _
      have e1 : strSub x a (a + w.length) = w := by
        apply Str.ext'
        apply Array.toList_inj.mp
        rw [strSub_toList, hd', Nat.add_sub_cancel_left, ← hwl, List.take_left]
      rw [e1, parts_of x y c t hy (w2 :: r) (a + w.length + y.length) r' f (fun z hz => hc z (.tail _ hz)) (by simp) ?_ (by omega) h4 hn]
      rw [← List.drop_drop, hdp, ← hyl, List.drop_left]
theorem split_join {y : Str} {c : Nat} {t : List Nat} (hy : y.cps.toList = c :: t) (hk : PySem.Builtin.Str.strKind y = 1) (ws : List Str) (hc : ∀ w ∈ ws, c ∉ w.cps.toList) (hne : ws ≠ []) : Txt.split (Txt.join y ws) y = ws := by
  have hj : Txt.join y ws = Str.join y ws := glued_eq_join _ _
  rw [hj]
  generalize hx : Str.join y ws = x
  have hyl : y.length = t.length + 1 := by
    show y.cps.size = _
    rw [← Array.length_toList, hy]
    rfl
  obtain ⟨f, hG, hn⟩ := occ_tight x y (by omega)
  have key := parts_of x y c t hy ws 0 _ f hc hne (by rw [hx]; rfl) (Nat.zero_le _) hG hn
  unfold Txt.split
  split
  · rename_i h
    rw [Bool.or_eq_true, decide_eq_true_eq, decide_eq_true_eq] at h
    rcases h with h | h
    · match ws, hne, hx with
      | [w], _, hx => exact congrArg (fun z => [z]) hx.symm
      | w :: w2 :: r, _, hx =>
        have e : ((w ++ y) ++ Str.join y (w2 :: r)).length = x.length := congrArg Str.length hx
        rw [Str.length_append, Str.length_append] at e
        omega
    · rw [hk] at h
      unfold PySem.Builtin.Str.strKind at h
      split at h
      · omega
      · split at h <;> omega
  · split
    · rename_i he
      have e0 : occurrences x y 0 x.length (x.length + 1) = [] := List.isEmpty_iff.mp he
      rw [e0] at key
      rw [← key]
      show [x] = [strSub x 0 x.length]
      rw [sub_whole]
    · rw [partsBetween_eq]
      exact key
end Mine
end
section
open PySem PySem.W PyProof.Rows PySem.Spec
set_option maxRecDepth 100000
namespace Mine
theorem name_arg {prog : Program} {w : World} {A : Around} {E : Value → Shared → Prop} {s : Shared} {f : Value} {v : Int} {t : Tok} {Q : Value → Shared → Prop} (P : Int → Prop) (hv : P v)
    (h : ∀ z, v = z → P z → wpAny (model prog w) A (call f [.int z t]) Q E s) : wpAny (model prog w) A (call f [.int v t]) Q E s := h v rfl hv
theorem fmod_b (x : Int) : 0 ≤ x.fmod 29 ∧ x.fmod 29 ≤ 28 := by
  rw [Int.fmod_eq_emod_of_nonneg _ (by decide)]
  omega
/-- the words of the mask m -/
def wordsV (b m : Nat) : List Str := if pickV m.testBit = [] then [Str.ofString "0x0"] else dueN b (pickV m.testBit)
def wordsD (b : Nat) (k : Int) : Dat := .list ((wordsV b k.toNat).map Dat.str)
def masksV (ns : List Int) : List Int := (ns.take 3).map (fun k => k.fmod 16) ++ [2, 10, 4]
theorem masks_b {ns : List Int} {k : Int} (h : k ∈ masksV ns) : ∃ m : Nat, k = (m : Int) ∧ m < 16 := by
  have hb : 0 ≤ k ∧ k < 16 := by
    unfold masksV at h
    rcases List.mem_append.mp h with h | h
    · obtain ⟨x, _, rfl⟩ := List.mem_map.mp h
      rw [Int.fmod_eq_emod_of_nonneg _ (by decide)]
      omega
    · simp at h
      omega
  exact ⟨k.toNat, by omega, by omega⟩
theorem masks_len (ns : List Int) : (masksV ns).length ≤ 6 := by
  unfold masksV
  rw [List.length_append, List.length_map, List.length_take]
  simp
  omega
theorem flags_words : ∀ b, b < 29 → ∀ m, m < 16 → flagsV (m * 2 ^ b) = wordsV b m := by decide +kernel
theorem words_plain : ∀ b, b < 29 → ∀ m, m < 16 → (∀ x ∈ wordsV b m, 44 ∉ x.cps.toList) ∧ wordsV b m ≠ [] := by decide +kernel
theorem split_law (b : Nat) (hb : b < 29) (m : Nat) (hm : m < 16) : Txt.split (Txt.join (Str.ofString ", ") (flagsV (m * 2 ^ b))) (Str.ofString ", ") = wordsV b m := by
  rw [flags_words b hb m hm]
  exact split_join (c := 44) (t := [32]) (by decide +kernel) (by decide +kernel) _ (words_plain b hb m hm).1 (words_plain b hb m hm).2
theorem text_len : ∀ b, b < 29 → ∀ m, m < 16 → (Txt.join (Str.ofString ", ") (flagsV (m * 2 ^ b))).length ≤ 1000 := by decide +kernel
theorem mask_lt : ∀ b, b < 29 → ∀ m, m < 16 → m * 2 ^ b < 4294967296 := by decide +kernel
theorem words_ok : ∀ b, b < 29 → ∀ m, m < 16 → ∀ x ∈ wordsV b m, PyData.strOk x = true := by decide +kernel
theorem names_ok : ∀ b, b < 29 → ∀ x ∈ namesV b, PyData.strOk x = true := by decide +kernel
theorem words_bit : ∀ b, b < 29 → ∀ m, m < 16 → ∀ i, i < 4 → m.testBit i = decide (nmV (b + i) ∈ wordsV b m) := by decide +kernel
theorem words_has {b m : Nat} (hb : b < 29) (hm : m < 16) (i : Nat) (x : Str) (h : (namesV b)[i]? = some x) : m.testBit i = true ↔ x ∈ wordsV b m := by
  have hi : i < 4 := by
    have := (List.getElem?_eq_some_iff.mp h).1
    simpa [namesV] using this
  rw [names_at hi] at h
  cases h
  rw [words_bit b hb m hm i hi, decide_eq_true_eq]
theorem wordsD_ok {b m : Nat} (hb : b < 29) (hm : m < 16) : kqdOk 8 (.list ((wordsV b m).map Dat.str)) = true := by
  unfold kqdOk
  rw [List.all_eq_true]
  intro d hd
  obtain ⟨x, hx, rfl⟩ := List.mem_map.mp hd
  unfold kqdOk
  exact words_ok b hb m hm x hx
section
variable {prog : Program} {w : World} {A : Around} {E : Value → Shared → Prop} {s : Shared} {Q : Value → Shared → Prop}
theorem shl_mask {m b : Nat} {t u : Tok} (hm : m < 16) (hb : b < 29) (h : Q (.int ((m * 2 ^ b : Nat) : Int) s.toks) { s with toks := s.toks + 1 }) : wpAny (model prog w) A (binaryOp .LShift (.int (m : Int) t) (.int (b : Int) u)) Q E s := by
  refine lshift_int_small (by omega) (by omega) (by omega) ?_
  have e : (m : Int) * 2 ^ ((b : Int)).toNat = ((m * 2 ^ b : Nat) : Int) := by rw [Int.toNat_natCast]; push_cast; rfl
  rw [e]
  exact h
theorem shr_mask {m j : Nat} {n : Int} {t u : Tok} (hn : n = (j : Int)) (h : Q (.int ((m / 2 ^ j : Nat) : Int) s.toks) { s with toks := s.toks + 1 }) : wpAny (model prog w) A (binaryOp .RShift (.int (m : Int) t) (.int n u)) Q E s := by
  subst hn
  refine rshift_int (by omega) ?_
  have e : (m : Int).fdiv (2 ^ ((j : Int)).toNat) = ((m / 2 ^ j : Nat) : Int) := by
    have e2 : (2 : Int) ^ j = ((2 ^ j : Nat) : Int) := by push_cast; rfl
    rw [Int.toNat_natCast, e2, Int.fdiv_eq_ediv_of_nonneg _ (Int.natCast_nonneg _)]
    rfl
  rw [e]
  exact h
theorem and_one {m j : Nat} {t u : Tok} (h1 : m.testBit j = true → Q (.int 1 s.toks) { s with toks := s.toks + 1 }) (h0 : m.testBit j = false → Q (.int 0 s.toks) { s with toks := s.toks + 1 }) :
    wpAny (model prog w) A (binaryOp .BitAnd (.int ((m / 2 ^ j : Nat) : Int) t) (.int 1 u)) Q E s := by
  refine and_int ?_
  have e : Builtin.bitAnd ((m / 2 ^ j : Nat) : Int) 1 = ((m / 2 ^ j % 2 : Nat) : Int) := by
    rw [bitAnd_pp (Int.natCast_nonneg _) (by decide), Int.toNat_natCast]
    show (((m / 2 ^ j) &&& 1 : Nat) : Int) = _
    rw [Nat.and_one_is_mod]
  rw [e]
  have hb := Nat.testBit_eq_decide_div_mod_eq (x := m) (i := j)
  cases z : m.testBit j
  · rw [z] at hb
    have : m / 2 ^ j % 2 = 0 := by
      have := of_decide_eq_false hb.symm
      omega
    rw [this]
    exact h0 z
  · rw [z] at hb
    have : m / 2 ^ j % 2 = 1 := of_decide_eq_true hb.symm
    rw [this]
    exact h1 z
end
theorem split_led {prog : Program} {w : World} {A : Around} {E : Value → Shared → Prop} {s : Shared} {h₀ : Heap} {L : Addr} {m : Str → Option Value} {news : Led} {x y : Str} {t u : Tok} {W : List Str} {Q : Value → Shared → Prop} (F : Fr h₀ L s.heap m) (N : News h₀ L s.heap news) (hy : (y.length == 0) = false) (hsz : x.length + 2 ≤ sizeLine) (hW : Txt.split x y = W)
    (h : ∀ D vs h' k, StrsAre vs W → Fr h₀ L h' m → News h₀ L h' ((D, listOf (List.toArray vs) 0) :: news) → (∀ p ∈ news, p.1 < D) → Q (.ref D) { s with heap := h', toks := k }) :
    wpAny (model prog w) A (call (.builtin "str.split") [.str x t, .str y u]) Q E s := by
  refine splitN1A F N hy (fun l h' k hl hs _ _ F' N' => h _ (strValues l) h' k ?_ F' N' fun p hp => Heap.lt_size (N p hp).1) hsz
  rw [← hW, ← hl]
  exact hs
section
variable {prog : Program} {w : World} {A : Around} {E : Value → Shared → Prop} {s : Shared} {h₀ : Heap} {L : Addr} {m : Str → Option Value} {news : Led}
theorem last_led {value slice : PySem.Expr} {l : Addr} {vs : List Value} {v : Value} {ep : Nat} {u : Tok} {Q : Value → Shared → Prop} (N : News h₀ L s.heap news) (hm : (l, listOf (vs.toArray.push v) ep) ∈ news) (h : Q v s)
    (hs : subscripted slice false (.ref l) (.int (-1) u) = operate [.ref l, .int (-1) u] (getItem (.ref l) (.int (-1) u)) := by with_unfolding_all rfl) :
    wpAny (model prog w) A (subscriptTail value slice (.ref l) (.int (-1) u)) Q E s := by
  have hl : s.heap.IsList l (vs ++ [v]).toArray := by
    have := News.isList N hm
    simpa using this
  refine kde_neg (j := vs.length) hl (by decide) (by decide) ?_ (by simp) h hs
  rw [List.length_append, List.length_singleton]
  unfold seqIndex?
  simp
  omega
theorem truthy_led {l : Addr} {vs : List Value} {ep : Nat} {b : Bool} {Q : Bool → Shared → Prop} (N : News h₀ L s.heap news) (hm : (l, listOf vs.toArray ep) ∈ news) (hsz : vs.length ≤ 1000000) (hb : (!vs.isEmpty) = b) (h : ∀ k, Q b { s with toks := k }) :
    wpAny (model prog w) A (truthy (.ref l)) Q E s := by
  refine wpAny_truthy_list (News.isList N hm) (by rw [List.size_toArray]; omega) ?_
  have e : (!vs.toArray.isEmpty) = b := by rw [← hb]; simp
  rw [e]
  exact h _
/-- a datum has been made, nothing that was told has turned -/
def DatPost (h₀ : Heap) (L : Addr) (m : Str → Option Value) (base : Led) (d : Dat) (s₁ : Shared) (v : Value) (s₂ : Shared) : Prop :=
  ∃ l nw h' tk', v = .ref l ∧ s₂ = { s₁ with heap := h', toks := tk' } ∧ DatIn nw (.ref l) d ∧ (∀ p ∈ base, p ∈ nw) ∧ Fr h₀ L h' m ∧ News h₀ L h' nw
theorem DatPost.intro {base nw : Led} {d : Dat} {s₁ : Shared} {l : Addr} {h' : Heap} {tk' : Tok} (hd : DatIn nw (.ref l) d) (hs : ∀ p ∈ base, p ∈ nw) (F : Fr h₀ L h' m) (N : News h₀ L h' nw) :
    DatPost h₀ L m base d s₁ (.ref l) { s₁ with heap := h', toks := tk' } := ⟨l, nw, h', tk', rfl, rfl, hd, hs, F, N⟩
theorem cut_dat {e : PySem.Expr} {env : Env} {Q : Value → Shared → Prop} {base : Led} (_F : Fr h₀ L s.heap m) (_N : News h₀ L s.heap base) (d : Dat)
    (h1 : wpAny (model prog w) A (eval e env) (DatPost h₀ L m base d s) E s)
    (h2 : Hold (∀ l nw h' tk', DatIn nw (.ref l) d → (∀ p ∈ base, p ∈ nw) → Fr h₀ L h' m → News h₀ L h' nw → Q (.ref l) { s with heap := h', toks := tk' })) :
    wpAny (model prog w) A (eval e env) Q E s := by
  refine wpAny_mono h1 (fun v s₂ h => ?_) fun _ _ e => e
  obtain ⟨l, nw, h', tk', rfl, rfl, hd, hs, F, N⟩ := h
  exact h2 l nw h' tk' hd hs F N
end
theorem fm_words (b m : Nat) : ((List.range 4).filterMap fun i : Nat => if m.testBit i then some (Dat.str (nmV (b + i))) else none) = (dueN b (pickV m.testBit)).map Dat.str := by
  have h : List.range 4 = [0, 1, 2, 3] := rfl
  unfold dueN pickV
  rw [h]
  cases h0 : m.testBit 0 <;> cases h1 : m.testBit 1 <;> cases h2 : m.testBit 2 <;> cases h3 : m.testBit 3 <;> simp [List.filterMap, List.filter, h0, h1, h2, h3]
theorem due_some {b : Nat} {l : List Nat} : dueN b l = [] ↔ l = [] := by
  unfold dueN
  simp
theorem pick_len (q : Nat → Bool) : (pickV q).length ≤ 4 := by
  have h := pickI_len q
  unfold pickI at h
  rwa [List.length_map] at h
theorem pick_tail (vs : List Value) : (slicePick vs.toArray (some 1) none none).toList = vs.drop 1 := by
  have e : sliceBounds (some 1) none none vs.toArray.size = (((min 1 vs.toArray.size : Nat) : Int), ((vs.toArray.size : Nat) : Int), 1) := by
    simp only [sliceBounds, Option.getD_none, show (1 : Int) > 0 by decide, if_true, if_neg (show ¬ ((1 : Int) < 0) by decide)]
    congr 1
    omega
  rw [kmk_pick_nat _ e]
  show (vs.drop (min 1 vs.toArray.size)).take (vs.toArray.size - min 1 vs.toArray.size) = _
  rw [List.size_toArray, kmk_drop_min, List.take_of_length_le (by rw [List.length_drop]; omega)]
theorem tail_led {prog : Program} {w : World} {A : Around} {E : Value → Shared → Prop} {s : Shared} {h₀ : Heap} {L : Addr} {m : Str → Option Value} {news : Led} {value slice : PySem.Expr} {l : Addr} {vs : List Value} {ep : Nat} {t : Tok} {Q : Value → Shared → Prop} (F : Fr h₀ L s.heap m) (N : News h₀ L s.heap news) (hm : (l, listOf vs.toArray ep) ∈ news) (hz : vs.length ≤ 1000000)
    (h : ∀ D h', Fr h₀ L h' m → News h₀ L h' ((D, listOf (List.toArray (vs.drop 1)) 0) :: news) → (∀ p ∈ news, p.1 < D) → Q (.ref D) { s with heap := h' })
    (hs : subscripted slice false (.ref l) (.ref s.heap.objs.size) = operate [.ref s.heap.objs.size, .ref l] (getItem (.ref l) (.ref s.heap.objs.size)) := by with_unfolding_all rfl) (ht : ∀ r, letTemporaryGo value (.ref l) r = pure () := by intro _; with_unfolding_all rfl) :
    wpAny (model prog w) A (subscriptTail value slice (.ref l) (.ref s.heap.objs.size)) Q E { s with heap := s.heap.push { cls := .type "slice", data := .fields #[.int 1 t, .none, .none] } } :=
  kmk_slice_lit F N (News.isList N hm) (IsPart.int 1 t) IsPart.none (pick_tail vs) h hs ht (by rw [List.size_toArray, PySem.sizeLine_eq]; omega)
theorem ne2 {a b z : Str} (h : [a, b].contains z = false) : z ≠ a ∧ z ≠ b := by
  refine ⟨?_, ?_⟩ <;> intro e <;> subst e <;> simp at h
structure LwS where
  vs : List Value
  ep : Nat
  om : Obj
  rest : Led
structure LwI (base : Led) (lt cm : Addr) (b : Nat) (M : List Int) (i : Nat) (c : LwS) : Prop where
  hs : ∀ p ∈ base, p ∈ c.rest
  hd : DatAll c.rest c.vs ((M.take i).map (wordsD b))
  hc : ∃ v, c.om.data = Data.cell v
  hn1 : AllNe lt c.rest
  hn2 : AllNe cm c.rest
end Mine
end
section
open PySem PySem.W PyProof.Rows PySem.Spec
namespace Mine
def TurnS {σ : Type} (Ld : σ → Led) (Inv : Nat → σ → Prop) (h₀ : Heap) (L I : Addr) (oI : Obj) (m : Str → Option Value) (stored : List Str) (i : Nat) (s₁ : Shared) (Q : Flow → Shared → Prop) (f : Flow) (s₂ : Shared) : Prop :=
  match f with
  | .ret v => Q (.ret v) s₂
  | .brk => Q .next s₂
  | _ => ∃ c h' tk m', s₂ = { s₁ with heap := h', toks := tk } ∧ Fr h₀ L h' m' ∧ News h₀ L h' ((I, oI) :: Ld c) ∧ AllNe I (Ld c) ∧ Inv (i + 1) c ∧ ∀ z, stored.contains z = false → m' z = m z
section
variable {prog : Program} {w : World} {A : Around} {E : Value → Shared → Prop} {s : Shared} {env : Env} {h₀ : Heap} {target : PySem.Expr} {body : List Stmt} {Q : Flow → Shared → Prop}
theorem TurnS.goes {σ : Type} {Ld : σ → Led} {Inv : Nat → σ → Prop} {L I : Addr} {oI : Obj} {m m' : Str → Option Value} {stored : List Str} {i : Nat} {s₁ : Shared} {h' : Heap} {tk : Nat} {nw : Led} (c : σ) (F : Fr h₀ L h' m') (N : News h₀ L h' nw) (hs : ∀ p ∈ (I, oI) :: Ld c, p ∈ nw)
    (hof : AllNe I (Ld c)) (hi : Inv (i + 1) c) (hm : ∀ z, stored.contains z = false → m' z = m z) : TurnS Ld Inv h₀ L I oI m stored i s₁ Q .next { s₁ with heap := h', toks := tk } := ⟨c, h', tk, m', rfl, F, fun p hp => N p (hs p hp), hof, hi, hm⟩
theorem turns_listS {σ : Type} {l : Addr} {vs : List Value} {ep : Nat} {m : Str → Option Value} (Ld : σ → Led) (Inv : Nat → σ → Prop) (stored : List Str) (c₀ : σ)
    (hh : A.handled = none) (hl : ∀ i c, Inv i c → (l, listOf vs.toArray ep) ∈ Ld c) (F : Fr h₀ env.locals s.heap m) (N : News h₀ env.locals s.heap (Ld c₀)) (h0 : Inv 0 c₀)
    (turn : Hold (∀ (i : Nat) (v : Value) (c : σ) (u : Str → Option Value) I oI h tk, vs[i]? = some v → Inv i c → AllNe I (Ld c) → Fr h₀ env.locals h (fun z => if stored.contains z then u z else m z) → News h₀ env.locals h ((I, oI) :: Ld c) →
      wpAny (model prog w) A (assign target env v) (fun _ s₃ => wpAny (model prog w) A (execs body env) (TurnS Ld Inv h₀ env.locals I oI m stored i { s with heap := h, toks := tk } Q) E s₃) E { s with heap := h, toks := tk }))
    (done : Hold (∀ c (u : Str → Option Value) h tk, Inv vs.length c → Fr h₀ env.locals h (fun z => if stored.contains z then u z else m z) → News h₀ env.locals h (Ld c) → Q .next { s with heap := h, toks := tk })) :
    wpAny (model prog w) A (pyIter (.ref l)) (fun it s₂ => TurnsAt prog w A h₀ env target body Q E it s₂) E s := by
  have fr : ∀ (u : Str → Option Value), (∀ z, stored.contains z = false → u z = m z) → u = fun z => if stored.contains z then u z else m z := fun u hu => by
    funext z
    cases e : stored.contains z with
    | true => simp
    | false => simp [hu z e]
  have hl0 := hl 0 c₀ h0
  have hls : s.heap.IsList l vs.toArray := News.isList N hl0
  have hlt : l < s.heap.objs.size := Heap.lt_size (N _ hl0).1
  have hLl : env.locals ≠ l := fun e => (N _ hl0).2.1 e.symm
  have hsz : vs.toArray.size = vs.length := List.size_toArray
  have W := Walks.list (prog := prog) (w := w) hh s.heap.objs.size l (Nat.ne_of_lt hlt) vs.toArray
  rw [hsz] at W
  refine wpAny_pyIter_list hls ?_
  refine ⟨s.heap.objs.size, _, _, _, _, _, _, m, Ld c₀, fun i u nw => ∃ c, nw = Ld c ∧ Inv i c ∧ ∀ z, stored.contains z = false → u z = m z, rfl, KTurns.ofWalks W fun i v s Q E st q => letGo_listiter st.1 q, ?_, ?_, ?_,
    ⟨⟨_, Heap.get?_push_size _ rfl, rfl, rfl⟩, hls.at fun o e => Heap.get?_push_of_some _ e⟩, F.push _, fun p hp => ⟨Heap.get?_push_of_some _ (N p hp).1, (N p hp).2⟩, ⟨c₀, rfl, h0, fun _ _ => rfl⟩, ?_, ?_⟩
  · intro hI
    rcases List.mem_cons.mp hI with e | hI
    · exact absurd F.ns.lt (e ▸ Nat.lt_irrefl _)
    · exact hLl (List.mem_singleton.mp hI)
  · intro b hb
    rw [List.mem_singleton.mp hb]
    exact next_is_new F
  · intro p hp hI
    exact absurd (Heap.lt_size (N p hp).1) ((List.mem_singleton.mp hI) ▸ Nat.lt_irrefl _)
  · rintro i v u nw h tk own hi hP ⟨c, rfl, hc, hu⟩ hoff hown hget hlive st F₁ N₁
    rw [fr u hu] at F₁
    obtain ⟨oI, hoI, _⟩ := st.1
    have hIo : (s.heap.objs.size, oI) ∈ own := hlive _ (.head _) (next_is_new F) oI hoI
    have N₂ : News h₀ env.locals h ((s.heap.objs.size, oI) :: Ld c) := fun p hp => N₁ p (by
      rcases List.mem_cons.mp hp with rfl | hp
      · exact List.mem_append_left _ hIo
      · exact List.mem_append_right _ hp)
    have hoff' : AllNe s.heap.objs.size (Ld c) := allNe_iff.mpr fun q hq e => hoff q hq (by rw [e]; exact List.mem_singleton.mpr rfl)
    refine wpAny_mono (turn i v c u s.heap.objs.size oI h tk (by simpa using hP) hc hoff' F₁ N₂) (fun _ s₃ h₃ => wpAny_mono h₃ (fun f s₄ h₄ => ?_) fun _ _ e => e) fun _ _ e => e
    have fin : (∃ c' h' tk' m', s₄ = { ({ s with heap := h, toks := tk } : Shared) with heap := h', toks := tk' } ∧ Fr h₀ env.locals h' m' ∧ News h₀ env.locals h' ((s.heap.objs.size, oI) :: Ld c') ∧ AllNe s.heap.objs.size (Ld c') ∧ Inv (i + 1) c' ∧ ∀ z, stored.contains z = false → m' z = m z) →
        LoopStepU h₀ env.locals [s.heap.objs.size] own (fun (u : Str → Option Value) (nw' : Led) => ∃ c, nw' = Ld c ∧ Inv (i + 1) c ∧ ∀ z, stored.contains z = false → u z = m z) { s with heap := h, toks := tk } .next s₄ := by
      rintro ⟨c', h', tk', m', e, F', N', ho', hi', hm⟩
      refine ⟨rfl, h', tk', m', Ld c', e, F', ?_, fun p hp hq => allNe_iff.mp ho' p hp (List.mem_singleton.mp hq), c', rfl, hi', hm⟩
      intro p hp
      rcases List.mem_append.mp hp with hp | hp
      · have hg := hget p hp
        rcases List.mem_cons.mp (hown p hp) with e1 | e1
        · have e2 : p = (s.heap.objs.size, oI) := by
            obtain ⟨a, b⟩ := p
            have e1' : a = s.heap.objs.size := e1
            dsimp only at hg
            rw [e1', hoI] at hg
            rw [e1', Option.some.inj hg]
          rw [e2]
          exact N' _ (.head _)
        · have e3 := List.mem_singleton.mp e1
          have e2 : p = (l, listOf vs.toArray ep) := by
            obtain ⟨a, b⟩ := p
            have e3' : a = l := e3
            have hg2 := (N₂ _ (.tail _ (hl i c hc))).1
            dsimp only at hg hg2
            rw [e3', hg2] at hg
            rw [e3', Option.some.inj hg]
          rw [e2]
          exact N' _ (.tail _ (hl _ c' hi'))
      · exact N' p (.tail _ hp)
    cases f with
    | ret v => exact .ret h₄
    | brk => exact .brk h₄
    | next => exact .next (fin h₄)
    | cont => exact .cont (fin h₄)
  · rintro h tk u nw F' N' _ ⟨c, rfl, hc, hu⟩
    rw [fr u hu] at F'
    exact done c u h tk hc F' N'
end
end Mine
end
section
open PySem PySem.W PyProof.Rows
set_option maxRecDepth 100000
set_option maxHeartbeats 8000000
namespace Mine
local macro_rules | `(tactic| walk_at $s:str) => `(tactic| (k_here; k_extra $s))
local macro_rules | `(tactic| k_all) => `(tactic| first | exact List.forall_mem_nil _ | (refine' List.forall_mem_cons.mpr ⟨?a, ?b⟩; (case a => k_ne); (case b => k_all)) | exact allLt_mem (by first | assumption | (simp only [*]; done)) | exact allNe_iff.mp (by assumption) | exact kall_lt9 (by assumption) (by omega))
local macro_rules | `(tactic| k_ne) => `(tactic| (refine neN ?_; (try dsimp only); first | omega | exact news_ne (by assumption) (by k_mem) (by k_mem) (by dsimp only [dictOf, W.listOf, instObj]; decide) | exact (news_ne (by assumption) (by k_mem) (by k_mem) (by dsimp only [dictOf, W.listOf, instObj]; decide)).symm | exact ne_cell (by assumption) (by k_mem) (by assumption) (by k_mem) (by intro _ e; dsimp only [W.listOf] at e; exact Data.noConfusion e) | exact (ne_cell (by assumption) (by k_mem) (by assumption) (by k_mem) (by intro _ e; dsimp only [W.listOf] at e; exact Data.noConfusion e)).symm))
theorem fill0 (w : World) : Mine.hd.heap_39 w.params = Mine.hd.heap_39 w.params ∧ PySem.Challenge.rw_pg0169_01 = PySem.Challenge.rw_pg0169_01 := by
  w_top off
  k_fill
  exact ⟨rfl, rfl⟩
local macro_rules | `(tactic| k_enter) => `(tactic| first
  | (refine' code_def ?k1 ?k2 ?k3 ?k4 ?k5 ?kA ?kF ?kK ?k6 ?k7 ?k8 ?k9 ?kB ?_ ?c2 ?c3 ?c4 ?c5; (case kA => exact rfl); (case kF => exact rfl); (case kK => first | exact rfl | assumption); (case k1 => k_asm); (case k2 => k_asm); (case k3 => k_asm); (case k4 => k_asm); (case k5 => k_asm); (case k6 => k_is); (case k7 => k_is); (case k8 => ktr_room); (case k9 => exact BindsTo.of_eq rfl); (case c5 => decide); (case kB => exact locs rfl); (case c2 => exact rfl); (case c3 => exact rfl); (case c4 => exact rfl); k_whole; intro g' L' h' FG' F' N' B' X' T'; (try dsimp only); (try k_lift B'); (try k_fold))
  | (refine' code_defC ?k1 ?k2 ?k3 ?k4 ?k5 ?kA ?kF ?kK ?k6 ?k7 ?k8 ?k9 ?kB ?kD ?_ ?c2 ?c3 ?c4; (case kA => exact rfl); (case kF => exact rfl); (case kK => first | exact rfl | assumption); (case k1 => k_asm); (case k2 => k_asm); (case k3 => k_asm); (case k4 => k_asm); (case k5 => k_asm); (case k6 => k_is); (case k7 => k_is); (case k8 => ktr_room); (case k9 => exact BindsTo.of_eq rfl); (case kB => exact rfl); (case kD => decide +kernel); (case c2 => exact rfl); (case c3 => exact rfl); (case c4 => exact rfl); k_whole; intro g' L' h' tk' cells' FG' F' N' Y' B' X' T' l1; (try k_lt l1); k_cells Y'; (try simp only [List.cons_append, List.nil_append] at N'); (try dsimp only); (try k_lift B'); (try k_fold)))
structure WSt where
  l : Addr
  vs : List Value
  ep : Nat
  d : WD
  tb : Tok
  tn : Tok
  tt : Tok
structure WInv (x : Str) (base : Led) (i : Nat) (c : WSt) : Prop where
  hd : c.d = wsRun (x.cps.toList.take i)
  hi : IntsAre c.vs c.d.cs
  hl : AllLt c.l base
  hb : c.d.b ≤ i
  hn : c.d.n ≤ i
  ht : c.d.nt ≤ i
  hc : c.d.cs.length ≤ i + 1
theorem onW {x : Str} {base nw : Led} {m₀ m' : Str → Option Value} {h₀ h' : Heap} {L I l : Addr} {oI : Obj} {i ep tk : Nat} {s₁ : Shared} {Q : Flow → Shared → Prop} {vs : List Value} {tb tn tt : Tok} (d : WD)
    (F : Fr h₀ L h' m') (N : News h₀ L h' nw) (hc : m' (Str.ofString "count") = some (.ref l)) (hb : m' (Str.ofString "b") = some (.int (d.b : Int) tb)) (hn : m' (Str.ofString "n") = some (.int (d.n : Int) tn)) (ht : m' (Str.ofString "nt") = some (.int (d.nt : Int) tt))
    (hI : IntsAre vs d.cs) (hm : (l, listOf vs.toArray ep) ∈ nw) (hIm : (I, oI) ∈ nw) (hbase : ∀ p ∈ base, p ∈ nw) (hof : AllNe I ((l, listOf vs.toArray ep) :: base)) (hd : d = wsRun (x.cps.toList.take (i + 1))) (hl : AllLt l base)
    (h1 : d.b ≤ i + 1) (h2 : d.n ≤ i + 1) (h3 : d.nt ≤ i + 1) (h4 : d.cs.length ≤ i + 1 + 1)
    (k2 : ∀ z, z ≠ Str.ofString "ch" → z ≠ Str.ofString "count" → z ≠ Str.ofString "b" → z ≠ Str.ofString "n" → z ≠ Str.ofString "nt" → m' z = m₀ z) :
    TurnPost (fun c : WSt => (c.l, listOf c.vs.toArray c.ep) :: base) (fun c => [(Str.ofString "count", .ref c.l), (Str.ofString "b", .int c.d.b c.tb), (Str.ofString "n", .int c.d.n c.tn), (Str.ofString "nt", .int c.d.nt c.tt)])
      (fun i c => WInv x base i c) (Str.ofString "ch") [] m₀ h₀ L I oI i s₁ Q .next { s₁ with heap := h', toks := tk } := by
  refine TurnPost.onward (⟨l, vs, ep, d, tb, tn, tt⟩ : WSt) F N ?_ hof ⟨hd, hI, hl, h1, h2, h3, h4⟩ ?_ ?_
  · intro p hp
    rcases List.mem_cons.mp hp with rfl | hp
    · exact hIm
    rcases List.mem_cons.mp hp with rfl | hp
    · exact hm
    · exact hbase p hp
  · simp only [List.forall_mem_cons]
    exact ⟨hc, hb, hn, ht, List.forall_mem_nil _⟩
  · intro z hz hp _
    simp only [List.forall_mem_cons] at hp
    exact k2 z hz hp.1 hp.2.1 hp.2.2.1 hp.2.2.2.1
theorem c_init {w : World} {mean : ExcName → Option Value} {mg mb : Str → Option Value} {A₀ : Around} {base h₀ : Heap} {outer : List Env} {L : Addr} {m : Str → Option Value} {news : Led} {s : Shared} {cs : Scope} {dp un : Nat} {gd : Option (List Code)} {cn : Str} {a : Addr} {ccd : Value} {cl : List (Str × Addr)} {Q E : Value → Shared → Prop}
    (x : Str) (t : Tok) (hx : x.cps.size ≤ 100) (hws : ∀ k ∈ x.cps.toList, k = 32 ∨ k = 9)
    (h : At w mean mg mb A₀ base h₀ outer L m news s cs dp un 3)
    (hret : ∀ (a dx q p : Addr) (vs : List Value) (k1 k2 k3 k4 k5 t1 t2 t3 t4 : Tok) (h' : Heap) (tk' : Nat), IntsAre vs (wsRun x.cps.toList).cs → Fr h₀ L h' m →
      News h₀ L h' ((a, instObj 76 dx) :: (dx, wsDict w x (wsRun x.cps.toList) q k1 k2 k3 k4 k5 t1 t2 t3) :: (q, tupOf [.ref p, .int ((wsRun x.cps.toList).b : Int) t4]) :: (p, tupOf vs) :: news) →
      Q (.ref a) { s with heap := h', toks := tk' })
    : wpAny (model PG w) (ktrTop dp un gd cn cs L a ccd cl outer) (call (.ref 76) [.str x t]) Q E s := by
  obtain ⟨B, F, X, N, T, hk, hd, hu⟩ := h
  k_steps
  refine loop_str (σ := WSt) (fun base c => (c.l, listOf c.vs.toArray c.ep) :: base)
    (fun c => [(Str.ofString "count", .ref c.l), (Str.ofString "b", .int c.d.b c.tb), (Str.ofString "n", .int c.d.n c.tn), (Str.ofString "nt", .int c.d.nt c.tt)])
    (fun base i c => WInv x base i c) [] ⟨_, [], 0, ⟨[], 0, 0, 0⟩, _, _, _⟩ (by rfl) (by assumption) (by assumption) ?h0
    (by repeat' (first | exact List.forall_mem_nil _ | refine List.forall_mem_cons.mpr ⟨by rfl, ?_⟩)) ?turn ?done
  case h0 =>
    refine ⟨rfl, .nil, ?_, Nat.le_refl _, Nat.le_refl _, Nat.le_refl _, Nat.zero_le _⟩
    simp only [AllLt, *, and_self]
  case turn =>
    intro i k t c u I oI h tk hk hI hoff F' N'
    simp only [AllNe] at hoff
    dsimp only [kstB] at F'
    obtain ⟨hcd, hci, hcl, hcb, hcn, hct, hcc⟩ := hI
    simp only [AllLt] at hcl
    have hi : i < x.cps.size := by
      rcases Nat.lt_or_ge i x.cps.size with h | h
      · exact h
      · rw [Array.getElem?_eq_none h] at hk; cases hk
    have hk' : x.cps.toList[i]? = some k := by simpa using hk
    have hst : wsRun (x.cps.toList.take (i + 1)) = wsStep c.d k := by rw [wsRun_take _ _ _ hk', hcd]
    have hlen := hci.length
    rcases hws k (List.mem_of_getElem? hk') with rfl | rfl
    · k_steps
      rename Fr _ _ _ _ => F1
      rename News _ _ _ _ => N1
      exact onW ⟨c.d.cs, c.d.b + 1, c.d.n + 1, c.d.nt⟩ F1 N1 rfl rfl rfl rfl hci (by k_mem) (by k_mem) (fun p hp => .tail _ (.tail _ hp)) (by simp only [AllNe]; exact hoff) hst.symm (by simp only [AllLt, *, and_self])
        (Nat.succ_le_succ hcb) (Nat.succ_le_succ hcn) (Nat.le_succ_of_le hct) (Nat.le_succ_of_le hcc) (fun z h1 h2 h3 h4 h5 => by simp only [h1, h2, h3, h4, h5, if_false]; rfl)
    · k_steps
      all_goals (
        rename Fr _ _ _ _ => F1
        rename News _ _ _ _ => N1
        (rename IntsAre _ _ => I1))
      · rw [bump_ext _ _ (by omega)] at I1
        exact onW ⟨bump c.d.cs c.d.b, 0, c.d.n + 1, c.d.nt + 1⟩ F1 N1 rfl rfl rfl rfl I1 (by k_mem) (by k_mem) (fun p hp => by repeat (first | exact hp | refine List.Mem.tail _ ?_)) (by simp only [AllNe]; exact ⟨by omega, hoff.2⟩) hst.symm (by simp only [AllLt, *, and_self])
          (Nat.zero_le _) (Nat.succ_le_succ hcn) (Nat.succ_le_succ hct) (by rw [bump_length]; omega) (fun z h1 h2 h3 h4 h5 => by simp only [h1, h2, h3, h4, h5, if_false]; rfl)
      · rw [bump_in _ _ (by omega)] at I1
        exact onW ⟨bump c.d.cs c.d.b, 0, c.d.n + 1, c.d.nt + 1⟩ F1 N1 rfl rfl rfl rfl I1 (by k_mem) (by k_mem) (fun p hp => by repeat (first | exact hp | refine List.Mem.tail _ ?_)) (by simp only [AllNe]; exact hoff) hst.symm (by simp only [AllLt, *, and_self])
          (Nat.zero_le _) (Nat.succ_le_succ hcn) (Nat.succ_le_succ hct) (by rw [bump_length]; omega) (fun z h1 h2 h3 h4 h5 => by simp only [h1, h2, h3, h4, h5, if_false]; rfl)
  case done =>
    intro c u h tk hI F' N'
    dsimp only [kstB] at F'
    obtain ⟨hcd, hci, hcl, hcb, hcn, hct, hcc⟩ := hI
    simp only [AllLt] at hcl
    have hlen := hci.length
    k_steps
    have hcd' : c.d = wsRun x.cps.toList := by rw [hcd, ← Array.length_toList, List.take_length]
    rw [← hcd'] at hret
    rename Fr _ _ _ _ => F9
    rename News _ _ _ _ => N9
    refine hret _ _ _ _ _ _ _ _ _ _ _ _ _ _ _ _ hci F9 (news_cons N9 (by k_mem) (news_cons N9 (by k_mem) (news_cons N9 (by k_mem) (news_cons N9 (by k_mem) (fun p hp => N9 p ?_)))))
    repeat (first | exact hp | refine List.Mem.tail _ ?_)
theorem c_mk {w : World} {mean : ExcName → Option Value} {mg mb : Str → Option Value} {A₀ : Around} {base h₀ : Heap} {outer : List Env} {L : Addr} {m : Str → Option Value} {news : Led} {s : Shared} {cs : Scope} {dp un : Nat} {gd : Option (List Code)} {cn : Str} {a : Addr} {ccd : Value} {cl : List (Str × Addr)} {Q E : Value → Shared → Prop}
    (S : Str) (ts : Tok) (d : WD) (hsz : S.cps.size ≤ 100) (hws : ∀ k ∈ S.cps.toList, k = 32 ∨ k = 9) (hd : wsRun S.cps.toList = d) (ok : WdOk d)
    (h : At w mean mg mb A₀ base h₀ outer L m news s cs dp un 3)
    (hret : ∀ o nw h' tk', o.d = d → WsIn w nw o → (∀ p ∈ news, p ∈ nw) → Fr h₀ L h' m → News h₀ L h' nw → Q (.ref o.x) { s with heap := h', toks := tk' })
    : wpAny (model PG w) (ktrTop dp un gd cn cs L a ccd cl outer) (call (.ref 76) [.str S ts]) Q E s := by
  refine c_init S ts hsz hws h ?_
  rw [hd]
  intro x dx q p vs k1 k2 k3 k4 k5 t1 t2 t3 t4 h' tk' hv F N
  exact hret ⟨x, dx, q, p, vs, S, d, k1, k2, k3, k4, k5, t1, t2, t3, t4⟩ _ h' tk' rfl ⟨.head _, .tail _ (.head _), .tail _ (.tail _ (.head _)), .tail _ (.tail _ (.tail _ (.head _))), hv, ok.hl, ok.hb, ok.hn, ok.ht, ok.hc⟩ (fun p hp => .tail _ (.tail _ (.tail _ (.tail _ hp)))) F N
theorem go_opaque {h₀ h : Heap} {L : Addr} {news : Led} {G : Prop} (k : ∀ nw, (∀ p ∈ news, p ∈ nw) → News h₀ L h nw → G) (N : News h₀ L h news) : G := k news (fun _ hp => hp) N
theorem fill1 (w : World) : Mine.hd.heap_39 w.params = Mine.hd.heap_39 w.params ∧ PySem.Challenge.rw_pg0169_01 = PySem.Challenge.rw_pg0169_01 := by
  w_top off
  k_fill
  exact ⟨rfl, rfl⟩
local macro_rules | `(tactic| k_mem) => `(tactic| first | exact List.Mem.head _ | (refine' List.mem_cons_of_mem _ ?_; k_mem))
structure IlS where
  v : Int
  t : Tok
theorem c_longest {w : World} {mean : ExcName → Option Value} {mg mb : Str → Option Value} {A₀ : Around} {base h₀ : Heap} {outer : List Env} {L : Addr} {m : Str → Option Value} {news : Led} {s : Shared} {cs : Scope} {dp un : Nat} {gd : Option (List Code)} {cn : Str} {a : Addr} {ccd : Value} {cl : List (Str × Addr)} {Q E : Value → Shared → Prop}
    (h : At w mean mg mb A₀ base h₀ outer L m news s cs dp un 3)
    (o : WO) (ho : WsIn w news o)
    (hret : ∀ t h' tk', Fr h₀ L h' m → News h₀ L h' news → Q (.int (max ((o.d.cs.length : Int) - 1) (o.d.b : Int)) t) { s with heap := h', toks := tk' })
    : wpAny (model PG w) (ktrTop dp un gd cn cs L a ccd cl outer) (call (.ref 38) [.ref o.x]) Q E s := by
  k_with_none
  k_with "call builtin:len" => (k_dflt (refine len_tupN (by k_asm) (by k_mem) (by assumption) (by omega) ?_); intro _ _)
  k_with "subscriptTail" => (k_dflt (refine item_tupN (by k_asm) (by k_mem) (by assumption) (by omega) (by omega) (by omega) ?_); intro _)
  obtain ⟨B, F, X, N, T, hk, hd, hu⟩ := h
  obtain ⟨ox, odx, oq, op, ov, ol, ob, on, ot, oc⟩ := ho
  have olen := ov.length
  have e : max ((o.d.cs.length : Int) - 1) (o.d.b : Int) = if (o.d.b : Int) > (o.d.cs.length : Int) - 1 then (o.d.b : Int) else (o.d.cs.length : Int) - 1 := by
    split <;> omega
  rw [e] at hret
  k_steps
  exact hret _ _ _ (by assumption) (by assumption)
theorem c_indent {w : World} {mean : ExcName → Option Value} {mg mb : Str → Option Value} {A₀ : Around} {base h₀ : Heap} {outer : List Env} {L : Addr} {m : Str → Option Value} {news : Led} {s : Shared} {cs : Scope} {dp un : Nat} {gd : Option (List Code)} {cn : Str} {a : Addr} {ccd : Value} {cl : List (Str × Addr)} {Q E : Value → Shared → Prop}
    (h : At w mean mg mb A₀ base h₀ outer L m news s cs dp un 3)
    (o : WO) (ho : WsIn w news o) (ts : Int) (tt : Tok) (ht : 1 ≤ ts ∧ ts ≤ 500)
    (hret : ∀ t h' tk', Fr h₀ L h' m → News h₀ L h' news → Q (.int (indV o.d ts) t) { s with heap := h', toks := tk' })
    : wpAny (model PG w) (ktrTop dp un gd cn cs L a ccd cl outer) (call (.ref 45) [.ref o.x, .int ts tt]) Q E s := by
  k_with_none
  k_with "call builtin:len" => (k_dflt (refine len_tupN (by k_asm) (by k_mem) (by assumption) (by omega) ?_); intro _ _)
  k_with "subscriptTail" => (k_dflt (refine item_tupN (by k_asm) (by k_mem) (by assumption) (by omega) (by omega) (by omega) ?_); intro _)
  obtain ⟨B, F, X, N, T, hk, hd, hu⟩ := h
  obtain ⟨ox, odx, oq, op, ov, ol, ob, on, ot, oc⟩ := ho
  have olen := ov.length
  k_with "pyIter ref" => refine Hold.out ?stop
  k_steps
  refine loop_range (n := ((o.d.cs.length : Int) - ts).toNat) (σ := IlS) (fun base _ => base) (fun c => [(Str.ofString "il", .int c.v c.t)])
      (fun _ i c => c.v = indAcc o.d.cs ts i) [] ⟨0, _⟩ (by rfl) (by assumption) (small_one (by omega) (by omega) (by omega) (by omega)) (rangeSize_nat _ _) (by assumption) (by assumption) rfl
      (by repeat' (first | exact List.forall_mem_nil _ | refine List.forall_mem_cons.mpr ⟨by rfl, ?_⟩)) ?turn ?done
  case turn =>
    intro i t c u I oI h tk hi hI hoff F' N'
    dsimp only [kstB] at F'
    have hq := fdiv_bound (a := ts + (i : Int)) (b := ts) (by omega) (by omega)
    have hg := getD_bound oc (by omega) (ts + (i : Int)).toNat
    have hg2 : 0 ≤ ts + (i : Int) ∧ ts + (i : Int) ≤ 700 := by omega
    k_steps
    refine TurnPost.onward (⟨_, _⟩ : IlS) (by assumption) (by assumption) (fun p hp => hp) hoff ?_ (List.forall_mem_cons.mpr ⟨rfl, List.forall_mem_nil _⟩) (fun z h1 h2 h3 => ?_)
    · show c.v + _ = indAcc o.d.cs ts (i + 1)
      rw [hI]; rfl
    · simp only [List.forall_mem_cons] at h2
      simp only [h1, h2, if_false]
      rfl
  case done =>
    intro c u h tk hI F' N'
    dsimp only [kstB] at F'
    k_steps
    have e : (o.d.b : Int) + ts * (c.v + (o.d.nt : Int)) = indV o.d ts := by rw [hI]; rfl
    rw [e]
    exact hret _ _ _ (by assumption) (by assumption)
theorem fill2 (w : World) : Mine.hd.heap_39 w.params = Mine.hd.heap_39 w.params ∧ PySem.Challenge.rw_pg0169_01 = PySem.Challenge.rw_pg0169_01 := by
  w_top off
  k_fill
  exact ⟨rfl, rfl⟩
local macro_rules | `(tactic| tb_start) => `(tactic| exact ⟨by k_asm, by k_asm, by k_asm, by k_asm, by k_asm, by first | rfl | assumption, by ktr_room, by ktr_units⟩)
theorem all_true_of {n : Nat} {p : Nat → Bool} (h : ∀ j : Nat, j < n → p j = true) : (List.range n).all p = true := by
  rw [List.all_eq_true]
  exact fun j hj => h j (List.mem_range.mp hj)
theorem all_false_of {n : Nat} {p : Nat → Bool} (j : Nat) (hj : j < n) (h : p j = false) : (List.range n).all p = false := by
  rw [List.all_eq_false]
  exact ⟨j, List.mem_range.mpr hj, by simp [h]⟩
theorem c_less {w : World} {mean : ExcName → Option Value} {mg mb : Str → Option Value} {A₀ : Around} {base h₀ : Heap} {outer : List Env} {L : Addr} {m : Str → Option Value} {news : Led} {s : Shared} {cs : Scope} {dp un : Nat} {gd : Option (List Code)} {cn : Str} {a : Addr} {ccd : Value} {cl : List (Str × Addr)} {Q E : Value → Shared → Prop}
    (h : At w mean mg mb A₀ base h₀ outer L m news s cs dp un 7)
    (o₁ o₂ : WO) (ho₁ : WsIn w news o₁) (ho₂ : WsIn w news o₂)
    (hret : ∀ h' tk', Fr h₀ L h' m → News h₀ L h' news → Q (.bool (lessV o₁.d o₂.d)) { s with heap := h', toks := tk' })
    : wpAny (model PG w) (ktrTop dp un gd cn cs L a ccd cl outer) (call (.ref 66) [.ref o₁.x, .ref o₂.x]) Q E s := by
  k_with_none
  obtain ⟨B, F, X, N, T, hk, hd, hu⟩ := h
  obtain ⟨ox1, odx1, oq1, op1, ov1, ol1, ob1, on1, ot1, oc1⟩ := id ho₁
  obtain ⟨ox2, odx2, oq2, op2, ov2, ol2, ob2, on2, ot2, oc2⟩ := id ho₂
  refine wpAny_call ?_
  k_dflt k_enter
  k_with "call ref" => first
    | (k_dflt (refine c_longest (by tb_start) o₁ (ho₁.mono (fun p hp => by repeat (first | exact hp | refine List.Mem.tail _ ?_))) ?_); intro _ _ _ _ _)
    | (k_dflt (refine c_longest (by tb_start) o₂ (ho₂.mono (fun p hp => by repeat (first | exact hp | refine List.Mem.tail _ ?_))) ?_); intro _ _ _ _ _)
    | (k_dflt (refine c_indent (by tb_start) o₁ (ho₁.mono (fun p hp => by repeat (first | exact hp | refine List.Mem.tail _ ?_))) _ _ (by omega) ?_); intro _ _ _ _ _)
    | (k_dflt (refine c_indent (by tb_start) o₂ (ho₂.mono (fun p hp => by repeat (first | exact hp | refine List.Mem.tail _ ?_))) _ _ (by omega) ?_); intro _ _ _ _ _)
  k_with "pyIter ref" => refine Hold.out ?_
  k_steps
  · have e : lessV o₁.d o₂.d = false := by unfold lessV; rw [if_pos (by assumption)]
    rw [e] at hret
    exact hret _ _ (by assumption) (by assumption)
  · have e : lessV o₁.d o₂.d = decide ((o₁.d.nt : Int) ≤ (o₂.d.nt : Int)) := by unfold lessV; rw [if_neg (by assumption), if_pos ⟨by assumption, by assumption⟩]
    rw [e] at hret
    exact hret _ _ (by assumption) (by assumption)
  all_goals (
    have e : lessV o₁.d o₂.d = ((List.range (topV o₁.d o₂.d + 1 - 2).toNat).all fun i => decide (indV o₁.d (2 + (i : Int)) < indV o₂.d (2 + (i : Int)))) := by
      unfold lessV; rw [if_neg (by assumption), if_neg (by rintro ⟨h1, h2⟩; contradiction)]
    rw [e] at hret
    have htop : topV o₁.d o₂.d ≤ 300 := by unfold topV longV; omega
    refine loop_range (n := (topV o₁.d o₂.d + 1 - 2).toNat) (σ := Unit) (fun base _ => base) (fun _ => [])
      (fun _ i _ => ∀ j : Nat, j < i → indV o₁.d (2 + (j : Int)) < indV o₂.d (2 + (j : Int))) [] () (by rfl) (by assumption) (small_one (by omega) (by omega) (by omega) (by omega)) ?size (by assumption) (by assumption)
      (fun j hj => absurd hj (Nat.not_lt_zero _)) (List.forall_mem_nil _) ?turn ?done
    case size => rw [rangeSize_nat]; unfold topV longV; split <;> congr 2 <;> omega
    case turn =>
      intro i t c u I oI h tk hi hI hoff F' N'
      dsimp only [kstB] at F'
      k_steps
      · dsimp only [TurnPost]
        k_steps
        rename_i hge _ _ _ _ _
        rw [all_false_of i hi (by simp only [decide_eq_false_iff_not]; omega)] at hret
        exact hret _ _ (by assumption) (cb_drop (by assumption) (fun p hp => .tail _ hp))
      · refine TurnPost.onward () (by assumption) (by assumption) (fun p hp => hp) hoff ?_ (List.forall_mem_nil _) (fun z h1 h2 h3 => ?_)
        · intro j hj
          rcases Nat.lt_succ_iff_lt_or_eq.mp hj with hj | rfl
          · exact hI j hj
          · omega
        · simp only [h1, if_false]
          rfl
    case done =>
      intro c u h tk hI F' N'
      dsimp only [kstB] at F'
      k_steps
      rw [all_true_of (fun j hj => by simpa using hI j hj)] at hret
      exact hret _ _ (by assumption) (by assumption))
theorem fill3 (w : World) : Mine.hd.heap_39 w.params = Mine.hd.heap_39 w.params ∧ PySem.Challenge.rw_pg0169_01 = PySem.Challenge.rw_pg0169_01 := by
  w_top off
  k_fill
  exact ⟨rfl, rfl⟩
theorem c_equal {w : World} {mean : ExcName → Option Value} {mg mb : Str → Option Value} {A₀ : Around} {base h₀ : Heap} {outer : List Env} {L : Addr} {m : Str → Option Value} {news : Led} {s : Shared} {cs : Scope} {dp un : Nat} {gd : Option (List Code)} {cn : Str} {a : Addr} {ccd : Value} {cl : List (Str × Addr)} {Q E : Value → Shared → Prop}
    (h : At w mean mg mb A₀ base h₀ outer L m news s cs dp un 10)
    (o₁ o₂ : WO) (ho₁ : WsIn w news o₁) (ho₂ : WsIn w news o₂)
    (hret : ∀ h' tk', Fr h₀ L h' m → News h₀ L h' news → Q (.bool (decide (o₁.d.cs = o₂.d.cs ∧ o₁.d.b = o₂.d.b))) { s with heap := h', toks := tk' })
    : wpAny (model PG w) (ktrTop dp un gd cn cs L a ccd cl outer) (call (.ref 52) [.ref o₁.x, .ref o₂.x]) Q E s := by
  k_with_none
  obtain ⟨B, F, X, N, T, hk, hd, hu⟩ := h
  obtain ⟨ox1, odx1, oq1, op1, ov1, ol1, ob1, on1, ot1, oc1⟩ := id ho₁
  obtain ⟨ox2, odx2, oq2, op2, ov2, ol2, ob2, on2, ot2, oc2⟩ := id ho₂
  refine wpAny_call ?_
  k_dflt k_enter
  k_with "compareOp Eq ref ref" => refine Hold.out ?_
  k_steps
  refine dat_eq _ (by assumption) ho₁.norm ho₂.norm (normD_ok _) (normD_ok _) (by ktr_units) (normD_eq _ _) ?_
  dsimp only
  k_steps
  exact hret _ _ (by assumption) (by assumption)
theorem fill4 (w : World) : Mine.hd.heap_39 w.params = Mine.hd.heap_39 w.params ∧ PySem.Challenge.rw_pg0169_01 = PySem.Challenge.rw_pg0169_01 := by
  w_top off
  k_fill
  exact ⟨rfl, rfl⟩
structure NlS where
  l : Addr
  ws : List Value
  ep : Nat
  rest : Led
structure NlI (news : Led) (f : Nat → Option (Int × Int × Int)) (l : Addr) (i : Nat) (c : NlS) : Prop where
  hl : c.l = l
  hs : ∀ p ∈ news, p ∈ c.rest
  hd : DatAll c.rest c.ws (((List.range i).filterMap f).map tripD)
  hn : AllNe c.l c.rest
  he : c.ws.length ≤ i
theorem onNl {news rest : Led} {f : Nat → Option (Int × Int × Int)} {m₀ m' : Str → Option Value} {h₀ h' : Heap} {L I l D : Addr} {oI : Obj} {i ep tk : Nat} {s₁ : Shared} {Q : Flow → Shared → Prop} {ws : List Value} {x y z : Int} {tx ty tz : Tok}
    (F : Fr h₀ L h' m') (N : News h₀ L h' ((D, tupOf [.int x tx, .int y ty, .int z tz]) :: (I, oI) :: (l, listOf (ws.toArray.push (.ref D)) (ep + 1)) :: rest))
    (hDl : @Ne Nat D l) (hDI : @Ne Nat D I) (hof : @Ne Nat l I ∧ AllNe I rest) (hs : ∀ p ∈ news, p ∈ rest) (hd : DatAll rest ws (((List.range i).filterMap f).map tripD)) (hn : AllNe l rest) (he : ws.length ≤ i) (hf : f i = some (x, y, z))
    (k2 : ∀ z, z ≠ Str.ofString "ts" → m' z = m₀ z) :
    TurnPost (fun c : NlS => (c.l, listOf c.ws.toArray c.ep) :: c.rest) (fun _ => []) (fun i c => NlI news f l i c) (Str.ofString "ts") [] m₀ h₀ L I oI i s₁ Q .next { s₁ with heap := h', toks := tk } := by
  refine TurnPost.onward (⟨l, ws ++ [.ref D], ep + 1, (D, tupOf [.int x tx, .int y ty, .int z tz]) :: rest⟩ : NlS) F N ?_ ⟨hof.1, hDI, hof.2⟩ ⟨rfl, fun p hp => .tail _ (hs p hp), ?_, ⟨hDl, hn⟩, ?_⟩ (List.forall_mem_nil _) (fun z h1 _ _ => k2 z h1)
  · intro p hp
    rcases List.mem_cons.mp hp with rfl | hp
    · exact .tail _ (.head _)
    rcases List.mem_cons.mp hp with rfl | hp
    · exact .tail _ (.tail _ (by
        have e : (ws ++ [Value.ref D]).toArray = ws.toArray.push (.ref D) := by simp
        dsimp only
        rw [e]
        exact .head _))
    rcases List.mem_cons.mp hp with rfl | hp
    · exact .head _
    · exact .tail _ (.tail _ (.tail _ hp))
  · rw [fm_some hf, List.map_append]
    exact datAll_snoc (DatAll.mono (fun p hp => .tail _ hp) hd) (.tuple (.head _) (.cons (.int _ _) (.cons (.int _ _) (.cons (.int _ _) .nil))))
  · dsimp only
    rw [List.length_append]
    exact Nat.succ_le_succ he
theorem onNl0 {news rest : Led} {f : Nat → Option (Int × Int × Int)} {m₀ m' : Str → Option Value} {h₀ h' : Heap} {L I l : Addr} {oI : Obj} {i ep tk : Nat} {s₁ : Shared} {Q : Flow → Shared → Prop} {ws : List Value}
    (F : Fr h₀ L h' m') (N : News h₀ L h' ((I, oI) :: (l, listOf ws.toArray ep) :: rest))
    (hof : @Ne Nat l I ∧ AllNe I rest) (hs : ∀ p ∈ news, p ∈ rest) (hd : DatAll rest ws (((List.range i).filterMap f).map tripD)) (hn : AllNe l rest) (he : ws.length ≤ i) (hf : f i = none)
    (k2 : ∀ z, z ≠ Str.ofString "ts" → m' z = m₀ z) :
    TurnPost (fun c : NlS => (c.l, listOf c.ws.toArray c.ep) :: c.rest) (fun _ => []) (fun i c => NlI news f l i c) (Str.ofString "ts") [] m₀ h₀ L I oI i s₁ Q .next { s₁ with heap := h', toks := tk } :=
  TurnPost.onward (⟨l, ws, ep, rest⟩ : NlS) F N (fun p hp => hp) hof ⟨rfl, hs, by rw [fm_none hf]; exact hd, hn, Nat.le_succ_of_le he⟩ (List.forall_mem_nil _) (fun z h1 _ _ => k2 z h1)
theorem c_nlw {w : World} {mean : ExcName → Option Value} {mg mb : Str → Option Value} {A₀ : Around} {base h₀ : Heap} {outer : List Env} {L : Addr} {m : Str → Option Value} {news : Led} {s : Shared} {cs : Scope} {dp un : Nat} {gd : Option (List Code)} {cn : Str} {a : Addr} {ccd : Value} {cl : List (Str × Addr)} {Q E : Value → Shared → Prop}
    (h : At w mean mg mb A₀ base h₀ outer L m news s cs dp un 10)
    (o₁ o₂ : WO) (ho₁ : WsIn w news o₁) (ho₂ : WsIn w news o₂)
    (hret : ∀ l ws ep news' h' tk', DatAll news' ws ((nlV o₁.d o₂.d).map tripD) → (l, listOf ws.toArray ep) ∈ news' → (∀ p ∈ news, p ∈ news') → Fr h₀ L h' m → News h₀ L h' news' → Q (.ref l) { s with heap := h', toks := tk' })
    : wpAny (model PG w) (ktrTop dp un gd cn cs L a ccd cl outer) (call (.ref 73) [.ref o₁.x, .ref o₂.x]) Q E s := by
  k_with_none
  obtain ⟨B, F, X, N, T, hk, hd, hu⟩ := h
  obtain ⟨ox1, odx1, oq1, op1, ov1, ol1, ob1, on1, ot1, oc1⟩ := id ho₁
  obtain ⟨ox2, odx2, oq2, op2, ov2, ol2, ob2, on2, ot2, oc2⟩ := id ho₂
  refine wpAny_call ?_
  k_dflt k_enter
  k_with "call ref" => first
    | (k_dflt (refine c_longest (by tb_start) o₁ (ho₁.mono (fun p hp => by repeat (first | exact hp | refine List.Mem.tail _ ?_))) ?_); intro _ _ _ _ _)
    | (k_dflt (refine c_longest (by tb_start) o₂ (ho₂.mono (fun p hp => by repeat (first | exact hp | refine List.Mem.tail _ ?_))) ?_); intro _ _ _ _ _)
    | (k_dflt (refine c_indent (by tb_start) o₁ (ho₁.mono (fun p hp => by repeat (first | exact hp | refine List.Mem.tail _ ?_))) _ _ (by omega) ?_); intro _ _ _ _ _)
    | (k_dflt (refine c_indent (by tb_start) o₂ (ho₂.mono (fun p hp => by repeat (first | exact hp | refine List.Mem.tail _ ?_))) _ _ (by omega) ?_); intro _ _ _ _ _)
  k_with "pyIter ref" => refine Hold.out ?_
  k_steps
  have htop : topV o₁.d o₂.d ≤ 300 := by unfold topV longV; omega
  refine loop_range (n := (topV o₁.d o₂.d).toNat) (base := news) (σ := NlS) (fun _ c => (c.l, listOf c.ws.toArray c.ep) :: c.rest) (fun _ => [])
      (fun base i c => NlI base (nlAt o₁.d o₂.d) _ i c) [] ⟨_, [], 0, _⟩ (by rfl) (by assumption) (small_one (by omega) (by omega) (by omega) (by omega)) ?size (by assumption) (by assumption)
      ⟨rfl, fun _ hp => hp, .nil, ?ne, Nat.le_refl _⟩ (List.forall_mem_nil _) ?turn ?done
  case size => rw [rangeSize_nat]; unfold topV longV; split <;> congr 2 <;> omega
  case ne => exact allNe_iff.mpr (fun q hq => Nat.ne_of_lt (by rename ∀ p ∈ news, p.1 < _ => hlt; exact hlt q hq))
  case turn =>
      intro i t c u I oI h tk hi hI hoff F' N'
      obtain ⟨l₂, ws, ep, rest⟩ := c
      obtain ⟨hcl, hcs, hcd, hcn, hce⟩ := hI
      dsimp only [kstB] at F' N' hcl hcs hcd hcn hce
      dsimp only at hoff
      simp only [AllNe] at hoff
      subst hcl
      have ha₁ := ho₁.mono hcs
      have ha₂ := ho₂.mono hcs
      clear ox1 odx1 oq1 op1 ox2 odx2 oq2 op2
      obtain ⟨ox1, odx1, oq1, op1, _, _, _, _, _, _⟩ := id ha₁
      obtain ⟨ox2, odx2, oq2, op2, _, _, _, _, _, _⟩ := id ha₂
      k_with_none
      k_with "call ref" => first
        | (k_dflt (refine c_longest (by tb_start) o₁ (ha₁.mono (fun p hp => by repeat (first | exact hp | refine List.Mem.tail _ ?_))) ?_); intro _ _ _ _ _)
        | (k_dflt (refine c_longest (by tb_start) o₂ (ha₂.mono (fun p hp => by repeat (first | exact hp | refine List.Mem.tail _ ?_))) ?_); intro _ _ _ _ _)
        | (k_dflt (refine c_indent (by tb_start) o₁ (ha₁.mono (fun p hp => by repeat (first | exact hp | refine List.Mem.tail _ ?_))) _ _ (by omega) ?_); intro _ _ _ _ _)
        | (k_dflt (refine c_indent (by tb_start) o₂ (ha₂.mono (fun p hp => by repeat (first | exact hp | refine List.Mem.tail _ ?_))) _ _ (by omega) ?_); intro _ _ _ _ _)
      k_steps
      · exact onNl (by assumption) (by assumption) (by omega) (by omega) hoff hcs hcd hcn hce (by unfold nlAt; rw [if_pos (by assumption)]) (fun z h1 => by simp only [h1, if_false]; rfl)
      · exact onNl0 (by assumption) (by assumption) hoff hcs hcd hcn hce (by unfold nlAt; rw [if_neg (by assumption)]) (fun z h1 => by simp only [h1, if_false]; rfl)
  case done =>
      intro c u h tk hI F' N'
      obtain ⟨l₂, ws, ep, rest⟩ := c
      obtain ⟨hcl, hcs, hcd, hcn, hce⟩ := hI
      dsimp only [kstB] at F' N' hcl hcs hcd hcn hce
      subst hcl
      k_steps
      exact hret l₂ ws ep ((l₂, listOf ws.toArray ep) :: rest) _ _ (DatAll.mono (fun p hp => .tail _ hp) hcd) (.head _) (fun p hp => .tail _ (hcs p hp)) (by assumption) (by assumption)
theorem c_new {w : World} {mean : ExcName → Option Value} {mg mb : Str → Option Value} {A₀ : Around} {base h₀ : Heap} {outer : List Env} {L : Addr} {m : Str → Option Value} {news : Led} {s : Shared} {cs : Scope} {dp un : Nat} {gd : Option (List Code)} {cn : Str} {a : Addr} {ccd : Value} {cl : List (Str × Addr)} {Q E : Value → Shared → Prop}
    (h : At w mean mg mb A₀ base h₀ outer L m news s cs dp un 10)
    (o₁ o₂ : WO) (ho₁ : WsIn w news o₁) (ho₂ : WsIn w news o₂)
    (hret : ∀ l ws ep news' h' tk', DatAll news' ws ((neV o₁.d o₂.d).map tripD) → (l, listOf ws.toArray ep) ∈ news' → (∀ p ∈ news, p ∈ news') → Fr h₀ L h' m → News h₀ L h' news' → Q (.ref l) { s with heap := h', toks := tk' })
    : wpAny (model PG w) (ktrTop dp un gd cn cs L a ccd cl outer) (call (.ref 59) [.ref o₁.x, .ref o₂.x]) Q E s := by
  k_with_none
  obtain ⟨B, F, X, N, T, hk, hd, hu⟩ := h
  obtain ⟨ox1, odx1, oq1, op1, ov1, ol1, ob1, on1, ot1, oc1⟩ := id ho₁
  obtain ⟨ox2, odx2, oq2, op2, ov2, ol2, ob2, on2, ot2, oc2⟩ := id ho₂
  refine wpAny_call ?_
  k_dflt k_enter
  k_with "call ref" => first
    | (k_dflt (refine c_longest (by tb_start) o₁ (ho₁.mono (fun p hp => by repeat (first | exact hp | refine List.Mem.tail _ ?_))) ?_); intro _ _ _ _ _)
    | (k_dflt (refine c_longest (by tb_start) o₂ (ho₂.mono (fun p hp => by repeat (first | exact hp | refine List.Mem.tail _ ?_))) ?_); intro _ _ _ _ _)
    | (k_dflt (refine c_indent (by tb_start) o₁ (ho₁.mono (fun p hp => by repeat (first | exact hp | refine List.Mem.tail _ ?_))) _ _ (by omega) ?_); intro _ _ _ _ _)
    | (k_dflt (refine c_indent (by tb_start) o₂ (ho₂.mono (fun p hp => by repeat (first | exact hp | refine List.Mem.tail _ ?_))) _ _ (by omega) ?_); intro _ _ _ _ _)
  k_with "pyIter ref" => refine Hold.out ?_
  k_steps
  have htop : topV o₁.d o₂.d ≤ 300 := by unfold topV longV; omega
  refine loop_range (n := (topV o₁.d o₂.d).toNat) (base := news) (σ := NlS) (fun _ c => (c.l, listOf c.ws.toArray c.ep) :: c.rest) (fun _ => [])
      (fun base i c => NlI base (neAt o₁.d o₂.d) _ i c) [] ⟨_, [], 0, _⟩ (by rfl) (by assumption) (small_one (by omega) (by omega) (by omega) (by omega)) ?size (by assumption) (by assumption)
      ⟨rfl, fun _ hp => hp, .nil, ?ne, Nat.le_refl _⟩ (List.forall_mem_nil _) ?turn ?done
  case size => rw [rangeSize_nat]; unfold topV longV; split <;> congr 2 <;> omega
  case ne => exact allNe_iff.mpr (fun q hq => Nat.ne_of_lt (by rename ∀ p ∈ news, p.1 < _ => hlt; exact hlt q hq))
  case turn =>
      intro i t c u I oI h tk hi hI hoff F' N'
      obtain ⟨l₂, ws, ep, rest⟩ := c
      obtain ⟨hcl, hcs, hcd, hcn, hce⟩ := hI
      dsimp only [kstB] at F' N' hcl hcs hcd hcn hce
      dsimp only at hoff
      simp only [AllNe] at hoff
      subst hcl
      have ha₁ := ho₁.mono hcs
      have ha₂ := ho₂.mono hcs
      clear ox1 odx1 oq1 op1 ox2 odx2 oq2 op2
      obtain ⟨ox1, odx1, oq1, op1, _, _, _, _, _, _⟩ := id ha₁
      obtain ⟨ox2, odx2, oq2, op2, _, _, _, _, _, _⟩ := id ha₂
      k_with_none
      k_with "call ref" => first
        | (k_dflt (refine c_longest (by tb_start) o₁ (ha₁.mono (fun p hp => by repeat (first | exact hp | refine List.Mem.tail _ ?_))) ?_); intro _ _ _ _ _)
        | (k_dflt (refine c_longest (by tb_start) o₂ (ha₂.mono (fun p hp => by repeat (first | exact hp | refine List.Mem.tail _ ?_))) ?_); intro _ _ _ _ _)
        | (k_dflt (refine c_indent (by tb_start) o₁ (ha₁.mono (fun p hp => by repeat (first | exact hp | refine List.Mem.tail _ ?_))) _ _ (by omega) ?_); intro _ _ _ _ _)
        | (k_dflt (refine c_indent (by tb_start) o₂ (ha₂.mono (fun p hp => by repeat (first | exact hp | refine List.Mem.tail _ ?_))) _ _ (by omega) ?_); intro _ _ _ _ _)
      k_steps
      · exact onNl (by assumption) (by assumption) (by omega) (by omega) hoff hcs hcd hcn hce (by unfold neAt; rw [if_neg (by assumption)]) (fun z h1 => by simp only [h1, if_false]; rfl)
      · exact onNl0 (by assumption) (by assumption) hoff hcs hcd hcn hce (by unfold neAt; rw [if_pos (by assumption)]) (fun z h1 => by simp only [h1, if_false]; rfl)
  case done =>
      intro c u h tk hI F' N'
      obtain ⟨l₂, ws, ep, rest⟩ := c
      obtain ⟨hcl, hcs, hcd, hcn, hce⟩ := hI
      dsimp only [kstB] at F' N' hcl hcs hcd hcn hce
      subst hcl
      k_steps
      exact hret l₂ ws ep ((l₂, listOf ws.toArray ep) :: rest) _ _ (DatAll.mono (fun p hp => .tail _ hp) hcd) (.head _) (fun p hp => .tail _ (hcs p hp)) (by assumption) (by assumption)
theorem fill5 (w : World) : Mine.hd.heap_39 w.params = Mine.hd.heap_39 w.params ∧ PySem.Challenge.rw_pg0169_01 = PySem.Challenge.rw_pg0169_01 := by
  w_top off
  k_fill
  exact ⟨rfl, rfl⟩
structure ColS where
  v : Int
  t : Tok
theorem c_column {w : World} {mean : ExcName → Option Value} {mg mb : Str → Option Value} {A₀ : Around} {base h₀ : Heap} {outer : List Env} {L : Addr} {m : Str → Option Value} {news : Led} {s : Shared} {cs : Scope} {dp un : Nat} {gd : Option (List Code)} {cn : Str} {a : Addr} {ccd : Value} {cl : List (Str × Addr)} {Q E : Value → Shared → Prop}
    (h : At w mean mg mb A₀ base h₀ outer L m news s cs dp un 3)
    (l : Addr) (vs : List Value) (ep : Nat) (ns : List Int) (hm : (l, listOf vs.toArray ep) ∈ news) (hv : IntsAre vs ns) (sz : Int) (tz : Tok) (hz : 1 ≤ sz ∧ sz ≤ 500)
    (hret : ∀ t h' tk', Fr h₀ L h' m → News h₀ L h' news → Q (.int (colV ns sz) t) { s with heap := h', toks := tk' })
    : wpAny (model PG w) (ktrTop dp un gd cn cs L a ccd cl outer) (call (.ref 110) [.ref l, .int sz tz]) Q E s := by
  k_with_none
  obtain ⟨B, F, X, N, T, hk, hd, hu⟩ := h
  refine wpAny_call ?_
  k_dflt k_enter
  k_with "pyIter ref" => refine Hold.out ?_
  k_steps
  refine loop_list (base := news) (σ := ColS) (fun base _ => base) (fun c => [(Str.ofString "column", .int c.v c.t)])
      (fun _ i c => c.v = (ns.take i).foldl (fun c r => (c + r).fdiv sz * sz + sz) 0) [] ⟨0, _⟩ (by rfl) (fun _ => hm) (by assumption) (by assumption) rfl
      (by repeat' (first | exact List.forall_mem_nil _ | refine List.forall_mem_cons.mpr ⟨by rfl, ?_⟩)) ?turn ?done
  case turn =>
    intro i v c u I oI h tk hi hI hoff F' N'
    dsimp only [kstB] at F'
    obtain ⟨k, t, rfl, hk⟩ := IntsAre.at hv i v hi
    k_steps
    refine TurnPost.onward (⟨_, _⟩ : ColS) (by assumption) (by assumption) (fun p hp => hp) hoff ?_ (List.forall_mem_cons.mpr ⟨rfl, List.forall_mem_nil _⟩) (fun z h1 h2 h3 => ?_)
    · dsimp only
      rw [foldl_take _ _ _ _ _ hk, ← hI]
    · simp only [List.forall_mem_cons] at h2
      simp only [h1, h2, if_false]
      rfl
  case done =>
    intro c u h tk hI F' N'
    dsimp only [kstB] at F'
    k_steps
    have e : c.v = colV ns sz := by rw [hI, hv.length, List.take_length]; rfl
    rw [e]
    exact hret _ _ _ (by assumption) (by assumption)
theorem c_lead {w : World} {mean : ExcName → Option Value} {mg mb : Str → Option Value} {A₀ : Around} {base h₀ : Heap} {outer : List Env} {L : Addr} {m : Str → Option Value} {news : Led} {s : Shared} {cs : Scope} {dp un : Nat} {gd : Option (List Code)} {cn : Str} {a : Addr} {ccd : Value} {cl : List (Str × Addr)} {Q E : Value → Shared → Prop}
    (h : At w mean mg mb A₀ base h₀ outer L m news s cs dp un 3)
    (l : Addr) (vs : List Value) (ep : Nat) (ns : List Int) (hm : (l, listOf vs.toArray ep) ∈ news) (hv : IntsAre vs ns) (hb : ∀ e ∈ ns, 0 ≤ e ∧ e ≤ 100) (hw : ((ns.map pieceV).map (·.length)).sum + (ns.map pieceV).length ≤ 1048576)
    (hret : ∀ t h' tk', Fr h₀ L h' m → News h₀ L h' news → Q (.str (leadV ns) t) { s with heap := h', toks := tk' })
    : wpAny (model PG w) (ktrTop dp un gd cn cs L a ccd cl outer) (call (.ref 103) [.ref l]) Q E s := by
  k_with_none
  obtain ⟨B, F, X, N, T, hk, hd, hu⟩ := h
  refine wpAny_call ?_
  k_dflt k_enter
  k_with "eval ListComp" => refine Hold.out ?_
  k_with "CompSrc" => refine Hold.out ?_
  k_with "call builtin:str.join" => refine Hold.out ?_
  k_steps
  refine LCg.ListComp_U (F₀ := by k_asm) (by with_unfolding_all rfl) (by decide) (by rfl) (by decide) (by rfl) ?_
  k_steps
  have hn : ns.length ≤ 1048576 := by simp only [List.length_map] at hw; omega
  refine LCg.CompSrc.ledger (by rfl) (by k_asm) (by k_asm) hm (by rw [List.size_toArray, hv.length, PySem.sizeLine_eq]; omega) ?_
  intro g
  refine comp_rest (fun i => .str (pieceV (ns.getD i 0))) ?turn ?S ?fin
  case S => exact .inr ⟨_, hm, rfl, _, rfl⟩
  case turn =>
    intro i v I oI C oC D m₂ ys h tk nw E' hi hv' hC hx F N off ne hS hsub
    obtain ⟨k, t, rfl, hk⟩ := IntsAre.at hv i v (by simpa using hv')
    have hkb := hb k (List.mem_of_getElem? hk)
    k_steps
    refine comp_end (by assumption) (by assumption) off hS ?_
    rw [getD_of hk]
    exact .str _ _
  case fin =>
    intro ys nw hd hS hsub
    have e : vs.toArray.size = ns.length := by rw [List.size_toArray, hv.length]
    rw [e, range_map (fun k => Dat.str (pieceV k)) 0 ns] at hd
    have hss := strs_of_dat (xs := ns.map pieceV) (by rw [List.map_map]; exact hd)
    k_steps
    refine PyProof.Rows.join_listW (News.isList (by assumption) (by k_mem)) hss (by decide) hw ?_
    intro t' k
    k_steps
    exact hret _ _ _ (by assumption) (cb_drop (by assumption) (fun p hp => .tail _ (hsub p hp)))
theorem fill6 (w : World) : Mine.hd.heap_39 w.params = Mine.hd.heap_39 w.params ∧ PySem.Challenge.rw_pg0169_01 = PySem.Challenge.rw_pg0169_01 := by
  w_top off
  k_fill
  exact ⟨rfl, rfl⟩
theorem c_runs {w : World} {mean : ExcName → Option Value} {mg mb : Str → Option Value} {A₀ : Around} {base h₀ : Heap} {outer : List Env} {L : Addr} {m : Str → Option Value} {news : Led} {s : Shared} {cs : Scope} {dp un : Nat} {gd : Option (List Code)} {cn : Str} {a : Addr} {ccd : Value} {cl : List (Str × Addr)} {Q E : Value → Shared → Prop}
    (h : At w mean mg mb A₀ base h₀ outer L m news s cs dp un 10)
    (lw : Addr) (ws : List Value) (ew : Nat) (W : List Str) (hW : (lw, listOf ws.toArray ew) ∈ news) (hWs : StrsAre ws W) (hWo : ∀ x ∈ W, PyData.strOk x = true)
    (ln : Addr) (ks : List Value) (en : Nat) (K : List Str) (hK : (ln, listOf ks.toArray en) ∈ news) (hKs : StrsAre ks K) (hKl : K.length = 4) (hKo : ∀ x ∈ K, PyData.strOk x = true)
    (mk : Nat) (hb : ∀ i x, K[i]? = some x → (mk.testBit i = true ↔ x ∈ W))
    (hret : ∀ l vs ep h' tk', IntsAre vs (runsV mk) → Fr h₀ L h' m → News h₀ L h' ((l, listOf vs.toArray ep) :: news) → Q (.ref l) { s with heap := h', toks := tk' })
    : wpAny (model PG w) (ktrTop dp un gd cn cs L a ccd cl outer) (call (.ref 98) [.ref lw, .ref ln]) Q E s := by
  k_with_none
  obtain ⟨B, F, X, N, T, hk, hd, hu⟩ := h
  refine wpAny_call ?_
  k_dflt k_enter
  k_with "eval ListComp" => refine Hold.out ?_
  k_with "call type:zip" => refine Hold.out ?_
  k_with "compareOp In str ref" => refine Hold.out ?_
  k_steps
  rename (_ = Data.cell _) => d1
  replace d1 : _ = Data.cell (some (Value.ref lw)) := d1
  have hkl : ks.length = 4 := by rw [hKs.length, hKl]
  refine comp_I (Pt := fun i vals => ∃ t x, vals = #[.int ([2, 3, 5, 7].getD i 0) t, x] ∧ ks[i]? = some x) (n := 4) (by k_asm) (runV mk) ⟨_, _, _, rfl⟩ (by decide) (by with_unfolding_all rfl) (by decide) (by rfl) (by decide)
    (binds2 (by rfl) (by rfl) (by rfl) (by rfl) (by decide) (by rintro i vals ⟨t, x, rfl, _⟩; exact ⟨_, _, rfl⟩)) ?_
  k_steps
  refine zip_go (n := 4) (Pt := fun i vals => ∃ t x, vals = #[.int ([2, 3, 5, 7].getD i 0) t, x] ∧ ks[i]? = some x) (by rfl) (by k_asm) (by k_asm) (by k_mem) (List.mem_cons_of_mem _ (List.mem_cons_of_mem _ hK)) (by simp [hkl]) ?hP ?_
  case hP =>
    intro i x y hx hy
    match i, hx with
    | 0, hx => cases hx; exact ⟨_, _, rfl, hy⟩
    | 1, hx => cases hx; exact ⟨_, _, rfl, hy⟩
    | 2, hx => cases hx; exact ⟨_, _, rfl, hy⟩
    | 3, hx => cases hx; exact ⟨_, _, rfl, hy⟩
  rintro z h' ⟨F2, N2, hlt, hz⟩
  refine ⟨_, N2, F2, hz _ _ fun I fp wr St Mid W hfp0 hst hfp hLf off => ⟨I, fp, wr, St, Mid, rfl, W, hfp0, hst, hfp, F2, N2, hLf, off, ?_, ?_⟩⟩
  · rintro i vals C oC D ys m₂ h tk all E' hi ⟨t, x, rfl, hkx⟩ hC ⟨x', y', hxy, hm1, hm2⟩ F3 N3 hCm hDm hsub
    simp only [List.forall_mem_cons] at hsub
    obtain ⟨hl', hcell, hsub⟩ := hsub
    cases hxy
    have hW' := hsub _ hW
    obtain ⟨x, u, rfl, hKx⟩ := strs_at hKs hkx
    k_steps
    refine str_in (mk.testBit i) (by k_asm) hW' hWs hWo (hKo _ (List.mem_of_getElem? hKx)) (by ktr_units) (hb _ _ hKx) ?_
    cases hbit : mk.testBit i
    · k_steps
      refine ElI.intro ?_ (by assumption) (by assumption)
      unfold runV
      rw [hbit]; rfl
    · k_steps
      refine ElI.intro ?_ (by assumption) (by assumption)
      unfold runV
      rw [hbit]; rfl
  · intro D h tk ys hI F4 N4 o1
    k_steps
    refine hret _ ys ys.length _ _ hI (by assumption) (cb_drop (by assumption) ?_)
    intro p hp
    rcases List.mem_cons.mp hp with rfl | hp
    · exact .head _
    · repeat (first | exact hp | refine List.Mem.tail _ ?_)
theorem fill7 (w : World) : Mine.hd.heap_39 w.params = Mine.hd.heap_39 w.params ∧ PySem.Challenge.rw_pg0169_01 = PySem.Challenge.rw_pg0169_01 := by
  w_top off
  k_fill
  exact ⟨rfl, rfl⟩
theorem kall_lt7 {l : Led} {a d : Nat} (h : ∀ p ∈ l, p.1 < a) (hd : a ≤ d) : ∀ p ∈ l, p.1 ≠ d := fun p hp e => by
  have := h p hp
  rw [e] at this
  exact Nat.lt_irrefl _ (Nat.lt_of_lt_of_le this hd)
theorem off1_mem {D : Addr} : ∀ {l : Led}, LCg.Off1 D l → ∀ p ∈ l, p.1 ≠ D
  | [], _, _, h => nomatch h
  | _ :: _, x, p, h => by
    rcases List.mem_cons.mp h with rfl | h
    · exact x.1
    · exact off1_mem x.2 p h
theorem c_names {w : World} {mean : ExcName → Option Value} {mg mb : Str → Option Value} {A₀ : Around} {base h₀ : Heap} {outer : List Env} {L : Addr} {m : Str → Option Value} {news : Led} {s : Shared} {cs : Scope} {dp un : Nat} {gd : Option (List Code)} {cn : Str} {a : Addr} {ccd : Value} {cl : List (Str × Addr)} {Q E : Value → Shared → Prop}
    (h : At w mean mg mb A₀ base h₀ outer L m news s cs dp un 10)
    (b : Nat) (tb : Tok) (hb : b ≤ 28)
    (hret : ∀ l vs ep h' tk', StrsAre vs (namesV b) → (∀ p ∈ news, p.1 ≠ l) → Fr h₀ L h' m → News h₀ L h' ((l, listOf vs.toArray ep) :: news) → Q (.ref l) { s with heap := h', toks := tk' })
    : wpAny (model PG w) (ktrTop dp un gd cn cs L a ccd cl outer) (call (.ref 93) [.int (b : Int) tb]) Q E s := by
  k_with_none
  obtain ⟨B, F, X, N, T, hk, hd, hu⟩ := h
  refine wpAny_call ?_
  k_dflt k_enter
  k_with "eval ListComp" => refine Hold.out ?_
  k_with "CompSrc" => refine Hold.out ?_
  k_with "binaryOp Add str str" => ((with_reducible show wpAny _ _ (binaryOp _ (Value.str (_ ++ _) _) _) _ _ _); refine Hold.out ?_)
  k_steps
  refine LCg.ListComp_U (F₀ := by k_asm) (by with_unfolding_all rfl) (by decide) (by rfl) (by decide) (by rfl) ?_
  k_steps
  refine LCg.CompSrc.range (n := 4) (by rfl) (by k_asm) (by k_asm) (by assumption) (small_one (by omega) (by omega) (by omega) (by omega)) (by rw [rangeSize_nat]; congr 1; omega) (by decide) ?_
  intro g
  refine comp_rest (fun i => .str (nmV (b + i))) ?turn trivial ?fin
  case turn =>
    intro i v I oI C oC D m₂ ys h tk nw E' hi hv' hC hx F N off ne hS hsub
    obtain ⟨t, rfl⟩ := hv'
    simp only [List.forall_mem_cons] at hsub
    obtain ⟨h1, h2, h3, h4, hsub⟩ := hsub
    have e : ((b : Int) + (i : Int)) = ((b + i : Nat) : Int) := rfl
    have e2 : ((b : Int) + (i : Int)).toNat = b + i := by omega
    k_steps
    · refine comp_end (by assumption) (by assumption) off (S := fun _ => True) trivial ?_
      have e3 : nmV (b + i) = lowV.getD (b + i) Str.empty := by unfold nmV; rw [if_pos (by omega)]
      rw [e3, e2]
      exact .str _ _
    · k_dflt (refine PyProof.Rows.add_str ?_ ?_)
      rotate_left
      · simp only [Str.length_append, len_item]
        rw [PySem.sizeLine_eq]
        have h1 : (Str.ofString "0x").length = 2 := rfl
        have e4 : ((b : Int) + (i : Int)).fdiv 4 = ((b : Int) + (i : Int)) / 4 := Int.fdiv_eq_ediv_of_nonneg _ (by decide)
        rename (0 ≤ Int.fdiv _ _ → _) => kx
        have kx2 := kx (by rw [e4]; omega)
        rw [e4] at kx2 ⊢
        omega
      intro _ _
      k_steps
      refine comp_end (by assumption) (by assumption) off (S := fun _ => True) trivial ?_
      have e3 : nmV (b + i) = (Str.ofString "0x" ++ Txt.item (Str.ofString "1248") (((b + i : Nat) : Int).fmod 4)) ++ Txt.mul (Str.ofString "0") (((b + i : Nat) : Int).fdiv 4) := by unfold nmV; rw [if_neg (by omega)]
      rw [e3, e]
      exact .str _ _
  case fin =>
    intro ys nw hd hS hsub
    simp only [List.forall_mem_cons] at hsub
    obtain ⟨h1, h2, h3, h4, hsub⟩ := hsub
    have hss := strs_of_dat (xs := namesV b) (by unfold namesV; rw [List.map_map]; exact hd)
    k_steps
    rename (LCg.Off1 _ nw) => o1
    rename (News h₀ L _ ((_, LCg.lst ys) :: nw)) => kN
    rename (Fr h₀ L _ m) => kF
    refine hret _ ys ys.length _ _ hss (fun p hp => off1_mem o1 p (hsub p hp)) kF (cb_drop kN (fun p hp => ?_))
    rcases List.mem_cons.mp hp with rfl | hp
    · exact List.Mem.head _
    · exact List.Mem.tail _ (hsub _ hp)
theorem fill8 (w : World) : Mine.hd.heap_39 w.params = Mine.hd.heap_39 w.params ∧ PySem.Challenge.rw_pg0169_01 = PySem.Challenge.rw_pg0169_01 := by
  w_top off
  k_fill
  exact ⟨rfl, rfl⟩
theorem hex_size {i : Nat} (hi : i < 32) : (baseText "0x" 16 ((2 ^ i : Nat) : Int)).length ≤ sizeLine := by
  have h : ∀ i, i < 32 → (baseText "0x" 16 ((2 ^ i : Nat) : Int)).length ≤ 40 := by decide +kernel
  exact Nat.le_trans (h i hi) (by rw [PySem.sizeLine_eq]; omega)
theorem ne_flag {z : Str} (h : [Str.ofString "flag"].contains z = false) : z ≠ Str.ofString "flag" := fun e => absurd h (by rw [e]; decide)
theorem c_flags {w : World} {mean : ExcName → Option Value} {mg mb : Str → Option Value} {A₀ : Around} {base h₀ : Heap} {outer : List Env} {L : Addr} {m : Str → Option Value} {news : Led} {s : Shared} {cs : Scope} {dp un : Nat} {gd : Option (List Code)} {cn : Str} {a : Addr} {ccd : Value} {cl : List (Str × Addr)} {Q E : Value → Shared → Prop}
    (h : At w mean mg mb A₀ base h₀ outer L m news s cs dp un 10)
    (f : Nat) (tf : Tok) (hf : f < 4294967296)
    (hret : ∀ t h' tk', Fr h₀ L h' m → News h₀ L h' news → Q (.str (Txt.join (Str.ofString ", ") (flagsV f)) t) { s with heap := h', toks := tk' })
    : wpAny (model PG w) (ktrTop dp un gd cn cs L a ccd cl outer) (call (.ref 88) [.int (f : Int) tf]) Q E s := by
  k_with_none
  obtain ⟨B, F, X, N, T, hk, hd, hu⟩ := h
  refine wpAny_call ?_
  k_dflt k_enter
  k_with "exec For" => refine Hold.out ?_
  k_with "pyIter ref" => refine Hold.out ?_
  k_steps
  refine For_else ?_
  k_steps
  rename ∀ p ∈ news, p.1 < _ => hlt
  refine loop_else_range (n := 32) (base := news) (σ := FlS) (fun base c => (c.l, listOf c.vs.toArray c.ep) :: base) (fun c => [(Str.ofString "flags", .int (c.g : Int) c.t)])
      (fun _ i c => FlI f _ i c) [Str.ofString "flag"] ⟨_, f, tf, [], 0⟩ (by rfl) (by assumption) (small_one (by omega) (by omega) (by omega) (by omega)) (by decide) (by rfl) (by rfl) (by passes_own) (by assumption) (by assumption) ⟨rfl, by simp [Nat.mod_one], fun h => h, .nil, Nat.le_refl _⟩ ?k0 ?turn ?done
  case k0 =>
    intro p hp
    rw [List.mem_singleton.mp hp]
    rfl
  case turn =>
    intro i t c u I oI h tk hi hI hoff F' N'
    obtain ⟨l₂, g, tg, vs, ep⟩ := c
    obtain ⟨hl, hg, hz, hss, hep⟩ := hI
    dsimp only [kstB] at F' N' hl hg hz hss hep
    subst hl
    simp only [AllNe] at hoff
    have hsz := flagsAt_len f i (by omega)
    rw [← hss.length] at hsz
    k_with_none
    k_with "binaryOp LShift int int" => (k_dflt (refine shl_one (i := i) (by omega) hi ?_))
    k_with "binaryOp BitAnd int int" => (k_dflt (refine and_bit hg ?_ ?_); intro hb)
    k_with "call builtin:hex" => (k_dflt (refine P.hex_of_int ?_ (hex_size hi)))
    k_with "call builtin:dict.get" => ((with_reducible rename KTD.Keyed _ _ _ => kyX); k_dflt (refine get_flag (by assumption) (KTD.Keyed.keep kyX (by kt_keeps) _ _) flag_look ?_); intro _)
    k_with "inplaceOp BitXor int int" => (k_dflt (refine xor_bit hg (by assumption) ?_); intro g' hg')
    k_with "call builtin:str.join" => refine Hold.out ?_
    k_steps
    · rename f.testBit i = true => hb
      exact onF (by assumption) (by assumption) hoff hg' (by assumption) hb hss hep (by rfl) (fun z h1 h2 h3 => by have h4 := ne_flag h3; simp only [h1, h2, h3, h4, if_false, Bool.false_eq_true])
    · rename f.testBit i = true => hb
      have e := flags_end hi hg' hb (by omega)
      unfold TurnPost
      dsimp only
      k_steps
      refine PyProof.Rows.join_listW (ys := flagsV f) (News.isList (by assumption) (by k_mem)) ?_ (by decide) (flagsV_len f) ?_
      · rw [e, Array.toList_push]
        exact hss.append' (.cons _ _ .nil)
      intro t' k
      k_steps
      exact hret _ _ _ (by assumption) (cb_drop (by assumption) (fun p hp => by repeat (first | exact hp | refine List.Mem.tail _ ?_)))
    · exact absurd (by assumption) (by have := Nat.two_pow_pos i; omega)
    · rename f.testBit i = false => hb
      exact on0 (by assumption) (by assumption) hoff hg hz hb hss hep (by rfl) (fun z h1 h2 h3 => by have h4 := ne_flag h3; simp only [h1, h2, h3, h4, if_false, Bool.false_eq_true])
  case done =>
    intro c u h tk hI F' N'
    obtain ⟨l₂, g, tg, vs, ep⟩ := c
    obtain ⟨hl, hg, hz, hss, hep⟩ := hI
    dsimp only [kstB] at F' N' hl hg hz hss hep
    subst hl
    have hg0 : g = 0 := by omega
    have hf0 : f = 0 := Decidable.by_contra fun hne => hz hne hg0
    subst hg0 hf0
    cases hss
    k_with_none
    k_steps
    exact hret _ _ _ (by assumption) (cb_drop (by assumption) (fun p hp => by repeat (first | exact hp | refine List.Mem.tail _ ?_)))
theorem fillPair (w : World) : Mine.hd.heap_39 w.params = Mine.hd.heap_39 w.params ∧ PySem.Challenge.rw_pg0169_01 = PySem.Challenge.rw_pg0169_01 := by
  w_top off
  k_fill
  exact ⟨rfl, rfl⟩
local macro_rules | `(tactic| walk_at "storeName") => `(tactic| (k_here; k_dflt (refine' storeX_L ?F ?N ?_ ?a ?b; (case a => rfl); (case b => rfl); (case F => k_asm); (case N => k_asm); k_whole; intro h' F' N'; (try k_sweep))))
theorem c_pair {w : World} {mean : ExcName → Option Value} {mg mb : Str → Option Value} {A₀ : Around} {base h₀ : Heap} {outer : List Env} {L : Addr} {m : Str → Option Value} {news : Led} {s : Shared} {cs : Scope} {dp un : Nat} {gd : Option (List Code)} {cn : Str} {a : Addr} {ccd : Value} {cl : List (Str × Addr)} {Q E : Value → Shared → Prop}
    (h : At w mean mg mb A₀ base h₀ outer L m news s cs dp un 25)
    (b : Nat) (tb : Tok) (hb : b ≤ 28) (m1 m2 : Nat) (hm1 : m1 < 16) (hm2 : m2 < 16)
    (l1 : Addr) (w1 : List Value) (e1 : Nat) (W1 : List Str) (hW1 : (l1, listOf w1.toArray e1) ∈ news) (hs1 : StrsAre w1 W1) (ho1 : ∀ x ∈ W1, PyData.strOk x = true)
    (l2 : Addr) (w2 : List Value) (e2 : Nat) (W2 : List Str) (hW2 : (l2, listOf w2.toArray e2) ∈ news) (hs2 : StrsAre w2 W2) (ho2 : ∀ x ∈ W2, PyData.strOk x = true)
    (ln : Addr) (ks : List Value) (en : Nat) (hK : (ln, listOf ks.toArray en) ∈ news) (hKs : StrsAre ks (namesV b)) (hKo : ∀ x ∈ namesV b, PyData.strOk x = true)
    (hb1 : ∀ i x, (namesV b)[i]? = some x → (m1.testBit i = true ↔ x ∈ W1)) (hb2 : ∀ i x, (namesV b)[i]? = some x → (m2.testBit i = true ↔ x ∈ W2))
    (hret : ∀ news' h' tk', (∀ p ∈ news, p ∈ news') → Fr h₀ L h' m → News h₀ L h' news' → Q (.bool true) { s with heap := h', toks := tk' })
    : wpAny (model PG w) (ktrTop dp un gd cn cs L a ccd cl outer) (call (.ref 115) [.ref l1, .ref l2, .ref ln, .int (b : Int) tb]) Q E s := by
  k_with_none
  obtain ⟨B, F, X, N, T, hk, hd, hu⟩ := h
  refine wpAny_call ?_
  k_dflt k_enter
  rename_i d1 d2 d3 d4 d5 d6 d7 NC
  first | (replace d1 : _ = Data.cell (some (Value.ref l1)) := d1) | (replace d1 : _ = Data.cell (some (Value.ref l2)) := d1) | (replace d1 : _ = Data.cell (some (Value.ref ln)) := d1) | (replace d1 : _ = Data.cell (some (Value.int (b : Int) tb)) := d1) | (replace d1 : _ = Data.cell none := d1)
  first | (replace d2 : _ = Data.cell (some (Value.ref l1)) := d2) | (replace d2 : _ = Data.cell (some (Value.ref l2)) := d2) | (replace d2 : _ = Data.cell (some (Value.ref ln)) := d2) | (replace d2 : _ = Data.cell (some (Value.int (b : Int) tb)) := d2) | (replace d2 : _ = Data.cell none := d2)
  first | (replace d3 : _ = Data.cell (some (Value.ref l1)) := d3) | (replace d3 : _ = Data.cell (some (Value.ref l2)) := d3) | (replace d3 : _ = Data.cell (some (Value.ref ln)) := d3) | (replace d3 : _ = Data.cell (some (Value.int (b : Int) tb)) := d3) | (replace d3 : _ = Data.cell none := d3)
  first | (replace d4 : _ = Data.cell (some (Value.ref l1)) := d4) | (replace d4 : _ = Data.cell (some (Value.ref l2)) := d4) | (replace d4 : _ = Data.cell (some (Value.ref ln)) := d4) | (replace d4 : _ = Data.cell (some (Value.int (b : Int) tb)) := d4) | (replace d4 : _ = Data.cell none := d4)
  first | (replace d5 : _ = Data.cell (some (Value.ref l1)) := d5) | (replace d5 : _ = Data.cell (some (Value.ref l2)) := d5) | (replace d5 : _ = Data.cell (some (Value.ref ln)) := d5) | (replace d5 : _ = Data.cell (some (Value.int (b : Int) tb)) := d5) | (replace d5 : _ = Data.cell none := d5)
  first | (replace d6 : _ = Data.cell (some (Value.ref l1)) := d6) | (replace d6 : _ = Data.cell (some (Value.ref l2)) := d6) | (replace d6 : _ = Data.cell (some (Value.ref ln)) := d6) | (replace d6 : _ = Data.cell (some (Value.int (b : Int) tb)) := d6) | (replace d6 : _ = Data.cell none := d6)
  first | (replace d7 : _ = Data.cell (some (Value.ref l1)) := d7) | (replace d7 : _ = Data.cell (some (Value.ref l2)) := d7) | (replace d7 : _ = Data.cell (some (Value.ref ln)) := d7) | (replace d7 : _ = Data.cell (some (Value.int (b : Int) tb)) := d7) | (replace d7 : _ = Data.cell none := d7)
  rename_i o1 o2 o3 o4 o5 o6 o7
  have hz2 : (leadV (runsV m2)).length ≤ 90 := lead_size m2 hm2
  k_with "eval ListComp" => refine Hold.out ?_
  k_with "exec Assign cons ListComp" => refine Hold.out ?_
  k_with "call ref" => refine Hold.out ?_
  k_steps
  refine c_runs (by tb_start) l1 w1 e1 W1 (by repeat (first | exact hW1 | refine List.Mem.tail _ ?_)) hs1 ho1 ln ks en (namesV b) (by repeat (first | exact hK | refine List.Mem.tail _ ?_)) hKs (by simp [namesV]) hKo m1 hb1 ?_
  intro lm vm em h2 tk2 hvm F2 N2
  k_steps
  refine c_runs (by tb_start) l2 w2 e2 W2 (by repeat (first | exact hW2 | refine List.Mem.tail _ ?_)) hs2 ho2 ln ks en (namesV b) (by repeat (first | exact hK | refine List.Mem.tail _ ?_)) hKs (by simp [namesV]) hKo m2 hb2 ?_
  intro li vi ei h3 tk3 hvi F3 N3
  k_steps
  rename News _ _ _ _ => NN
  refine go_opaque ?_ NN
  clear NN
  intro nu0 hs0 N0
  simp only [List.forall_mem_cons] at hs0
  obtain ⟨_, g15, g16, g17, g18, g19, g20, g21, g22, g23, g24, hs0⟩ := hs0
  have hw1 := hs0 _ hW1
  have hw2 := hs0 _ hW2
  have hk3 := hs0 _ hK
  refine c_lead (by tb_start) lm vm em (runsV m1) g16 hvm (runs_b m1 hm1) (runs_w m1 hm1) ?_
  intro _ _ _ _ _
  k_steps
  refine c_mk _ _ (wdV m1) (Nat.le_trans (lead_size m1 hm1) (by decide : _ ≤ 100)) (lead_ws m1 hm1) rfl (wdV_ok m1 hm1) (by tb_start) ?_
  intro oA nA _ _ hwd1 hO1 hsA _ _
  obtain ⟨a1, dx1, q1, p1, v1, S1, dw1, k11, k12, k13, k14, k15, t11, t12, t13, t14⟩ := oA
  replace hwd1 : dw1 = wdV m1 := hwd1
  replace g15 := hsA _ g15
  replace g18 := hsA _ g18
  k_steps
  refine c_lead (by tb_start) li vi ei (runsV m2) g15 hvi (runs_b m2 hm2) (runs_w m2 hm2) ?_
  intro _ _ _ _ _
  k_steps
  refine c_mk _ _ (wdV m2) (Nat.le_trans (lead_size m2 hm2) (by decide : _ ≤ 100)) (lead_ws m2 hm2) rfl (wdV_ok m2 hm2) (by tb_start) ?_
  intro oB nB _ _ hwd2 hO2 hsB _ _
  obtain ⟨a2, dx2, q2, p2, v2, S2, dw2, k21, k22, k23, k24, k25, t21, t22, t23, t24⟩ := oB
  replace hwd2 : dw2 = wdV m2 := hwd2
  replace g15 := hsB _ g15
  replace g18 := hsB _ g18
  k_steps
  refine c_lead (by tb_start) li vi ei (runsV m2) g15 hvi (runs_b m2 hm2) (runs_w m2 hm2) ?_
  intro _ _ _ _ _
  k_steps
  refine c_mk _ _ (wdB m2) (Nat.le_trans (more_size m2 hm2) (by decide : _ ≤ 100)) (more_ws m2 hm2) rfl (wdB_ok m2 hm2) (by tb_start) ?_
  intro oC3 nC _ _ hwd3 hO3 hsC _ _
  obtain ⟨a3, dx3, q3, p3, v3, S3, dw3, k31, k32, k33, k34, k35, t31, t32, t33, t34⟩ := oC3
  replace hwd3 : dw3 = wdB m2 := hwd3
  k_steps
  rename News _ _ _ _ => NN
  refine go_opaque ?_ NN
  clear NN
  intro nu1 hsn1 N1
  simp only [List.forall_mem_cons] at hsn1
  obtain ⟨_, hsn1⟩ := hsn1
  replace hsC := fun p hp => hsn1 p (hsC p hp)
  replace hsB := fun p hp => hsC p (hsB p hp)
  replace hsA := fun p hp => hsB p (hsA p hp)
  replace hO1 := hO1.mono hsB
  replace hO2 := hO2.mono hsC
  replace hO3 := hO3.mono hsn1
  replace g15 := hsC _ g15
  replace g18 := hsC _ g18
  replace g16 := hsA _ g16
  replace g17 := hsA _ g17
  replace g19 := hsA _ g19
  replace g20 := hsA _ g20
  replace g21 := hsA _ g21
  replace g22 := hsA _ g22
  replace g23 := hsA _ g23
  replace g24 := hsA _ g24
  replace hw1 := hsA _ hw1
  replace hw2 := hsA _ hw2
  replace hk3 := hsA _ hk3
  k_with "compareOp In str ref" => refine Hold.out ?_
  k_with "compareOp NotIn str ref" => refine Hold.out ?_
  k_with "CompSrcT" => refine Hold.out ?_
  k_dflt (refine LCt.Assign_ListComp_T (F₀ := by k_asm) (by rfl) (by with_unfolding_all rfl) (by with_unfolding_all rfl) (by decide) (by rfl) (by decide) (by rfl) (by rfl) (by rfl) ?_)
  k_steps
  refine LCt.CompSrcT.range (n := 4) (by rfl) (by k_asm) (by k_asm) (by assumption) (by decide) (by decide) (by decide) ?_
  refine fun _ => comp_restTM (fun i => if lackB m1 m2 i then some (Dat.int ((0 : Int) + (i : Int))) else none) ?turn trivial ?fin
  case turn =>
    intro M i v I oI C oC D m₂ ys h tk nw E' hi hv' hC hx F N off ne hS hsub
    obtain ⟨t, rfl⟩ := hv'
    replace g22 := hsub _ g22
    replace g23 := hsub _ g23
    replace g24 := hsub _ g24
    have hx4 := names_at (b := b) hi
    k_with "subscriptTail" => (k_dflt (refine item_strL i (by k_asm) (.tail _ (.tail _ (.tail _ (hsub _ hk3)))) hKs hx4 (by omega) (by simp [namesV]) ?_); intro _)
    k_with "compareOp In str ref" => (k_dflt (refine str_in (m1.testBit i) (by k_asm) (.tail _ (.tail _ (.tail _ (hsub _ hw1)))) hs1 ho1 (hKo _ (List.mem_of_getElem? hx4)) (by ktr_units) (hb1 _ _ hx4) ?_))
    k_with "compareOp NotIn str ref" => (k_dflt (refine str_notIn (m2.testBit i) (by k_asm) (.tail _ (.tail _ (.tail _ (hsub _ hw2)))) hs2 ho2 (hKo _ (List.mem_of_getElem? hx4)) (by ktr_units) (hb2 _ _ hx4) ?_))
    k_steps
    · rename m2.testBit i = true => z2
      rename m1.testBit i = true => z1
      exact comp_endF (by assumption) (by assumption) off hS (if_neg (by unfold lackB; rw [z1, z2]; decide))
    · rename m2.testBit i = false => z2
      rename m1.testBit i = true => z1
      exact comp_endT (by assumption) (by assumption) off hS (if_pos (by unfold lackB; rw [z1, z2]; rfl)) (.int _ _)
    · rename m1.testBit i = false => z1
      exact comp_endF (by assumption) (by assumption) off hS (if_neg (by unfold lackB; rw [z1]; simp))
  intro ys nw hdl hS hsub0
  rw [fm_pick] at hdl
  have hlk := ints_of_dat hdl
  replace g22 := hsub0 _ g22
  replace g23 := hsub0 _ g23
  replace g24 := hsub0 _ g24
  replace hw1 := hsub0 _ hw1
  replace hw2 := hsub0 _ hw2
  replace hk3 := hsub0 _ hk3
  k_with_none
  k_with "exec Assign cons ListComp" => refine Hold.out ?_
  k_with "CompSrcT" => refine Hold.out ?_
  k_with "eval ListComp" => refine Hold.out ?_
  k_with "call ref" => refine Hold.out ?_
  k_steps
  k_dflt (refine LCt.Assign_ListComp_T (F₀ := by k_asm) (by rfl) (by with_unfolding_all rfl) (by with_unfolding_all rfl) (by decide) (by rfl) (by decide) (by rfl) (by rfl) (by rfl) ?_)
  k_steps
  refine LCt.CompSrcT.range (n := 4) (by rfl) (by k_asm) (by k_asm) (by assumption) (by decide) (by decide) (by decide) ?_
  refine fun _ => comp_restTM (fun i => if unlikeB m1 m2 i then some (Dat.int ((0 : Int) + (i : Int))) else none) ?turn2 trivial ?fin2
  case turn2 =>
    intro M i v I oI C oC D m₂ ys h tk nw₂ E' hi hv' hC hx F N off ne hS hsub
    obtain ⟨t, rfl⟩ := hv'
    simp only [List.forall_mem_cons] at hsub
    obtain ⟨_, hsub⟩ := hsub
    replace g22 := hsub _ g22
    replace g23 := hsub _ g23
    replace g24 := hsub _ g24
    have hx4 := names_at (b := b) hi
    k_with "subscriptTail" => (k_dflt (refine item_strL i (by k_asm) (.tail _ (.tail _ (.tail _ (hsub _ hk3)))) hKs hx4 (by omega) (by simp [namesV]) ?_); intro _)
    k_with "compareOp In str ref" => first
      | (k_dflt (refine str_in (m1.testBit i) (by k_asm) (.tail _ (.tail _ (.tail _ (hsub _ hw1)))) hs1 ho1 (hKo _ (List.mem_of_getElem? hx4)) (by ktr_units) (hb1 _ _ hx4) ?_))
      | (k_dflt (refine str_in (m2.testBit i) (by k_asm) (.tail _ (.tail _ (.tail _ (hsub _ hw2)))) hs2 ho2 (hKo _ (List.mem_of_getElem? hx4)) (by ktr_units) (hb2 _ _ hx4) ?_))
    k_steps
    · rename (m1.testBit i != m2.testBit i) = true => z
      exact comp_endT (by assumption) (by assumption) off hS (if_pos z) (.int _ _)
    · rename (m1.testBit i != m2.testBit i) = false => z
      exact comp_endF (by assumption) (by assumption) off hS (if_neg (by unfold unlikeB; rw [z]; decide))
  intro yu nu hdu hSu hsubu
  simp only [List.forall_mem_cons] at hsubu
  obtain ⟨gl, hsubu⟩ := hsubu
  rw [fm_pick] at hdu
  have hun := ints_of_dat hdu
  replace g22 := hsubu _ g22
  replace g23 := hsubu _ g23
  replace g24 := hsubu _ g24
  replace hw1 := hsubu _ hw1
  replace hw2 := hsubu _ hw2
  replace hk3 := hsubu _ hk3
  replace hsub0 := fun p hp => hsubu p (hsub0 p hp)
  replace g15 := hsub0 _ g15
  replace g16 := hsub0 _ g16
  replace g17 := hsub0 _ g17
  replace g18 := hsub0 _ g18
  replace g19 := hsub0 _ g19
  replace g20 := hsub0 _ g20
  replace g21 := hsub0 _ g21
  replace hO1 := hO1.mono hsub0
  replace hO2 := hO2.mono hsub0
  replace hO3 := hO3.mono hsub0
  replace hsub0 : ∀ p ∈ news, p ∈ nu := fun p hp => hsub0 p (hsA p (hs0 p hp))
  have g2 : (a3, instObj 76 dx3) ∈ nu := hO3.hx
  have g3 : (dx3, wsDict w S3 dw3 q3 k31 k32 k33 k34 k35 t31 t32 t33) ∈ nu := hO3.hdx
  have g6 : (a2, instObj 76 dx2) ∈ nu := hO2.hx
  have g7 : (dx2, wsDict w S2 dw2 q2 k21 k22 k23 k24 k25 t21 t22 t23) ∈ nu := hO2.hdx
  have g10 : (a1, instObj 76 dx1) ∈ nu := hO1.hx
  have g11 : (dx1, wsDict w S1 dw1 q1 k11 k12 k13 k14 k15 t11 t12 t13) ∈ nu := hO1.hdx
  k_steps
  k_with_none
  k_with "exec Assign cons ListComp" => refine Hold.out ?_
  k_with "CompSrcT" => refine Hold.out ?_
  k_with "eval ListComp" => refine Hold.out ?_
  k_with "call ref" => refine Hold.out ?_
  k_with "compareOp Eq ref ref" => refine Hold.out ?_
  refine c_less (by tb_start) _ _ (hO1.mono (fun p hp => .tail _ hp)) (hO3.mono (fun p hp => .tail _ hp)) ?_
  intro _ _ _ _
  k_steps
  k_dflt (refine dat_eq (decide (pickV (lackB m1 m2) = [])) (by k_asm) (.list (n := ys.length) (.tail _ (.tail _ gl)) (datAll_ints hlk)) (.list (vs := []) (n := 0) (.head _) .nil) (kq_pick _) rfl (by ktr_units) (pick_nil _) ?_)
  rw [← less_law m1 hm1 m2 hm2, ← hwd1, ← hwd3]
  k_steps
  · exact absurd (by assumption : (lessV dw1 dw3 != lessV dw1 dw3) = true) (by simp)
  refine c_equal (by tb_start) _ _ (hO1.mono (fun p hp => by repeat (first | exact hp | refine List.Mem.tail _ ?_))) (hO2.mono (fun p hp => by repeat (first | exact hp | refine List.Mem.tail _ ?_))) ?_
  intro _ _ _ _
  k_steps
  k_dflt (refine dat_eq (decide (pickV (unlikeB m1 m2) = [])) (by k_asm) (.list (n := yu.length) ?mm2 (datAll_ints hun)) (.list (vs := []) (n := 0) (.head _) .nil) (kq_pick _) rfl (by ktr_units) (pick_nil _) ?_)
  case mm2 => k_mem
  rw [← equal_law m1 hm1 m2 hm2, ← hwd1, ← hwd2]
  k_steps
  · exact absurd (by assumption : (decide (dw1.cs = dw2.cs ∧ dw1.b = dw2.b) != decide (dw1.cs = dw2.cs ∧ dw1.b = dw2.b)) = true) (by simp)
  k_with_none
  k_with "exec Assign cons ListComp" => refine Hold.out ?_
  k_with "CompSrcT" => refine Hold.out ?_
  k_with "eval ListComp" => refine Hold.out ?_
  k_with "call ref" => refine Hold.out ?_
  k_with "compareOp Eq ref ref" => refine Hold.out ?_
  k_with "eval BinOp" => refine Hold.out ?_
  k_with "eval IfExp" => refine Hold.out ?_
  k_steps
  refine c_nlw (by tb_start) _ _ (hO1.mono (fun p hp => by repeat (first | exact hp | refine List.Mem.tail _ ?_))) (hO3.mono (fun p hp => by repeat (first | exact hp | refine List.Mem.tail _ ?_))) ?_
  intro lp wp ep np _ _ hdp hlp hsp _ _
  simp only [List.forall_mem_cons] at hsp
  obtain ⟨_, _, gu, hsp⟩ := hsp
  replace gl := hsp _ gl
  replace g2 := hsp _ g2
  replace g3 := hsp _ g3
  replace g6 := hsp _ g6
  replace g7 := hsp _ g7
  replace g10 := hsp _ g10
  replace g11 := hsp _ g11
  replace g15 := hsp _ g15
  replace g16 := hsp _ g16
  replace g17 := hsp _ g17
  replace g18 := hsp _ g18
  replace g19 := hsp _ g19
  replace g20 := hsp _ g20
  replace g21 := hsp _ g21
  replace g22 := hsp _ g22
  replace g23 := hsp _ g23
  replace g24 := hsp _ g24
  replace hw1 := hsp _ hw1
  replace hw2 := hsp _ hw2
  replace hk3 := hsp _ hk3
  replace hO1 := hO1.mono hsp
  replace hO2 := hO2.mono hsp
  k_steps
  refine c_new (by tb_start) _ _ hO1 hO2 ?_
  intro lq wq eq3 nq _ _ hdq hlq hsq _ _
  replace gl := hsq _ gl
  replace gu := hsq _ gu
  replace g15 := hsq _ g15
  replace g16 := hsq _ g16
  replace g17 := hsq _ g17
  replace g18 := hsq _ g18
  replace g19 := hsq _ g19
  replace g20 := hsq _ g20
  replace g21 := hsq _ g21
  replace g22 := hsq _ g22
  replace g23 := hsq _ g23
  replace g24 := hsq _ g24
  replace hw1 := hsq _ hw1
  replace hw2 := hsq _ hw2
  replace hk3 := hsq _ hk3
  replace hlp := hsq _ hlp
  replace hdp := DatAll.mono hsq hdp
  replace hdp : DatAll nq wp (((namedV (gtB m1 m2) (pickV (lackB m1 m2))).map fun z => (z, colV (runsV m1) z, colV (runsV m2) z + 1)).map tripD) := by rw [← nl_law m1 hm1 m2 hm2, ← hwd1, ← hwd3]; exact hdp
  replace hdq : DatAll nq wq (((namedV (neB m1 m2) (pickV (unlikeB m1 m2))).map fun z => (z, colV (runsV m1) z, colV (runsV m2) z)).map tripD) := by rw [← ne_law m1 hm1 m2 hm2, ← hwd1, ← hwd2]; exact hdq
  clear hO1 hO2 hO3 g2 g3 g6 g7 g10 g11
  k_steps
  k_with_none
  refine cut_lst (by k_asm) nq (namedV (gtB m1 m2) (pickV (lackB m1 m2))) ?nm1 ?_
  case nm1 =>
    k_with_none
    k_with "eval IfExp" => refine Hold.out ?_
    k_steps
    refine cut_lst (by k_asm) nq (if gtB m1 m2 then [1] else []) ?ie1 ?_
    case ie1 =>
      k_with_none
      k_with "call builtin:sum" => first
        | (k_dflt (refine sum_led (by k_asm) (by k_asm) (by rfl) (by repeat (first | exact g16 | refine List.Mem.tail _ ?_)) hvm ?_); intro _ _ _ _ _)
        | (k_dflt (refine sum_led (by k_asm) (by k_asm) (by rfl) (by repeat (first | exact g15 | refine List.Mem.tail _ ?_)) hvi ?_); intro _ _ _ _ _)
      k_steps
      · rw [if_pos (show gtB m1 m2 = true from decide_eq_true (by assumption))]
        exact LstPost.intro (vs := [_]) (.cons _ _ .nil) (.head _) (fun p hp => .tail _ (.tail _ hp)) (by assumption) (by assumption)
      · rw [if_neg (show ¬ gtB m1 m2 = true from fun e => absurd (of_decide_eq_true e) (by assumption))]
        exact LstPost.intro (vs := []) .nil (.head _) (fun p hp => .tail _ (.tail _ hp)) (by assumption) (by assumption)
    refine Hold.out ?_
    intro li1 vi1 ei1 nv _ _ hi1 hm1' hsv _ _
    have gl' := hsv _ gl
    have c17 := hsv _ g17
    have c18 := hsv _ g18
    have c19 := hsv _ g19
    have c20 := hsv _ g20
    have c21 := hsv _ g21
    have c22 := hsv _ g22
    have c23 := hsv _ g23
    have c24 := hsv _ g24
    k_with_none
    k_with "eval ListComp" => refine Hold.out ?_
    k_with "CompSrc" => refine Hold.out ?_
    k_with "binaryOp Add ref ref" => refine Hold.out ?_
    k_steps
    k_dflt (refine LCg.ListComp_U (F₀ := by k_asm) (by with_unfolding_all rfl) (by decide) (by rfl) (by decide) (by rfl) ?_)
    k_steps
    refine LCg.CompSrc.ledger (by rfl) (by k_asm) (by k_asm) gl' (by rw [List.size_toArray, hlk.length, PySem.sizeLine_eq]; have := pickI_len (lackB m1 m2); omega) ?_
    refine fun _ => comp_restM (fun i => .int (sizeI ((pickI (lackB m1 m2)).getD i 0))) ?tn1 (.inr ⟨_, gl', rfl, _, rfl⟩) ?fn1
    case tn1 =>
      intro M i v I oI C oC D m₂ ys2 h tk nw2 E' hi hv' hC hx F N off ne hS hsub
      obtain ⟨k, t, rfl, hk⟩ := IntsAre.at hlk i v (by simpa using hv')
      obtain ⟨j, rfl, hj⟩ := pick_lt (List.mem_of_getElem? hk)
      replace c17 := hsub _ c17
      replace c18 := hsub _ c18
      replace c19 := hsub _ c19
      replace c20 := hsub _ c20
      replace c21 := hsub _ c21
      replace c22 := hsub _ c22
      replace c23 := hsub _ c23
      replace c24 := hsub _ c24
      k_with_none
      k_with "subscriptTail" => (k_dflt (refine item_intL j (by k_asm) (by repeat (first | exact c17 | refine List.Mem.tail _ ?_)) (.cons 2 _ (.cons 3 _ (.cons 5 _ (.cons 7 _ .nil)))) (size_at hj) rfl (by decide) ?_); intro _)
      k_steps
      refine comp_end (by assumption) (by assumption) off hS ?_
      rw [getD_of hk]
      exact .int _ _
    intro ys2 nw2 hd2 hS2 hsub2
    have e2 : ys.toArray.size = (pickI (lackB m1 m2)).length := by rw [List.size_toArray, hlk.length]
    rw [e2, range_map (fun k => Dat.int (sizeI k)) 0 (pickI (lackB m1 m2))] at hd2
    have hi2 : IntsAre ys2 ((pickI (lackB m1 m2)).map sizeI) := ints_of_dat (by rw [List.map_map]; exact hd2)
    have hm2' := hsub2 _ hm1'
    k_with_none
    k_with "binaryOp Add ref ref" => refine Hold.out ?_
    k_steps
    refine cat_led (by k_asm) (by k_asm) (.tail _ hm2') (.head _) hi1 hi2 ?sz1 ?_
    case sz1 =>
      rw [List.length_map, PySem.sizeLine_eq]
      have := pickI_len (lackB m1 m2)
      split <;> simp <;> omega
    intro D3 us3 h3 F3 N3 hlt3 hi3
    rw [named_eq] at hi3
    exact LstPost.intro hi3 (.head _) (fun p hp => .tail _ (.tail _ (hsub2 _ (hsv _ hp)))) F3 N3
  refine Hold.out ?_
  intro ln1 vn1 en1 n4 _ _ hin1 hmn1 hs4 _ _
  replace gl := hs4 _ gl
  replace gu := hs4 _ gu
  replace g15 := hs4 _ g15
  replace g16 := hs4 _ g16
  replace g17 := hs4 _ g17
  replace g18 := hs4 _ g18
  replace g19 := hs4 _ g19
  replace g20 := hs4 _ g20
  replace g21 := hs4 _ g21
  replace g22 := hs4 _ g22
  replace g23 := hs4 _ g23
  replace g24 := hs4 _ g24
  replace hw1 := hs4 _ hw1
  replace hw2 := hs4 _ hw2
  replace hk3 := hs4 _ hk3
  replace hlp := hs4 _ hlp
  replace hlq := hs4 _ hlq
  replace hdp := DatAll.mono hs4 hdp
  replace hdq := DatAll.mono hs4 hdq
  k_with_none
  k_with "eval ListComp" => refine Hold.out ?_
  k_with "CompSrc" => refine Hold.out ?_
  k_with "compareOp NotEq ref ref" => refine Hold.out ?_
  k_steps
  k_dflt (refine LCg.ListComp_U (F₀ := by k_asm) (by with_unfolding_all rfl) (by decide) (by rfl) (by decide) (by rfl) ?_)
  k_steps
  refine LCg.CompSrc.ledger (by rfl) (by k_asm) (by k_asm) hmn1 (by rw [List.size_toArray, hin1.length, PySem.sizeLine_eq]; have := named_len (gtB m1 m2) (lackB m1 m2); omega) ?_
  refine fun _ => comp_restM (fun i => tripD ((fun z => (z, colV (runsV m1) z, colV (runsV m2) z + 1)) ((namedV (gtB m1 m2) (pickV (lackB m1 m2))).getD i 0))) ?tn2 (.inr ⟨_, hmn1, rfl, _, rfl⟩) ?fn2
  case tn2 =>
    intro M i v I oI C oC D m₂ ys2 h tk nw2 E' hi hv' hC hx F N off ne hS hsub
    obtain ⟨k, t, rfl, hk⟩ := IntsAre.at hin1 i v (by simpa using hv')
    have hkb := named_b (List.mem_of_getElem? hk)
    replace g15 := hsub _ g15
    replace g16 := hsub _ g16
    replace g18 := hsub _ g18
    replace g19 := hsub _ g19
    replace g20 := hsub _ g20
    replace g21 := hsub _ g21
    replace g22 := hsub _ g22
    replace g23 := hsub _ g23
    replace g24 := hsub _ g24
    k_with_none
    k_with "call ref" => first
      | (k_dflt (refine c_column (by tb_start) lm vm em (runsV m1) (by repeat (first | exact g16 | refine List.Mem.tail _ ?_)) hvm k _ (by omega) ?_); intro _ _ _ _ _)
      | (k_dflt (refine c_column (by tb_start) li vi ei (runsV m2) (by repeat (first | exact g15 | refine List.Mem.tail _ ?_)) hvi k _ (by omega) ?_); intro _ _ _ _ _)
    k_steps
    refine comp_endN (by assumption) (by assumption) (by assumption) off (srcAt_cons hS) ?_
    rw [getD_of hk]
    exact .tuple (.head _) (.cons (.int _ _) (.cons (.int _ _) (.cons (.int _ _) .nil)))
  intro ys3 n5 hd3 hS3 hs5
  have e3 : vn1.toArray.size = (namedV (gtB m1 m2) (pickV (lackB m1 m2))).length := by rw [List.size_toArray, hin1.length]
  rw [e3, range_map (fun k => tripD ((fun z => (z, colV (runsV m1) z, colV (runsV m2) z + 1)) k)) 0] at hd3
  replace hdp := DatAll.mono hs5 hdp
  replace hdq := DatAll.mono hs5 hdq
  replace gl := hs5 _ gl
  replace gu := hs5 _ gu
  replace g15 := hs5 _ g15
  replace g16 := hs5 _ g16
  replace g17 := hs5 _ g17
  replace g18 := hs5 _ g18
  replace g19 := hs5 _ g19
  replace g20 := hs5 _ g20
  replace g21 := hs5 _ g21
  replace g22 := hs5 _ g22
  replace g23 := hs5 _ g23
  replace g24 := hs5 _ g24
  replace hw1 := hs5 _ hw1
  replace hw2 := hs5 _ hw2
  replace hk3 := hs5 _ hk3
  replace hlp := hs5 _ hlp
  replace hlq := hs5 _ hlq
  k_with_none
  k_with "compareOp NotEq ref ref" => refine Hold.out ?_
  k_steps
  have hd3' : DatAll n5 ys3 (((namedV (gtB m1 m2) (pickV (lackB m1 m2))).map fun z => (z, colV (runsV m1) z, colV (runsV m2) z + 1)).map tripD) := by rw [List.map_map]; exact hd3
  k_dflt (refine dat_ne true (by k_asm) (.list (n := ep) (.tail _ hlp) (DatAll.mono (fun p hp => .tail _ hp) hdp)) (.list (n := ys3.length) (.head _) (DatAll.mono (fun p hp => .tail _ hp) hd3')) (tripD_ok _) (tripD_ok _) (by ktr_units) (iff_of_true rfl rfl) ?_)
  k_with_none
  k_with "eval BinOp" => refine Hold.out ?_
  k_with "eval IfExp" => refine Hold.out ?_
  k_steps
  k_with_none
  refine cut_lst (by k_asm) n5 (namedV (neB m1 m2) (pickV (unlikeB m1 m2))) ?nm2 ?_
  case nm2 =>
    k_with_none
    k_with "eval IfExp" => refine Hold.out ?_
    k_steps
    refine cut_lst (by k_asm) n5 (if neB m1 m2 then [1] else []) ?ie2 ?_
    case ie2 =>
      k_with_none
      k_with "call builtin:sum" => first
        | (k_dflt (refine sum_led (by k_asm) (by k_asm) (by rfl) (by repeat (first | exact g16 | refine List.Mem.tail _ ?_)) hvm ?_); intro _ _ _ _ _)
        | (k_dflt (refine sum_led (by k_asm) (by k_asm) (by rfl) (by repeat (first | exact g15 | refine List.Mem.tail _ ?_)) hvi ?_); intro _ _ _ _ _)
      k_steps
      · rw [if_pos (show neB m1 m2 = true from decide_eq_true (by assumption))]
        exact LstPost.intro (vs := [_]) (.cons _ _ .nil) (.head _) (fun p hp => .tail _ (.tail _ hp)) (by assumption) (by assumption)
      · rw [if_neg (show ¬ neB m1 m2 = true from fun e => (of_decide_eq_true e) (by assumption))]
        exact LstPost.intro (vs := []) .nil (.head _) (fun p hp => .tail _ (.tail _ hp)) (by assumption) (by assumption)
    refine Hold.out ?_
    intro li1 vi1 ei1 nv _ _ hi1 hm1' hsv _ _
    have gl' := hsv _ gu
    have c17 := hsv _ g17
    have c18 := hsv _ g18
    have c19 := hsv _ g19
    have c20 := hsv _ g20
    have c21 := hsv _ g21
    have c22 := hsv _ g22
    have c23 := hsv _ g23
    have c24 := hsv _ g24
    k_with_none
    k_with "eval ListComp" => refine Hold.out ?_
    k_with "CompSrc" => refine Hold.out ?_
    k_with "binaryOp Add ref ref" => refine Hold.out ?_
    k_steps
    k_dflt (refine LCg.ListComp_U (F₀ := by k_asm) (by with_unfolding_all rfl) (by decide) (by rfl) (by decide) (by rfl) ?_)
    k_steps
    refine LCg.CompSrc.ledger (by rfl) (by k_asm) (by k_asm) gl' (by rw [List.size_toArray, hun.length, PySem.sizeLine_eq]; have := pickI_len (unlikeB m1 m2); omega) ?_
    refine fun _ => comp_restM (fun i => .int (sizeI ((pickI (unlikeB m1 m2)).getD i 0))) ?tn3 (.inr ⟨_, gl', rfl, _, rfl⟩) ?fn3
    case tn3 =>
      intro M i v I oI C oC D m₂ ys2 h tk nw2 E' hi hv' hC hx F N off ne hS hsub
      obtain ⟨k, t, rfl, hk⟩ := IntsAre.at hun i v (by simpa using hv')
      obtain ⟨j, rfl, hj⟩ := pick_lt (List.mem_of_getElem? hk)
      replace c17 := hsub _ c17
      replace c18 := hsub _ c18
      replace c19 := hsub _ c19
      replace c20 := hsub _ c20
      replace c21 := hsub _ c21
      replace c22 := hsub _ c22
      replace c23 := hsub _ c23
      replace c24 := hsub _ c24
      k_with_none
      k_with "subscriptTail" => (k_dflt (refine item_intL j (by k_asm) (by repeat (first | exact c17 | refine List.Mem.tail _ ?_)) (.cons 2 _ (.cons 3 _ (.cons 5 _ (.cons 7 _ .nil)))) (size_at hj) rfl (by decide) ?_); intro _)
      k_steps
      refine comp_end (by assumption) (by assumption) off hS ?_
      rw [getD_of hk]
      exact .int _ _
    intro ys2 nw2 hd2 hS2 hsub2
    have e2 : yu.toArray.size = (pickI (unlikeB m1 m2)).length := by rw [List.size_toArray, hun.length]
    rw [e2, range_map (fun k => Dat.int (sizeI k)) 0 (pickI (unlikeB m1 m2))] at hd2
    have hi2 : IntsAre ys2 ((pickI (unlikeB m1 m2)).map sizeI) := ints_of_dat (by rw [List.map_map]; exact hd2)
    have hm2' := hsub2 _ hm1'
    k_with_none
    k_with "binaryOp Add ref ref" => refine Hold.out ?_
    k_steps
    refine cat_led (by k_asm) (by k_asm) (.tail _ hm2') (.head _) hi1 hi2 ?sz2 ?_
    case sz2 =>
      rw [List.length_map, PySem.sizeLine_eq]
      have := pickI_len (unlikeB m1 m2)
      split <;> simp <;> omega
    intro D3 us3 h3 F3 N3 hlt3 hi3
    rw [named_eq] at hi3
    exact LstPost.intro hi3 (.head _) (fun p hp => .tail _ (.tail _ (hsub2 _ (hsv _ hp)))) F3 N3
  refine Hold.out ?_
  intro ln2 vn2 en2 n6 _ _ hin2 hmn2 hs6 _ _
  replace gl := hs6 _ gl
  replace gu := hs6 _ gu
  replace g15 := hs6 _ g15
  replace g16 := hs6 _ g16
  replace g17 := hs6 _ g17
  replace g18 := hs6 _ g18
  replace g19 := hs6 _ g19
  replace g20 := hs6 _ g20
  replace g21 := hs6 _ g21
  replace g22 := hs6 _ g22
  replace g23 := hs6 _ g23
  replace g24 := hs6 _ g24
  replace hw1 := hs6 _ hw1
  replace hw2 := hs6 _ hw2
  replace hk3 := hs6 _ hk3
  replace hlp := hs6 _ hlp
  replace hlq := hs6 _ hlq
  replace hdp := DatAll.mono hs6 hdp
  replace hdq := DatAll.mono hs6 hdq
  k_with_none
  k_with "eval ListComp" => refine Hold.out ?_
  k_with "CompSrc" => refine Hold.out ?_
  k_with "compareOp NotEq ref ref" => refine Hold.out ?_
  k_steps
  k_dflt (refine LCg.ListComp_U (F₀ := by k_asm) (by with_unfolding_all rfl) (by decide) (by rfl) (by decide) (by rfl) ?_)
  k_steps
  refine LCg.CompSrc.ledger (by rfl) (by k_asm) (by k_asm) hmn2 (by rw [List.size_toArray, hin2.length, PySem.sizeLine_eq]; have := named_len (neB m1 m2) (unlikeB m1 m2); omega) ?_
  refine fun _ => comp_restM (fun i => tripD ((fun z => (z, colV (runsV m1) z, colV (runsV m2) z)) ((namedV (neB m1 m2) (pickV (unlikeB m1 m2))).getD i 0))) ?tn4 (.inr ⟨_, hmn2, rfl, _, rfl⟩) ?fn4
  case tn4 =>
    intro M i v I oI C oC D m₂ ys2 h tk nw2 E' hi hv' hC hx F N off ne hS hsub
    obtain ⟨k, t, rfl, hk⟩ := IntsAre.at hin2 i v (by simpa using hv')
    have hkb := named_b (List.mem_of_getElem? hk)
    replace g15 := hsub _ g15
    replace g16 := hsub _ g16
    replace g18 := hsub _ g18
    replace g19 := hsub _ g19
    replace g20 := hsub _ g20
    replace g21 := hsub _ g21
    replace g22 := hsub _ g22
    replace g23 := hsub _ g23
    replace g24 := hsub _ g24
    k_with_none
    k_with "call ref" => first
      | (k_dflt (refine c_column (by tb_start) lm vm em (runsV m1) (by repeat (first | exact g16 | refine List.Mem.tail _ ?_)) hvm k _ (by omega) ?_); intro _ _ _ _ _)
      | (k_dflt (refine c_column (by tb_start) li vi ei (runsV m2) (by repeat (first | exact g15 | refine List.Mem.tail _ ?_)) hvi k _ (by omega) ?_); intro _ _ _ _ _)
    k_steps
    refine comp_endN (by assumption) (by assumption) (by assumption) off (srcAt_cons hS) ?_
    rw [getD_of hk]
    exact .tuple (.head _) (.cons (.int _ _) (.cons (.int _ _) (.cons (.int _ _) .nil)))
  intro ys4 n7 hd4 hS4 hs7
  have e4 : vn2.toArray.size = (namedV (neB m1 m2) (pickV (unlikeB m1 m2))).length := by rw [List.size_toArray, hin2.length]
  rw [e4, range_map (fun k => tripD ((fun z => (z, colV (runsV m1) z, colV (runsV m2) z)) k)) 0] at hd4
  replace hdp := DatAll.mono hs7 hdp
  replace hdq := DatAll.mono hs7 hdq
  replace gl := hs7 _ gl
  replace gu := hs7 _ gu
  replace g15 := hs7 _ g15
  replace g16 := hs7 _ g16
  replace g17 := hs7 _ g17
  replace g18 := hs7 _ g18
  replace g19 := hs7 _ g19
  replace g20 := hs7 _ g20
  replace g21 := hs7 _ g21
  replace g22 := hs7 _ g22
  replace g23 := hs7 _ g23
  replace g24 := hs7 _ g24
  replace hw1 := hs7 _ hw1
  replace hw2 := hs7 _ hw2
  replace hk3 := hs7 _ hk3
  replace hlp := hs7 _ hlp
  replace hlq := hs7 _ hlq
  k_with_none
  k_with "compareOp NotEq ref ref" => refine Hold.out ?_
  k_steps
  have hd4' : DatAll n7 ys4 (((namedV (neB m1 m2) (pickV (unlikeB m1 m2))).map fun z => (z, colV (runsV m1) z, colV (runsV m2) z)).map tripD) := by rw [List.map_map]; exact hd4
  k_dflt (refine dat_ne true (by k_asm) (.list (n := eq3) (.tail _ hlq) (DatAll.mono (fun p hp => .tail _ hp) hdq)) (.list (n := ys4.length) (.head _) (DatAll.mono (fun p hp => .tail _ hp) hd4')) (tripD_ok _) (tripD_ok _) (by ktr_units) (iff_of_true rfl rfl) ?_)
  k_with_none
  k_with "eval BinOp" => refine Hold.out ?_
  k_with "pyIter ref" => refine Hold.out ?_
  k_with "eval IfExp" => refine Hold.out ?_
  k_steps
  k_with_none
  refine turns_listM [Str.ofString "told", Str.ofString "due", Str.ofString "flags"] (by rfl) (by k_asm) (by k_asm) (.head _) ?tn5 ?dn5
  case tn5 =>
    intro M i v h tk all hi hbs F N
    have hbb : ∀ p ∈ n7, p ∈ all := fun p hp => hbs p (.tail _ (.tail _ (.tail _ (.tail _ hp))))
    have hv : ∃ (T lt : Addr) (wt : List Value) (et : Nat) (ld : Addr) (yd : List Value) (c : Bool) (q : Nat → Bool) (g1 g2 : Int → Int), v = .ref T ∧ (T, tupOf [.ref lt, .ref ld]) ∈ all ∧ (lt, listOf wt.toArray et) ∈ all ∧ DatAll all wt (((namedV c (pickV q)).map fun z => (z, g1 z, g2 z)).map tripD) ∧ (ld, LCg.lst yd) ∈ all ∧ IntsAre yd (pickI q) := by
      match i, hi with
      | 0, hi =>
        cases hi
        exact ⟨_, lp, wp, ep, _, ys, _, _, _, _, rfl, hbs _ (.tail _ (.tail _ (.head _))), hbb _ hlp, DatAll.mono hbb hdp, hbb _ gl, hlk⟩
      | 1, hi =>
        cases hi
        exact ⟨_, lq, wq, eq3, _, yu, _, _, _, _, rfl, hbs _ (.tail _ (.head _)), hbb _ hlq, DatAll.mono hbb hdq, hbb _ gu, hun⟩
    obtain ⟨T, lt, wt, et, ld, yd, c, q, g1, g2, rfl, hT, hlt, hdt, hld, hyd⟩ := hv
    have hwl : wt.length = (namedV c (pickV q)).length := by rw [dat_len hdt, List.length_map, List.length_map]
    replace g17 := hbb _ g17
    replace g18 := hbb _ g18
    replace g19 := hbb _ g19
    replace g20 := hbb _ g20
    replace g21 := hbb _ g21
    replace g22 := hbb _ g22
    replace g23 := hbb _ g23
    replace g24 := hbb _ g24
    replace hk3 := hbb _ hk3
    k_with_none
    k_with "eval ListComp" => refine Hold.out ?_
    k_with "call ref" => refine Hold.out ?_
    k_with "eval BoolOp" => refine Hold.out ?_
    k_with "compareOp NotEq str str" => refine Hold.out ?_
    k_steps
    refine comp_IT (Pt := fun i vals => ∃ z x y t1 t2 t3, vals = #[.int z t1, .int x t2, .int y t3] ∧ (namedV c (pickV q))[i]? = some z) (n := wt.length) (by k_asm) (fun i => fAt b ((namedV c (pickV q)).getD i 0)) ⟨_, _, _, rfl⟩ (by rw [hwl, PySem.sizeLine_eq]; have := named_len c q; omega) (by with_unfolding_all rfl) (by decide) (by rfl) (by decide)
      (binds3 (by rfl) (by rfl) (by rfl) (by rfl) (by rfl) (by decide) (by decide) (by decide) (by rintro i vals ⟨z, x, y, t1, t2, t3, rfl, _⟩; exact ⟨_, _, _, rfl⟩)) ?_
    walk1
    refine ⟨_, by k_asm, by k_asm, ?_⟩
    refine tups_go (fun i vals => ∃ z x y t1 t2 t3, vals = #[.int z t1, .int x t2, .int y t3] ∧ (namedV c (pickV q))[i]? = some z) (by rfl) (by k_asm) (by k_asm) hlt ?tt1 ?_
    case tt1 =>
      intro i v hv
      obtain ⟨d, hd1, hd2⟩ := dat_get hdt hv
      rw [List.getElem?_map, List.getElem?_map] at hd1
      cases hz : (namedV c (pickV q))[i]? with
      | none => rw [hz] at hd1; cases hd1
      | some z =>
        rw [hz] at hd1
        cases hd1
        cases hd2 with
        | tuple hm hds =>
          cases hds with
          | cons x1 hds =>
            cases hds with
            | cons x2 hds =>
              cases hds with
              | cons x3 hds =>
                cases hds
                cases x1
                cases x2
                cases x3
                exact ⟨_, [_, _, _], _, rfl, hm, _, _, _, _, _, _, rfl, rfl⟩
    intro I fp wr St Mid h' W hfp0 hst hfp hLf off F' N'
    refine ⟨I, fp, wr, St, Mid, rfl, W, hfp0, hst, hfp, F', N', hLf, off, ?_, ?_⟩
    · rintro i vals C oC D ys m₂ h tk all2 E' hi ⟨z, x, y, t1, t2, t3, rfl, hz⟩ hC ⟨x', y', z', hxy, hm1, hm2, hm3⟩ F3 N3 hCm hDm hsub
      cases hxy
      replace g17 := hsub _ g17
      replace g18 := hsub _ g18
      replace g19 := hsub _ g19
      replace g20 := hsub _ g20
      replace g21 := hsub _ g21
      replace g22 := hsub _ g22
      replace g23 := hsub _ g23
      replace g24 := hsub _ g24
      k_with_none
      k_with "call builtin:list.index" => refine Hold.out ?_
      k_with "binaryOp LShift int int" => refine Hold.out ?_
      k_steps
      · have hz2 := named_size (List.mem_of_getElem? hz) (by assumption)
        have hi4 := idx_lt hz2
        k_dflt (refine index_list_ints (News.isList (by k_asm) (by repeat (first | exact g17 | refine List.Mem.tail _ ?_))) (.cons 2 _ (.cons 3 _ (.cons 5 _ (.cons 7 _ .nil)))) (by rfl) hz2 ?_)
        k_steps
        k_dflt (refine shl_one (i := b + ([2, 3, 5, 7] : List Int).idxOf z) (by omega) (by omega) ?_)
        k_steps
        exact ElT.intro (by rw [getD_of hz]; exact if_pos (by assumption)) (by assumption) (by assumption)
      · exact ElF.intro (by rw [getD_of hz]; exact if_neg (by omega)) (by assumption) (by assumption)
    intro D h tk ys5 hi5 F5 N5 o5x
    have hsum : ((List.range wt.length).filterMap fun i => fAt b ((namedV c (pickV q)).getD i 0)).sum = (flN b (pickV q) : Int) := by rw [hwl]; exact fl_sum b c q
    k_with_none
    k_with "call ref" => refine Hold.out ?_
    k_with "eval ListComp" => refine Hold.out ?_
    k_with "eval BoolOp" => refine Hold.out ?_
    k_with "compareOp NotEq str str" => refine Hold.out ?_
    k_with "call builtin:sum" => (k_dflt (refine sum_led (by k_asm) (by k_asm) (by rfl) (.head _) hi5 ?_); rw [hsum]; intro _ _ _ _ _)
    k_steps
    refine c_flags (by tb_start) (flN b (pickV q)) _ (fl_lt b hb q) ?_
    rw [fl_text b hb q]
    intro _ _ _ _ _
    k_with_none
    k_with "eval ListComp" => refine Hold.out ?_
    k_with "eval BoolOp" => refine Hold.out ?_
    k_with "compareOp NotEq str str" => refine Hold.out ?_
    k_steps
    refine cut_str (by k_asm) all (dueV b (pickV q)) ?bo1 ?_
    case bo1 =>
      k_with_none
      k_with "eval ListComp" => refine Hold.out ?_
      k_with "CompSrc" => refine Hold.out ?_
      k_with "call builtin:str.join" => refine Hold.out ?_
      k_with "truthy str" => refine Hold.out ?_
      k_steps
      k_dflt (refine LCg.ListComp_U (F₀ := by k_asm) (by with_unfolding_all rfl) (by decide) (by rfl) (by decide) (by rfl) ?_)
      k_steps
      refine LCg.CompSrc.ledger (by rfl) (by k_asm) (by k_asm) (by repeat (first | exact hld | refine List.Mem.tail _ ?_)) (by rw [List.size_toArray, hyd.length, PySem.sizeLine_eq]; have := pickI_len q; omega) ?_
      refine fun _ => comp_restM (fun i => .str (nmV (b + ((pickI q).getD i 0).toNat))) ?tn6 (.inr ⟨_, by repeat (first | exact hld | refine List.Mem.tail _ ?_), rfl, _, rfl⟩) ?fn6
      case tn6 =>
        intro M i v I oI C oC D m₂ ys2 h tk nw2 E' hi hv' hC hx F N off ne hS hsub
        obtain ⟨k, t, rfl, hk⟩ := IntsAre.at hyd i v (by simpa using hv')
        obtain ⟨j, rfl, hj⟩ := pick_lt (List.mem_of_getElem? hk)
        simp only [List.forall_mem_cons] at hsub
        obtain ⟨_, hsub⟩ := hsub
        replace g18 := hsub _ g18
        replace g19 := hsub _ g19
        replace g20 := hsub _ g20
        replace g21 := hsub _ g21
        replace g22 := hsub _ g22
        replace g23 := hsub _ g23
        replace g24 := hsub _ g24
        replace hk3 := hsub _ hk3
        k_with_none
        k_with "subscriptTail" => (k_dflt (refine item_strL j (by k_asm) (by repeat (first | exact hk3 | refine List.Mem.tail _ ?_)) hKs (names_at hj) rfl (by simp [namesV]) ?_); intro _)
        k_steps
        refine comp_end (by assumption) (by assumption) off hS ?_
        rw [getD_of hk]
        exact .str _ _
      intro ys6 nw6 hd6 hS6 hsub6
      simp only [List.forall_mem_cons] at hsub6
      obtain ⟨_, hsub6⟩ := hsub6
      have e6 : yd.toArray.size = (pickI q).length := by rw [List.size_toArray, hyd.length]
      rw [e6, range_map (fun k => Dat.str (nmV (b + Int.toNat k))) 0 (pickI q)] at hd6
      have hs6x : StrsAre ys6 (dueN b (pickV q)) := strs_of_dat (by unfold dueN; rw [List.map_map]; unfold pickI at hd6; rw [List.map_map] at hd6; exact hd6)
      obtain ⟨hdl1, hdl2, hdl3⟩ := due_len b hb q
      k_with_none
      k_with "call builtin:str.join" => refine Hold.out ?_
      k_with "truthy str" => refine Hold.out ?_
      k_steps
      refine PyProof.Rows.join_listW (News.isList (by assumption) (by k_mem)) hs6x (by decide) hdl1 ?_
      intro t' k
      k_steps
      by_cases hp : pickV q = []
      · refine KXt.truthy (b := false) (by rw [hdl3, hp]; rfl) (Nat.le_trans hdl2 (by decide)) ?_
        intro _
        k_steps
        exact StrPost.intro (by unfold dueV; rw [if_pos hp]) (fun p hp => .tail _ (hsub6 p hp)) (by assumption) (by assumption)
      · refine KXt.truthy (b := true) (by rw [hdl3]; cases hl : pickV q with | nil => exact absurd hl hp | cons _ _ => rfl) (Nat.le_trans hdl2 (by decide)) ?_
        intro _
        k_steps
        exact StrPost.intro (by unfold dueV; rw [if_neg hp]) (fun p hp => .tail _ (hsub6 p hp)) (by assumption) (by assumption)
    refine Hold.out ?_
    intro tX nX _ _ hsX _ _
    k_with_none
    k_with "compareOp NotEq str str" => refine Hold.out ?_
    k_steps
    refine PyProof.Rows.ne_str ?_
    rw [bne_self_eq_false]
    k_steps
    exact TurnOk.goes (by assumption) (by assumption) hsX (fun z hz => by have h3 := ne3 hz; simp only [h3.1, h3.2.1, h3.2.2, if_false])
  refine Hold.out ?_
  intro M h tk F N
  k_with_none
  k_steps
  exact hret _ _ _ (fun p hp => .tail _ (.tail _ (.tail _ (.tail _ (hs7 _ (hs6 _ (hs5 _ (hs4 _ (hsq _ (hsp _ (hsub0 _ hp))))))))))) (by assumption) (by assumption)
theorem fillLaw (w : World) : Mine.hd.heap_39 w.params = Mine.hd.heap_39 w.params ∧ PySem.Challenge.rw_pg0169_01 = PySem.Challenge.rw_pg0169_01 := by
  w_top off
  k_fill
  exact ⟨rfl, rfl⟩
theorem lawW : PySem.Challenge.rw_pg0169_01.Holds := hd (by
  k_with_none
  k_go0
  k_with "call ref" => refine Hold.out ?_
  k_steps
  refine name_arg (fun z => 0 ≤ z ∧ z ≤ 28) (fmod_b _) (fun bz hbz hb2 => ?_)
  rename Fr _ _ _ _ => FF
  rw [hbz] at FF
  obtain ⟨b, rfl⟩ := Int.eq_ofNat_of_zero_le hb2.1
  have hb : b ≤ 28 := by omega
  dsimp only at FF
  rename News _ _ _ _ => NN
  replace NN := cb_drop NN (fun p hp => .tail _ (.tail _ hp))
  refine c_names (by tb_start) b _ hb ?_
  intro ln ks en _ _ hKs hln _ NN
  k_with_none
  k_with "eval BinOp" => refine Hold.out ?_
  k_steps
  rename News _ _ _ _ => NN
  replace NN := cb_drop NN (fun p hp => .tail _ hp)
  rename Fr _ _ _ _ => FL
  refine For_turns FL ?_
  k_with_none
  k_with "pyIter ref" => refine Hold.out ?_
  k_steps
  rename_i wW _ sH _ _ _ _ fa _ _ _ _ _ _ _ _ _ _ _ _ _ _ _ _ _ _ _ ns _ _ _ _ _ _ _ aS vS _ _ _ _ _ hIS _ _ _ _ _ _ _ oM _ dM _ _ _ _ _ _ _ _ _ _ _ _ _ _ _ _ _ _ _ _ _ _ _ _ _ _ lt _ _ Dt _ _ _ _ oN dN _ D1 _ _ _ _ _ _ _ _ _ _ _ _ _ D2 _ _ _ l3 _ _ D5 wM h5 F5 N5 hIM lt5
  replace dM : oM.data = Data.cell none := dM
  w_top off
  k_with_none
  have hlN : @Ne Nat lt (sH.heap.objs.size + 1 + 1) := by omega
  refine turns_listS (vs := wM) (ep := 0) (fun c : LwS => (lt, listOf c.vs.toArray c.ep) :: (sH.heap.objs.size + 1 + 1, c.om) :: c.rest) (LwI [(D5, listOf wM.toArray 0), (ln, listOf ks.toArray en), (sH.heap.objs.size + 1, oN)] lt (sH.heap.objs.size + 1 + 1) b (masksV ns)) [] ⟨[], 0, oM, [(D5, listOf wM.toArray 0), (ln, listOf ks.toArray en), (sH.heap.objs.size + 1, oN)]⟩ (by rfl) ?hl F5 ?hN ?h0 ?tn ?dn
  case hl => exact fun i c h => .tail _ (.tail _ (h.hs _ (.head _)))
  case hN =>
    intro p hp
    rcases List.mem_cons.mp hp with rfl | hp
    · exact N5 _ (by k_mem)
    rcases List.mem_cons.mp hp with rfl | hp
    · exact N5 _ (by k_mem)
    rcases List.mem_cons.mp hp with rfl | hp
    · exact N5 _ (by k_mem)
    rcases List.mem_cons.mp hp with rfl | hp
    · exact N5 _ (by k_mem)
    rcases List.mem_cons.mp hp with rfl | hp
    · exact N5 _ (by k_mem)
    · exact nomatch hp
  case h0 => exact ⟨fun _ hp => hp, .nil, ⟨_, dM⟩, by refine ⟨?_, ?_, ?_, trivial⟩ <;> (dsimp only; omega), by refine ⟨?_, Ne.symm (hln _ (.head _)), ?_, trivial⟩ <;> (dsimp only; omega)⟩
  case tn =>
    intro i v c u I oI h tk hi hI hoff F' N'
    obtain ⟨vs, ep, om, rest⟩ := c
    obtain ⟨hs, hd, ⟨vc, hc⟩, hn1, hn2⟩ := hI
    dsimp only at F' N' hs hd hc hn1 hn2
    simp only [AllNe] at hoff
    obtain ⟨k, t, rfl, hk⟩ := IntsAre.at hIM i v hi
    obtain ⟨m, rfl, hm⟩ := masks_b (List.mem_of_getElem? hk)
    k_with_none
    k_with "call ref" => refine Hold.out ?_
    k_with "binaryOp LShift int int" => (k_dflt (refine shl_mask hm (by omega) ?_))
    k_steps
    refine c_flags (by tb_start) (m * 2 ^ b) _ (mask_lt b (by omega) m hm) ?_
    intro _ _ _ _ _
    k_with_none
    k_with "call builtin:str.split" => refine Hold.out ?_
    k_steps
    refine split_led (by k_asm) (by k_asm) (by decide +kernel) (by have := text_len b (by omega) m hm; rw [PySem.sizeLine_eq]; omega) (split_law b (by omega) m hm) ?_
    intro Dw sw h7 tk7 hss F7 N7 l7
    (try k_lt l7)
    have hvl := dat_len hd
    have hvl2 : vs.length ≤ 6 := by rw [hvl, List.length_map]; exact Nat.le_trans (List.length_take_le' _ _) (masks_len ns)
    k_with_none
    k_with "subscriptTail" => refine Hold.out ?_
    k_steps
    k_dflt (refine last_led (by k_asm) (by k_mem) ?_)
    k_with_none
    k_with "eval BoolOp" => refine Hold.out ?_
    k_with "compareOp NotEq ref ref" => refine Hold.out ?_
    k_steps
    refine cut_dat (by k_asm) (by k_asm) (.list ((wordsV b m).map Dat.str)) ?bo2 ?_
    case bo2 =>
      k_with_none
      k_with "eval ListComp" => refine Hold.out ?_
      k_with "CompSrcT" => refine Hold.out ?_
      k_with "truthy ref" => refine Hold.out ?_
      k_steps
      k_dflt (refine LCt.ListComp_T (F₀ := by k_asm) (by with_unfolding_all rfl) (by decide) (by rfl) (by decide) (by rfl) ?_)
      k_steps
      refine LCt.CompSrcT.range (n := 4) (by rfl) (by k_asm) (by k_asm) (by assumption) (by decide) (by decide) (by decide) ?_
      refine fun _ => comp_restT (fun i => if m.testBit i then some (Dat.str (nmV (b + i))) else none) ?tn2 trivial ?fn2
      case tn2 =>
        intro i v I2 oI2 C oC D m₂ ys h tk nw E' hi2 hv' hC hx F N off ne hS hsub
        obtain ⟨t, rfl⟩ := hv'
        simp only [List.forall_mem_cons] at hsub
        obtain ⟨g1, g2, g3, g4, hsub⟩ := hsub
        have gN := hsub _ (hs _ (.tail _ (.tail _ (.head _))))
        have gL := hsub _ (hs _ (.tail _ (.head _)))
        k_with_none
        k_with "binaryOp RShift int int" => (k_dflt (refine shr_mask (j := i) (by omega) ?_))
        k_with "binaryOp BitAnd int int" => (k_dflt (refine and_one (j := i) ?_ ?_); intro _)
        k_with "subscriptTail" => (k_dflt (refine item_strL i (by k_asm) (by repeat (first | exact gL | refine List.Mem.tail _ ?_)) hKs (names_at hi2) (by omega) (by simp [namesV]) ?_); intro _)
        k_steps
        · exact comp_endT (by assumption) (by assumption) off hS (if_pos (by assumption)) (.str _ _)
        · exact comp_endF (by assumption) (by assumption) off hS (if_neg (by rename m.testBit i = false => hbf; rw [hbf]; decide))
      refine Hold.out ?_
      intro ys2 nw2 hd2 _ hsub2
      rw [fm_words] at hd2
      have hyl : ys2.length = (pickV m.testBit).length := by rw [dat_len hd2, List.length_map]; unfold dueN; rw [List.length_map]
      have hyl4 := pick_len m.testBit
      k_with_none
      k_with "truthy ref" => refine Hold.out ?_
      k_steps
      by_cases hp : pickV m.testBit = []
      · have e : wordsV b m = [Str.ofString "0x0"] := if_pos hp
        rw [e]
        refine truthy_led (vs := ys2) (b := false) (by k_asm) (.head _) (by omega) (by rw [hp] at hyl; cases ys2 with | nil => rfl | cons _ _ => cases hyl) ?_
        intro _
        k_steps
        exact DatPost.intro (.list (n := 0) (.head _) (.cons (.str _ _) .nil)) (fun p hp => .tail _ (.tail _ (hsub2 p hp))) (by assumption) (by assumption)
      · have e : wordsV b m = dueN b (pickV m.testBit) := if_neg hp
        rw [e]
        refine truthy_led (vs := ys2) (b := true) (by k_asm) (.head _) (by omega) (by cases ys2 with | nil => exact absurd (List.length_eq_zero_iff.mp hyl.symm) hp | cons _ _ => rfl) ?_
        intro _
        k_steps
        exact DatPost.intro (.list (n := ys2.length) (.head _) (DatAll.mono (fun p hp => .tail _ hp) hd2)) (fun p hp => .tail _ (hsub2 p hp)) (by assumption) (by assumption)
    refine Hold.out ?_
    intro lx nx _ _ hdx hsx _ _
    simp only [List.forall_mem_cons] at hsx
    obtain ⟨x1, x2, x3, x4, hsx⟩ := hsx
    k_with_none
    k_with "compareOp NotEq ref ref" => refine Hold.out ?_
    k_steps
    refine dat_ne true (by k_asm) (.list (n := 0) x1 (dat_of_strs hss)) hdx (wordsD_ok (by omega) hm) (wordsD_ok (by omega) hm) (by ktr_units) (iff_of_true rfl rfl) ?_
    k_steps
    obtain ⟨om', x4, hom⟩ : ∃ om', (sH.heap.objs.size + 1 + 1, om') ∈ nx ∧ ∃ v, om'.data = Data.cell v := ⟨_, x4, _, by assumption⟩
    refine TurnS.goes (⟨vs ++ [.ref Dw], ep + 1, om', (Dw, listOf sw.toArray 0) :: rest⟩ : LwS) (by assumption) (by assumption) ?sb ?hf ?iv (fun z hz => by simp only [hz, if_false, Bool.false_eq_true])
    case sb =>
      intro p hp
      rcases List.mem_cons.mp hp with rfl | hp
      · exact x2
      rcases List.mem_cons.mp hp with rfl | hp
      · have e : (vs ++ [Value.ref Dw]).toArray = vs.toArray.push (.ref Dw) := by simp
        dsimp only
        rw [e]
        exact x3
      rcases List.mem_cons.mp hp with rfl | hp
      · exact x4
      rcases List.mem_cons.mp hp with rfl | hp
      · exact x1
      · exact hsx p hp
    case hf => exact ⟨hoff.1, hoff.2.1, by omega, hoff.2.2⟩
    case iv =>
      refine ⟨fun p hp => .tail _ (hs p hp), ?_, hom, ⟨by omega, hn1⟩, ⟨by omega, hn2⟩⟩
      have ek : (masksV ns).take (i + 1) = (masksV ns).take i ++ [(m : Int)] := by
        rw [List.take_add_one]
        exact congrArg (fun o => (masksV ns).take i ++ Option.toList o) hk
      rw [ek, List.map_append]
      exact datAll_snoc (DatAll.mono (fun p hp => .tail _ hp) hd) (.list (n := 0) (.head _) (dat_of_strs hss))
  refine Hold.out ?_
  intro c u h tk hI F N
  obtain ⟨vs, ep, om, rest⟩ := c
  obtain ⟨hs, hd, hc, hn1, hn2⟩ := hI
  dsimp only at N hs hd hc hn1 hn2
  w_top off
  k_with_none
  k_with "exec For Tuple Call" => refine Hold.out ?_
  k_steps
  have hvl := dat_len hd
  have hvl2 : vs.length ≤ 6 := by rw [hvl, List.length_map]; exact Nat.le_trans (List.length_take_le' _ _) (masks_len ns)
  refine For_turns F ?_
  k_with_none
  k_with "subscriptTail Name Slice ref ref" => (k_dflt (refine tail_led (by k_asm) (by k_asm) (.head _) (by omega) ?_); intro Dz hz Fz Nz lz)
  k_with "call type:zip" => refine Hold.out ?_
  k_steps
  (try k_lt lz)
  refine zip_go (n := vs.length - 1) (Pt := fun i vals => ∃ x y, vals = #[x, y] ∧ vs[i]? = some x ∧ vs[i + 1]? = some y) (by rfl) Fz Nz (.tail _ (.head _)) (.head _) (by rw [List.length_drop]; omega) (fun i x y hx hy => ⟨x, y, rfl, hx, by rw [List.getElem?_drop, Nat.add_comm] at hy; exact hy⟩) ?_
  rintro z h' ⟨F2, N2, hlt, hz⟩
  refine hz _ _ fun I fp wr St Mid W hfp0 hst hfp hLf off => ?_
  refine turns_zip [Str.ofString "one", Str.ofString "other"] W hLf hfp0 off hst F2 N2 ?tn7 ?dn7
  case tn7 =>
    rintro i T vals u h tk all hi ⟨x, y, rfl, hx, hy⟩ hT hbs F N
    have hwd : ∀ (j : Nat) v, vs[j]? = some v → ∃ (mj : Nat) (a : Addr) (ws : List Value) (e : Nat), v = .ref a ∧ mj < 16 ∧ (a, listOf ws.toArray e) ∈ rest ∧ StrsAre ws (wordsV b mj) := by
      intro j v hv
      obtain ⟨d, hd1, hd2⟩ := dat_get hd hv
      obtain ⟨k, hk, rfl⟩ := List.mem_map.mp (List.mem_of_getElem? hd1)
      obtain ⟨mj, rfl, hmj⟩ := masks_b (List.mem_of_mem_take hk)
      unfold wordsD at hd2
      cases hd2 with
      | list hm hds => exact ⟨mj, _, _, _, rfl, hmj, hm, strs_of_dat hds⟩
    obtain ⟨m1, l1, w1, e1, rfl, hm1, hl1, hs1⟩ := hwd _ _ hx
    obtain ⟨m2, l2, w2, e2, rfl, hm2, hl2, hs2⟩ := hwd _ _ hy
    have gN := hbs _ (.tail _ (.tail _ (.tail _ (hs _ (.tail _ (.tail _ (.head _)))))))
    have gL := hbs _ (.tail _ (.tail _ (.tail _ (hs _ (.tail _ (.head _))))))
    k_with_none
    k_with "call ref" => refine Hold.out ?_
    k_steps
    refine c_pair (by tb_start) b _ hb m1 m2 hm1 hm2 l1 w1 e1 (wordsV b m1) (hbs _ (.tail _ (.tail _ (.tail _ hl1)))) hs1 (words_ok b (by omega) m1 hm1) l2 w2 e2 (wordsV b m2) (hbs _ (.tail _ (.tail _ (.tail _ hl2)))) hs2 (words_ok b (by omega) m2 hm2) ln ks en gL hKs (names_ok b (by omega))
      (fun i x h => words_has (by omega) hm1 i x h) (fun i x h => words_has (by omega) hm2 i x h) ?_
    intro nP _ _ hsP _ _
    k_with_none
    k_steps
    exact TurnOk.goes (by assumption) (by assumption) hsP (fun z hz => by have h3 := ne2 hz; simp only [h3.1, h3.2, hz, if_false, Bool.false_eq_true])
  refine Hold.out ?_
  intro u h tk F N
  k_with_none
  k_steps)
end Mine
end
theorem PySem.Challenge.cw_pg0169_01_holds : PySem.Challenge.rw_pg0169_01.Holds :=
  Mine.lawW
