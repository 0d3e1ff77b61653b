import PyProof.Rows.All
import Wide.All
import OpenK.AllK
import Wide.FinOn
import Lean
import PySem.Challenge.RW_fe0143_01
set_option Elab.async false
set_option maxRecDepth 100000
set_option maxHeartbeats 8000000

section
open PySem PySem.W PyProof.Rows
namespace Mine
open_top hd for PySem.Challenge.rw_fe0143_01
end Mine
end

section
open PySem PySem.W PyProof.Rows PySem.Spec PySem.Calls
namespace Mine
open LCg
/-- the source of a comprehension is a text -/
def SrcT (prog : Program) (w : World) (A : Around) (h₀ : Heap) (L : Addr) (m : Str → Option Value) (env : Env) (elt : Expr) (x : Str) (scope : Scope) (cl : List (Str × Addr)) (Fin : Shared → List Value → List (Addr × Obj) → Prop) (xv : Value) (s₁ : Shared) : Prop :=
  ∃ xt tx news, xv = .str xt tx ∧ A.handled = none ∧ Fr h₀ L s₁.heap m ∧ News h₀ L s₁.heap news ∧ xt.cps.size ≤ sizeLine ∧
    ∀ s₂ : Shared, (∃ h, s₂ = { s₁ with heap := h }) → CompRest prog w A h₀ L m env elt x scope cl s₂ (fun _ => True) (SignAt xt) (Fin s₂) xt.cps.size 0 [] news

section
variable {prog : Program} {w : World} {A : Around} {E : Value → Shared → Prop} {s : Shared} {h₀ : Heap} {L : Addr} {m : Str → Option Value} {env : Env}
theorem striter_st {I : Addr} {T : String} {x : Str} {t : Tok} : ∀ i (h h' : Heap) (o : Obj) (nw : List (Addr × Obj)), h.IsStrIter I T x t i → h.get? I = some o → h'.get? I = some o → (∀ b o, h₀.get? b = some o → h'.get? b = some o) → News h₀ L h' nw → True → h'.IsStrIter I T x t i :=
  fun i h h' o nw st e e' _ _ _ => by
    obtain ⟨o', q, r⟩ := st
    rw [e] at q; cases q
    exact ⟨o, e', r⟩

theorem Assign_ListComp_T {elt iter : Expr} {x y : Str} {px py : Pos} {scope : Scope} {cl : List (Str × Addr)} {pos spos : Pos} {Q : Flow → Shared → Prop} (_F₀ : Fr h₀ L s.heap m) (hLe : env.locals = L)
    (hsw : swapsWith (.ListComp elt [⟨.Name x px, iter, [], 0⟩] scope pos) (some (.Name y py)) spos.line env = pure true)
    (hclos : closureFor scope env = pure cl) (hcell : ∀ z ∈ scope.names, z.2 ≠ .cell) (hkind : scope.kind = .function)
    (hnames : ∀ z ∈ scope.names, z.2 = .local → scope.names.lookup z.1 = some .local) (hx : scope.names.lookup x = some .local)
    (hy : env.kindOf y = some .local) (hp : (env.scope.kind == .class || (env.scope.kind == .module && env.locals != env.globals)) = false)
    (h : wpAny (model prog w) A (eval iter env) (SrcT prog w A h₀ L m env elt x scope cl (fun s₂ => FinA h₀ L m s₂ y Q)) E s)
    (hs : ∀ x, foldedSetIterable iter env x = pure x := by intro _; rfl) :
    wpAny (model prog w) A (exec (.Assign [.Name y py] (.ListComp elt [⟨.Name x px, iter, [], 0⟩] scope pos) spos) env) Q E s := by
  subst hLe
  rw [exec_Assign_Name_used _ _ _ _ hsw]
  refine wpAny_bind (wpAny_standAt (wpAny_bind ?_))
  show wpAny _ A (do let _ ← comprehension (.ListComp elt [⟨.Name x px, iter, [], 0⟩] scope pos) scope env _ (newList []) false (eval iter env) (some (assign (.Name y py) env))) _ _ s
  refine wpAny_bind (wpAny_mono (wpAny_comprehension_free (use := some (assign (.Name y py) env)) (Q := fun _ s' => Q .next s') rfl hs hclos hkind hnames
    (wpAny_mono h (fun xv s₁ h₁ => ?_) fun _ _ e => e)) (fun _ s' hq => wpAny_pure (wpAny_pure hq)) fun _ _ e => e)
  obtain ⟨xt, tx, news, rfl, hh, F, N, hsz, R⟩ := h₁
  have fin : ∀ (T : String) (o : Obj), Walks prog w A s₁.heap.objs.size [s₁.heap.objs.size] [s₁.heap.objs.size] xt.cps.size (SignAt xt) (fun i h => h.IsStrIter s₁.heap.objs.size T xt tx i) → (s₁.heap.push o).IsStrIter s₁.heap.objs.size T xt tx 0 → ∀ {RR : Value → Addr → Result → Shared → Prop},
      (∀ D C h tk m' ys news', Fr h₀ env.locals h m → News h₀ env.locals h ((D, lst ys) :: news') → Off1 D news' → h.Ns C m' → h₀.get? C = none → h₀.get? D = none → C ≠ env.locals → D ≠ env.locals → C ≠ D → (∀ p ∈ news', p.1 ≠ C) → FinA h₀ env.locals m { s₁ with heap := s₁.heap.push o } y Q ys news' → RR (.ref D) C (.ok .next) { s₁ with heap := h, toks := tk }) →
      wpAny (model prog w) A (newList []) (fun acc s₃ => wpAny (model prog w) A (newFunctionEnv scope env.globals cl [] env.qual none .none (some env)) (fun cenv s₄ =>
        codeAny (model prog w) A (.compStart (.ListComp elt [⟨.Name x px, iter, [], 0⟩] scope pos) 0 (.ref s₁.heap.objs.size) acc { cenv with scope := relabel scope env }) (RR acc cenv.locals) s₄) E s₃) E { s₁ with heap := s₁.heap.push o } := by
    intro T o W hst RR hRR
    refine block_U (s₂ := { s₁ with heap := s₁.heap.push o }) W hsz (fun i h st => by obtain ⟨o, e, _⟩ := st; exact ⟨o, e⟩) striter_st hcell hkind hx hst (fun b hb => ?_)
      (F.keeps fun _ _ e => Heap.get?_push_of_some _ e) (N.grown fun _ _ e => Heap.get?_push_of_some _ e) (Nat.ne_of_lt F.ns.lt) (next_is_new F) (fun p hp => Nat.ne_of_lt (Heap.lt_size (N p hp).1)) trivial (R _ ⟨_, rfl⟩) hRR
    rw [List.mem_singleton.mp hb]
    show s₁.heap.objs.size < (s₁.heap.push _).objs.size
    rw [Heap.size_push]; exact Nat.lt_succ_self _
  have last : ∀ D C (h' : Heap) (tk : Nat) m' ys news' (o : Obj), Fr h₀ env.locals h' m → News h₀ env.locals h' ((D, lst ys) :: news') → Off1 D news' → h'.Ns C m' → h₀.get? C = none → h₀.get? D = none → C ≠ env.locals → D ≠ env.locals → C ≠ D → (∀ p ∈ news', p.1 ≠ C) → FinA h₀ env.locals m { s₁ with heap := s₁.heap.push o } y Q ys news' →
      wpAny (model prog w) A (assign (.Name y py) env (.ref D)) (fun _ s'' => ∃ m'', s''.heap.Ns C m'' ∧ ∀ h'', Heap.SameBut C s''.heap h'' → Q .next { s'' with heap := h'' }) E { s₁ with heap := h', toks := tk } := by
    intro D C h' tk m' ys news' o F' N' o1 hn hC₀ hD₀ hCL hDL hCD offC fin
    refine wpAny_assign_Name (wpAny_storeName_local hy F'.ns (fun h₂ hn₂ hs₂ => ?_) hp)
    have hL₀ : h₀.get? env.locals = none := Heap.get?_none_of_le F'.above
    have F₂ : Fr h₀ env.locals h₂ (fun z => if z = y then some (.ref D) else m z) := ⟨hn₂, fun b o e => hs₂.extBut b o (fun q => by rw [q, hL₀] at e; cases e) (F'.keep b o e), F'.above⟩
    refine ⟨m', hn.sameBut hs₂ hCL, fun h'' hs'' => fin D h'' _ (F₂.change hs'' hCL hC₀) (fun p hp => ?_) o1⟩
    have z : h₂.get? p.1 = some p.2 := hs₂.extBut _ _ (N' p hp).2.1 (N' p hp).1
    refine ⟨hs''.extBut _ _ ?_ z, (N' p hp).2⟩
    rcases List.mem_cons.mp hp with rfl | hp
    · exact Ne.symm hCD
    · exact offC p hp
  cases ha : xt.cps.all (· < 128)
  · refine wpAny_pyIter_wide ha (fin _ _ (Walks.strWide hh _ xt tx) ⟨_, Heap.get?_push_size _ rfl, rfl, rfl⟩ ?_)
    intro D C h' tk m' ys news' F' N' o1 hn hC₀ hD₀ hCL hDL hCD offC fi
    exact last D C h' tk m' ys news' _ F' N' o1 hn hC₀ hD₀ hCL hDL hCD offC fi
  · refine wpAny_pyIter_ascii ha (fin _ _ (Walks.strAscii hh _ xt tx) ⟨_, Heap.get?_push_size _ rfl, rfl, rfl⟩ ?_)
    intro D C h' tk m' ys news' F' N' o1 hn hC₀ hD₀ hCL hDL hCD offC fi
    exact last D C h' tk m' ys news' _ F' N' o1 hn hC₀ hD₀ hCL hDL hCD offC fi

def BoEl (news : List (Addr × Obj)) (b : Bool) (y : Value) (news' : List (Addr × Obj)) : Prop := news' = news ∧ y = .bool b
/-- what the list of flags is -/
def FlagsAre (g : Nat → Bool) (x : Str) (bs : List Bool) : Prop := bs = x.cps.toList.map g
theorem bools_snoc {b : Bool} : ∀ {vs : List Value} {bs : List Bool}, LSm.BoolsAre vs bs → LSm.BoolsAre (vs ++ [.bool b]) (bs ++ [b])
  | _, _, .nil => .cons b .nil
  | _, _, .cons c h => .cons c (bools_snoc h)

theorem SrcT.bools {elt : Expr} {x : Str} {scope : Scope} {cl : List (Str × Addr)} {Fin : Shared → List Value → List (Addr × Obj) → Prop} {xt : Str} {tx : Tok} {news : List (Addr × Obj)} {s₁ : Shared} (g : Nat → Bool)
    (hh : A.handled = none) (F : Fr h₀ L s₁.heap m) (N : News h₀ L s₁.heap news) (hsz : xt.cps.size ≤ sizeLine)
    (turn : ∀ gh c t I oI C oC D m₂ ys h tk (E' : Value → Shared → Prop), NsObj oC m₂ → m₂ x = some (.str ⟨#[c]⟩ t) → Fr h₀ L h m → News h₀ L h ((I, oI) :: (C, oC) :: (D, lst ys) :: news) → Off3 I C D news → ((@Ne Nat I C) ∧ (@Ne Nat I D) ∧ (@Ne Nat C D)) →
      wpAny (model prog w) A (eval elt (compEnvC scope cl C env)) (CompEnd h₀ L m { ({ s₁ with heap := gh } : Shared) with heap := h, toks := tk } I oI C oC D (lst ys) (fun _ => True) (fun y news' => BoEl news (g c) y news')) E' { s₁ with heap := h, toks := tk })
    (fin : ∀ gh ys bs, LSm.BoolsAre ys bs → bs.length = xt.length → FlagsAre g xt bs → Fin { s₁ with heap := gh } ys news) :
    SrcT prog w A h₀ L m env elt x scope cl Fin (.str xt tx) s₁ := by
  refine ⟨xt, tx, news, rfl, hh, F, N, hsz, ?_⟩
  rintro s₂ ⟨gh, rfl⟩
  have key : ∀ (j i : Nat) (ys : List Value), i + j = xt.cps.size → LSm.BoolsAre ys ((xt.cps.toList.take i).map g) → CompRest prog w A h₀ L m env elt x scope cl { s₁ with heap := gh } (fun _ => True) (SignAt xt) (Fin { s₁ with heap := gh }) j i ys news := by
    intro j
    induction j with
    | zero =>
      intro i ys hi hy
      have e : xt.cps.toList.take i = xt.cps.toList := List.take_of_length_le (by rw [Array.length_toList]; omega)
      rw [e] at hy
      exact CompRest.zero (fin gh ys _ hy (by rw [List.length_map, Array.length_toList]; rfl) rfl)
    | succ j ih =>
      intro i ys hi hy
      refine CompRest.succ ?_
      intro v I oI C oC D m₂ h tk E' hv hC hx F N off ne
      obtain ⟨c, t, hc, rfl⟩ := hv
      refine wpAny_mono (turn gh c t I oI C oC D m₂ ys h tk E' hC hx F N off ne) (fun y s₂ hq => ?_) fun _ _ e => e
      obtain ⟨h', tk', nw, e, F', N', off', hS, rfl, rfl⟩ := hq
      refine ⟨h', tk', nw, e, F', N', off', hS, ih (i + 1) _ (by omega) ?_⟩
      have hc' : xt.cps.toList[i]? = some c := by simpa using hc
      rw [List.take_add_one, hc']
      simpa using bools_snoc hy
  exact key _ 0 [] (by omega) (by simp only [List.take_zero, List.map_nil]; exact .nil)
end
end Mine
end

section
open PySem PySem.W PyProof.Rows PySem.Spec PySem.Calls
namespace Mine
def wordB (c : Nat) : Bool := Txt.isalnum ⟨#[c]⟩ || ((⟨#[c]⟩ : Str) == Str.ofString "_")
theorem wordB_tt {c : Nat} (h : Txt.isalnum ⟨#[c]⟩ = true) : Value.bool (Txt.isalnum ⟨#[c]⟩) = Value.bool (wordB c) := by unfold wordB; rw [h]; rfl
theorem wordB_ff {c : Nat} (h : Txt.isalnum ⟨#[c]⟩ = false) : Value.bool ((⟨#[c]⟩ : Str) == Str.ofString "_") = Value.bool (wordB c) := by unfold wordB; rw [h]; rfl
def pad (tx : Str) : Str := Str.ofString " " ++ tx ++ Str.ofString " "
theorem pad_length (tx : Str) : (pad tx).length = tx.length + 2 := by
  unfold pad
  rw [Str.length_append, Str.length_append]
  have : (Str.ofString " ").length = 1 := by decide
  omega
structure FlagsOf (tx : Str) (bs : List Bool) : Prop where
  eq : bs = (pad tx).cps.toList.map wordB
section
variable {prog : Program} {w : World} {A : Around} {E : Value → Shared → Prop} {s : Shared} {h₀ : Heap} {L : Addr} {m : Str → Option Value} {env : Env}
open LCg
theorem SrcT.flags {elt : Expr} {x : Str} {scope : Scope} {cl : List (Str × Addr)} {Fin : Shared → List Value → List (Addr × Obj) → Prop} {tx : Str} {tk : Tok} {news : List (Addr × Obj)} {s₁ : Shared}
    (hh : A.handled = none) (F : Fr h₀ L s₁.heap m) (N : News h₀ L s₁.heap news) (hsz : tx.length ≤ 1000)
    (turn : ∀ gh c t I oI C oC D m₂ ys h tk (E' : Value → Shared → Prop), NsObj oC m₂ → m₂ x = some (.str ⟨#[c]⟩ t) → Fr h₀ L h m → News h₀ L h ((I, oI) :: (C, oC) :: (D, lst ys) :: news) → Off3 I C D news → ((@Ne Nat I C) ∧ (@Ne Nat I D) ∧ (@Ne Nat C D)) →
      wpAny (model prog w) A (eval elt (compEnvC scope cl C env)) (CompEnd h₀ L m { ({ s₁ with heap := gh } : Shared) with heap := h, toks := tk } I oI C oC D (lst ys) (fun _ => True) (fun y news' => BoEl news (wordB c) y news')) E' { s₁ with heap := h, toks := tk })
    (fin : ∀ gh ys bs, LSm.BoolsAre ys bs → bs.length = tx.length + 2 → FlagsOf tx bs → Fin { s₁ with heap := gh } ys news) :
    SrcT prog w A h₀ L m env elt x scope cl Fin (.str (Str.ofString " " ++ tx ++ Str.ofString " ") tk) s₁ := by
  refine SrcT.bools wordB hh F N ?_ turn (fun gh ys bs hB hl hw => fin gh ys bs hB (hl.trans (pad_length tx)) ⟨hw⟩)
  show (pad tx).length ≤ sizeLine
  rw [pad_length, sizeLine_eq]; omega
end
end Mine
end

section
open PySem PySem.W PyProof.Rows PySem.Spec PySem.Calls
namespace Mine
/-- does the loop of parts_between cut at k -/
def condP (sp tx : Str) (bs : List Bool) (k : Int) : Bool :=
  (Txt.slice tx (some k) (some (k + (sp.length : Int))) == sp) && (bs.getD k.toNat false != bs.getD (k + 1).toNat false) && (bs.getD (k + (sp.length : Int)).toNat false != bs.getD (k + (sp.length : Int) + 1).toNat false)
def stepP (sp tx : Str) (bs : List Bool) (c : List Str × Int) (k : Int) : List Str × Int :=
  if condP sp tx bs k = true then (c.1 ++ [Txt.slice tx (some c.2) (some k)], k + (sp.length : Int)) else c
def accP (sp tx : Str) (bs : List Bool) (ks : List Int) : List Str × Int := ks.foldl (stepP sp tx bs) ([], 0)
theorem accP_snoc (sp tx : Str) (bs : List Bool) (ks : List Int) (k : Int) : accP sp tx bs (ks ++ [k]) = stepP sp tx bs (accP sp tx bs ks) k := by
  unfold accP; rw [List.foldl_append]; rfl
theorem accP_len (sp tx : Str) (bs : List Bool) : ∀ (ks : List Int) (c : List Str × Int), (ks.foldl (stepP sp tx bs) c).1.length ≤ c.1.length + ks.length
  | [], c => Nat.le_refl _
  | k :: ks, c => by
    rw [List.foldl_cons]
    refine Nat.le_trans (accP_len sp tx bs ks _) ?_
    unfold stepP
    split <;> simp <;> omega
/-- what the loop holds -/
def PlaceJ (sp tx : Str) (bs : List Bool) (ks : List Int) (parts : List Str) (st : Int) : Prop := (parts, st) = accP sp tx bs ks
theorem PlaceJ.len {sp tx : Str} {bs : List Bool} {ks : List Int} {parts : List Str} {st : Int} (h : PlaceJ sp tx bs ks parts st) : parts.length ≤ ks.length := by
  have := accP_len sp tx bs ks ([], 0)
  unfold PlaceJ accP at h
  rw [← h] at this
  simpa using this

def flags (tx : Str) : List Bool := (pad tx).cps.toList.map wordB
/-- what parts_between hands back -/
def partsF (sp tx : Str) : List Str :=
  (accP sp tx (flags tx) (rangeKs 0 ((tx.length : Int) - (sp.length : Int) + 1).toNat)).1 ++ [Txt.slice tx (some (accP sp tx (flags tx) (rangeKs 0 ((tx.length : Int) - (sp.length : Int) + 1).toNat)).2) none]
theorem parts_end {sp tx : Str} {bs : List Bool} {parts : List Str} {st : Int} {vs : List Value} {t : Tok} (hf : FlagsOf tx bs) (hp : PlaceJ sp tx bs (rangeKs 0 ((tx.length : Int) - (sp.length : Int) + 1).toNat) parts st) (hs : StrsAre vs parts) :
    StrsAre (vs ++ [.str (Txt.slice tx (some st) none) t]) (partsF sp tx) := by
  obtain ⟨rfl⟩ := hf
  unfold PlaceJ at hp
  unfold partsF flags
  rw [← hp]
  exact hs.append' (.cons _ _ .nil)
theorem news_first {h₀ h : Heap} {L : Addr} {a b c d : Addr × Obj} {news : List (Addr × Obj)} (N : News h₀ L h (a :: b :: c :: d :: news)) : News h₀ L h (a :: news) := fun p hp => N p (by
  rcases List.mem_cons.mp hp with rfl | hp
  · exact List.mem_cons_self
  · exact List.mem_cons_of_mem _ (List.mem_cons_of_mem _ (List.mem_cons_of_mem _ (List.mem_cons_of_mem _ hp))))

abbrev PSt := List Value × List Str × Nat × Int × Tok
abbrev pLed (T l : Addr) (to : Obj) (rest : List (Addr × Obj)) (c : PSt) : List (Addr × Obj) := (T, to) :: (l, W.listOf c.1.toArray c.2.2.1) :: rest
abbrev pPs (c : PSt) : List (Str × Value) := [(Str.ofString "start", .int c.2.2.2.1 c.2.2.2.2)]
abbrev pFacts (c : PSt) : Prop := StrsAre c.1 c.2.1
abbrev pP (sp tx : Str) (bs : List Bool) (ks : List Int) (c : PSt) : Prop := PlaceJ sp tx bs ks c.2.1 c.2.2.2.1
def PlaceEnd (h₀ : Heap) (L : Addr) (sp tx : Str) (bs : List Bool) (T l : Addr) (to : Obj) (rest own : List (Addr × Obj)) (m₀ : Str → Option Value) (ks : List Int) (adr : List Addr) (s₁ : Shared) (Q : Flow → Shared → Prop) (f : Flow) (s₂ : Shared) : Prop :=
  InvPostN h₀ L (KstS (pLed T l to rest) pPs pFacts (Str.ofString "place") [] m₀ (pP sp tx bs) ks) own adr s₁ Q f s₂
section
variable {prog : Program} {w : World} {A : Around} {E : Value → Shared → Prop} {s : Shared} {env : Env} {h₀ : Heap} {body : List Stmt} {Q : Flow → Shared → Prop}
theorem place_iter {r T l : Addr} {to : Obj} {rest : List (Addr × Obj)} {b : Int} {t₀ u₀ v₀ : Tok} {n : Nat} {m₀ : Str → Option Value} {tk₀ ts : Tok} {sp tx : Str} {bs : List Bool}
    (hA1 : AllLt l rest) (hA2 : AllLt T ((l, W.listOf #[] 0) :: rest)) (_hfl : FlagsOf tx bs) (_hsp : m₀ (Str.ofString "splitter") = some (.str sp ts)) (hh : A.handled = none) (hr : IsRange s.heap r 0 b 1 t₀ u₀ v₀) (hb0 : -(1000 : Int) ≤ b) (hb1 : b ≤ 1000) (hn : b.toNat = n) (F : Fr h₀ env.locals s.heap m₀) (N : News h₀ env.locals s.heap ((T, to) :: (l, W.listOf #[] 0) :: rest)) (hst : m₀ (Str.ofString "start") = some (.int 0 tk₀))
    (turn : ∀ vs parts nn st tst ks k t h tk own, 0 ≤ k → k < (n : Int) → (ks.length : Int) = k → StrsAre vs parts → PlaceJ sp tx bs ks parts st → vs.length ≤ 1000 → T ≠ l → (∀ p ∈ rest ++ own, p.1 ≠ l) →
      Fr h₀ env.locals h (fun y => if y = Str.ofString "place" then some (.int k t) else if y = Str.ofString "start" then some (.int st tst) else m₀ y) → News h₀ env.locals h ((T, to) :: (l, W.listOf vs.toArray nn) :: (rest ++ own)) →
      wpAny (model prog w) A (execs body env) (PlaceEnd h₀ env.locals sp tx bs T l to rest own m₀ (ks ++ [k]) (T :: l :: rest.map (·.1)) { s with heap := h, toks := tk } Q) E { s with heap := h, toks := tk })
    (done : ∀ vs parts nn st tst (u : Str → Option Value) h tk, StrsAre vs parts → PlaceJ sp tx bs (rangeKs 0 n) parts st → vs.length ≤ 1000 →
      Fr h₀ env.locals h (fun y => if y = Str.ofString "place" then u y else if y = Str.ofString "start" then some (.int st tst) else m₀ y) → News h₀ env.locals h ((T, to) :: (l, W.listOf vs.toArray nn) :: rest) → Q .next { s with heap := h, toks := tk }) :
    wpAny (model prog w) A (pyIter (.ref r)) (fun it s₂ => LoopAtV prog w A h₀ env (Str.ofString "place") body Q E it s₂) E s := by
  subst hn
  refine kst_range (pLed T l to rest) pPs pFacts [] (pP sp tx bs) (([], [], 0, 0, tk₀) : PSt) hh hr (small_one (by omega) (by omega) (by omega) (by omega)) (n := b.toNat) (by rw [rangeSize_nat]; simp) F N .nil ?_ ?_ ?_ ?_
  · intro p hp
    rw [List.mem_singleton.mp hp]
    exact hst
  · exact rfl
  · rintro ⟨vs, parts, nn, st, tst⟩ ks k t u h tk own hk hl hoff hf hp F' N'
    have hv : vs.length ≤ 1000 := by
      have h1 := hf.length
      have h2 := PlaceJ.len hp
      dsimp only at h1 h2
      rw [h1]; omega
    refine turn vs parts nn st tst ks k t h tk own (by omega) (by omega) (by omega) hf hp hv (Ne.symm (Nat.ne_of_lt hA2.1)) (fun p hp => ?_) ?_ N'
    · rcases List.mem_append.mp hp with hp | hp
      · exact Nat.ne_of_lt (kst_ltOf hA1 p hp)
      · exact hoff p hp l (List.mem_cons_of_mem _ List.mem_cons_self)
    simpa only [kstB, List.contains_nil, Bool.false_eq_true, if_false] using F'
  · rintro ⟨vs, parts, nn, st, tst⟩ u h tk hf hp F' N'
    have hv : vs.length ≤ 1000 := by
      have h1 := hf.length
      have h2 := PlaceJ.len hp
      dsimp only at h1 h2
      rw [rangeKs_length] at h2
      rw [h1]; omega
    refine done vs parts nn st tst u h tk hf hp hv ?_ N'
    simpa only [kstB, List.contains_nil, Bool.false_eq_true, if_false] using F'

theorem append_here {L T l : Addr} {to : Obj} {its : Array Value} {n : Nat} {rest : List (Addr × Obj)} {m : Str → Option Value} {x : Value} {Q : Value → Shared → Prop} (F : Fr h₀ L s.heap m) (N : News h₀ L s.heap ((T, to) :: (l, W.listOf its n) :: rest)) (hT : T ≠ l) (hr : ∀ p ∈ rest, p.1 ≠ l) (hsz : its.size ≤ sizeLine)
    (h : ∀ h', Fr h₀ L h' m → News h₀ L h' ((T, to) :: (l, W.listOf (its.push x) (n + 1)) :: rest) → Q .none { s with heap := h' }) : wpAny (model prog w) A (call (.builtin "list.append") [.ref l, x]) Q E s :=
  append_K F N (.tail hT (.head hr)) h hsz

theorem PlaceEnd.same {L T l : Addr} {to : Obj} {rest own news' : List (Addr × Obj)} {m₀ m' : Str → Option Value} {sp tx : Str} {bs : List Bool} {ks : List Int} {k : Int} {s₁ : Shared} {h' : Heap} {tk : Nat} {vs : List Value} {parts : List Str} {nn : Nat} {st : Int} {tst t : Tok}
    (hf : StrsAre vs parts) (hp : PlaceJ sp tx bs ks parts st) (hc : condP sp tx bs k = false) (F : Fr h₀ L h' m') (N : News h₀ L h' news') (hm : m' = fun y => if y = Str.ofString "place" then some (.int k t) else if y = Str.ofString "start" then some (.int st tst) else m₀ y)
    (hn : news' = (T, to) :: (l, W.listOf vs.toArray nn) :: (rest ++ own)) :
    PlaceEnd h₀ L sp tx bs T l to rest own m₀ (ks ++ [k]) (T :: l :: rest.map (·.1)) s₁ Q .next { s₁ with heap := h', toks := tk } := by
  subst hm hn
  refine InvEndN.intro F N ⟨((vs, parts, nn, st, tst) : PSt), rfl, hf, ?_, ?_, ?_⟩ rfl ?_ ?_
  · intro p hp; rw [List.mem_singleton.mp hp]; rfl
  · intro z h1 h2 h3
    have h2' : z ≠ Str.ofString "start" := h2 _ (List.mem_singleton.mpr rfl)
    show (if z = _ then _ else if z = _ then _ else m₀ z) = m₀ z
    rw [if_neg h1, if_neg h2']
  · show PlaceJ sp tx bs (ks ++ [k]) parts st
    unfold PlaceJ at hp ⊢
    rw [accP_snoc, ← hp]
    unfold stepP
    rw [hc]; rfl
  · intro p hp
    rcases List.mem_cons.mp hp with rfl | hp
    · exact List.mem_cons_self
    · rcases List.mem_cons.mp hp with rfl | hp
      · exact List.mem_cons_of_mem _ List.mem_cons_self
      · exact List.mem_cons_of_mem _ (List.mem_cons_of_mem _ (List.mem_append_left _ hp))
  · intro p hp
    exact List.mem_cons_of_mem _ (List.mem_cons_of_mem _ (List.mem_append_right _ hp))
theorem PlaceEnd.cut {L T l : Addr} {to : Obj} {rest own news' : List (Addr × Obj)} {m₀ m' : Str → Option Value} {sp tx : Str} {bs : List Bool} {ks : List Int} {k : Int} {s₁ : Shared} {h' : Heap} {tk : Nat} {vs : List Value} {parts : List Str} {nn : Nat} {st : Int} {tst t tc tx' : Tok}
    (hf : StrsAre vs parts) (hp : PlaceJ sp tx bs ks parts st) (hc : condP sp tx bs k = true) (F : Fr h₀ L h' m') (N : News h₀ L h' news') (hm : m' = fun y => if y = Str.ofString "start" then some (.int (k + (sp.length : Int)) tst) else if y = Str.ofString "place" then some (.int k t) else if y = Str.ofString "start" then some (.int st tc) else m₀ y)
    (hn : news' = (T, to) :: (l, W.listOf (vs.toArray.push (.str (Txt.slice tx (some st) (some k)) tx')) nn) :: (rest ++ own)) :
    PlaceEnd h₀ L sp tx bs T l to rest own m₀ (ks ++ [k]) (T :: l :: rest.map (·.1)) s₁ Q .next { s₁ with heap := h', toks := tk } := by
  subst hm hn
  rw [List.push_toArray] at N
  refine InvEndN.intro F N ⟨((vs ++ [.str (Txt.slice tx (some st) (some k)) tx'], parts ++ [Txt.slice tx (some st) (some k)], nn, k + (sp.length : Int), tst) : PSt), rfl, hf.append' (.cons _ _ .nil), ?_, ?_, ?_⟩ rfl ?_ ?_
  · intro p hp; rw [List.mem_singleton.mp hp]; rfl
  · intro z h1 h2 h3
    have h2' : z ≠ Str.ofString "start" := h2 _ (List.mem_singleton.mpr rfl)
    show (if z = _ then _ else if z = _ then _ else if z = _ then _ else m₀ z) = m₀ z
    rw [if_neg h2', if_neg h1, if_neg h2']
  · show PlaceJ sp tx bs (ks ++ [k]) _ _
    unfold PlaceJ at hp ⊢
    rw [accP_snoc, ← hp]
    unfold stepP
    rw [hc]; rfl
  · intro p hp
    rcases List.mem_cons.mp hp with rfl | hp
    · exact List.mem_cons_self
    · rcases List.mem_cons.mp hp with rfl | hp
      · exact List.mem_cons_of_mem _ List.mem_cons_self
      · exact List.mem_cons_of_mem _ (List.mem_cons_of_mem _ (List.mem_append_left _ hp))
  · intro p hp
    exact List.mem_cons_of_mem _ (List.mem_cons_of_mem _ (List.mem_append_right _ hp))
end
end Mine
end

section
open PySem PySem.W PyProof.Rows PySem.Spec PySem.Calls
namespace Mine
theorem parts1 : partsF (Str.ofString "as ") (Str.ofString "x as y was z") = [Str.ofString "x ", Str.ofString "y was z"] := by decide +kernel
theorem parts2 : partsF (Str.ofString ".") (Str.ofString "a.b..c.") = [Str.ofString "a", Str.ofString "b..c."] := by decide +kernel
theorem strs_two {vs : List Value} {a b : Str} (h : StrsAre vs [a, b]) : ∃ t u, vs = [.str a t, .str b u] := by
  obtain ⟨t, vs1, rfl, h1⟩ := StrsAre.cons_inv h
  obtain ⟨u, vs2, rfl, h2⟩ := StrsAre.cons_inv h1
  obtain rfl := StrsAre.nil_inv h2
  exact ⟨t, u, rfl⟩
end Mine
end

section
open PySem PySem.W PyProof.Rows
local macro_rules | `(tactic| walk_at "exec Assign cons ListComp") => `(tactic| (k_here; (with_reducible show wpAny _ _ (exec (Stmt.Assign _ (Expr.ListComp (Expr.BoolOp _ _ _) _ _ _) _) _) _ _ _); k_dflt (refine Mine.Assign_ListComp_T (_F₀ := by k_asm) (by rfl) (by with_unfolding_all rfl) (by with_unfolding_all rfl) (by decide) (by rfl) (by decide) (by rfl) (by rfl) (by rfl) ?_)))
local macro_rules | `(tactic| walk_at "SrcT") => `(tactic| (k_here; k_dflt (refine' Mine.SrcT.flags (by rfl) (by k_asm) (by k_asm) ?sz (fun gh c t' I' oI' C' oC' D' m' ys' h' tk' E' hC' hx' F' N' off' ne' => ?_) (fun gh ys bs hB hBl hBw => ?_)); (case sz => omega)))
local macro_rules | `(tactic| walk_at "CompEnd") => `(tactic| ((refine LCg.CompEnd.intro (by assumption) (by assumption) _ (fun p hp => hp) (by assumption) trivial ⟨rfl, ?_⟩); first | exact Mine.wordB_tt (by assumption) | exact Mine.wordB_ff (by assumption)))
local macro_rules | `(tactic| walk_at "pyIter ref") => `(tactic| (k_here; (with_reducible rename Fr _ _ _ _ => lF'); (with_reducible rename News _ _ _ _ => lN'); (with_reducible rename IsRange _ _ _ _ _ _ _ _ => rgX); k_dflt (refine' Mine.place_iter (by assumption) (by assumption) (by assumption) (by with_unfolding_all rfl) (by rfl) rgX ?b0 ?b1 rfl lF' lN' ?hst ?_ ?_; (case b0 => omega); (case b1 => omega); (case hst => with_unfolding_all rfl); (all_goals (try clear lF' lN')); (all_goals (try k_whole))); (all_goals (intros; (try k_fold)))))
local macro_rules | `(tactic| walk_at "call builtin:list.append") => `(tactic| (k_here; k_dflt (refine' Mine.append_here (by assumption) (by assumption) (by assumption) (by assumption) ?hsz ?_; (case hsz => (rw [sizeLine_eq, List.size_toArray]; omega)); k_whole); intro _ _ _))
local macro_rules | `(tactic| walk_at "PlaceEnd") => `(tactic| first
  | exact Mine.PlaceEnd.same (by assumption) (by assumption) (by simp only [Mine.condP, Bool.and_true, Bool.true_and, Bool.and_false, Bool.false_and, *]) (by assumption) (by assumption) rfl rfl
  | exact Mine.PlaceEnd.cut (by assumption) (by assumption) (by simp only [Mine.condP, Bool.and_true, Bool.true_and, Bool.and_false, Bool.false_and, *]) (by assumption) (by assumption) rfl rfl)
local macro_rules | `(tactic| walk_at "StarOf ref") => `(tactic| (k_here; k_dflt (refine' star_seq ?k1 ?k2 ?m ?c ?d (.inl rfl) ?e ?z ?_; (case k1 => k_asm); (case k2 => k_asm); (case m => exact List.mem_cons_of_mem _ List.mem_cons_self); (case c => exact rfl); (case d => exact rfl); (case e => exact rfl); (case z => (rw [sizeLine_eq, List.size_toArray]; omega)); k_whole); intro h' F' N'; (try k_sweep)))
local macro_rules | `(tactic| walk_at "newList") => `(tactic| (k_here; k_dflt (refine' newList_K ?k1 ?k2 ?_ ?z; (case k1 => k_asm); (case k2 => k_asm); (case z => (rw [sizeLine_eq]; simp only [List.length_append, List.length_cons, List.length_nil]; omega)); k_whole); intro l' h' F' N' l1; (try k_lt l1)))
theorem Mine.parts_call : ∀ (w : World) (loose : List Str) (mean : ExcName → Option Value) (mg mb : Str → Option Value) (dp un : Nat) (gd : Option (List Code)) (cn : Str) (cs : Scope) (a : Addr) (ccd : Value) (cl : List (Str × Addr)) (outer : List Env) (A₀ : Around) (base h₀ : Heap) (L : Addr) (m : Str → Option Value) (s : Shared) (news : List (Addr × Obj)) (sp tx : Str) (t1 t2 : Tok) (Q E : Value → Shared → Prop),
  Below A₀ base outer h₀ → Fr h₀ L s.heap m → (Mine.hd.heap_39 w.params).In h₀ → News h₀ L s.heap news → Top Mine.hd.view_39 loose mean mg mb h₀ → cs.kind = .function → dp + 1 < recursionLimit → un + 8 < cLine →
  1 ≤ sp.length → sp.length ≤ 8 → tx.length ≤ 100 →
  (∀ D vs n tk h', Fr h₀ L h' m → News h₀ L h' ((D, W.listOf vs.toArray n) :: news) → (∀ p ∈ news, p.1 < D) → StrsAre vs (Mine.partsF sp tx) → Q (.ref D) { s with heap := h', toks := tk }) →
  wpAny (model PySem.Challenge.rw_fe0143_01.row.prog w) (ktrTop dp un gd cn cs L a ccd cl outer) (call (.ref 19) [.str sp t1, .str tx t2]) Q E s := by
  k_fill
  w_top off
  intro w loose mean mg mb dp un gd cn cs a ccd cl outer A₀ base h₀ L m s news sp tx t1 t2 Q E B F X N T hk hdp hun hsp1 hsp8 htx hret
  refine wpAny_call ?_
  k_dflt (refine' code_def (binds := [(Str.ofString "splitter", .str sp t1), (Str.ofString "text", .str tx t2)]) ?k1 ?k2 ?k3 ?k4 ?k5 ?kA ?kF ?kK ?k6 ?k7 ?k8 ?k9 ?kB ?_ ?c2 ?c3 ?c4 ?c5; (case kA => exact rfl); (case kF => exact rfl); (case kK => assumption); (case k1 => k_asm); (case k2 => k_asm); (case k3 => k_asm); (case k4 => k_asm); (case k5 => k_asm); (case k6 => k_is); (case k7 => k_is); (case k8 => ktr_room); (case k9 => exact BindsTo.of_eq rfl); (case c5 => decide); (case kB => exact locs rfl); (case c2 => exact rfl); (case c3 => exact rfl); (case c4 => exact rfl); k_whole)
  intro g' L' h' FG' F' N' B' X' T'
  k_lift B'
  k_fold
  k_steps
  rename_i l1 kF kN kT kX
  exact hret _ _ _ _ _ kF (Mine.news_first kN) (kst_ltOf l1.2.2.2) (Mine.parts_end (by assumption) (by assumption) (by assumption))

theorem Mine.parts_use {w : World} {loose : List Str} {mean : ExcName → Option Value} {mg mb : Str → Option Value} {dp un : Nat} {gd : Option (List Code)} {cn : Str} {cs : Scope} {a : Addr} {ccd : Value} {cl : List (Str × Addr)} {outer : List Env} {A₀ : Around} {base h₀ : Heap} {L : Addr} {m : Str → Option Value} {s : Shared} {news : List (Addr × Obj)} {sp tx : Str} {t1 t2 : Tok} {Q E : Value → Shared → Prop}
  (B : Below A₀ base outer h₀) (F : Fr h₀ L s.heap m) (X : (Mine.hd.heap_39 w.params).In h₀) (N : News h₀ L s.heap news) (T : Top Mine.hd.view_39 loose mean mg mb h₀) (hk : cs.kind = .function) (hd : dp + 1 < recursionLimit) (hu : un + 8 < cLine)
  (h1 : 1 ≤ sp.length) (h8 : sp.length ≤ 8) (ht : tx.length ≤ 100)
  (ret : ∀ D vs n tk h', Fr h₀ L h' m → News h₀ L h' ((D, W.listOf vs.toArray n) :: news) → (∀ p ∈ news, p.1 < D) → StrsAre vs (Mine.partsF sp tx) → Q (.ref D) { s with heap := h', toks := tk }) :
  wpAny (model PySem.Challenge.rw_fe0143_01.row.prog w) (ktrTop dp un gd cn cs L a ccd cl outer) (call (.ref 19) [.str sp t1, .str tx t2]) Q E s :=
  Mine.parts_call w loose mean mg mb dp un gd cn cs a ccd cl outer A₀ base h₀ L m s news sp tx t1 t2 Q E B F X N T hk hd hu h1 h8 ht ret
end

section
open PySem PySem.W PyProof.Rows PySem.Spec PySem.Calls
namespace Mine
section
variable {prog : Program} {w : World} {A : Around} {E : Value → Shared → Prop} {s : Shared} {h₀ : Heap} {L S D T : Addr} {m : Str → Option Value} {rest : List (Addr × Obj)} {to : Obj} {nS nD : Nat} {vs : List Value} {ns : List Int} {at' : Int} {ta : Tok}
/-- the state list, ahead in the ledger -/
abbrev stObj (D : Addr) (k : Int) (t : Tok) (n : Nat) : Obj := W.listOf #[.ref D, .int k t] n
theorem st_item0 {value slice : Expr} {u : Tok} {Q : Value → Shared → Prop} (N : News h₀ L s.heap ((S, stObj D at' ta nS) :: rest)) (h : Q (.ref D) s)
    (hs : subscripted slice false (.ref S) (.int 0 u) = operate [.ref S, .int 0 u] (getItem (.ref S) (.int 0 u)) := by with_unfolding_all rfl) :
    wpAny (model prog w) A (subscriptTail value slice (.ref S) (.int 0 u)) Q E s :=
  have hl : s.heap.IsList S #[.ref D, .int at' ta] := PySem.IsL.isList (n := nS) (N _ List.mem_cons_self).1
  tail_any hl.typeIs slot_list_getitem.lookup (wpAny_getItem_list hl (by decide) (by decide) rfl h) hs
theorem st_item1 {value slice : Expr} {u : Tok} {Q : Value → Shared → Prop} (N : News h₀ L s.heap ((S, stObj D at' ta nS) :: rest)) (h : Q (.int at' ta) s)
    (hs : subscripted slice false (.ref S) (.int 1 u) = operate [.ref S, .int 1 u] (getItem (.ref S) (.int 1 u)) := by with_unfolding_all rfl) :
    wpAny (model prog w) A (subscriptTail value slice (.ref S) (.int 1 u)) Q E s :=
  have hl : s.heap.IsList S #[.ref D, .int at' ta] := PySem.IsL.isList (n := nS) (N _ List.mem_cons_self).1
  tail_any hl.typeIs slot_list_getitem.lookup (wpAny_getItem_list hl (by decide) (by decide) rfl h) hs
theorem st_set1 {k : Int} {t u : Tok} {Q : Unit → Shared → Prop} (F : Fr h₀ L s.heap m) (N : News h₀ L s.heap ((T, to) :: (S, stObj D at' ta nS) :: rest)) (hT : AllLt T ((S, stObj D at' ta nS) :: rest)) (hr : ∀ p ∈ rest, p.1 ≠ S)
    (h : ∀ h', Fr h₀ L h' m → News h₀ L h' ((T, to) :: (S, stObj D k t nS) :: rest) → Q () { s with heap := h' }) : wpAny (model prog w) A (setItem (.ref S) (.int 1 u) (.int k t)) Q E s :=
  ki_set (its := #[.ref D, .int at' ta]) (q := [.ref D, .int k t]) F N (by decide) (by decide) rfl (.tail (Nat.ne_of_gt hT.1) (.head hr)) h
theorem nums_len {Q : Value → Shared → Prop} (N : News h₀ L s.heap ((T, to) :: (S, stObj D at' ta nS) :: rest)) (hm : (D, W.listOf vs.toArray nD) ∈ rest) (hi : IntsAre vs ns) (hlt : ns.length < 2 ^ 62)
    (h : Q (.int (ns.length : Nat) (s.toks + 1)) { s with toks := s.toks + 1 + 1 }) : wpAny (model prog w) A (call (.builtin "len") [.ref D]) Q E s :=
  kst_len N (List.mem_cons_of_mem _ (List.mem_cons_of_mem _ hm)) hi.length (by omega) h
theorem nums_item {value slice : Expr} {k : Int} {u : Tok} {Q : Value → Shared → Prop} (N : News h₀ L s.heap ((T, to) :: (S, stObj D at' ta nS) :: rest)) (hm : (D, W.listOf vs.toArray nD) ∈ rest) (hi : IntsAre vs ns) (h0 : 0 ≤ k) (h1 : k < ns.length) (hfit : k < 2 ^ 63)
    (h : ∀ t, Q (.int (ns.getD k.toNat 0) t) s)
    (hs : subscripted slice false (.ref D) (.int k u) = operate [.ref D, .int k u] (getItem (.ref D) (.int k u)) := by with_unfolding_all rfl) :
    wpAny (model prog w) A (subscriptTail value slice (.ref D) (.int k u)) Q E s := by
  have hl : s.heap.IsList D vs.toArray := PySem.IsL.isList (n := nD) (N _ (List.mem_cons_of_mem _ (List.mem_cons_of_mem _ hm))).1
  have hk : k.toNat < ns.length := by omega
  obtain ⟨t, e⟩ := hi.get k.toNat (ns.getD k.toNat 0) (by rw [List.getD_eq_getElem?_getD, List.getElem?_eq_getElem hk]; rfl)
  exact tail_any hl.typeIs slot_list_getitem.lookup (wpAny_getItem_list hl h0 hfit (by simpa using e) (h t)) hs
end
/-- the turn's bounds -/
theorem turn_lo {a b : Int} (ha : 0 ≤ a) (hb : 1 ≤ b) : 0 ≤ a.fdiv b := Int.fdiv_nonneg ha (by omega)
theorem turn_hi {a b : Int} (ha : 0 ≤ a) (hb : 1 ≤ b) : a.fdiv b ≤ a := by
  rw [Int.fdiv_eq_ediv_of_nonneg _ (by omega)]
  exact Int.ediv_le_self _ ha
end Mine
end

section
open PySem PySem.W PyProof.Rows PySem.Spec PySem.Calls
namespace Mine
open LCg
structure IsState (S : Addr) : Prop where
def splits : List Str := [Str.ofString "\x69mport ", Str.ofString "as ", Str.ofString ".", Str.ofString "cimport "]
def pieces : List Str := [Str.ofString "a", Str.ofString "b1", Str.ofString ".", Str.ofString " ", Str.ofString "as ", Str.ofString "\x69mport ", Str.ofString "(", Str.ofString "_", Str.ofString "cimport ", Str.ofString "."]
structure SplitOk (x : Str) : Prop where
  mem : x ∈ splits
/-- the signs that a piece is made of -/
def signsOk (c : Nat) : Bool := [97, 98, 49, 46, 32, 115, 105, 109, 112, 111, 114, 116, 40, 95, 99].contains c
structure TextOk (x : Str) : Prop where
  ok : ∀ c ∈ x.cps.toList, signsOk c = true
theorem SplitOk.lo {x : Str} (h : SplitOk x) : 1 ≤ x.length := by
  have : ∀ y ∈ splits, 1 ≤ y.length := by decide
  exact this x h.mem
theorem SplitOk.hi {x : Str} (h : SplitOk x) : x.length ≤ 8 := by
  have : ∀ y ∈ splits, y.length ≤ 8 := by decide
  exact this x h.mem
theorem pieces_len : ∀ y ∈ pieces, y.length ≤ 8 := by decide
theorem pieces_ok : ∀ y ∈ pieces, ∀ c ∈ y.cps.toList, signsOk c = true := by decide
theorem join_ok : ∀ xs : List Str, (∀ x ∈ xs, x ∈ pieces) → (Str.join (Str.ofString "") xs).length ≤ 8 * xs.length ∧ ∀ c ∈ (Str.join (Str.ofString "") xs).cps.toList, signsOk c = true
  | [], _ => ⟨Nat.le_refl _, fun c hc => by cases hc⟩
  | [x], h => by
    have hx := h x List.mem_cons_self
    exact ⟨pieces_len x hx, pieces_ok x hx⟩
  | x :: y :: r, h => by
    have hx := h x List.mem_cons_self
    obtain ⟨h1, h2⟩ := join_ok (y :: r) (fun z hz => h z (List.mem_cons_of_mem _ hz))
    have he : (Str.ofString "").length = 0 := by decide
    have hec : (Str.ofString "").cps.toList = [] := by decide
    constructor
    · show (x ++ Str.ofString "" ++ Str.join (Str.ofString "") (y :: r)).length ≤ _
      rw [Str.length_append, Str.length_append]
      have := pieces_len x hx
      simp only [List.length_cons] at h1 ⊢
      omega
    · intro c hc
      have hc' : c ∈ (x ++ Str.ofString "" ++ Str.join (Str.ofString "") (y :: r)).cps.toList := hc
      rw [Str.cps_append, Array.toList_append, Str.cps_append, Array.toList_append, hec, List.append_nil] at hc'
      rcases List.mem_append.mp hc' with hc' | hc'
      · exact pieces_ok x hx c hc'
      · exact h2 c hc'
section
variable {prog : Program} {w : World} {A : Around} {E : Value → Shared → Prop} {s : Shared} {h₀ : Heap} {L l : Addr} {m : Str → Option Value} {env : Env} {news : List (Addr × Obj)}
theorem menu_item {items : List Value} {ws : List Str} {n : Nat} {value slice : Expr} {k : Int} {u : Tok} {Q : Value → Shared → Prop} (N : News h₀ L s.heap news) (hm : (l, W.listOf items.toArray n) ∈ news) (hs : StrsAre items ws) (h0 : 0 ≤ k) (h1 : k < (ws.length : Int)) (hw : ws.length ≤ 100)
    (h : ∀ x t, x ∈ ws → Q (.str x t) s)
    (hsb : subscripted slice false (.ref l) (.int k u) = operate [.ref l, .int k u] (getItem (.ref l) (.int k u)) := by with_unfolding_all rfl) :
    wpAny (model prog w) A (subscriptTail value slice (.ref l) (.int k u)) Q E s := by
  have hl : s.heap.IsList l items.toArray := PySem.IsL.isList (n := n) (N _ hm).1
  have hk : k.toNat < ws.length := by omega
  obtain ⟨t, e⟩ := hs.get k.toNat ws[k.toNat] (List.getElem?_eq_getElem hk)
  exact tail_any hl.typeIs slot_list_getitem.lookup (wpAny_getItem_list hl h0 (by omega) (by simpa using e) (h _ t (List.getElem_mem hk))) hsb
theorem split_item {items : List Value} {n : Nat} {value slice : Expr} {k : Int} {u : Tok} {Q : Value → Shared → Prop} (N : News h₀ L s.heap news) (hm : (l, W.listOf items.toArray n) ∈ news) (hs : StrsAre items splits) (h0 : 0 ≤ k) (h1 : k < 4)
    (h : ∀ x t, SplitOk x → 1 ≤ x.length → x.length ≤ 8 → Q (.str x t) s)
    (hsb : subscripted slice false (.ref l) (.int k u) = operate [.ref l, .int k u] (getItem (.ref l) (.int k u)) := by with_unfolding_all rfl) :
    wpAny (model prog w) A (subscriptTail value slice (.ref l) (.int k u)) Q E s :=
  menu_item N hm hs h0 (by show k < 4; exact h1) (by decide) (fun x t hx => h x t ⟨hx⟩ (SplitOk.lo ⟨hx⟩) (SplitOk.hi ⟨hx⟩)) hsb
theorem piece_item {items : List Value} {n : Nat} {value slice : Expr} {k : Int} {u : Tok} {Q : Value → Shared → Prop} (N : News h₀ L s.heap news) (hm : (l, W.listOf items.toArray n) ∈ news) (hs : StrsAre items pieces) (h0 : 0 ≤ k) (h1 : k < 10)
    (h : ∀ x t, x ∈ pieces → Q (.str x t) s)
    (hsb : subscripted slice false (.ref l) (.int k u) = operate [.ref l, .int k u] (getItem (.ref l) (.int k u)) := by with_unfolding_all rfl) :
    wpAny (model prog w) A (subscriptTail value slice (.ref l) (.int k u)) Q E s :=
  menu_item N hm hs h0 (by show k < 10; exact h1) (by decide) h hsb
theorem join_pieces {ys : List Value} {xs : List Str} {n : Nat} {t : Tok} {Q : Value → Shared → Prop} (N : News h₀ L s.heap news) (hm : (l, W.listOf ys.toArray n) ∈ news) (hi : StrsAre ys xs) (hx : ∀ x ∈ xs, x ∈ pieces) (hn : xs.length ≤ 12)
    (h : ∀ tx t' k, TextOk tx → tx.length ≤ 100 → Q (.str tx t') { s with toks := k }) : wpAny (model prog w) A (call (.builtin "str.join") [.str (Str.ofString "") t, .ref l]) Q E s := by
  have hl : s.heap.IsList l ys.toArray := PySem.IsL.isList (n := n) (N _ hm).1
  obtain ⟨j1, j2⟩ := join_ok xs hx
  have hsum : ∀ xs : List Str, (∀ x ∈ xs, x ∈ pieces) → (xs.map (·.length)).sum ≤ 8 * xs.length := by
    intro xs
    induction xs with
    | nil => intro _; exact Nat.le_refl _
    | cons x r ih =>
      intro hx
      have h1 := pieces_len x (hx x List.mem_cons_self)
      have h2 := ih fun z hz => hx z (List.mem_cons_of_mem _ hz)
      simp only [List.map_cons, List.sum_cons, List.length_cons] at h2 ⊢
      omega
  have h3 := hsum xs hx
  have he : (Str.ofString "").length = 0 := by decide
  refine join_list hl hi (by rw [he]; omega) fun t' k => ?_
  have e : Txt.join (Str.ofString "") xs = Str.join (Str.ofString "") xs := StrLaws.glued_eq_join _ _
  rw [e]
  exact h _ t' k ⟨j2⟩ (by omega)

/-- a drawn text, and the ledger behind the draw -/
def PcEl (nf : Tok → List (Addr × Obj)) (y : Value) (news' : List (Addr × Obj)) : Prop := ∃ x t tS, x ∈ pieces ∧ y = .str x t ∧ news' = nf tS
theorem nums_lo (l : List Int) : 1 ≤ (l ++ [5, 0, 11]).length := by
  simp only [List.length_append, List.length_cons, List.length_nil]; omega
theorem nums_hi (f : Int → Int) (l : List Int) : (List.map f (List.take 24 l) ++ [5, 0, 11]).length ≤ 1000 := by
  simp only [List.length_append, List.length_cons, List.length_nil, List.length_map, List.length_take]; omega
theorem upd_same {S : Addr} {o : Obj} {l l' : List (Addr × Obj)} (U : Upd S o o l l') : l' = l := by
  obtain ⟨pre, post, e1, e2, _, _⟩ := U.split
  rw [e1, e2]
theorem upd_trans {S : Addr} {o o' o'' : Obj} {l l' l'' : List (Addr × Obj)} (U : Upd S o o' l l') (V : Upd S o o'' l l'') : Upd S o' o'' l' l'' := by
  induction U generalizing l'' with
  | head h =>
    cases V with
    | head _ => exact .head h
    | tail hn _ => exact absurd rfl hn
  | tail hn _ ih =>
    cases V with
    | head _ => exact absurd rfl hn
    | tail _ V' => exact .tail hn (ih V')
theorem upd_mem {S : Addr} {o o' : Obj} {l l' : List (Addr × Obj)} (U : Upd S o o' l l') (_h : (S, o) ∈ l) : (S, o') ∈ l' := by
  obtain ⟨pre, post, _, e2, _, _⟩ := U.split
  rw [e2]
  exact List.mem_append_right _ List.mem_cons_self
theorem upd_in3 {S I C D : Addr} {o o' oI oC oD : Obj} {l l' : List (Addr × Obj)} (U : Upd S o o' l l') (hm : (S, o) ∈ l) (off : Off3 I C D l) : Upd S o o' ((I, oI) :: (C, oC) :: (D, oD) :: l) ((I, oI) :: (C, oC) :: (D, oD) :: l') := by
  obtain ⟨h1, h2, h3⟩ := off.mem _ hm
  exact .tail (Ne.symm h1) (.tail (Ne.symm h2) (.tail (Ne.symm h3) U))
theorem off3_upd {S I C D : Addr} {o o' : Obj} {l l' : List (Addr × Obj)} (U : Upd S o o' l l') (off : Off3 I C D l) : Off3 I C D l' := by
  induction U with
  | head h => exact ⟨off.1, off.2⟩
  | tail h _ ih => exact ⟨off.1, ih off.2⟩
theorem strs_snoc {y : Str} {t : Tok} {vs : List Value} {ys : List Str} (h : StrsAre vs ys) : StrsAre (vs ++ [.str y t]) (ys ++ [y]) := h.append' (.cons _ _ .nil)
theorem draws_rest {elt : Expr} {x : Str} {scope : Scope} {cl : List (Str × Addr)} {Fin : List Value → List (Addr × Obj) → Prop} {n : Nat} {a : Int} {S D' : Addr} {k₀ : Int} {t₀ : Tok} {nS : Nat} {newsF : Int → Tok → List (Addr × Obj)}
    (_hS : IsState S) (hDS : D' ≠ S) (hm : (S, stObj D' k₀ t₀ nS) ∈ news) (hU : ∀ k t, Upd S (stObj D' k₀ t₀ nS) (stObj D' k t nS) news (newsF k t))
    (hk0 : 0 ≤ k₀) (hk1 : k₀ + (n : Int) ≤ 1000)
    (turn : ∀ k tS v I oI C oC D m₂ ys h tk (E' : Value → Shared → Prop), 0 ≤ k → k ≤ 1000 → (∀ tb, Upd S (stObj D' k tS nS) (stObj D' (k + 1) tb nS) ((I, oI) :: (C, oC) :: (D, lst ys) :: newsF k tS) ((I, oI) :: (C, oC) :: (D, lst ys) :: newsF (k + 1) tb)) → D' ≠ S → (∀ tb, Off3 I C D (newsF (k + 1) tb)) → NsObj oC m₂ → m₂ x = some v → Fr h₀ L h m → News h₀ L h ((I, oI) :: (C, oC) :: (D, lst ys) :: newsF k tS) →
      wpAny (model prog w) A (eval elt (compEnvC scope cl C env)) (CompEnd h₀ L m { s with heap := h, toks := tk } I oI C oC D (lst ys) (fun _ => True) (fun y news' => PcEl (newsF (k + 1)) y news')) E' { s with heap := h, toks := tk })
    (fin : ∀ tS ys xs, StrsAre ys xs → (∀ x ∈ xs, x ∈ pieces) → xs.length = n → Fin ys (newsF (k₀ + (n : Int)) tS)) :
    CompRest prog w A h₀ L m env elt x scope cl s (fun _ => True) (fun i v => ∃ t, v = .int (a + (i : Int)) t) Fin n 0 [] news := by
  have key : ∀ (j i : Nat) (ys : List Value) (xs : List Str) (tS : Tok), i + j = n → StrsAre ys xs → (∀ x ∈ xs, x ∈ pieces) → xs.length = i → CompRest prog w A h₀ L m env elt x scope cl s (fun _ => True) (fun i v => ∃ t, v = .int (a + (i : Int)) t) Fin j i ys (newsF (k₀ + (i : Int)) tS) := by
    intro j
    induction j with
    | zero =>
      intro i ys xs tS hi hy hx hl
      have e : i = n := by omega
      subst e
      exact CompRest.zero (fin tS ys xs hy hx hl)
    | succ j ih =>
      intro i ys xs tS hi hy hx hl
      refine CompRest.succ ?_
      intro v I oI C oC D m₂ h tk E' hv hC hxv F N off ne
      refine wpAny_mono (turn (k₀ + (i : Int)) tS v I oI C oC D m₂ ys h tk E' (by omega) (by omega) (fun tb => upd_in3 (upd_trans (hU _ tS) (hU _ tb)) (upd_mem (hU _ tS) hm) off) hDS (fun tb => off3_upd (upd_trans (hU _ tS) (hU _ tb)) off) hC hxv F N) (fun y s₂ hq => ?_) fun _ _ e => e
      obtain ⟨h', tk', nw, e, F', N', off', hS, z, t, tS', hz, rfl, rfl⟩ := hq
      have e2 : k₀ + (i : Int) + 1 = k₀ + ((i + 1 : Nat) : Int) := by omega
      rw [e2] at N' off'
      refine ⟨h', tk', _, e, F', N', off', trivial, ih (i + 1) _ (xs ++ [z]) tS' (by omega) (strs_snoc hy) (fun q hq => ?_) (by rw [List.length_append, hl]; rfl)⟩
      rcases List.mem_append.mp hq with hq | hq
      · exact hx q hq
      · rw [List.mem_singleton.mp hq]; exact hz
  have e0 : newsF k₀ t₀ = news := upd_same (hU k₀ t₀)
  have := key n 0 [] [] t₀ (by omega) .nil (fun _ h => nomatch h) rfl
  have ez : k₀ + ((0 : Nat) : Int) = k₀ := by omega
  rw [ez, e0] at this
  exact this
end
end Mine
end

section
open PySem PySem.W PyProof.Rows
local macro_rules | `(tactic| walk_at "setItem ref int") => `(tactic| (k_here; k_dflt (refine' Mine.st_set1 ?k1 ?k2 ?k3 ?k4 ?_; (case k1 => k_asm); (case k2 => k_asm); (case k3 => assumption); (case k4 => assumption); k_whole); intro h' F' N'))
local macro_rules | `(tactic| walk_at "call builtin:len") => `(tactic| (k_here; k_dflt (refine' Mine.nums_len ?k1 ?k2 ?k3 ?k4 ?_; (case k1 => k_asm); (case k2 => assumption); (case k3 => assumption); (case k4 => omega); k_whole)))
local macro_rules | `(tactic| walk_at "subscriptTail") => `(tactic| (k_here; (with_reducible show wpAny _ _ (subscriptTail _ _ (Value.ref _) (Value.int _ _)) _ _ _); k_dflt (refine' Mine.nums_item ?k1 ?k2 ?k3 ?k4 ?k5 ?k6 ?_; (case k1 => k_asm); (case k2 => assumption); (case k3 => assumption); (case k4 => omega); (case k5 => omega); (case k6 => omega); k_whole); intro t'))
theorem Mine.next_call : ∀ (w : World) (loose : List Str) (mean : ExcName → Option Value) (mg mb : Str → Option Value) (dp un : Nat) (gd : Option (List Code)) (cn : Str) (cs : Scope) (a : Addr) (ccd : Value) (cl : List (Str × Addr)) (outer : List Env) (A₀ : Around) (base h₀ : Heap) (L : Addr) (m : Str → Option Value) (s : Shared) (rest : List (Addr × Obj)) (S D : Addr) (nS nD : Nat) (vs : List Value) (ns : List Int) (at' many : Int) (ta tm : Tok) (Q E : Value → Shared → Prop),
  Below A₀ base outer h₀ → Fr h₀ L s.heap m → (Mine.hd.heap_39 w.params).In h₀ → News h₀ L s.heap ((S, Mine.stObj D at' ta nS) :: rest) → Top Mine.hd.view_39 loose mean mg mb h₀ → cs.kind = .function → dp + 1 < recursionLimit → un + 8 < cLine →
  (∀ p ∈ rest, p.1 ≠ S) → (D, W.listOf vs.toArray nD) ∈ rest → IntsAre vs ns → 1 ≤ ns.length → ns.length ≤ 1000 → 0 ≤ at' → at' ≤ 1000 → 1 ≤ many →
  (∀ v t tb tk h', Fr h₀ L h' m → News h₀ L h' ((S, Mine.stObj D (at' + 1) tb nS) :: rest) → 0 ≤ v → v < many → Q (.int v t) { s with heap := h', toks := tk }) →
  wpAny (model PySem.Challenge.rw_fe0143_01.row.prog w) (ktrTop dp un gd cn cs L a ccd cl outer) (call (.ref 26) [.ref S, .int many tm]) Q E s := by
  k_fill
  w_top off
  intro w loose mean mg mb dp un gd cn cs a ccd cl outer A₀ base h₀ L m s rest S D nS nD vs ns at' many ta tm Q E B F X N T hk hdp hun hr hD hI hn1 hn hat hat2 hmany hret
  have ht0 := Mine.turn_lo hat (b := (ns.length : Int)) (by omega)
  have ht1 := Mine.turn_hi hat (b := (ns.length : Int)) (by omega)
  have hm0 := Int.fmod_nonneg hat (b := (ns.length : Int)) (by omega)
  have hm1 := Int.fmod_lt_of_pos at' (b := (ns.length : Int)) (by omega)
  refine wpAny_call ?_
  k_dflt (refine' code_def (binds := [(Str.ofString "state", .ref S), (Str.ofString "many", .int many tm)]) ?k1 ?k2 ?k3 ?k4 ?k5 ?kA ?kF ?kK ?k6 ?k7 ?k8 ?k9 ?kB ?_ ?c2 ?c3 ?c4 ?c5; (case kA => exact rfl); (case kF => exact rfl); (case kK => assumption); (case k1 => k_asm); (case k2 => k_asm); (case k3 => k_asm); (case k4 => k_asm); (case k5 => k_asm); (case k6 => k_is); (case k7 => k_is); (case k8 => ktr_room); (case k9 => exact BindsTo.of_eq rfl); (case c5 => decide); (case kB => exact locs rfl); (case c2 => exact rfl); (case c3 => exact rfl); (case c4 => exact rfl); k_whole)
  intro g' L' h' FG' F' N' B' X' T'
  k_lift B'
  k_fold
  k_steps
  rename_i kF kN kT kX
  exact hret _ _ _ _ _ kF (fun p hp => kN p (List.mem_cons_of_mem _ hp)) (Int.fmod_nonneg_of_pos _ (by omega)) (Int.fmod_lt_of_pos _ (by omega))

theorem Mine.next_use {w : World} {loose : List Str} {mean : ExcName → Option Value} {mg mb : Str → Option Value} {dp un : Nat} {gd : Option (List Code)} {cn : Str} {cs : Scope} {a : Addr} {ccd : Value} {cl : List (Str × Addr)} {outer : List Env} {A₀ : Around} {base h₀ : Heap} {L : Addr} {m : Str → Option Value} {s : Shared} {news : List (Addr × Obj)} {news' : Tok → List (Addr × Obj)} {S D : Addr} {nS nD : Nat} {vs : List Value} {ns : List Int} {at' many : Int} {ta tm : Tok} {Q E : Value → Shared → Prop}
  (B : Below A₀ base outer h₀) (F : Fr h₀ L s.heap m) (X : (Mine.hd.heap_39 w.params).In h₀) (N : News h₀ L s.heap news) (T : Top Mine.hd.view_39 loose mean mg mb h₀) (hk : cs.kind = .function) (hd : dp + 1 < recursionLimit) (hu : un + 8 < cLine)
  (hD : (D, W.listOf vs.toArray nD) ∈ news) (hU : ∀ tb, Upd S (Mine.stObj D at' ta nS) (Mine.stObj D (at' + 1) tb nS) news (news' tb)) (hDS : D ≠ S) (hI : IntsAre vs ns) (hn1 : 1 ≤ ns.length) (hn : ns.length ≤ 1000) (ha : 0 ≤ at') (ha2 : at' ≤ 1000) (hm : 1 ≤ many)
  (ret : ∀ v t tb tk h', Fr h₀ L h' m → News h₀ L h' (news' tb) → 0 ≤ v → v < many → Mine.IsState S → Q (.int v t) { s with heap := h', toks := tk }) :
  wpAny (model PySem.Challenge.rw_fe0143_01.row.prog w) (ktrTop dp un gd cn cs L a ccd cl outer) (call (.ref 26) [.ref S, .int many tm]) Q E s := by
  obtain ⟨pre, post, e1, _, hp1, hp2⟩ := (hU 0).split
  have hrest : ∀ p ∈ pre ++ post, p.1 ≠ S := fun p hp => (List.mem_append.mp hp).elim (hp1 p) (hp2 p)
  have into : ∀ p, p ∈ news → p.1 ≠ S → p ∈ pre ++ post := fun p hp hne => by
    rw [e1] at hp
    rcases List.mem_append.mp hp with hp | hp
    · exact List.mem_append_left _ hp
    · rcases List.mem_cons.mp hp with rfl | hp
      · exact absurd rfl hne
      · exact List.mem_append_right _ hp
  refine Mine.next_call w loose mean mg mb dp un gd cn cs a ccd cl outer A₀ base h₀ L m s (pre ++ post) S D nS nD vs ns at' many ta tm Q E B F X (fun p hp => ?_) T hk hd hu hrest (into _ hD hDS) hI hn1 hn ha ha2 hm ?_
  · refine N p ?_
    rw [e1]
    rcases List.mem_cons.mp hp with rfl | hp
    · exact List.mem_append_right _ List.mem_cons_self
    · rcases List.mem_append.mp hp with hp | hp
      · exact List.mem_append_left _ hp
      · exact List.mem_append_right _ (List.mem_cons_of_mem _ hp)
  · intro v t tb tk h' F' N' v0 v1
    refine ret v t tb tk h' F' (fun p hp => ?_) v0 v1 ⟨⟩
    obtain ⟨pre', post', e1', e2', hp1', hp2'⟩ := (hU tb).split
    rw [e2'] at hp
    rcases List.mem_append.mp hp with hp | hp
    · exact N' p (List.mem_cons_of_mem _ (into p (by rw [e1']; exact List.mem_append_left _ hp) (hp1' p hp)))
    · rcases List.mem_cons.mp hp with rfl | hp
      · exact N' _ List.mem_cons_self
      · exact N' p (List.mem_cons_of_mem _ (into p (by rw [e1']; exact List.mem_append_right _ (List.mem_cons_of_mem _ hp)) (hp2' p hp)))
end

section
open PySem PySem.W PyProof.Rows PySem.Spec PySem.Calls
namespace Mine
def defParts : Stmt → List Stmt × Scope
  | .FunctionDef _ _ body _ _ _ scope _ _ _ => (body, scope)
  | _ => ([], default)
set_option maxHeartbeats 4000000 in
/-- what stands in the law behind the building of its text -/
def lawTail : { l : List Stmt // l = (defParts (PySem.Challenge.pw_fe0143_01.main.body.getD 7 (.Pass default))).1.drop 5 } := ⟨_, by conv => rhs; whnf⟩
set_option maxHeartbeats 4000000 in
def lawScope : { l : Scope // l = (defParts (PySem.Challenge.pw_fe0143_01.main.body.getD 7 (.Pass default))).2 } := ⟨_, by conv => rhs; whnf⟩
end Mine
end

section
open PySem PySem.W PyProof.Rows PySem.Spec PySem.Calls
namespace Mine
def alpha : Str := Str.ofString "abcdefghijklmnopqrstuvwxyz_0123456789"
def isWordF (x : Str) : Bool := (x != Str.ofString "") && !(Builtin.Str.occurrences alpha x 0 alpha.length 1).isEmpty
theorem isWordF_tt {x : Str} (h : (x != Str.ofString "") = true) : isWordF x = !(Builtin.Str.occurrences alpha x 0 alpha.length 1).isEmpty := by unfold isWordF; rw [h]; rfl
theorem isWordF_ff {x : Str} (h : (x != Str.ofString "") = false) : isWordF x = false := by unfold isWordF; rw [h]; rfl
def befF (tx : Str) (k : Int) : Str := if k > 0 then Txt.slice tx (some (k - 1)) (some k) else Str.ofString ""
def edgeF (tx : Str) (k : Int) : Bool := isWordF (befF tx k) != isWordF (Txt.slice tx (some k) (some (k + 1)))
theorem edgeF_pos {tx : Str} {k : Int} (h : k > 0) : edgeF tx k = (isWordF (Txt.slice tx (some (k - 1)) (some k)) != isWordF (Txt.slice tx (some k) (some (k + 1)))) := by unfold edgeF befF; rw [if_pos h]
theorem edgeF_neg {tx : Str} {k : Int} (h : ¬ k > 0) : edgeF tx k = (isWordF (Str.ofString "") != isWordF (Txt.slice tx (some k) (some (k + 1)))) := by unfold edgeF befF; rw [if_neg h]
end Mine
end

section
open PySem PySem.W PyProof.Rows
theorem Mine.isword_call : ∀ (w : World) (loose : List Str) (mean : ExcName → Option Value) (mg mb : Str → Option Value) (dp un : Nat) (gd : Option (List Code)) (cn : Str) (cs : Scope) (a : Addr) (ccd : Value) (cl : List (Str × Addr)) (outer : List Env) (A₀ : Around) (base h₀ : Heap) (L : Addr) (m : Str → Option Value) (s : Shared) (news : List (Addr × Obj)) (x : Str) (t : Tok) (Q E : Value → Shared → Prop),
  Below A₀ base outer h₀ → Fr h₀ L s.heap m → (Mine.hd.heap_39 w.params).In h₀ → News h₀ L s.heap news → Top Mine.hd.view_39 loose mean mg mb h₀ → cs.kind = .function → dp + 1 < recursionLimit → un + 8 < cLine →
  x.length ≤ 100 →
  (∀ tk h', Fr h₀ L h' m → News h₀ L h' news → Q (.bool (Mine.isWordF x)) { s with heap := h', toks := tk }) →
  wpAny (model PySem.Challenge.rw_fe0143_01.row.prog w) (ktrTop dp un gd cn cs L a ccd cl outer) (call (.ref 38) [.str x t]) Q E s := by
  k_fill
  w_top off
  intro w loose mean mg mb dp un gd cn cs a ccd cl outer A₀ base h₀ L m s news x t Q E B F X N T hk hdp hun hx hret
  refine wpAny_call ?_
  k_dflt (refine' code_def (binds := [(Str.ofString "sign", .str x t)]) ?k1 ?k2 ?k3 ?k4 ?k5 ?kA ?kF ?kK ?k6 ?k7 ?k8 ?k9 ?kB ?_ ?c2 ?c3 ?c4 ?c5; (case kA => exact rfl); (case kF => exact rfl); (case kK => assumption); (case k1 => k_asm); (case k2 => k_asm); (case k3 => k_asm); (case k4 => k_asm); (case k5 => k_asm); (case k6 => k_is); (case k7 => k_is); (case k8 => ktr_room); (case k9 => exact BindsTo.of_eq rfl); (case c5 => decide); (case kB => exact locs rfl); (case c2 => exact rfl); (case c3 => exact rfl); (case c4 => exact rfl); k_whole)
  intro g' L' h' FG' F' N' B' X' T'
  k_lift B'
  k_fold
  k_steps
  · rename_i hq kF kN kT kX
    have hret' := hret
    rw [Mine.isWordF_tt hq] at hret'
    exact hret' _ _ kF kN
  · rename_i hq kF kN kT kX
    have hret' := hret
    rw [Mine.isWordF_ff hq] at hret'
    first | exact hret' _ _ kF kN | (rw [hq]; exact hret' _ _ kF kN)

theorem Mine.isword_use {w : World} {loose : List Str} {mean : ExcName → Option Value} {mg mb : Str → Option Value} {dp un : Nat} {gd : Option (List Code)} {cn : Str} {cs : Scope} {a : Addr} {ccd : Value} {cl : List (Str × Addr)} {outer : List Env} {A₀ : Around} {base h₀ : Heap} {L : Addr} {m : Str → Option Value} {s : Shared} {news : List (Addr × Obj)} {x : Str} {t : Tok} {Q E : Value → Shared → Prop}
  (B : Below A₀ base outer h₀) (F : Fr h₀ L s.heap m) (X : (Mine.hd.heap_39 w.params).In h₀) (N : News h₀ L s.heap news) (T : Top Mine.hd.view_39 loose mean mg mb h₀) (hk : cs.kind = .function) (hd : dp + 1 < recursionLimit) (hu : un + 8 < cLine) (hx : x.length ≤ 100)
  (ret : ∀ tk h', Fr h₀ L h' m → News h₀ L h' news → Q (.bool (Mine.isWordF x)) { s with heap := h', toks := tk }) :
  wpAny (model PySem.Challenge.rw_fe0143_01.row.prog w) (ktrTop dp un gd cn cs L a ccd cl outer) (call (.ref 38) [.str x t]) Q E s :=
  Mine.isword_call w loose mean mg mb dp un gd cn cs a ccd cl outer A₀ base h₀ L m s news x t Q E B F X N T hk hd hu hx ret

local macro_rules | `(tactic| walk_at "call ref") => `(tactic| (k_here; (with_reducible show wpAny _ _ (call (Value.ref _) [Value.str _ _]) _ _ _); k_dflt (refine' Mine.isword_use ?k1 ?k2 ?k3 ?k4 ?k5 ?kK ?kd ?ku ?hx ?_; (case k1 => k_asm); (case k2 => k_asm); (case k3 => k_asm); (case k4 => k_asm); (case k5 => k_asm); (case kK => first | exact rfl | assumption); (case kd => ktr_room); (case ku => ktr_units); (case hx => first | decide | omega); k_whole); intro tk' h' F' N'; (try k_fold)))
theorem Mine.edge_call : ∀ (w : World) (loose : List Str) (mean : ExcName → Option Value) (mg mb : Str → Option Value) (dp un : Nat) (gd : Option (List Code)) (cn : Str) (cs : Scope) (a : Addr) (ccd : Value) (cl : List (Str × Addr)) (outer : List Env) (A₀ : Around) (base h₀ : Heap) (L : Addr) (m : Str → Option Value) (s : Shared) (news : List (Addr × Obj)) (tx : Str) (k : Int) (t t2 : Tok) (Q E : Value → Shared → Prop),
  Below A₀ base outer h₀ → Fr h₀ L s.heap m → (Mine.hd.heap_39 w.params).In h₀ → News h₀ L s.heap news → Top Mine.hd.view_39 loose mean mg mb h₀ → cs.kind = .function → dp + 2 < recursionLimit → un + 16 < cLine → tx.length ≤ 100 →
  (∀ tk h', Fr h₀ L h' m → News h₀ L h' news → Q (.bool (Mine.edgeF tx k)) { s with heap := h', toks := tk }) →
  wpAny (model PySem.Challenge.rw_fe0143_01.row.prog w) (ktrTop dp un gd cn cs L a ccd cl outer) (call (.ref 45) [.str tx t, .int k t2]) Q E s := by
  k_fill
  w_top off
  intro w loose mean mg mb dp un gd cn cs a ccd cl outer A₀ base h₀ L m s news tx k t t2 Q E B F X N T hk hdp hun hx hret
  refine wpAny_call ?_
  k_dflt (refine' code_def (binds := [(Str.ofString "text", .str tx t), (Str.ofString "at", .int k t2)]) ?k1 ?k2 ?k3 ?k4 ?k5 ?kA ?kF ?kK ?k6 ?k7 ?k8 ?k9 ?kB ?_ ?c2 ?c3 ?c4 ?c5; (case kA => exact rfl); (case kF => exact rfl); (case kK => assumption); (case k1 => k_asm); (case k2 => k_asm); (case k3 => k_asm); (case k4 => k_asm); (case k5 => k_asm); (case k6 => k_is); (case k7 => k_is); (case k8 => ktr_room); (case k9 => exact BindsTo.of_eq rfl); (case c5 => decide); (case kB => exact locs rfl); (case c2 => exact rfl); (case c3 => exact rfl); (case c4 => exact rfl); k_whole)
  intro g' L' h' FG' F' N' B' X' T'
  k_lift B'
  k_fold
  k_steps
  · rename_i kF kN kT kX
    have e := Mine.edgeF_pos (tx := tx) (k := k) (by first | assumption | omega | (simp only [decide_eq_true_eq] at *; first | assumption | omega))
    have hret' := hret
    rw [e] at hret'
    exact hret' _ _ kF kN
  · rename_i kF kN kT kX
    have e := Mine.edgeF_neg (tx := tx) (k := k) (by first | assumption | omega | (simp only [decide_eq_false_iff_not] at *; first | assumption | omega))
    have hret' := hret
    rw [e] at hret'
    exact hret' _ _ kF kN

theorem Mine.edge_use {w : World} {loose : List Str} {mean : ExcName → Option Value} {mg mb : Str → Option Value} {dp un : Nat} {gd : Option (List Code)} {cn : Str} {cs : Scope} {a : Addr} {ccd : Value} {cl : List (Str × Addr)} {outer : List Env} {A₀ : Around} {base h₀ : Heap} {L : Addr} {m : Str → Option Value} {s : Shared} {news : List (Addr × Obj)} {tx : Str} {k : Int} {t t2 : Tok} {Q E : Value → Shared → Prop}
  (B : Below A₀ base outer h₀) (F : Fr h₀ L s.heap m) (X : (Mine.hd.heap_39 w.params).In h₀) (N : News h₀ L s.heap news) (T : Top Mine.hd.view_39 loose mean mg mb h₀) (hk : cs.kind = .function) (hd : dp + 2 < recursionLimit) (hu : un + 16 < cLine) (hx : tx.length ≤ 100)
  (ret : ∀ tk h', Fr h₀ L h' m → News h₀ L h' news → Q (.bool (Mine.edgeF tx k)) { s with heap := h', toks := tk }) :
  wpAny (model PySem.Challenge.rw_fe0143_01.row.prog w) (ktrTop dp un gd cn cs L a ccd cl outer) (call (.ref 45) [.str tx t, .int k t2]) Q E s :=
  Mine.edge_call w loose mean mg mb dp un gd cn cs a ccd cl outer A₀ base h₀ L m s news tx k t t2 Q E B F X N T hk hd hu hx ret
end

section
open PySem PySem.W PyProof.Rows PySem.Spec PySem.Calls
namespace Mine
/-- does the law see a cut at k -/
def cutF (sp tx : Str) (k : Int) : Bool := (Txt.slice tx (some k) (some (k + (sp.length : Int))) == sp) && (edgeF tx k && edgeF tx (k + (sp.length : Int)))
abbrev ASt := List Value × List Int × Nat
abbrev aLed (l : Addr) (rest : List (Addr × Obj)) (c : ASt) : List (Addr × Obj) := (l, W.listOf c.1.toArray c.2.2) :: rest
abbrev aPs (_ : ASt) : List (Str × Value) := []
abbrev aFacts (c : ASt) : Prop := IntsAre c.1 c.2.1
abbrev aP (sp tx : Str) (ks : List Int) (c : ASt) : Prop := c.2.1 = ks.filter (cutF sp tx)
def AtEnd (h₀ : Heap) (L : Addr) (sp tx : Str) (l : Addr) (rest own : List (Addr × Obj)) (m₀ : Str → Option Value) (ks : List Int) (s₁ : Shared) (Q : Flow → Shared → Prop) (f : Flow) (s₂ : Shared) : Prop :=
  InvPostN h₀ L (KstS (aLed l rest) aPs aFacts (Str.ofString "at") [] m₀ (aP sp tx) ks) own (l :: rest.map (·.1)) s₁ Q f s₂

/-- the law's own parts -/
def stepD (sp tx : Str) (c : List Str × Int) (k : Int) : List Str × Int := (c.1 ++ [Txt.slice tx (some c.2) (some k)], k + (sp.length : Int))
def accD (sp tx : Str) (ks : List Int) : List Str × Int := ks.foldl (stepD sp tx) ([], 0)
theorem accD_snoc (sp tx : Str) (ks : List Int) (k : Int) : accD sp tx (ks ++ [k]) = stepD sp tx (accD sp tx ks) k := by
  unfold accD; rw [List.foldl_append]; rfl
theorem accD_len (sp tx : Str) : ∀ (ks : List Int) (c : List Str × Int), (ks.foldl (stepD sp tx) c).1.length = c.1.length + ks.length
  | [], _ => rfl
  | k :: ks, c => by
    rw [List.foldl_cons, accD_len sp tx ks]
    unfold stepD
    simp; omega
def dueF (sp tx : Str) : List Str :=
  (accD sp tx ((rangeKs 0 ((tx.length : Int) - (sp.length : Int) + 1).toNat).filter (cutF sp tx))).1 ++ [Txt.slice tx (some (accD sp tx ((rangeKs 0 ((tx.length : Int) - (sp.length : Int) + 1).toNat).filter (cutF sp tx))).2) none]
structure DueJ (sp tx : Str) (ks : List Int) (parts : List Str) (st : Int) : Prop where
  eq : (parts, st) = accD sp tx ks
theorem DueJ.len {sp tx : Str} {ks : List Int} {parts : List Str} {st : Int} (h : DueJ sp tx ks parts st) : parts.length = ks.length := by
  have := accD_len sp tx ks ([], 0)
  have e := h.eq
  unfold accD at e
  rw [← e] at this
  simpa using this
abbrev dLed (T d l : Addr) (to : Obj) (lv : List Value) (ln : Nat) (rest : List (Addr × Obj)) (c : PSt) : List (Addr × Obj) := (T, to) :: (d, W.listOf c.1.toArray c.2.2.1) :: (l, W.listOf lv.toArray ln) :: rest
abbrev dP (sp tx : Str) (ks : List Int) (c : PSt) : Prop := DueJ sp tx ks c.2.1 c.2.2.2.1
def DueEnd (h₀ : Heap) (L : Addr) (sp tx : Str) (T d l : Addr) (to : Obj) (lv : List Value) (ln : Nat) (rest own : List (Addr × Obj)) (m₀ : Str → Option Value) (ks : List Int) (s₁ : Shared) (Q : Flow → Shared → Prop) (f : Flow) (s₂ : Shared) : Prop :=
  InvPostN h₀ L (KstS (dLed T d l to lv ln rest) pPs pFacts (Str.ofString "at") [] m₀ (dP sp tx) ks) own (T :: d :: l :: rest.map (·.1)) s₁ Q f s₂
section
variable {prog : Program} {w : World} {A : Around} {E : Value → Shared → Prop} {s : Shared} {env : Env} {h₀ : Heap} {body : List Stmt} {Q : Flow → Shared → Prop}
theorem at_iter {r l : Addr} {rest : List (Addr × Obj)} {b : Int} {t₀ u₀ v₀ : Tok} {n : Nat} {m₀ : Str → Option Value} {ts tt : Tok} {sp tx : Str}
    (hA1 : AllLt l rest) (_hsp : m₀ (Str.ofString "splitter") = some (.str sp ts)) (_htx : m₀ (Str.ofString "text") = some (.str tx tt)) (hh : A.handled = none) (hr : IsRange s.heap r 0 b 1 t₀ u₀ v₀) (hb0 : -(1000 : Int) ≤ b) (hb1 : b ≤ 1000) (hn : b.toNat = n) (F : Fr h₀ env.locals s.heap m₀) (N : News h₀ env.locals s.heap ((l, W.listOf #[] 0) :: rest))
    (turn : ∀ vs ps nn ks k t h tk own, 0 ≤ k → k < (n : Int) → IntsAre vs ps → ps = ks.filter (cutF sp tx) → vs.length ≤ 1000 → (∀ p ∈ rest ++ own, p.1 ≠ l) →
      Fr h₀ env.locals h (fun y => if y = Str.ofString "at" then some (.int k t) else m₀ y) → News h₀ env.locals h ((l, W.listOf vs.toArray nn) :: (rest ++ own)) →
      wpAny (model prog w) A (execs body env) (AtEnd h₀ env.locals sp tx l rest own m₀ (ks ++ [k]) { s with heap := h, toks := tk } Q) E { s with heap := h, toks := tk })
    (done : ∀ vs ps nn (u : Str → Option Value) h tk, IntsAre vs ps → ps = (rangeKs 0 n).filter (cutF sp tx) → vs.length ≤ 1000 →
      Fr h₀ env.locals h (fun y => if y = Str.ofString "at" then u y else m₀ y) → News h₀ env.locals h ((l, W.listOf vs.toArray nn) :: rest) → Q .next { s with heap := h, toks := tk }) :
    wpAny (model prog w) A (pyIter (.ref r)) (fun it s₂ => LoopAtV prog w A h₀ env (Str.ofString "at") body Q E it s₂) E s := by
  subst hn
  refine kst_range (aLed l rest) aPs aFacts [] (aP sp tx) (([], [], 0) : ASt) hh hr (small_one (by omega) (by omega) (by omega) (by omega)) (n := b.toNat) (by rw [rangeSize_nat]; simp) F N .nil (fun _ hp => nomatch hp) rfl ?_ ?_
  · rintro ⟨vs, ps, nn⟩ ks k t u h tk own hk hl hoff hf hp F' N'
    have hv : vs.length ≤ 1000 := by
      have h1 := hf.length
      have h2 := List.length_filter_le (cutF sp tx) ks
      have h3 : ps.length = (ks.filter (cutF sp tx)).length := congrArg List.length hp
      dsimp only at h1
      omega
    refine turn vs ps nn ks k t h tk own (by omega) (by omega) hf hp hv (fun p hp => ?_) ?_ N'
    · rcases List.mem_append.mp hp with hp | hp
      · exact Nat.ne_of_lt (kst_ltOf hA1 p hp)
      · exact hoff p hp l List.mem_cons_self
    simpa only [kstB, List.contains_nil, Bool.false_eq_true, if_false] using F'
  · rintro ⟨vs, ps, nn⟩ u h tk hf hp F' N'
    have hv : vs.length ≤ 1000 := by
      have h1 := hf.length
      have h2 := List.length_filter_le (cutF sp tx) (rangeKs 0 b.toNat)
      rw [rangeKs_length] at h2
      have h3 : ps.length = ((rangeKs 0 b.toNat).filter (cutF sp tx)).length := congrArg List.length hp
      dsimp only at h1
      omega
    refine done vs ps nn u h tk hf hp hv ?_ N'
    simpa only [kstB, List.contains_nil, Bool.false_eq_true, if_false] using F'
theorem append_first {L l : Addr} {its : Array Value} {n : Nat} {rest : List (Addr × Obj)} {m : Str → Option Value} {x : Value} {Q : Value → Shared → Prop} (F : Fr h₀ L s.heap m) (N : News h₀ L s.heap ((l, W.listOf its n) :: rest)) (hr : ∀ p ∈ rest, p.1 ≠ l) (hsz : its.size ≤ sizeLine)
    (h : ∀ h', Fr h₀ L h' m → News h₀ L h' ((l, W.listOf (its.push x) (n + 1)) :: rest) → Q .none { s with heap := h' }) : wpAny (model prog w) A (call (.builtin "list.append") [.ref l, x]) Q E s :=
  append_K F N (.head hr) h hsz
theorem AtEnd.same {L l : Addr} {rest own news' : List (Addr × Obj)} {m₀ m' : Str → Option Value} {sp tx : Str} {ks : List Int} {k : Int} {s₁ : Shared} {h' : Heap} {tk : Nat} {vs : List Value} {ps : List Int} {nn : Nat} {t : Tok}
    (hf : IntsAre vs ps) (hp : ps = ks.filter (cutF sp tx)) (hc : cutF sp tx k = false) (F : Fr h₀ L h' m') (N : News h₀ L h' news') (hm : m' = fun y => if y = Str.ofString "at" then some (.int k t) else m₀ y)
    (hn : news' = (l, W.listOf vs.toArray nn) :: (rest ++ own)) :
    AtEnd h₀ L sp tx l rest own m₀ (ks ++ [k]) s₁ Q .next { s₁ with heap := h', toks := tk } := by
  subst hm hn
  refine InvEndN.intro F N ⟨((vs, ps, nn) : ASt), rfl, hf, (fun _ hp => nomatch hp), ?_, ?_⟩ rfl ?_ ?_
  · intro z h1 h2 h3
    show (if z = _ then _ else m₀ z) = m₀ z
    rw [if_neg h1]
  · show ps = (ks ++ [k]).filter (cutF sp tx)
    rw [List.filter_append, ← hp, List.filter_cons, hc]; simp
  · intro p hp
    rcases List.mem_cons.mp hp with rfl | hp
    · exact List.mem_cons_self
    · exact List.mem_cons_of_mem _ (List.mem_append_left _ hp)
  · intro p hp
    exact List.mem_cons_of_mem _ (List.mem_append_right _ hp)
theorem AtEnd.cut {L l : Addr} {rest own news' : List (Addr × Obj)} {m₀ m' : Str → Option Value} {sp tx : Str} {ks : List Int} {k : Int} {s₁ : Shared} {h' : Heap} {tk : Nat} {vs : List Value} {ps : List Int} {nn : Nat} {t t' : Tok}
    (hf : IntsAre vs ps) (hp : ps = ks.filter (cutF sp tx)) (hc : cutF sp tx k = true) (F : Fr h₀ L h' m') (N : News h₀ L h' news') (hm : m' = fun y => if y = Str.ofString "at" then some (.int k t) else m₀ y)
    (hn : news' = (l, W.listOf (vs.toArray.push (.int k t')) nn) :: (rest ++ own)) :
    AtEnd h₀ L sp tx l rest own m₀ (ks ++ [k]) s₁ Q .next { s₁ with heap := h', toks := tk } := by
  subst hm hn
  rw [List.push_toArray] at N
  refine InvEndN.intro F N ⟨((vs ++ [.int k t'], ps ++ [k], nn) : ASt), rfl, IntsAre.append hf (.cons k t' .nil), (fun _ hp => nomatch hp), ?_, ?_⟩ rfl ?_ ?_
  · intro z h1 h2 h3
    show (if z = _ then _ else m₀ z) = m₀ z
    rw [if_neg h1]
  · show ps ++ [k] = (ks ++ [k]).filter (cutF sp tx)
    rw [List.filter_append, ← hp, List.filter_cons, hc]; simp
  · intro p hp
    rcases List.mem_cons.mp hp with rfl | hp
    · exact List.mem_cons_self
    · exact List.mem_cons_of_mem _ (List.mem_append_left _ hp)
  · intro p hp
    exact List.mem_cons_of_mem _ (List.mem_append_right _ hp)

theorem due_iter {T d l : Addr} {to : Obj} {lv : List Value} {ln : Nat} {ps : List Int} {rest : List (Addr × Obj)} {m₀ : Str → Option Value} {ts tt tk₀ : Tok} {sp tx : Str}
    (hA1 : AllLt d ((l, W.listOf lv.toArray ln) :: rest)) (hA2 : AllLt T ((d, W.listOf #[] 0) :: (l, W.listOf lv.toArray ln) :: rest)) (_hsp : m₀ (Str.ofString "splitter") = some (.str sp ts)) (_htx : m₀ (Str.ofString "text") = some (.str tx tt)) (hh : A.handled = none) (hi : IntsAre lv ps) (hlen : lv.length ≤ 1000)
    (F : Fr h₀ env.locals s.heap m₀) (N : News h₀ env.locals s.heap ((T, to) :: (d, W.listOf #[] 0) :: (l, W.listOf lv.toArray ln) :: rest)) (hst : m₀ (Str.ofString "start") = some (.int 0 tk₀))
    (turn : ∀ vs parts nn st tst ks k t h tk own, k ∈ ps → StrsAre vs parts → DueJ sp tx ks parts st → vs.length ≤ 1000 → T ≠ d → (∀ p ∈ (l, W.listOf lv.toArray ln) :: (rest ++ own), p.1 ≠ d) →
      Fr h₀ env.locals h (fun y => if y = Str.ofString "at" then some (.int k t) else if y = Str.ofString "start" then some (.int st tst) else m₀ y) → News h₀ env.locals h ((T, to) :: (d, W.listOf vs.toArray nn) :: (l, W.listOf lv.toArray ln) :: (rest ++ own)) →
      wpAny (model prog w) A (execs body env) (DueEnd h₀ env.locals sp tx T d l to lv ln rest own m₀ (ks ++ [k]) { s with heap := h, toks := tk } Q) E { s with heap := h, toks := tk })
    (done : ∀ vs parts nn st tst (u : Str → Option Value) h tk, StrsAre vs parts → DueJ sp tx ps parts st → vs.length ≤ 1000 →
      Fr h₀ env.locals h (fun y => if y = Str.ofString "at" then u y else if y = Str.ofString "start" then some (.int st tst) else m₀ y) → News h₀ env.locals h ((T, to) :: (d, W.listOf vs.toArray nn) :: (l, W.listOf lv.toArray ln) :: rest) → Q .next { s with heap := h, toks := tk }) :
    wpAny (model prog w) A (pyIter (.ref l)) (fun it s₂ => LoopAtV prog w A h₀ env (Str.ofString "at") body Q E it s₂) E s := by
  have hps : ps.length ≤ 1000 := by rw [← hi.length]; exact hlen
  refine kst_listL (nn := ln) (dLed T d l to lv ln rest) pPs pFacts [] (dP sp tx) (([], [], 0, 0, tk₀) : PSt) hh (fun c => List.mem_cons_of_mem _ (List.mem_cons_of_mem _ List.mem_cons_self)) hi F N .nil ?_ ⟨rfl⟩ ?_ ?_
  · intro p hp
    rw [List.mem_singleton.mp hp]
    exact hst
  · rintro ⟨vs, parts, nn, st, tst⟩ pre post k t u h tk own hk hm hoff hf hp F' N'
    have hv : vs.length ≤ 1000 := by
      have h1 := hf.length
      have h2 := DueJ.len hp
      have h3 := congrArg List.length hk
      simp only [List.length_append, List.length_cons] at h3
      dsimp only at h1 h2
      rw [h1]; omega
    refine turn vs parts nn st tst pre k t h tk own hm hf hp hv (Ne.symm (Nat.ne_of_lt hA2.1)) (fun p hp => ?_) ?_ N'
    · rcases List.mem_cons.mp hp with rfl | hp
      · exact Nat.ne_of_lt hA1.1
      · rcases List.mem_append.mp hp with hp | hp
        · exact Nat.ne_of_lt (kst_ltOf hA1.2 p hp)
        · exact hoff p hp d (List.mem_cons_of_mem _ List.mem_cons_self)
    simpa only [kstB, List.contains_nil, Bool.false_eq_true, if_false] using F'
  · rintro ⟨vs, parts, nn, st, tst⟩ u h tk hf hp F' N'
    have hv : vs.length ≤ 1000 := by
      have h1 := hf.length
      have h2 := DueJ.len hp
      dsimp only at h1 h2
      rw [h1]; omega
    refine done vs parts nn st tst u h tk hf hp hv ?_ N'
    simpa only [kstB, List.contains_nil, Bool.false_eq_true, if_false] using F'
theorem DueEnd.cut {L T d l : Addr} {to : Obj} {lv : List Value} {ln : Nat} {rest own news' : List (Addr × Obj)} {m₀ m' : Str → Option Value} {sp tx : Str} {ks : List Int} {k : Int} {s₁ : Shared} {h' : Heap} {tk : Nat} {vs : List Value} {parts : List Str} {nn : Nat} {st : Int} {tst t tc tx' : Tok}
    (hf : StrsAre vs parts) (hp : DueJ sp tx ks parts st) (F : Fr h₀ L h' m') (N : News h₀ L h' news') (hm : m' = fun y => if y = Str.ofString "start" then some (.int (k + (sp.length : Int)) tst) else if y = Str.ofString "at" then some (.int k t) else if y = Str.ofString "start" then some (.int st tc) else m₀ y)
    (hn : news' = (T, to) :: (d, W.listOf (vs.toArray.push (.str (Txt.slice tx (some st) (some k)) tx')) nn) :: (l, W.listOf lv.toArray ln) :: (rest ++ own)) :
    DueEnd h₀ L sp tx T d l to lv ln rest own m₀ (ks ++ [k]) s₁ Q .next { s₁ with heap := h', toks := tk } := by
  subst hm hn
  rw [List.push_toArray] at N
  refine InvEndN.intro F N ⟨((vs ++ [.str (Txt.slice tx (some st) (some k)) tx'], parts ++ [Txt.slice tx (some st) (some k)], nn, k + (sp.length : Int), tst) : PSt), rfl, hf.append' (.cons _ _ .nil), ?_, ?_, ?_⟩ rfl ?_ ?_
  · intro p hp; rw [List.mem_singleton.mp hp]; rfl
  · intro z h1 h2 h3
    have h2' : z ≠ Str.ofString "start" := h2 _ (List.mem_singleton.mpr rfl)
    show (if z = _ then _ else if z = _ then _ else if z = _ then _ else m₀ z) = m₀ z
    rw [if_neg h2', if_neg h1, if_neg h2']
  · refine ⟨?_⟩
    rw [accD_snoc, ← hp.eq]; rfl
  · intro p hp
    rcases List.mem_cons.mp hp with rfl | hp
    · exact List.mem_cons_self
    · rcases List.mem_cons.mp hp with rfl | hp
      · exact List.mem_cons_of_mem _ List.mem_cons_self
      · rcases List.mem_cons.mp hp with rfl | hp
        · exact List.mem_cons_of_mem _ (List.mem_cons_of_mem _ List.mem_cons_self)
        · exact List.mem_cons_of_mem _ (List.mem_cons_of_mem _ (List.mem_cons_of_mem _ (List.mem_append_left _ hp)))
  · intro p hp
    exact List.mem_cons_of_mem _ (List.mem_cons_of_mem _ (List.mem_cons_of_mem _ (List.mem_append_right _ hp)))
end
end Mine
end

section
open PySem PySem.W PyProof.Rows PySem.Spec PySem.Calls
namespace Mine
/-- the numbers of a text's signs -/
def chs (x : Str) : List Nat := x.cps.toList
theorem chs_len (x : Str) : (chs x).length = x.length := by unfold chs; rw [Array.length_toList]; rfl
theorem chs_inj {x y : Str} (h : chs x = chs y) : x = y := Str.ext' (Array.toList_inj.mp h)
theorem chs_app (x y : Str) : chs (x ++ y) = chs x ++ chs y := by unfold chs; rw [Str.cps_append, Array.toList_append]
theorem chs_mk (l : List Nat) : chs ⟨l.toArray⟩ = l := rfl
theorem chs_slice {x : Str} {i j : Int} (h0 : 0 ≤ i) (h1 : i ≤ j) (h2 : j ≤ (x.length : Int)) : chs (Txt.slice x (some i) (some j)) = ((chs x).drop i.toNat).take (j - i).toNat := by
  have e : Txt.slice x (some i) (some j) = _ := StrLaws.sliceText_plain (x := x) (i := i) (j := j) ⟨h0, h1, by rw [Array.length_toList]; exact h2⟩
  rw [e]; rfl
theorem chs_from {x : Str} {i : Int} (h0 : 0 ≤ i) (h2 : i ≤ (x.length : Int)) : chs (Txt.slice x (some i) none) = (chs x).drop i.toNat := by
  rw [slice_from_eq (b := (x.length : Int)) h0 h2 rfl, chs_mk]
  apply List.take_of_length_le
  have := chs_len x
  unfold chs at this
  rw [List.length_drop, this]; omega
theorem slice_past {x : Str} : Txt.slice x (some (x.length : Int)) (some ((x.length : Int) + 1)) = Str.ofString "" := by
  have e : Builtin.Str.strSliceIndices (some (x.length : Int)) (some ((x.length : Int) + 1)) 1 x.length = Builtin.Str.strSliceIndices (some (x.length : Int)) (some (x.length : Int)) 1 x.length := by
    have h0 : ¬ ((x.length : Int) < 0) := by omega
    have h1 : ¬ ((x.length : Int) + 1 < 0) := by omega
    have h2 : (1 : Int) > 0 := by decide
    simp only [Builtin.Str.strSliceIndices, h0, h1, h2, if_false, if_true, Int.min_self]
    rw [Int.min_eq_right (by omega)]
  have e2 : Txt.slice x (some (x.length : Int)) (some ((x.length : Int) + 1)) = Txt.slice x (some (x.length : Int)) (some (x.length : Int)) := by
    unfold Txt.slice; rw [e]
  apply chs_inj
  rw [e2, chs_slice (by omega) (Int.le_refl _) (Int.le_refl _)]
  have : ((x.length : Int) - (x.length : Int)).toNat = 0 := by omega
  rw [this]; rfl

theorem word_sign {c : Nat} (h : signsOk c = true) : isWordF ⟨#[c]⟩ = wordB c := by
  have : ∀ d ∈ [97, 98, 49, 46, 32, 115, 105, 109, 112, 111, 114, 116, 40, 95, 99], isWordF ⟨#[d]⟩ = wordB d := by decide +kernel
  unfold signsOk at h
  exact this c (List.contains_iff_mem.mp h)
theorem word_nil : isWordF (Str.ofString "") = false := by decide +kernel
theorem wordB_32 : wordB 32 = false := by decide +kernel
theorem flags_eq (tx : Str) : flags tx = false :: ((chs tx).map wordB ++ [false]) := by
  unfold flags pad
  show (chs (Str.ofString " " ++ tx ++ Str.ofString " ")).map wordB = _
  rw [chs_app, chs_app]
  have : chs (Str.ofString " ") = [32] := by decide
  rw [this, List.map_append, List.map_append]
  show wordB 32 :: _ ++ [wordB 32] = _
  rw [wordB_32]; rfl
theorem flags_lo (tx : Str) : (flags tx).getD 0 false = false := by rw [flags_eq]; rfl
theorem flags_at (tx : Str) {i : Nat} (h : i < (chs tx).length) : (flags tx).getD (i + 1) false = wordB ((chs tx)[i]) := by
  rw [flags_eq, List.getD_cons_succ, List.getD_eq_getElem?_getD, List.getElem?_append_left (by rw [List.length_map]; exact h), List.getElem?_map, List.getElem?_eq_getElem h]; rfl
theorem flags_hi (tx : Str) : (flags tx).getD ((chs tx).length + 1) false = false := by
  rw [flags_eq, List.getD_cons_succ, List.getD_eq_getElem?_getD, List.getElem?_append_right (by rw [List.length_map]; exact Nat.le_refl _), List.length_map, Nat.sub_self]; rfl
theorem one_sign {tx : Str} {i : Nat} (h : i < (chs tx).length) : Txt.slice tx (some (i : Int)) (some ((i : Int) + 1)) = ⟨#[(chs tx)[i]]⟩ := by
  apply chs_inj
  have hl := chs_len tx
  rw [chs_slice (by omega) (by omega) (by omega)]
  have e1 : ((i : Int)).toNat = i := by omega
  have e2 : ((i : Int) + 1 - (i : Int)).toNat = 1 := by omega
  rw [e1, e2, List.drop_eq_getElem_cons h]
  rfl
theorem sign_word {tx : Str} (hT : TextOk tx) {i : Nat} (h : i ≤ (chs tx).length) : isWordF (Txt.slice tx (some (i : Int)) (some ((i : Int) + 1))) = (flags tx).getD (i + 1) false := by
  by_cases hi : i < (chs tx).length
  · rw [one_sign hi, flags_at tx hi]
    exact word_sign (hT.ok _ (List.getElem_mem hi))
  · have e : i = (chs tx).length := by omega
    subst e
    rw [flags_hi]
    have hl := chs_len tx
    rw [hl, slice_past, word_nil]
theorem bef_word {tx : Str} (hT : TextOk tx) {i : Nat} (h : i ≤ (chs tx).length) : isWordF (befF tx (i : Int)) = (flags tx).getD i false := by
  unfold befF
  cases i with
  | zero => rw [if_neg (by omega), word_nil, flags_lo]
  | succ j =>
    rw [if_pos (by omega)]
    have e : ((j + 1 : Nat) : Int) - 1 = (j : Int) := by omega
    have e2 : ((j + 1 : Nat) : Int) = (j : Int) + 1 := by omega
    rw [e, e2]
    exact sign_word hT (by omega)
theorem edge_flags {tx : Str} (hT : TextOk tx) {k : Int} (h0 : 0 ≤ k) (h1 : k ≤ (tx.length : Int)) : edgeF tx k = ((flags tx).getD k.toNat false != (flags tx).getD (k + 1).toNat false) := by
  obtain ⟨i, rfl⟩ := Int.eq_ofNat_of_zero_le h0
  have hl := chs_len tx
  have e1 : ((i : Nat) : Int).toNat = i := by omega
  have e2 : (((i : Nat) : Int) + 1).toNat = i + 1 := by omega
  unfold edgeF
  rw [e1, e2, bef_word hT (by omega), sign_word hT (by omega)]
theorem cond_cut {sp tx : Str} (hT : TextOk tx) {k : Int} (h0 : 0 ≤ k) (h1 : k + (sp.length : Int) ≤ (tx.length : Int)) : condP sp tx (flags tx) k = cutF sp tx k := by
  unfold condP cutF
  rw [edge_flags hT h0 (by omega), edge_flags hT (by omega) h1, Bool.and_assoc]
theorem fold_cut {sp tx : Str} (hT : TextOk tx) : ∀ (ks : List Int) (c : List Str × Int), (∀ k ∈ ks, 0 ≤ k ∧ k + (sp.length : Int) ≤ (tx.length : Int)) → ks.foldl (stepP sp tx (flags tx)) c = (ks.filter (cutF sp tx)).foldl (stepD sp tx) c
  | [], _, _ => rfl
  | k :: ks, c, h => by
    have hk := h k List.mem_cons_self
    rw [List.foldl_cons, fold_cut hT ks _ fun q hq => h q (List.mem_cons_of_mem _ hq), List.filter_cons]
    have e := cond_cut (sp := sp) hT hk.1 hk.2
    unfold stepP
    rw [e]
    split
    · rename_i hc; rw [List.foldl_cons]; rfl
    · rfl
theorem parts_due {sp tx : Str} (h1 : SplitOk sp) (hT : TextOk tx) : partsF sp tx = dueF sp tx := by
  have e : accP sp tx (flags tx) (rangeKs 0 ((tx.length : Int) - (sp.length : Int) + 1).toNat) = accD sp tx ((rangeKs 0 ((tx.length : Int) - (sp.length : Int) + 1).toNat).filter (cutF sp tx)) := by
    unfold accP accD
    refine fold_cut hT _ _ fun k hk => ?_
    have := mem_rangeKs hk
    omega
  unfold partsF dueF
  rw [e]

/-- no splitter overlaps itself -/
theorem no_lap {sp : Str} (h : SplitOk sp) {d : Nat} (h0 : 0 < d) (h1 : d < sp.length) : (chs sp).drop d ≠ (chs sp).take (sp.length - d) := by
  have : ∀ x ∈ splits, ∀ d ∈ List.range x.length, d = 0 ∨ (chs x).drop d ≠ (chs x).take (x.length - d) := by decide
  rcases this sp h.mem d (List.mem_range.mpr h1) with e | e
  · omega
  · exact e
def flat (sp : Str) (ps : List Str) : List Nat := (ps.map fun p => chs p ++ chs sp).flatten
theorem flat_snoc (sp : Str) (ps : List Str) (p : Str) : flat sp (ps ++ [p]) = flat sp ps ++ (chs p ++ chs sp) := by
  unfold flat; rw [List.map_append, List.flatten_append]; simp
theorem join_flat (sp last : Str) : ∀ ps : List Str, chs (Str.join sp (ps ++ [last])) = flat sp ps ++ chs last
  | [] => rfl
  | [p] => by
    show chs (p ++ sp ++ last) = _
    rw [chs_app, chs_app]; simp [flat]
  | p :: q :: r => by
    show chs (p ++ sp ++ Str.join sp (q :: r ++ [last])) = _
    rw [chs_app, chs_app, join_flat sp last (q :: r)]
    simp [flat]
structure JInv (sp tx : Str) (i : Nat) (c : List Str × Int) : Prop where
  lo : 0 ≤ c.2
  hi : c.2 ≤ (tx.length : Int)
  fl : flat sp c.1 = (chs tx).take c.2.toNat
  cut : c.2 = 0 ∨ ∃ p : Nat, c.2 = (p : Int) + (sp.length : Int) ∧ p < i ∧ ((chs tx).drop p).take sp.length = chs sp
theorem jinv_step {sp tx : Str} {bs : List Bool} (hS : SplitOk sp) {i : Nat} {c : List Str × Int} (h : JInv sp tx i c) (hi : (i : Int) + (sp.length : Int) ≤ (tx.length : Int)) : JInv sp tx (i + 1) (stepP sp tx bs c (i : Int)) := by
  unfold stepP
  split
  · rename_i hc
    have hm : Txt.slice tx (some (i : Int)) (some ((i : Int) + (sp.length : Int))) = sp := by
      unfold condP at hc
      simp only [Bool.and_eq_true, beq_iff_eq] at hc
      exact hc.1.1
    have hm2 : ((chs tx).drop i).take sp.length = chs sp := by
      have e := congrArg chs hm
      rw [chs_slice (by omega) (by omega) hi] at e
      have e1 : ((i : Int)).toNat = i := by omega
      have e2 : ((i : Int) + (sp.length : Int) - (i : Int)).toNat = sp.length := by omega
      rw [e1, e2] at e
      exact e
    have hle : c.2 ≤ (i : Int) := by
      rcases h.cut with e | ⟨p, e, hp, hq⟩
      · omega
      · refine Int.not_lt.mp fun hlt => ?_
        have hd : i - p < sp.length := by omega
        refine no_lap hS (d := i - p) (by omega) hd ?_
        have e1 : (chs sp).drop (i - p) = ((chs tx).drop i).take (sp.length - (i - p)) := by
          rw [← hq, List.drop_take, List.drop_drop]
          congr 2
          omega
        have e2 : (chs sp).take (sp.length - (i - p)) = ((chs tx).drop i).take (sp.length - (i - p)) := by
          rw [← hm2, List.take_take]
          congr 1
          omega
        rw [e1, e2]
    refine ⟨by show (0 : Int) ≤ (i : Int) + (sp.length : Int); omega, hi, ?_, .inr ⟨i, rfl, Nat.lt_succ_self _, hm2⟩⟩
    show flat sp (c.1 ++ [Txt.slice tx (some c.2) (some (i : Int))]) = (chs tx).take ((i : Int) + (sp.length : Int)).toNat
    rw [flat_snoc, h.fl, chs_slice h.lo hle (by omega)]
    have e1 : ((i : Int) + (sp.length : Int)).toNat = i + sp.length := by omega
    have e2 : ((i : Int) - c.2).toNat = i - c.2.toNat := by have := h.lo; omega
    have e3 : i = c.2.toNat + (i - c.2.toNat) := by have := h.lo; omega
    rw [e1, e2, List.take_add, ← hm2, ← List.append_assoc]
    congr 1
    conv => rhs; rw [e3]
    rw [List.take_add]
  · refine ⟨h.lo, h.hi, h.fl, ?_⟩
    rcases h.cut with e | ⟨p, e, hp, hq⟩
    · exact .inl e
    · exact .inr ⟨p, e, Nat.lt_succ_of_lt hp, hq⟩
theorem rangeKs_succ (i : Nat) : rangeKs 0 (i + 1) = rangeKs 0 i ++ [(i : Int)] := by
  unfold rangeKs
  rw [List.range_succ, List.map_append]
  simp
theorem jinv_all {sp tx : Str} {bs : List Bool} (hS : SplitOk sp) : ∀ i : Nat, (i : Int) + (sp.length : Int) ≤ (tx.length : Int) + 1 → JInv sp tx i (accP sp tx bs (rangeKs 0 i))
  | 0, _ => ⟨Int.le_refl _, Int.natCast_nonneg _, rfl, .inl rfl⟩
  | i + 1, h => by
    rw [rangeKs_succ, accP_snoc]
    exact jinv_step hS (jinv_all hS i (by omega)) (by omega)
theorem parts_join {sp tx : Str} (hS : SplitOk sp) : Txt.join sp (partsF sp tx) = tx := by
  have e : Txt.join sp (partsF sp tx) = Str.join sp (partsF sp tx) := StrLaws.glued_eq_join _ _
  rw [e]
  have hJ : JInv sp tx ((tx.length : Int) - (sp.length : Int) + 1).toNat (accP sp tx (flags tx) (rangeKs 0 ((tx.length : Int) - (sp.length : Int) + 1).toNat)) := by
    by_cases hn : (tx.length : Int) - (sp.length : Int) + 1 ≤ 0
    · have e0 : ((tx.length : Int) - (sp.length : Int) + 1).toNat = 0 := by omega
      rw [e0]
      exact ⟨Int.le_refl _, Int.natCast_nonneg _, rfl, .inl rfl⟩
    · exact jinv_all hS _ (by omega)
  apply chs_inj
  unfold partsF
  rw [join_flat, hJ.fl, chs_from hJ.lo hJ.hi, List.take_append_drop]
end Mine
end

section
open PySem PySem.W PyProof.Rows PySem.Spec PySem.Calls
namespace Mine
theorem slice_sub {x : Str} {l u : Option Int} : ∀ c ∈ (Txt.slice x l u).cps.toList, c ∈ x.cps.toList := by
  intro c hc
  unfold Txt.slice at hc
  split at hc
  · exact hc
  · have hc' : c ∈ List.filterMap (x.cps[·]?) (Builtin.Str.strSliceIndices l u 1 x.length) := hc
    obtain ⟨i, _, hi⟩ := List.mem_filterMap.mp hc'
    have hi' : x.cps.toList[i]? = some c := by simpa using hi
    exact List.mem_of_getElem? hi'
theorem signs_low {c : Nat} (h : signsOk c = true) : c < 128 := by
  unfold signsOk at h
  have : ∀ d ∈ [97, 98, 49, 46, 32, 115, 105, 109, 112, 111, 114, 116, 40, 95, 99], d < 128 := by decide
  exact this c (List.contains_iff_mem.mp h)
theorem slice_ok {x : Str} (h : TextOk x) (l u : Option Int) : PyData.strOk (Txt.slice x l u) = true := by
  unfold PyData.strOk
  rw [Array.all_eq_true']
  intro c hc
  have h1 := signs_low (h.ok c (slice_sub c (by simpa using hc)))
  simp; omega
theorem depth_strs : ∀ ns : List Str, PyData.depthAll (ns.map PyData.str) = 0
  | [] => rfl
  | _ :: r => by simp [PyData.depthAll, PyData.depth, depth_strs r]
theorem shaped_strs (ns : List Str) (h : ns.all PyData.strOk = true) : SeqAt.shaped (.list (ns.map PyData.str)) = true := by
  have h1 := canLayAll_strs' ns
  rw [h] at h1
  have h2 : PyData.canLayAll0 (List.map PyData.str ns) = true := h1
  simp [SeqAt.shaped, PyData.canLay0, PyData.depth, h2, depth_strs]
theorem sameAll_strs : ∀ ns : List Str, PySem.Spec.sameAll (ns.map PyData.str) (ns.map PyData.str) = true
  | [] => by simp [PySem.Spec.sameAll]
  | a :: r => by
    simp only [List.map_cons, PySem.Spec.sameAll, PySem.Spec.same, sameAll_strs r]
    simp
theorem same_strs (ns : List Str) : PySem.Spec.same (.list (ns.map PyData.str)) (.list (ns.map PyData.str)) = true := by
  simp only [PySem.Spec.same]; exact sameAll_strs ns
theorem accP_short (sp tx : Str) (bs : List Bool) : ∀ (ks : List Int) (c : List Str × Int), (∀ x ∈ c.1, x.length ≤ tx.length) → ∀ x ∈ (ks.foldl (stepP sp tx bs) c).1, x.length ≤ tx.length
  | [], _, h => h
  | k :: ks, c, h => by
    rw [List.foldl_cons]
    refine accP_short sp tx bs ks _ ?_
    unfold stepP
    split
    · intro x hx
      rcases List.mem_append.mp hx with hx | hx
      · exact h x hx
      · rw [List.mem_singleton.mp hx]; exact PyProof.Txt.length_slice_le tx _ _
    · exact h
theorem parts_short (sp tx : Str) : ∀ x ∈ partsF sp tx, x.length ≤ tx.length := by
  intro x hx
  unfold partsF at hx
  rcases List.mem_append.mp hx with hx | hx
  · exact accP_short sp tx _ _ ([], 0) (fun _ h => nomatch h) x hx
  · rw [List.mem_singleton.mp hx]; exact PyProof.Txt.length_slice_le tx _ _
theorem accP_ok {sp tx : Str} {bs : List Bool} (hT : TextOk tx) : ∀ (ks : List Int) (c : List Str × Int), (∀ x ∈ c.1, PyData.strOk x = true) → ∀ x ∈ (ks.foldl (stepP sp tx bs) c).1, PyData.strOk x = true
  | [], _, h => h
  | k :: ks, c, h => by
    rw [List.foldl_cons]
    refine accP_ok hT ks _ ?_
    unfold stepP
    split
    · intro x hx
      rcases List.mem_append.mp hx with hx | hx
      · exact h x hx
      · rw [List.mem_singleton.mp hx]; exact slice_ok hT _ _
    · exact h
theorem parts_ok {sp tx : Str} (hT : TextOk tx) : (partsF sp tx).all PyData.strOk = true := by
  rw [List.all_eq_true]
  intro x hx
  unfold partsF at hx
  rcases List.mem_append.mp hx with hx | hx
  · exact accP_ok hT _ ([], 0) (fun _ h => nomatch h) x hx
  · rw [List.mem_singleton.mp hx]; exact slice_ok hT _ _
theorem parts_many (sp tx : Str) : (partsF sp tx).length ≤ tx.length + 2 := by
  unfold partsF
  rw [List.length_append]
  have h := accP_len sp tx (flags tx) (rangeKs 0 ((tx.length : Int) - (sp.length : Int) + 1).toNat) ([], 0)
  rw [rangeKs_length] at h
  have e : accP sp tx (flags tx) (rangeKs 0 ((tx.length : Int) - (sp.length : Int) + 1).toNat) = (rangeKs 0 ((tx.length : Int) - (sp.length : Int) + 1).toNat).foldl (stepP sp tx (flags tx)) ([], 0) := rfl
  rw [e]
  simp only [List.length_nil, List.length_cons] at h ⊢
  omega
theorem sum_short {B : Nat} : ∀ xs : List Str, (∀ x ∈ xs, x.length ≤ B) → (xs.map (·.length)).sum ≤ B * xs.length
  | [], _ => Nat.zero_le _
  | x :: r, h => by
    have h1 := h x List.mem_cons_self
    have h2 := sum_short r fun z hz => h z (List.mem_cons_of_mem _ hz)
    simp only [List.map_cons, List.sum_cons, List.length_cons, Nat.mul_succ]
    omega
theorem due_end {sp tx : Str} {ps : List Int} {parts : List Str} {st : Int} {vs : List Value} {t : Tok} (hp : ps = (rangeKs 0 ((tx.length : Int) - (sp.length : Int) + 1).toNat).filter (cutF sp tx)) (hd : DueJ sp tx ps parts st) (hs : StrsAre vs parts) :
    StrsAre (vs ++ [.str (Txt.slice tx (some st) none) t]) (dueF sp tx) := by
  subst hp
  unfold dueF
  rw [← hd.eq]
  exact hs.append' (.cons _ _ .nil)
section
variable {prog : Program} {w : World} {A : Around} {E : Value → Shared → Prop} {s : Shared} {h₀ : Heap} {L a b l : Addr} {news : List (Addr × Obj)} {xs ys : List Value} {na nb n : Nat} {Q : Value → Shared → Prop}
theorem eq_strs_same {ns : List Str} (ha : s.heap.IsList a xs.toArray) (hb : s.heap.IsList b ys.toArray) (hi : StrsAre xs ns) (hj : StrsAre ys ns) (hok : ns.all PyData.strOk = true) (hu : A.units + 64 < cLine) (h : Q (.bool true) s) :
    wpAny (model prog w) A (compareOp .Eq (.ref a) (.ref b)) Q E s :=
  eq_dataH_same (reads_newData ha hi.carried) (reads_newData hb hj.carried) (shaped_strs _ hok) (shaped_strs _ hok) hu (SeqAt.noMix_of_shape (.list .str) rfl _ _ (list_map_has fun _ => rfl) (list_map_has fun _ => rfl)) (by rw [same_strs]; exact h)
theorem made_due {sp tx : Str} {vs : List Value} {ps : List Int} {parts : List Str} {st : Int} {t : Tok} (N : News h₀ L s.heap news) (h1 : (a, W.listOf xs.toArray na) ∈ news) (h2 : (b, W.listOf (vs.toArray.push (.str (Txt.slice tx (some st) none) t)) nb) ∈ news) (hi : StrsAre xs (partsF sp tx))
    (hp : ps = (rangeKs 0 ((tx.length : Int) - (sp.length : Int) + 1).toNat).filter (cutF sp tx)) (hd : DueJ sp tx ps parts st) (hs : StrsAre vs parts) (hS : SplitOk sp) (hT : TextOk tx) (hu : A.units + 64 < cLine) (h : Q (.bool true) s) :
    wpAny (model prog w) A (compareOp .Eq (.ref a) (.ref b)) Q E s := by
  have hj := due_end (t := t) hp hd hs
  rw [← parts_due hS hT] at hj
  rw [List.push_toArray] at h2
  exact eq_strs_same (PySem.IsL.isList (n := na) (N _ h1).1) (PySem.IsL.isList (n := nb) (N _ h2).1) hi hj (parts_ok hT) hu h
theorem join_parts {sp tx : Str} {t : Tok} (N : News h₀ L s.heap news) (hm : (l, W.listOf ys.toArray n) ∈ news) (hi : StrsAre ys (partsF sp tx)) (hS : SplitOk sp) (hl : tx.length ≤ 100)
    (h : ∀ t' k, Q (.str tx t') { s with toks := k }) : wpAny (model prog w) A (call (.builtin "str.join") [.str sp t, .ref l]) Q E s := by
  refine join_list (PySem.IsL.isList (n := n) (N _ hm).1) hi ?_ fun t' k => ?_
  · have h1 := sum_short (partsF sp tx) (parts_short sp tx)
    have h2 := parts_many sp tx
    have h3 := hS.hi
    have h4 : tx.length * (partsF sp tx).length ≤ 100 * 102 := Nat.mul_le_mul hl (by omega)
    have h5 : (partsF sp tx).length * sp.length ≤ 102 * 8 := Nat.mul_le_mul (by omega) h3
    omega
  · rw [parts_join hS]; exact h t' k
end
end Mine
end

section
open PySem PySem.W PyProof.Rows
local macro_rules | `(tactic| walk_at "newList") => `(tactic| (k_here; k_dflt (refine' newList_K ?k1 ?k2 ?_ ?z; (case k1 => k_asm); (case k2 => k_asm); (case z => (rw [sizeLine_eq]; simp only [List.length_append, List.length_cons, List.length_nil]; omega)); k_whole); intro l' h' F' N' l1; (try k_lt l1)))
local macro_rules | `(tactic| walk_at "call ref") => `(tactic| (k_here; (with_reducible show wpAny _ _ (call (Value.ref _) [Value.str _ _, Value.str _ _]) _ _ _); k_dflt (refine' Mine.parts_use ?k1 ?k2 ?k3 ?k4 ?k5 ?kK ?kd ?ku ?a ?b ?c ?_; (case k1 => k_asm); (case k2 => k_asm); (case k3 => k_asm); (case k4 => k_asm); (case k5 => k_asm); (case kK => exact rfl); (case kd => omega); (case ku => omega); (case a => assumption); (case b => assumption); (case c => assumption); k_whole); intro D' vs' n' tk' h' F' N' l1 hS'; (try k_fold)))
local macro_rules | `(tactic| walk_at "call ref") => `(tactic| (k_here; (with_reducible show wpAny _ _ (call (Value.ref _) [Value.str _ _, Value.int _ _]) _ _ _); k_dflt (refine' Mine.edge_use ?k1 ?k2 ?k3 ?k4 ?k5 ?kK ?kd ?ku ?c ?_; (case k1 => k_asm); (case k2 => k_asm); (case k3 => k_asm); (case k4 => k_asm); (case k5 => k_asm); (case kK => exact rfl); (case kd => omega); (case ku => omega); (case c => assumption); k_whole); intro tk' h' F' N'; (try k_fold)))
local macro_rules | `(tactic| walk_at "pyIter ref") => `(tactic| (k_here; (with_reducible rename Fr _ _ _ _ => lF'); (with_reducible rename News _ _ _ _ => lN'); (with_reducible rename IsRange _ _ _ _ _ _ _ _ => rgX); k_dflt (refine' Mine.at_iter ?a1 (by with_unfolding_all rfl) (by with_unfolding_all rfl) (by rfl) rgX ?b0 ?b1 rfl lF' lN' ?_ ?_; (case a1 => first | assumption | exact True.intro); (case b0 => omega); (case b1 => omega); (all_goals (try clear lF' lN')); (all_goals (try k_whole))); (all_goals (intros; (try k_fold)))))
local macro_rules | `(tactic| walk_at "pyIter ref") => `(tactic| (k_here; (with_reducible rename Fr _ _ _ _ => lF'); (with_reducible rename News _ _ _ _ => lN'); k_dflt (refine' Mine.due_iter ?a1 ?a2 (by with_unfolding_all rfl) (by with_unfolding_all rfl) (by rfl) ?hi ?hl lF' lN' ?hst ?_ ?_; (case a1 => (refine ⟨?_, True.intro⟩; (try dsimp only); omega)); (case a2 => (refine ⟨?_, ?_, True.intro⟩ <;> ((try dsimp only); omega))); (case hi => assumption); (case hl => assumption); (case hst => with_unfolding_all rfl); (all_goals (try clear lF' lN')); (all_goals (try k_whole))); (all_goals (intros; (try k_fold)))))
local macro_rules | `(tactic| walk_at "call builtin:list.append") => `(tactic| (k_here; k_dflt (first | (refine' Mine.append_first (by assumption) (by assumption) (by assumption) ?hsz ?_; (case hsz => (rw [sizeLine_eq, List.size_toArray]; omega)); k_whole; intro _ _ _) | (refine' Mine.append_here (by assumption) (by assumption) (by assumption) (by assumption) ?hsz ?_; (case hsz => (rw [sizeLine_eq, List.size_toArray]; omega)); k_whole; intro _ _ _))))
local macro_rules | `(tactic| walk_at "AtEnd") => `(tactic| first
  | exact Mine.AtEnd.same (by assumption) (by assumption) (by simp only [Mine.cutF, Bool.and_true, Bool.true_and, Bool.and_false, Bool.false_and, *]) (by assumption) (by assumption) rfl rfl
  | exact Mine.AtEnd.cut (by assumption) (by assumption) (by simp only [Mine.cutF, Bool.and_true, Bool.true_and, Bool.and_false, Bool.false_and, *]) (by assumption) (by assumption) rfl rfl)
local macro_rules | `(tactic| walk_at "DueEnd") => `(tactic| exact Mine.DueEnd.cut (by assumption) (by assumption) (by assumption) (by assumption) rfl rfl)
local macro_rules | `(tactic| walk_at "exec For Name Call cons nil") => `(tactic| (k_here; (with_reducible rename Fr _ _ _ _ => lF'); (with_unfolding_all refine' For_invVF lF' ?k1 ?k2 ?_ (hE := by assumption); (case k1 => exact rfl); (case k2 => exact rfl); k_whole)))
local macro_rules | `(tactic| walk_at "exec For Name Name cons nil") => `(tactic| (k_here; (with_reducible rename Fr _ _ _ _ => lF'); (with_unfolding_all refine' For_invVF lF' ?k1 ?k2 ?_ (hE := by assumption); (case k1 => exact rfl); (case k2 => exact rfl); k_whole)))
local macro_rules | `(tactic| walk_at "compareOp Eq ref ref") => `(tactic| (k_here; k_dflt (refine' Mine.made_due ?k1 ?k2 ?k3 ?hi ?hp ?hd ?hs ?hS ?hT ?hu ?_; (case k1 => k_asm); (case k2 => k_mem); (case k3 => k_mem); (case hi => assumption); (case hp => assumption); (case hd => assumption); (case hs => assumption); (case hS => assumption); (case hT => assumption); (case hu => (dsimp only [ktrTop]; omega)); k_whole)))
local macro_rules | `(tactic| walk_at "call builtin:str.join") => `(tactic| (k_here; k_dflt (refine' Mine.join_parts ?k1 ?k2 ?hi ?hS ?hl ?_; (case k1 => k_asm); (case k2 => k_mem); (case hi => assumption); (case hS => assumption); (case hl => assumption); k_whole); intro t' k'))
theorem Mine.law_tail : ∀ (w : World) (loose : List Str) (mean : ExcName → Option Value) (mg mb : Str → Option Value) (dp un : Nat) (gd : Option (List Code)) (a : Addr) (ccd : Value) (cl : List (Str × Addr)) (outer : List Env) (A₀ : Around) (base h₀ : Heap) (L : Addr) (m : Str → Option Value) (s : Shared) (sp tx : Str) (t1 t2 : Tok) (Q : Flow → Shared → Prop) (E : Value → Shared → Prop),
  Below A₀ base outer h₀ → Fr h₀ L s.heap m → (Mine.hd.heap_39 w.params).In h₀ → Top Mine.hd.view_39 loose mean mg mb h₀ → dp + 2 < recursionLimit → un + 80 < cLine →
  m (Str.ofString "splitter") = some (.str sp t1) → m (Str.ofString "text") = some (.str tx t2) → Mine.SplitOk sp → Mine.TextOk tx → 1 ≤ sp.length → sp.length ≤ 8 → tx.length ≤ 100 →
  PassesOwn (model PySem.Challenge.rw_fe0143_01.row.prog w) (ktrTop dp un gd (Str.ofString "law") Mine.lawScope.1 L a ccd cl outer) (envX (Str.ofString "law") Mine.lawScope.1 L a ccd cl) E →
  (∀ m' tk h', Fr h₀ L h' m' → Q (.ret (.bool true)) { s with heap := h', toks := tk }) →
  wpAny (model PySem.Challenge.rw_fe0143_01.row.prog w) (ktrTop dp un gd (Str.ofString "law") Mine.lawScope.1 L a ccd cl outer) (execs Mine.lawTail.1 (envX (Str.ofString "law") Mine.lawScope.1 L a ccd cl)) Q E s := by
  k_fill
  w_top off
  dsimp only [Mine.lawTail, Mine.lawScope]
  intro w loose mean mg mb dp un gd a ccd cl outer A₀ base h₀ L m s sp tx t1 t2 Q E B F X T hdp hun hm1 hm2 hS hT hsp1 hsp8 htx hE hret
  have hm : m = fun y => if y = Str.ofString "text" then some (.str tx t2) else if y = Str.ofString "splitter" then some (.str sp t1) else m y := by
    funext y
    by_cases h1 : y = Str.ofString "text"
    · rw [if_pos h1, h1, hm2]
    · rw [if_neg h1]
      by_cases h2 : y = Str.ofString "splitter"
      · rw [if_pos h2, h2, hm1]
      · rw [if_neg h2]
  rw [hm] at F
  clear hm hm1 hm2
  have N : News h₀ L s.heap [] := fun _ hp => nomatch hp
  k_steps
  rw [beq_self_eq_true]
  exact hret _ _ _ (by assumption)

theorem Mine.tail_use {w : World} {loose : List Str} {mean : ExcName → Option Value} {mg mb : Str → Option Value} {dp un : Nat} {gd : Option (List Code)} {a : Addr} {ccd : Value} {cl : List (Str × Addr)} {outer : List Env} {A₀ : Around} {base h₀ : Heap} {L : Addr} {m : Str → Option Value} {s : Shared} {sp tx : Str} {t1 t2 : Tok} {Q : Flow → Shared → Prop} {E : Value → Shared → Prop}
  (B : Below A₀ base outer h₀) (F : Fr h₀ L s.heap m) (X : (Mine.hd.heap_39 w.params).In h₀) (T : Top Mine.hd.view_39 loose mean mg mb h₀) (hd : dp + 2 < recursionLimit) (hu : un + 80 < cLine)
  (hm1 : m (Str.ofString "splitter") = some (.str sp t1)) (hm2 : m (Str.ofString "text") = some (.str tx t2)) (hS : Mine.SplitOk sp) (hT : Mine.TextOk tx) (h1 : 1 ≤ sp.length) (h8 : sp.length ≤ 8) (hl : tx.length ≤ 100)
  (hE : PassesOwn (model PySem.Challenge.rw_fe0143_01.row.prog w) (ktrTop dp un gd (Str.ofString "law") Mine.lawScope.1 L a ccd cl outer) (envX (Str.ofString "law") Mine.lawScope.1 L a ccd cl) E)
  (hret : ∀ m' tk h', Fr h₀ L h' m' → News h₀ L h' [] → Q (.ret (.bool true)) { s with heap := h', toks := tk }) :
  wpAny (model PySem.Challenge.rw_fe0143_01.row.prog w) (ktrTop dp un gd (Str.ofString "law") Mine.lawScope.1 L a ccd cl outer) (execs Mine.lawTail.1 (envX (Str.ofString "law") Mine.lawScope.1 L a ccd cl)) Q E s :=
  Mine.law_tail w loose mean mg mb dp un gd a ccd cl outer A₀ base h₀ L m s sp tx t1 t2 Q E B F X T hd hu hm1 hm2 hS hT h1 h8 hl hE fun m' tk h' F' => hret m' tk h' F' fun _ hp => nomatch hp
end

open PySem PySem.W PyProof.Rows
local macro_rules | `(tactic| walk_at "call ref") => `(tactic| (k_here; (with_reducible show wpAny _ _ (call (Value.ref _) [Value.str _ _, Value.str _ _]) _ _ _); k_dflt (refine' Mine.parts_use ?k1 ?k2 ?k3 ?k4 ?k5 ?kK ?kd ?ku ?a ?b ?c ?_; (case k1 => k_asm); (case k2 => k_asm); (case k3 => k_asm); (case k4 => k_asm); (case k5 => k_asm); (case kK => exact rfl); (case kd => ktr_room); (case ku => ktr_units); (case a => first | decide | omega); (case b => first | decide | omega); (case c => first | decide | omega); k_whole); intro D' vs' n' tk' h' F' N' l1 hS'; (try k_lt l1); (try ((first | rw [Mine.parts1] at hS' | rw [Mine.parts2] at hS'); obtain ⟨t1', t2', e'⟩ := Mine.strs_two hS'; subst e'; clear hS')); (try k_fold)))
local macro_rules | `(tactic| walk_at "call ref") => `(tactic| (k_here; (with_reducible show wpAny _ _ (call (Value.ref _) [Value.ref _, Value.int _ _]) _ _ _); k_dflt (refine' Mine.next_use ?k1 ?k2 ?k3 ?k4 ?k5 ?kK ?kd ?ku ?kD ?kU ?kDS ?kI ?n1 ?n2 ?a1 ?a2 ?m1 ?_; (case k1 => k_asm); (case k2 => k_asm); (case k3 => k_asm); (case k4 => k_asm); (case k5 => k_asm); (case kK => exact rfl); (case kd => ktr_room); (case ku => ktr_units); (case kU => (intro tb; k_upd)); (case kD => k_mem); (case kDS => k_ne); (case kI => assumption); (case n1 => exact Mine.nums_lo _); (case n2 => exact Mine.nums_hi _ _); (case a1 => first | assumption | decide); (case a2 => first | assumption | decide); (case m1 => decide); k_whole); intro v' t' tb' tk' h' F' N' v0' v1' hIs'; (try dsimp only at N'); (try k_sweep); (try k_fold)))
local macro_rules | `(tactic| walk_at "subscriptTail") => `(tactic| (k_here; (with_reducible show wpAny _ _ (subscriptTail _ _ (Value.ref _) (Value.int _ _)) _ _ _); k_dflt (refine' Mine.split_item ?k1 ?k2 ?k3 ?k4 ?k5 ?_; (case k1 => k_asm); (case k2 => k_mem); (case k3 => repeat constructor); (case k4 => assumption); (case k5 => assumption); k_whole); intro x' t' hx' hl' hh'; (try k_fold)))
local macro_rules | `(tactic| walk_at "subscriptTail") => `(tactic| (k_here; (with_reducible show wpAny _ _ (subscriptTail _ _ (Value.ref _) (Value.int _ _)) _ _ _); k_dflt (refine' Mine.piece_item ?k1 ?k2 ?k3 ?k4 ?k5 ?_; (case k1 => k_asm); (case k2 => k_mem); (case k3 => repeat constructor); (case k4 => assumption); (case k5 => assumption); k_whole); intro x' t' hx'; (try k_fold)))
local macro_rules | `(tactic| walk_at "eval ListComp") => `(tactic| (k_here; (with_reducible show wpAny _ _ (eval (Expr.ListComp (Expr.Subscript _ _ _) _ _ _) _) _ _ _); k_dflt (refine LCg.ListComp_U (F₀ := by k_asm) (by with_unfolding_all rfl) (by decide) (by rfl) (by decide) (by rfl) ?_)))
local macro_rules | `(tactic| walk_at "CompSrc") => `(tactic| (k_here; (with_reducible rename Mine.IsState _ => hIs'); k_dflt (refine' LCg.CompSrc.range (by rfl) (by k_asm) (by k_asm) (by assumption) (small_one (by omega) (by omega) (by omega) (by omega)) (rangeSize_nat _ _) ?sz (fun g' => ?_); (case sz => (rw [sizeLine_eq]; omega)); (refine' Mine.draws_rest hIs' ?kS ?kM ?kU ?k0 ?kN (fun k' tS' v' I' oI' C' oC' D' m' ys' h' tk' E' hlo' hhi' hU' hDS' off' hC' hx' F' N' => ?_) (fun tS' ys' xs' hS' hP' hn' => ?_); (case kU => (intro k9 t9; k_upd)); (case kM => k_mem); (case kS => k_ne); (case k0 => decide); (case kN => omega))); (all_goals (try dsimp only at N')); (all_goals (try k_fold))))
local macro_rules | `(tactic| walk_at "call ref") => `(tactic| (k_here; (with_reducible show wpAny _ _ (call (Value.ref _) [Value.ref _, Value.int _ _]) _ _ _); (with_reducible rename LCg.NsObj _ _ => hNs'); k_dflt (refine' Mine.next_use ?k1 ?k2 ?k3 ?k4 ?k5 ?kK ?kd ?ku ?kD ?kU ?kDS ?kI ?n1 ?n2 ?a1 ?a2 ?m1 ?_; (case k1 => k_asm); (case k2 => k_asm); (case k3 => k_asm); (case k4 => k_asm); (case k5 => k_asm); (case kK => exact rfl); (case kd => ktr_room); (case ku => ktr_units); (case kU => assumption); (case kD => k_mem); (case kDS => assumption); (case kI => assumption); (case n1 => exact Mine.nums_lo _); (case n2 => exact Mine.nums_hi _ _); (case a1 => assumption); (case a2 => assumption); (case m1 => decide); k_whole); intro v' t' tb' tk' h' F' N' v0' v1' hIs'; (try dsimp only at N'); (try k_fold)))
local macro_rules | `(tactic| walk_at "call builtin:str.join") => `(tactic| (k_here; (with_reducible show wpAny _ _ (call (Value.builtin "str.join") [Value.str (Str.ofString "") _, Value.ref _]) _ _ _); k_dflt (refine' Mine.join_pieces ?k1 ?k2 ?k3 ?k4 ?k5 ?_; (case k1 => k_asm); (case k2 => k_mem); (case k3 => assumption); (case k4 => assumption); (case k5 => omega); k_whole); intro tx' t' k' hT' hl'; (try k_fold)))
local macro_rules | `(tactic| walk_at "CompEnd") => `(tactic| ((with_reducible rename Mine.IsState _ => hIs'); (with_reducible rename LCg.NsObj _ _ => hNs'); k_dflt (refine LCg.CompEnd.intro (by assumption) (by assumption) _ (fun p hp => hp) ?_ trivial ⟨_, _, _, by assumption, rfl, rfl⟩; (first | apply_assumption | assumption | exact (by assumption : ∀ tb, LCg.Off3 _ _ _ _) _))))
local macro_rules | `(tactic| walk_at "FinE") => `(tactic| ((with_reducible rename Mine.IsState _ => hIs'); (unfold LCg.FinE); intro D' h' tk' F' N' o1'; (clear o1'); (try simp only [List.nil_append, List.cons_append] at N'); (try dsimp only)))
local macro_rules | `(tactic| walk_at "execs cons") => `(tactic| (k_here; (with_reducible show wpAny _ _ (execs (Stmt.Assign [Expr.Name (Str.ofString "places") _] _ _ :: _) _) _ _ _); k_dflt (refine' Mine.tail_use ?k1 ?k2 ?k3 ?k4 ?kd ?ku ?m1 ?m2 ?hS ?hT ?h1 ?h8 ?hl ?hE ?_; (case k1 => k_asm); (case k2 => k_asm); (case k3 => k_asm); (case k4 => k_asm); (case kd => ktr_room); (case ku => decide); (case m1 => with_unfolding_all rfl); (case m2 => with_unfolding_all rfl); (case hS => assumption); (case hT => assumption); (case h1 => assumption); (case h8 => assumption); (case hl => assumption); (case hE => passes_own); k_whole); intro m' tk' h' F' N'))
theorem PySem.Challenge.cw_fe0143_01_holds : PySem.Challenge.rw_fe0143_01.Holds := by
  exact Mine.hd (by k_go0; (all_goals try k_fold); k_steps)
