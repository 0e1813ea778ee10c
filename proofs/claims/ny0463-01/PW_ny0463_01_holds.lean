import PyProof.Rows.All
import Wide.All
import OpenK.AllK
import Wide.FinOn
import PySem.Challenge.RW_ny0463_01
set_option Elab.async false
set_option linter.unusedVariables false
local macro_rules | `(tactic| walk_at $s:str) => `(tactic| k_extra $s)
section
open PySem PySem.W PyProof.Rows
namespace Mine

/-- a pair of ints as an object -/
abbrev tup2 (p : Int × Int) (t1 t2 : Tok) (n : Nat) : Obj := { cls := .type "tuple", data := .seq #[.int p.1 t1, .int p.2 t2] n }

/-- the ledger bears the pairs ds at the values us -/
def PairsIn (news : List (Addr × Obj)) (us : List Value) (ds : List (Int × Int)) : Prop :=
  us.length = ds.length ∧ ∀ (i : Nat) (p : Int × Int), ds[i]? = some p → ∃ (a : Addr) (t1 t2 : Tok) (n : Nat), us[i]? = some (Value.ref a) ∧ (a, tup2 p t1 t2 n) ∈ news

theorem PairsIn.mono {news news' : List (Addr × Obj)} {us ds} (h : PairsIn news us ds) (hs : ∀ p ∈ news, p ∈ news') : PairsIn news' us ds :=
  ⟨h.1, fun i p e => let ⟨a, t1, t2, n, e1, e2⟩ := h.2 i p e; ⟨a, t1, t2, n, e1, hs _ e2⟩⟩

section
variable {prog : Program} {w : World} {A : Around} {E : Value → Shared → Prop} {s : Shared} {env : Env} {h₀ : Heap} {k1 c1 : Str} {p1 p2 : Pos} {kk : Nat} {pt : Pos} {body : List Stmt} {Q : Flow → Shared → Prop}

theorem assign_pair {T : Addr} {v1 v2 : Value} {n : Nat} {m : Str → Option Value} {news : List (Addr × Obj)} {Q' : Unit → Shared → Prop}
    (hh : A.handled = none) (hx1 : env.kindOf k1 = some .local) (hx2 : env.kindOf c1 = some .local)
    (hp : (env.scope.kind == .class || (env.scope.kind == .module && env.locals != env.globals)) = false)
    (F : Fr h₀ env.locals s.heap m) (N : News h₀ env.locals s.heap news)
    (ht : (T, ({ cls := .type "tuple", data := .seq #[v1, v2] n } : Obj)) ∈ news)
    (h : ∀ h' tk, Fr h₀ env.locals h' (fun y => if y = c1 then some v2 else if y = k1 then some v1 else m y) → News h₀ env.locals h' news → Q' () { s with heap := h', toks := tk }) :
    wpAny (model prog w) A (assign (.Tuple [.Name k1 p1, .Name c1 p2] kk pt) env (.ref T)) Q' E s := by
  refine unpackN_ F N (items := #[v1, v2]) ⟨_, (N _ ht).1, rfl, n, rfl⟩ hh rfl rfl fun h' F' N' => ?_
  show wpAny (model prog w) A (assignInOrder [assign (.Name k1 p1) env, assign (.Name c1 p2) env] [v1, v2]) Q' E _
  refine assignInOrder_cons (wpAny_assign_Name (wpAny_storeName_local hx1 F'.ns (fun h₂ hn₂ hs₂ => ?_) hp))
  have F₂ := F'.set hn₂ hs₂
  have N₂ := N'.set hs₂
  refine assignInOrder_cons (wpAny_assign_Name (wpAny_storeName_local hx2 F₂.ns (fun h₃ hn₃ hs₃ => ?_) hp))
  have F₃ := F₂.set hn₃ hs₃
  have N₃ := N₂.set hs₃
  exact assignInOrder_nil (h _ _ F₃ N₃)

def PkS {σ : Type} (Led : σ → List (Addr × Obj)) (cst : List (Addr × Obj)) (ps : σ → List (Str × Value)) (P : List (Int × Int) → σ → Prop) (pre : List (Int × Int)) (m : Str → Option Value) (nx : List (Addr × Obj)) : Prop :=
  ∃ c : σ, nx = Led c ++ cst ∧ (∀ p ∈ ps c, m p.1 = some p.2) ∧ P pre c

theorem pk_end {σ : Type} {Led : σ → List (Addr × Obj)} {cst : List (Addr × Obj)} {ps : σ → List (Str × Value)} {P : List (Int × Int) → σ → Prop} {pre : List (Int × Int)} (c : σ) {L : Addr} {m' : Str → Option Value} {own news' : List (Addr × Obj)} {s₁ : Shared} {h' : Heap} {tk : Nat}
    (F : Fr h₀ L h' m') (N : News h₀ L h' news') (hn : ∀ p ∈ Led c ++ cst, p ∈ news') (ho : ∀ p ∈ own, p ∈ news') (ha : OwnOff own ((Led c ++ cst).map (·.1)))
    (hk : ∀ p ∈ ps c, m' p.1 = some p.2) (hp : P pre c) :
    InvEndG h₀ L (PkS Led cst ps P pre) own s₁ { s₁ with heap := h', toks := tk } :=
  ⟨h', tk, m', news', Led c ++ cst, rfl, F, N, hn, ho, ha, c, rfl, hk, hp⟩

theorem kstB_all {m : Str → Option Value} {ps : List (Str × Value)} (h : ∀ p ∈ ps, m p.1 = some p.2) : kstB m ps = m := by
  funext z
  exact kstB_eq h fun _ => rfl

set_option maxHeartbeats 3200000 in
/-- a loop «for k1, c1 in xs» over a list of pairs of ints -/
theorem pairs_iter {σ : Type} {l : Addr} {us : List Value} {ds : List (Int × Int)} {nn : Nat} {m₀ : Str → Option Value} {news : List (Addr × Obj)}
    (Led : σ → List (Addr × Obj)) (cst : List (Addr × Obj)) (ps : σ → List (Str × Value)) (P : List (Int × Int) → σ → Prop) (c₀ : σ)
    (hh : A.handled = none) (hl : (l, listOf us.toArray nn) ∈ cst) (hd : PairsIn cst us ds)
    (hx1 : env.kindOf k1 = some .local) (hx2 : env.kindOf c1 = some .local)
    (hp : (env.scope.kind == .class || (env.scope.kind == .module && env.locals != env.globals)) = false)
    (F : Fr h₀ env.locals s.heap m₀) (N : News h₀ env.locals s.heap news) (hn : ∀ p ∈ Led c₀ ++ cst, p ∈ news) (hk : ∀ p ∈ ps c₀, m₀ p.1 = some p.2) (hp0 : P [] c₀)
    (turn : ∀ (c : σ) pre p post t1 t2 (u : Str → Option Value) h tk own, ds = pre ++ p :: post → P pre c → OwnOff own ((Led c ++ cst).map (·.1)) →
      Fr h₀ env.locals h (fun y => if y = c1 then some (.int p.2 t2) else if y = k1 then some (.int p.1 t1) else kstB u (ps c) y) → News h₀ env.locals h (Led c ++ (cst ++ own)) →
      wpAny (model prog w) A (execs body env) (InvPostG h₀ env.locals (PkS Led cst ps P (pre ++ [p])) own { s with heap := h, toks := tk } Q) E { s with heap := h, toks := tk })
    (done : ∀ (c : σ) (u : Str → Option Value) h tk, P ds c → Fr h₀ env.locals h (kstB u (ps c)) → News h₀ env.locals h (Led c ++ cst) → Q .next { s with heap := h, toks := tk }) :
    wpAny (model prog w) A (pyIter (.ref l)) (fun it s₂ => TurnsAt prog w A h₀ env (.Tuple [.Name k1 p1, .Name c1 p2] kk pt) body Q E it s₂) E s := by
  have hlN : (l, listOf us.toArray nn) ∈ news := hn _ (List.mem_append.mpr (.inr hl))
  have hol : s.heap.get? l = some (listOf us.toArray nn) := (N _ hlN).1
  have hls : s.heap.IsList l us.toArray := ⟨_, hol, rfl, nn, rfl⟩
  have hne : l ≠ s.heap.objs.size := Nat.ne_of_lt (Heap.lt_size hol)
  refine wpAny_pyIter_list hls ?_
  have W := Walks.list (prog := prog) (w := w) hh s.heap.objs.size l hne us.toArray
  have hlen : us.toArray.size = ds.length := by simp [hd.1]
  rw [hlen] at W
  have N0 : News h₀ env.locals s.heap (Led c₀ ++ cst) := fun p hp => N p (hn p hp)
  refine ⟨_, _, _, ds.length, _, _, _, m₀, Led c₀ ++ cst, (fun i m nx => PkS Led cst ps P (ds.take i) m nx), rfl, KTurns.ofWalks W (fun i v s Q E st q => letGo_listiter st.1 q), ?_, ?_, ?_, ⟨⟨_, Heap.get?_push_size _ rfl, rfl, rfl⟩, hls.at fun o e => Heap.get?_push_of_some _ e⟩, F.push _, (fun p hp => ⟨Heap.get?_push_of_some _ (N0 p hp).1, (N0 p hp).2⟩), ⟨c₀, rfl, hk, by simpa using hp0⟩, ?_, ?_⟩
  · intro hm
    rcases List.mem_cons.mp hm with e | hm
    · exact absurd F.ns.lt (e ▸ Nat.lt_irrefl _)
    · exact (N _ hlN).2.1 ((List.mem_singleton.mp hm).symm)
  · intro b hb
    rw [List.mem_singleton.mp hb]
    exact next_is_new F
  · intro p hp hI
    exact absurd (Heap.lt_size (N0 p hp).1) ((List.mem_singleton.mp hI) ▸ Nat.lt_irrefl _)
  · rintro i v m₁ news₁ hh' tk' own hin hP ⟨c, rfl, hkc, hPc⟩ hoff hown hget hfp hst F₁ N₁
    have hP' : us[i]? = some v := by simpa using hP
    have hdi : ds[i]? = some (ds[i]'hin) := List.getElem?_eq_getElem hin
    obtain ⟨T, t1, t2, n, e1, e2⟩ := hd.2 i _ hdi
    have ev : v = .ref T := by rw [e1] at hP'; exact (Option.some.inj hP').symm
    subst ev
    have hs : ds.take (i + 1) = ds.take i ++ [ds[i]'hin] := by rw [List.take_add_one, hdi]; rfl
    have e : ds = ds.take i ++ (ds[i]'hin) :: ds.drop (i + 1) := by
      have h9 := List.take_append_drop (i + 1) ds
      rw [hs, List.append_assoc] at h9
      exact h9.symm
    have hl₁ : (l, listOf us.toArray nn) ∈ Led c ++ cst := List.mem_append.mpr (.inr hl)
    obtain ⟨⟨oI, hoI, _⟩, _⟩ := id hst
    have hI0 : h₀.get? s.heap.objs.size = none := next_is_new F
    have hIown : (s.heap.objs.size, oI) ∈ own.filter fun p => decide (p.1 = s.heap.objs.size) := List.mem_filter.mpr ⟨hfp _ (List.mem_cons.mpr (.inl rfl)) hI0 _ hoI, by simp⟩
    have hsep : OwnOff (own.filter fun p => decide (p.1 = s.heap.objs.size)) ((Led c ++ cst).map (·.1)) := by
      intro p hp b hb e
      obtain ⟨q, hq, rfl⟩ := List.mem_map.mp hb
      have h1 : p.1 = s.heap.objs.size := by simpa using (List.mem_filter.mp hp).2
      exact hoff q hq (List.mem_singleton.mpr (e ▸ h1))
    have hlo : hh'.get? l = some (listOf us.toArray nn) := (N₁ _ (List.mem_append.mpr (.inr hl₁))).1
    refine assign_pair hh hx1 hx2 hp F₁ N₁ (List.mem_append.mpr (.inr (List.mem_append.mpr (.inr e2)))) fun h₂ tk₂ F₂ N₂ => ?_
    have N₃ : News h₀ env.locals h₂ (Led c ++ (cst ++ own.filter fun p => decide (p.1 = s.heap.objs.size))) := fun p hp => N₂ p (by
      rcases List.mem_append.mp hp with h | h
      · exact List.mem_append.mpr (.inr (List.mem_append.mpr (.inl h)))
      · rcases List.mem_append.mp h with h | h
        · exact List.mem_append.mpr (.inr (List.mem_append.mpr (.inr h)))
        · exact List.mem_append.mpr (.inl (List.mem_filter.mp h).1))
    have F₃ : Fr h₀ env.locals h₂ (fun y => if y = c1 then some (.int (ds[i]'hin).2 t2) else if y = k1 then some (.int (ds[i]'hin).1 t1) else kstB m₁ (ps c) y) := by
      rw [kstB_all hkc]; exact F₂
    refine wpAny_mono (turn c _ _ _ t1 t2 m₁ h₂ tk₂ _ e hPc hsep F₃ N₃) (fun f s₂ p => ?_) fun _ _ e => e
    rw [← hs] at p
    have fin : InvEndG h₀ env.locals (PkS Led cst ps P (ds.take (i + 1))) (own.filter fun p => decide (p.1 = s.heap.objs.size)) { s with heap := h₂, toks := tk₂ } s₂ →
        LoopStepU h₀ env.locals [s.heap.objs.size] own (PkS Led cst ps P (ds.take (i + 1))) { s with heap := hh', toks := tk' } .next s₂ := by
      rintro ⟨h', tk, m', news', nx, rfl, F', N', hn, ho, ha, hm⟩
      obtain ⟨c', rfl, _⟩ := id hm
      have hl₂ : (l, listOf us.toArray nn) ∈ Led c' ++ cst := List.mem_append.mpr (.inr hl)
      refine ⟨rfl, h', tk, m', Led c' ++ cst, rfl, F', fun p hp => ?_, fun p hp hq => ?_, hm⟩
      · rcases List.mem_append.mp hp with h | h
        · by_cases hI : p.1 = s.heap.objs.size
          · exact N' p (ho p (List.mem_filter.mpr ⟨h, by simpa using hI⟩))
          · have h1 : p.1 = l := by
              rcases List.mem_cons.mp (hown p h) with h2 | h2
              · exact absurd h2 hI
              · exact List.mem_singleton.mp h2
            have h2 : hh'.get? p.1 = some p.2 := hget p h
            rw [h1, hlo] at h2
            have h3 : p = (l, listOf us.toArray nn) := Prod.ext h1 (Option.some.inj h2).symm
            rw [h3]
            exact N' _ (hn _ hl₂)
        · exact N' p (hn p h)
      · exact ha _ hIown p.1 (List.mem_map.mpr ⟨p, hp, rfl⟩) (List.mem_singleton.mp hq).symm
    cases f with
    | ret v => exact .ret p
    | brk => exact .brk p
    | next => exact .next (fin p)
    | cont => exact .cont (fin p)
  · rintro h' tk m' news' F' N' _ ⟨c, rfl, hkc, hPc⟩
    rw [List.take_length] at hPc
    refine done c m' h' tk hPc ?_ N'
    rw [kstB_all hkc]
    exact F'
end
end Mine

end
section
open PySem PySem.W PyProof.Rows
namespace Mine

def lineStep (s : Int × Int) (p : Int × Int) : Int × Int :=
  if p.1 = 1 then (s.1, s.2 - p.2)
  else if p.1 = 2 then (s.1 * p.2, s.2 * p.2)
  else if p.1 = 3 then (-s.1, -s.2)
  else if p.1 = 4 then (-s.1, -s.2 - 1)
  else if p.1 = 5 then (s.1 * 2 ^ p.2.toNat, s.2 * 2 ^ p.2.toNat)
  else (s.1, s.2 + p.2)
def line (ds : List (Int × Int)) : Int × Int := ds.foldl lineStep (1, 0)

def GoodDeed (p : Int × Int) : Prop := 0 ≤ p.1 ∧ p.1 < 8 ∧ -21 ≤ p.2 ∧ p.2 ≤ 21 ∧ (p.1 = 2 → p.2 ≠ 0) ∧ (p.1 = 5 → 0 ≤ p.2 ∧ p.2 ≤ 4)
def Good (ds : List (Int × Int)) : Prop := ds.length ≤ 20 ∧ ∀ p ∈ ds, GoodDeed p

theorem line_snoc (pre : List (Int × Int)) (p : Int × Int) : line (pre ++ [p]) = lineStep (line pre) p := by
  simp [line, List.foldl_append]
end Mine

end
section
open PySem PySem.W PyProof.Rows
namespace Mine
set_option maxRecDepth 100000 in
set_option maxHeartbeats 8000000 in
open_top hd for PySem.Challenge.rw_ny0463_01
end Mine

end
section
open PySem PySem.W PyProof.Rows PySem.Spec PySem.Calls
namespace Mine
theorem Good.here {d pre post : List (Int × Int)} {k c : Int} (h : Good d) (e : d = pre ++ (k, c) :: post) :
    pre.length < 20 ∧ 0 ≤ k ∧ k < 8 ∧ -21 ≤ c ∧ c ≤ 21 ∧ (k = 2 → c ≠ 0) ∧ (k = 5 → 0 ≤ c ∧ c ≤ 4) := by
  refine ⟨?_, ?_⟩
  · have h1 := h.1
    rw [e, List.length_append, List.length_cons] at h1
    omega
  · exact h.2 (k, c) (by rw [e]; simp)

theorem bits_pow2 {c : Int} (h : c ≤ 4) : Builtin.Int.intBits (2 ^ c.toNat) ≤ 64 := by
  have h' : c.toNat ≤ 4 := by omega
  generalize c.toNat = n at h'
  match n, h' with
  | 0, _ | 1, _ | 2, _ | 3, _ | 4, _ => decide
set_option maxRecDepth 100000 in
set_option maxHeartbeats 8000000 in
theorem line_tells {w : World} {mean : ExcName → Option Value} {mg mb : Str → Option Value} 
   (dp un : Nat) (gd : Option (List Code)) (cn : Str) (cs : Scope) (a : Addr) (ccd : Value) (cl : List (Str × Addr)) (outer : List Env) (A₀ : Around) (base h₀ : Heap) (L : Addr) (m : Str → Option Value) (news : List (Addr × Obj)) (s : Shared)
   (l : Addr) (us : List Value) (nn : Nat) (d : List (Int × Int))
    (Q E : Value → Shared → Prop)
    (B : Below A₀ base outer h₀) (F : Fr h₀ L s.heap m) (X : (hd.heap_39 w.params).In h₀) (N : News h₀ L s.heap news) (T : Top hd.view_39 (looseW hd.view_39 []) mean mg mb h₀) (hk : cs.kind = .function) 
    (hl : (l, listOf us.toArray nn) ∈ news) (hP : PairsIn news us d) (hG : Good d) (hdp : dp + 10 < recursionLimit)
    (hret : ∀ r n t1 t2 h' tk', Fr h₀ L h' m → News h₀ L h' ((r, tup2 (line d) t1 t2 n) :: news) → (∀ q ∈ news, q.1 < r) → Q (.ref r) { s with heap := h', toks := tk' }) :
    wpAny (model Challenge.rw_ny0463_01.row.prog w) (ktrTop dp un gd cn cs L a ccd cl outer) (call (.ref 161) [.ref l]) Q E s := by
  w_on
  k_with_none
  k_with "inplaceOp Mult int int" => (with_reducible refine imul_int ?_ (IntMulOk.of_right (bits_pow2 (by omega))))
  k_with "exec For Tuple Name cons nil" => (k_here; (rename Fr _ _ _ _ => lF'); (with_unfolding_all refine' For_turns lF' ?_; k_whole))
  revert X
  k_fill
  intro X
  refine wpAny_call ?_
  k_dflt ktr_enter
  k_steps
  rename Fr _ _ _ _ => lF'
  rename News _ _ _ _ => lN'
  refine' pairs_iter (σ := Int × Tok × Int × Tok) (fun _ => []) _ (fun c => [(Str.ofString "a", Value.int c.1 c.2.1), (Str.ofString "b", Value.int c.2.2.1 c.2.2.2)]) (fun pre c => (c.1, c.2.2.1) = line pre) (_, _, _, _) ?h1 ?h2 hP ?h3 ?h4 ?h5 lF' lN' ?h6 ?h7 ?h8 ?turn ?done
  case h1 => rfl
  case h2 => assumption
  case h3 => rfl
  case h4 => rfl
  case h5 => rfl
  case h6 => exact fun _ h => h
  case h7 => kst_all
  case h8 => rfl
  case turn =>
    rintro ⟨a', ta', b', tb'⟩ pre' ⟨k', c'⟩ post' t1' t2' u' h' tk' own' hds' hp' hoff' F' N'
    obtain ⟨hg0, hg1, hg2, hg3, hg4, hg5, hg6⟩ := Good.here hG hds'
    clear lF' lN'
    simp only [List.nil_append] at N' hoff'
    dsimp only [kstB] at hp' F' N'
    k_steps
    all_goals (refine' pk_end (_, _, _, _) ?F ?N ?hn ?ho ?ha ?hk ?hp; (case F => assumption); (case N => assumption); (case hn => exact fun p hp => List.mem_append.mpr (.inl hp)); (case ho => exact fun p hp => List.mem_append.mpr (.inr hp)); (case ha => exact hoff'); (case hk => kst_all); (case hp => (dsimp only; rw [line_snoc, ← hp']; simp only [lineStep]; (repeat' split) <;> first | rfl | (exfalso; omega))))
  case done =>
    rintro ⟨a', ta', b', tb'⟩ u' h' tk' hp' F' N'
    clear lF' lN'
    have ea : a' = (line d).1 := by rw [← hp']
    have eb : b' = (line d).2 := by rw [← hp']
    subst ea eb
    simp only [List.nil_append] at N'
    dsimp only [kstB] at hp' F' N'
    k_steps
    exact hret _ _ _ _ _ _ (by assumption) (by assumption) (by assumption)
end Mine

end
section
open PySem PySem.W PyProof.Rows PySem.Spec PySem.Calls
namespace Mine
abbrev params2 (pa pb : Pos) : Arguments := { posonlyargs := [], args := [{ arg := Str.ofString "a", annotation := none, pos := pa }, { arg := Str.ofString "b", annotation := none, pos := pb }], vararg := none, kwonlyargs := [], kw_defaults := [], kwarg := none, defaults := [] }
abbrev scope2 : Scope := { kind := .function, names := [(Str.ofString "a", .local), (Str.ofString "b", .local)], isGenerator := false, isCoroutine := false }
abbrev params1 (pa : Pos) : Arguments := { posonlyargs := [], args := [{ arg := Str.ofString "a", annotation := none, pos := pa }], vararg := none, kwonlyargs := [], kw_defaults := [], kwarg := none, defaults := [] }
abbrev scope1 : Scope := { kind := .function, names := [(Str.ofString "a", .local)], isGenerator := false, isCoroutine := false }
section
variable {prog : Program} {w : World} {A₀ A : Around} {E : Value → Shared → Prop} {s : Shared} {base h₀ : Heap} {L : Addr} {m : Str → Option Value} {news : List (Addr × Obj)} {K : Frag} {p : Program} {loose : List Str} {mean : ExcName → Option Value} {mg mb : Str → Option Value} {env : Env} {outer : List Env}
  {name qual : Str} {dV kV doc pm cdv ct oc : Value} {an od : Option Addr} {osl : Array (Option Value)} {f : Addr} {pa pb q1 q2 q3 q4 : Pos} {Q : Value → Shared → Prop}
theorem op2_call {op : Operator} {v1 v2 : Value} {res : Tok → Value}
    (F : Fr h₀ L s.heap m) (N : News h₀ L s.heap news) (X : K.In h₀) (T : Top p loose mean mg mb h₀) (B : Below A₀ base outer h₀) (hA : A.frames = some (env :: outer)) (hf : env.frame = some L) (hke : env.scope.kind = .function)
    (ho : K.lookup f = some ⟨oc, od, .func (fnOf name qual (params2 pa pb) [.Return (some (.BinOp (.Name (Str.ofString "a") q1) op (.Name (Str.ofString "b") q2) q3)) q4] scope2 .none .none doc pm an cdv ct), osl⟩) (hcd : codeIn K cdv qual = true) (hroom : A.depth < recursionLimit)
    (hop : ∀ (A' : Around) (s' : Shared) (Q' : Value → Shared → Prop) (E' : Value → Shared → Prop), (∀ t tk, Q' (res t) { s' with toks := tk }) → wpAny (model prog w) A' (binaryOp op v1 v2) Q' E' s')
    (h : ∀ t h' tk, Fr h₀ L h' m → News h₀ L h' news → Q (res t) { s with heap := h', toks := tk }) : wpAny (model prog w) A (call (.ref f) [v1, v2]) Q E s := by
  w_on
  refine wpAny_call ?_
  refine code_def (binds := [(Str.ofString "a", v1), (Str.ofString "b", v2)]) B F X N T hA hf hke ho hcd hroom (BindsTo.of_eq rfl) (locs rfl) (fun g L' h₁ FG F' N' B' X' T' => ?_) rfl rfl rfl (by decide)
  k_steps
  refine hop _ _ _ _ (fun t tk => ?_)
  k_steps
  exact h _ _ _ (by assumption) (by assumption)
theorem cmp2_call {op : CmpOp} {v1 v2 : Value} {res : Tok → Value}
    (F : Fr h₀ L s.heap m) (N : News h₀ L s.heap news) (X : K.In h₀) (T : Top p loose mean mg mb h₀) (B : Below A₀ base outer h₀) (hA : A.frames = some (env :: outer)) (hf : env.frame = some L) (hke : env.scope.kind = .function)
    (ho : K.lookup f = some ⟨oc, od, .func (fnOf name qual (params2 pa pb) [.Return (some (.Compare (.Name (Str.ofString "a") q1) [op] [.Name (Str.ofString "b") q2] q3)) q4] scope2 .none .none doc pm an cdv ct), osl⟩) (hcd : codeIn K cdv qual = true) (hroom : A.depth < recursionLimit)
    (hop : ∀ (A' : Around) (s' : Shared) (Q' : Value → Shared → Prop) (E' : Value → Shared → Prop), (∀ t tk, Q' (res t) { s' with toks := tk }) → wpAny (model prog w) A' (compareOp op v1 v2) Q' E' s')
    (h : ∀ t h' tk, Fr h₀ L h' m → News h₀ L h' news → Q (res t) { s with heap := h', toks := tk }) : wpAny (model prog w) A (call (.ref f) [v1, v2]) Q E s := by
  w_on
  refine wpAny_call ?_
  refine code_def (binds := [(Str.ofString "a", v1), (Str.ofString "b", v2)]) B F X N T hA hf hke ho hcd hroom (BindsTo.of_eq rfl) (locs rfl) (fun g L' h₁ FG F' N' B' X' T' => ?_) rfl rfl rfl (by decide)
  k_steps
  refine hop _ _ _ _ (fun t tk => ?_)
  k_steps
  exact h _ _ _ (by assumption) (by assumption)
theorem op1_call {op : UnaryOp} {v1 : Value} {res : Tok → Value}
    (F : Fr h₀ L s.heap m) (N : News h₀ L s.heap news) (X : K.In h₀) (T : Top p loose mean mg mb h₀) (B : Below A₀ base outer h₀) (hA : A.frames = some (env :: outer)) (hf : env.frame = some L) (hke : env.scope.kind = .function)
    (ho : K.lookup f = some ⟨oc, od, .func (fnOf name qual (params1 pa) [.Return (some (.UnaryOp op (.Name (Str.ofString "a") q1) q3)) q4] scope1 .none .none doc pm an cdv ct), osl⟩) (hcd : codeIn K cdv qual = true) (hroom : A.depth < recursionLimit)
    (hop : ∀ (A' : Around) (s' : Shared) (Q' : Value → Shared → Prop) (E' : Value → Shared → Prop), (∀ t tk, Q' (res t) { s' with toks := tk }) → wpAny (model prog w) A' (unaryOp op v1) Q' E' s')
    (h : ∀ t h' tk, Fr h₀ L h' m → News h₀ L h' news → Q (res t) { s with heap := h', toks := tk }) : wpAny (model prog w) A (call (.ref f) [v1]) Q E s := by
  w_on
  refine wpAny_call ?_
  refine code_def (binds := [(Str.ofString "a", v1)]) B F X N T hA hf hke ho hcd hroom (BindsTo.of_eq rfl) (locs rfl) (fun g L' h₁ FG F' N' B' X' T' => ?_) rfl rfl rfl (by decide)
  k_steps
  refine hop _ _ _ _ (fun t tk => ?_)
  k_steps
  exact h _ _ _ (by assumption) (by assumption)
end
end Mine

end
section
open PySem PySem.W PyProof.Rows PySem.Spec PySem.Calls
namespace Mine
section
variable {prog : Program} {w : World} {A₀ A : Around} {E : Value → Shared → Prop} {s : Shared} {base h₀ : Heap} {L : Addr} {m : Str → Option Value} {news : List (Addr × Obj)} {K : Frag} {p : Program} {loose : List Str} {mean : ExcName → Option Value} {mg mb : Str → Option Value} {env : Env} {outer : List Env}
  {name qual : Str} {doc pm cdv ct oc : Value} {an od : Option Addr} {osl : Array (Option Value)} {f : Addr} {pa pb q1 q2 q3 q4 : Pos} {Q : Value → Shared → Prop} {x y : Int} {t1 t2 : Tok}
theorem add_call
    (F : Fr h₀ L s.heap m) (N : News h₀ L s.heap news) (X : K.In h₀) (T : Top p loose mean mg mb h₀) (B : Below A₀ base outer h₀) (hA : A.frames = some (env :: outer)) (hf : env.frame = some L) (hke : env.scope.kind = .function)
    (ho : K.lookup f = some ⟨oc, od, .func (fnOf name qual (params2 pa pb) [.Return (some (.BinOp (.Name (Str.ofString "a") q1) .Add (.Name (Str.ofString "b") q2) q3)) q4] scope2 .none .none doc pm an cdv ct), osl⟩) (hcd : codeIn K cdv qual = true) (hroom : A.depth < recursionLimit) 
    (h : ∀ t h' tk, Fr h₀ L h' m → News h₀ L h' news → Q (.int (x + y) t) { s with heap := h', toks := tk }) : wpAny (model prog w) A (call (.ref f) [.int x t1, .int y t2]) Q E s :=
  op2_call (res := fun t => .int (x + y) t) F N X T B hA hf hke ho hcd hroom (fun A' s' Q' E' h => PySem.P.add_int (h _ _)) h
theorem and_call
    (F : Fr h₀ L s.heap m) (N : News h₀ L s.heap news) (X : K.In h₀) (T : Top p loose mean mg mb h₀) (B : Below A₀ base outer h₀) (hA : A.frames = some (env :: outer)) (hf : env.frame = some L) (hke : env.scope.kind = .function)
    (ho : K.lookup f = some ⟨oc, od, .func (fnOf name qual (params2 pa pb) [.Return (some (.BinOp (.Name (Str.ofString "a") q1) .BitAnd (.Name (Str.ofString "b") q2) q3)) q4] scope2 .none .none doc pm an cdv ct), osl⟩) (hcd : codeIn K cdv qual = true) (hroom : A.depth < recursionLimit) 
    (h : ∀ t h' tk, Fr h₀ L h' m → News h₀ L h' news → Q (.int (Builtin.bitAnd x y) t) { s with heap := h', toks := tk }) : wpAny (model prog w) A (call (.ref f) [.int x t1, .int y t2]) Q E s :=
  op2_call (res := fun t => .int (Builtin.bitAnd x y) t) F N X T B hA hf hke ho hcd hroom (fun A' s' Q' E' h => PyProof.Rows.and_int (h _ _)) h
theorem floordiv_call
    (F : Fr h₀ L s.heap m) (N : News h₀ L s.heap news) (X : K.In h₀) (T : Top p loose mean mg mb h₀) (B : Below A₀ base outer h₀) (hA : A.frames = some (env :: outer)) (hf : env.frame = some L) (hke : env.scope.kind = .function)
    (ho : K.lookup f = some ⟨oc, od, .func (fnOf name qual (params2 pa pb) [.Return (some (.BinOp (.Name (Str.ofString "a") q1) .FloorDiv (.Name (Str.ofString "b") q2) q3)) q4] scope2 .none .none doc pm an cdv ct), osl⟩) (hcd : codeIn K cdv qual = true) (hroom : A.depth < recursionLimit) (h0 : y ≠ 0) (h1 : Builtin.divisionGoesByPylong x y = false)
    (h : ∀ t h' tk, Fr h₀ L h' m → News h₀ L h' news → Q (.int (x.fdiv y) t) { s with heap := h', toks := tk }) : wpAny (model prog w) A (call (.ref f) [.int x t1, .int y t2]) Q E s :=
  op2_call (res := fun t => .int (x.fdiv y) t) F N X T B hA hf hke ho hcd hroom (fun A' s' Q' E' h => PyProof.Rows.floordiv_int h0 (h _ _) (Or.inl h1)) h
theorem lshift_call
    (F : Fr h₀ L s.heap m) (N : News h₀ L s.heap news) (X : K.In h₀) (T : Top p loose mean mg mb h₀) (B : Below A₀ base outer h₀) (hA : A.frames = some (env :: outer)) (hf : env.frame = some L) (hke : env.scope.kind = .function)
    (ho : K.lookup f = some ⟨oc, od, .func (fnOf name qual (params2 pa pb) [.Return (some (.BinOp (.Name (Str.ofString "a") q1) .LShift (.Name (Str.ofString "b") q2) q3)) q4] scope2 .none .none doc pm an cdv ct), osl⟩) (hcd : codeIn K cdv qual = true) (hroom : A.depth < recursionLimit) (h0 : 0 ≤ y) (h1 : (Builtin.Int.intBits x : Int) + y ≤ 2 ^ 27)
    (h : ∀ t h' tk, Fr h₀ L h' m → News h₀ L h' news → Q (.int (x * 2 ^ y.toNat) t) { s with heap := h', toks := tk }) : wpAny (model prog w) A (call (.ref f) [.int x t1, .int y t2]) Q E s :=
  op2_call (res := fun t => .int (x * 2 ^ y.toNat) t) F N X T B hA hf hke ho hcd hroom (fun A' s' Q' E' h => PyProof.Rows.lshift_int h0 h1 (h _ _)) h
theorem mod_call
    (F : Fr h₀ L s.heap m) (N : News h₀ L s.heap news) (X : K.In h₀) (T : Top p loose mean mg mb h₀) (B : Below A₀ base outer h₀) (hA : A.frames = some (env :: outer)) (hf : env.frame = some L) (hke : env.scope.kind = .function)
    (ho : K.lookup f = some ⟨oc, od, .func (fnOf name qual (params2 pa pb) [.Return (some (.BinOp (.Name (Str.ofString "a") q1) .Mod (.Name (Str.ofString "b") q2) q3)) q4] scope2 .none .none doc pm an cdv ct), osl⟩) (hcd : codeIn K cdv qual = true) (hroom : A.depth < recursionLimit) (h0 : y ≠ 0)
    (h : ∀ t h' tk, Fr h₀ L h' m → News h₀ L h' news → Q (.int (x.fmod y) t) { s with heap := h', toks := tk }) : wpAny (model prog w) A (call (.ref f) [.int x t1, .int y t2]) Q E s :=
  op2_call (res := fun t => .int (x.fmod y) t) F N X T B hA hf hke ho hcd hroom (fun A' s' Q' E' h => PyProof.Rows.mod_int' h0 (h _ _)) h
theorem mul_call
    (F : Fr h₀ L s.heap m) (N : News h₀ L s.heap news) (X : K.In h₀) (T : Top p loose mean mg mb h₀) (B : Below A₀ base outer h₀) (hA : A.frames = some (env :: outer)) (hf : env.frame = some L) (hke : env.scope.kind = .function)
    (ho : K.lookup f = some ⟨oc, od, .func (fnOf name qual (params2 pa pb) [.Return (some (.BinOp (.Name (Str.ofString "a") q1) .Mult (.Name (Str.ofString "b") q2) q3)) q4] scope2 .none .none doc pm an cdv ct), osl⟩) (hcd : codeIn K cdv qual = true) (hroom : A.depth < recursionLimit) (h0 : IntMulOk x y)
    (h : ∀ t h' tk, Fr h₀ L h' m → News h₀ L h' news → Q (.int (x * y) t) { s with heap := h', toks := tk }) : wpAny (model prog w) A (call (.ref f) [.int x t1, .int y t2]) Q E s :=
  op2_call (res := fun t => .int (x * y) t) F N X T B hA hf hke ho hcd hroom (fun A' s' Q' E' h => PySem.P.mul_int (h _ _) h0) h
theorem or_call
    (F : Fr h₀ L s.heap m) (N : News h₀ L s.heap news) (X : K.In h₀) (T : Top p loose mean mg mb h₀) (B : Below A₀ base outer h₀) (hA : A.frames = some (env :: outer)) (hf : env.frame = some L) (hke : env.scope.kind = .function)
    (ho : K.lookup f = some ⟨oc, od, .func (fnOf name qual (params2 pa pb) [.Return (some (.BinOp (.Name (Str.ofString "a") q1) .BitOr (.Name (Str.ofString "b") q2) q3)) q4] scope2 .none .none doc pm an cdv ct), osl⟩) (hcd : codeIn K cdv qual = true) (hroom : A.depth < recursionLimit) 
    (h : ∀ t h' tk, Fr h₀ L h' m → News h₀ L h' news → Q (.int (Builtin.bitOr x y) t) { s with heap := h', toks := tk }) : wpAny (model prog w) A (call (.ref f) [.int x t1, .int y t2]) Q E s :=
  op2_call (res := fun t => .int (Builtin.bitOr x y) t) F N X T B hA hf hke ho hcd hroom (fun A' s' Q' E' h => PyProof.Rows.or_int (h _ _)) h
theorem rshift_call
    (F : Fr h₀ L s.heap m) (N : News h₀ L s.heap news) (X : K.In h₀) (T : Top p loose mean mg mb h₀) (B : Below A₀ base outer h₀) (hA : A.frames = some (env :: outer)) (hf : env.frame = some L) (hke : env.scope.kind = .function)
    (ho : K.lookup f = some ⟨oc, od, .func (fnOf name qual (params2 pa pb) [.Return (some (.BinOp (.Name (Str.ofString "a") q1) .RShift (.Name (Str.ofString "b") q2) q3)) q4] scope2 .none .none doc pm an cdv ct), osl⟩) (hcd : codeIn K cdv qual = true) (hroom : A.depth < recursionLimit) (h0 : 0 ≤ y)
    (h : ∀ t h' tk, Fr h₀ L h' m → News h₀ L h' news → Q (.int (x.fdiv (2 ^ y.toNat)) t) { s with heap := h', toks := tk }) : wpAny (model prog w) A (call (.ref f) [.int x t1, .int y t2]) Q E s :=
  op2_call (res := fun t => .int (x.fdiv (2 ^ y.toNat)) t) F N X T B hA hf hke ho hcd hroom (fun A' s' Q' E' h => PyProof.Rows.rshift_int h0 (h _ _)) h
theorem sub_call
    (F : Fr h₀ L s.heap m) (N : News h₀ L s.heap news) (X : K.In h₀) (T : Top p loose mean mg mb h₀) (B : Below A₀ base outer h₀) (hA : A.frames = some (env :: outer)) (hf : env.frame = some L) (hke : env.scope.kind = .function)
    (ho : K.lookup f = some ⟨oc, od, .func (fnOf name qual (params2 pa pb) [.Return (some (.BinOp (.Name (Str.ofString "a") q1) .Sub (.Name (Str.ofString "b") q2) q3)) q4] scope2 .none .none doc pm an cdv ct), osl⟩) (hcd : codeIn K cdv qual = true) (hroom : A.depth < recursionLimit) 
    (h : ∀ t h' tk, Fr h₀ L h' m → News h₀ L h' news → Q (.int (x - y) t) { s with heap := h', toks := tk }) : wpAny (model prog w) A (call (.ref f) [.int x t1, .int y t2]) Q E s :=
  op2_call (res := fun t => .int (x - y) t) F N X T B hA hf hke ho hcd hroom (fun A' s' Q' E' h => PySem.P.sub_int (h _ _)) h
theorem xor_call
    (F : Fr h₀ L s.heap m) (N : News h₀ L s.heap news) (X : K.In h₀) (T : Top p loose mean mg mb h₀) (B : Below A₀ base outer h₀) (hA : A.frames = some (env :: outer)) (hf : env.frame = some L) (hke : env.scope.kind = .function)
    (ho : K.lookup f = some ⟨oc, od, .func (fnOf name qual (params2 pa pb) [.Return (some (.BinOp (.Name (Str.ofString "a") q1) .BitXor (.Name (Str.ofString "b") q2) q3)) q4] scope2 .none .none doc pm an cdv ct), osl⟩) (hcd : codeIn K cdv qual = true) (hroom : A.depth < recursionLimit) 
    (h : ∀ t h' tk, Fr h₀ L h' m → News h₀ L h' news → Q (.int (Builtin.bitXor x y) t) { s with heap := h', toks := tk }) : wpAny (model prog w) A (call (.ref f) [.int x t1, .int y t2]) Q E s :=
  op2_call (res := fun t => .int (Builtin.bitXor x y) t) F N X T B hA hf hke ho hcd hroom (fun A' s' Q' E' h => PyProof.Rows.xor_int (h _ _)) h
theorem lt_call
    (F : Fr h₀ L s.heap m) (N : News h₀ L s.heap news) (X : K.In h₀) (T : Top p loose mean mg mb h₀) (B : Below A₀ base outer h₀) (hA : A.frames = some (env :: outer)) (hf : env.frame = some L) (hke : env.scope.kind = .function)
    (ho : K.lookup f = some ⟨oc, od, .func (fnOf name qual (params2 pa pb) [.Return (some (.Compare (.Name (Str.ofString "a") q1) [.Lt] [.Name (Str.ofString "b") q2] q3)) q4] scope2 .none .none doc pm an cdv ct), osl⟩) (hcd : codeIn K cdv qual = true) (hroom : A.depth < recursionLimit) 
    (h : ∀ h' tk, Fr h₀ L h' m → News h₀ L h' news → Q (.bool (decide (x < y))) { s with heap := h', toks := tk }) : wpAny (model prog w) A (call (.ref f) [.int x t1, .int y t2]) Q E s :=
  cmp2_call (res := fun _ => .bool (decide (x < y))) F N X T B hA hf hke ho hcd hroom (fun A' s' Q' E' h => PySem.P.lt_int (h 0 s'.toks)) (fun _ => h)
theorem le_call
    (F : Fr h₀ L s.heap m) (N : News h₀ L s.heap news) (X : K.In h₀) (T : Top p loose mean mg mb h₀) (B : Below A₀ base outer h₀) (hA : A.frames = some (env :: outer)) (hf : env.frame = some L) (hke : env.scope.kind = .function)
    (ho : K.lookup f = some ⟨oc, od, .func (fnOf name qual (params2 pa pb) [.Return (some (.Compare (.Name (Str.ofString "a") q1) [.LtE] [.Name (Str.ofString "b") q2] q3)) q4] scope2 .none .none doc pm an cdv ct), osl⟩) (hcd : codeIn K cdv qual = true) (hroom : A.depth < recursionLimit) 
    (h : ∀ h' tk, Fr h₀ L h' m → News h₀ L h' news → Q (.bool (decide (x ≤ y))) { s with heap := h', toks := tk }) : wpAny (model prog w) A (call (.ref f) [.int x t1, .int y t2]) Q E s :=
  cmp2_call (res := fun _ => .bool (decide (x ≤ y))) F N X T B hA hf hke ho hcd hroom (fun A' s' Q' E' h => PySem.P.le_int (h 0 s'.toks)) (fun _ => h)
theorem eq_call
    (F : Fr h₀ L s.heap m) (N : News h₀ L s.heap news) (X : K.In h₀) (T : Top p loose mean mg mb h₀) (B : Below A₀ base outer h₀) (hA : A.frames = some (env :: outer)) (hf : env.frame = some L) (hke : env.scope.kind = .function)
    (ho : K.lookup f = some ⟨oc, od, .func (fnOf name qual (params2 pa pb) [.Return (some (.Compare (.Name (Str.ofString "a") q1) [.Eq] [.Name (Str.ofString "b") q2] q3)) q4] scope2 .none .none doc pm an cdv ct), osl⟩) (hcd : codeIn K cdv qual = true) (hroom : A.depth < recursionLimit) 
    (h : ∀ h' tk, Fr h₀ L h' m → News h₀ L h' news → Q (.bool (x == y)) { s with heap := h', toks := tk }) : wpAny (model prog w) A (call (.ref f) [.int x t1, .int y t2]) Q E s :=
  cmp2_call (res := fun _ => .bool (x == y)) F N X T B hA hf hke ho hcd hroom (fun A' s' Q' E' h => PySem.P.eq_int (h 0 s'.toks)) (fun _ => h)
theorem ne_call
    (F : Fr h₀ L s.heap m) (N : News h₀ L s.heap news) (X : K.In h₀) (T : Top p loose mean mg mb h₀) (B : Below A₀ base outer h₀) (hA : A.frames = some (env :: outer)) (hf : env.frame = some L) (hke : env.scope.kind = .function)
    (ho : K.lookup f = some ⟨oc, od, .func (fnOf name qual (params2 pa pb) [.Return (some (.Compare (.Name (Str.ofString "a") q1) [.NotEq] [.Name (Str.ofString "b") q2] q3)) q4] scope2 .none .none doc pm an cdv ct), osl⟩) (hcd : codeIn K cdv qual = true) (hroom : A.depth < recursionLimit) 
    (h : ∀ h' tk, Fr h₀ L h' m → News h₀ L h' news → Q (.bool (x != y)) { s with heap := h', toks := tk }) : wpAny (model prog w) A (call (.ref f) [.int x t1, .int y t2]) Q E s :=
  cmp2_call (res := fun _ => .bool (x != y)) F N X T B hA hf hke ho hcd hroom (fun A' s' Q' E' h => PySem.P.ne_int (h 0 s'.toks)) (fun _ => h)
theorem ge_call
    (F : Fr h₀ L s.heap m) (N : News h₀ L s.heap news) (X : K.In h₀) (T : Top p loose mean mg mb h₀) (B : Below A₀ base outer h₀) (hA : A.frames = some (env :: outer)) (hf : env.frame = some L) (hke : env.scope.kind = .function)
    (ho : K.lookup f = some ⟨oc, od, .func (fnOf name qual (params2 pa pb) [.Return (some (.Compare (.Name (Str.ofString "a") q1) [.GtE] [.Name (Str.ofString "b") q2] q3)) q4] scope2 .none .none doc pm an cdv ct), osl⟩) (hcd : codeIn K cdv qual = true) (hroom : A.depth < recursionLimit) 
    (h : ∀ h' tk, Fr h₀ L h' m → News h₀ L h' news → Q (.bool (decide (y ≤ x))) { s with heap := h', toks := tk }) : wpAny (model prog w) A (call (.ref f) [.int x t1, .int y t2]) Q E s :=
  cmp2_call (res := fun _ => .bool (decide (y ≤ x))) F N X T B hA hf hke ho hcd hroom (fun A' s' Q' E' h => PySem.P.ge_int (h 0 s'.toks)) (fun _ => h)
theorem gt_call
    (F : Fr h₀ L s.heap m) (N : News h₀ L s.heap news) (X : K.In h₀) (T : Top p loose mean mg mb h₀) (B : Below A₀ base outer h₀) (hA : A.frames = some (env :: outer)) (hf : env.frame = some L) (hke : env.scope.kind = .function)
    (ho : K.lookup f = some ⟨oc, od, .func (fnOf name qual (params2 pa pb) [.Return (some (.Compare (.Name (Str.ofString "a") q1) [.Gt] [.Name (Str.ofString "b") q2] q3)) q4] scope2 .none .none doc pm an cdv ct), osl⟩) (hcd : codeIn K cdv qual = true) (hroom : A.depth < recursionLimit) 
    (h : ∀ h' tk, Fr h₀ L h' m → News h₀ L h' news → Q (.bool (decide (y < x))) { s with heap := h', toks := tk }) : wpAny (model prog w) A (call (.ref f) [.int x t1, .int y t2]) Q E s :=
  cmp2_call (res := fun _ => .bool (decide (y < x))) F N X T B hA hf hke ho hcd hroom (fun A' s' Q' E' h => PySem.P.gt_int (h 0 s'.toks)) (fun _ => h)
theorem inv_call
    (F : Fr h₀ L s.heap m) (N : News h₀ L s.heap news) (X : K.In h₀) (T : Top p loose mean mg mb h₀) (B : Below A₀ base outer h₀) (hA : A.frames = some (env :: outer)) (hf : env.frame = some L) (hke : env.scope.kind = .function)
    (ho : K.lookup f = some ⟨oc, od, .func (fnOf name qual (params1 pa) [.Return (some (.UnaryOp .Invert (.Name (Str.ofString "a") q1) q3)) q4] scope1 .none .none doc pm an cdv ct), osl⟩) (hcd : codeIn K cdv qual = true) (hroom : A.depth < recursionLimit) 
    (h : ∀ t h' tk, Fr h₀ L h' m → News h₀ L h' news → Q (.int (Builtin.bitNot x) t) { s with heap := h', toks := tk }) : wpAny (model prog w) A (call (.ref f) [.int x t1]) Q E s :=
  op1_call (res := fun t => .int (Builtin.bitNot x) t) F N X T B hA hf hke ho hcd hroom (fun A' s' Q' E' h => PyProof.Rows.invert_int (h _ _)) h
theorem neg_call
    (F : Fr h₀ L s.heap m) (N : News h₀ L s.heap news) (X : K.In h₀) (T : Top p loose mean mg mb h₀) (B : Below A₀ base outer h₀) (hA : A.frames = some (env :: outer)) (hf : env.frame = some L) (hke : env.scope.kind = .function)
    (ho : K.lookup f = some ⟨oc, od, .func (fnOf name qual (params1 pa) [.Return (some (.UnaryOp .USub (.Name (Str.ofString "a") q1) q3)) q4] scope1 .none .none doc pm an cdv ct), osl⟩) (hcd : codeIn K cdv qual = true) (hroom : A.depth < recursionLimit) 
    (h : ∀ t h' tk, Fr h₀ L h' m → News h₀ L h' news → Q (.int (-x) t) { s with heap := h', toks := tk }) : wpAny (model prog w) A (call (.ref f) [.int x t1]) Q E s :=
  op1_call (res := fun t => .int (-x) t) F N X T B hA hf hke ho hcd hroom (fun A' s' Q' E' h => PySem.P.neg_int (h _ _)) h
end
end Mine

end
section
open PySem PySem.W PyProof.Rows
namespace Mine

def thereStep (x : Int) (p : Int × Int) : Int :=
  if p.1 = 1 then x - p.2
  else if p.1 = 2 then x * p.2
  else if p.1 = 3 then -x
  else if p.1 = 4 then -x - 1
  else if p.1 = 5 then x * 2 ^ p.2.toNat
  else x + p.2

theorem there_line (a b x : Int) (p : Int × Int) : thereStep (a * x + b) p = (lineStep (a, b) p).1 * x + (lineStep (a, b) p).2 := by
  unfold thereStep lineStep
  repeat' split
  all_goals grind

theorem natAbs_bitAnd_le (x c : Int) : (Builtin.bitAnd x c).natAbs ≤ x.natAbs + c.natAbs + 1 := by
  by_cases hc : 0 ≤ c
  · have := bitAnd_range x hc
    omega
  · have h := bitAnd_range x (y := Builtin.bitNot c) (by unfold Builtin.bitNot; omega)
    have h2 := bitAnd_not x (Builtin.bitNot c)
    have h3 : Builtin.bitNot (Builtin.bitNot c) = c := by unfold Builtin.bitNot; omega
    rw [h3] at h2
    have h4 : Builtin.bitNot c = -c - 1 := rfl
    omega

theorem shl_ok {a n : Int} (ha : a.natAbs < 2 ^ 240) (h2 : n ≤ 4) : (Builtin.Int.intBits a : Int) + n ≤ 2 ^ 27 := by
  have h := intBits_le_iff.mpr ha
  omega

theorem pow_small {c : Int} (h : c ≤ 4) : (2 : Int) ^ c.toNat ≤ 16 ∧ 1 ≤ (2 : Int) ^ c.toNat := by
  have h' : c.toNat ≤ 4 := by omega
  generalize c.toNat = n at h'
  match n, h' with
  | 0, _ | 1, _ | 2, _ | 3, _ | 4, _ => decide

theorem there_bound {x k c : Int} {n : Nat} (hx : x.natAbs < 2 ^ (100 + 6 * n)) (h3 : -21 ≤ c) (h4 : c ≤ 21) (h5 : k = 5 → 0 ≤ c ∧ c ≤ 4) :
    (thereStep x (k, c)).natAbs < 2 ^ (100 + 6 * (n + 1)) := by
  have e : 2 ^ (100 + 6 * (n + 1)) = 2 ^ (100 + 6 * n) * 64 := by
    rw [show 100 + 6 * (n + 1) = (100 + 6 * n) + 6 by omega, Nat.pow_add]
  have hM : 2 ^ 6 ≤ 2 ^ (100 + 6 * n) := Nat.pow_le_pow_right (by decide) (by omega)
  rw [e]
  generalize 2 ^ (100 + 6 * n) = M at hx hM
  simp only [thereStep]
  repeat' split
  · omega
  · rw [Int.natAbs_mul]
    have : x.natAbs * c.natAbs ≤ x.natAbs * 21 := Nat.mul_le_mul_left _ (by omega)
    omega
  · omega
  · omega
  · rename_i h
    have hp := pow_small (h5 h).2
    rw [Int.natAbs_mul]
    have : x.natAbs * ((2 : Int) ^ c.toNat).natAbs ≤ x.natAbs * 16 := Nat.mul_le_mul_left _ (by omega)
    omega
  · omega

theorem there_end {pre : List (Int × Int)} {x x' k c v : Int} (hp : x' = (line pre).1 * x + (line pre).2 ∧ x'.natAbs < 2 ^ (100 + 6 * pre.length)) (h3 : -21 ≤ c) (h4 : c ≤ 21) (h5 : k = 5 → 0 ≤ c ∧ c ≤ 4)
    (hv : v = thereStep x' (k, c)) : v = (line (pre ++ [(k, c)])).1 * x + (line (pre ++ [(k, c)])).2 ∧ v.natAbs < 2 ^ (100 + 6 * (pre ++ [(k, c)]).length) := by
  constructor
  · rw [hv, hp.1, there_line, line_snoc]
  · rw [hv, List.length_append]
    exact there_bound hp.2 h3 h4 h5

theorem pow_le_400 {x : Int} {n : Nat} (h : x.natAbs < 2 ^ (100 + 6 * n)) (hn : n < 20) : x.natAbs < 2 ^ 230 :=
  Nat.lt_of_lt_of_le h (Nat.pow_le_pow_right (by decide) (by omega))
theorem and_400 {x c : Int} (h : x.natAbs < 2 ^ 230) (h3 : -21 ≤ c) (h4 : c ≤ 21) : (Builtin.bitAnd x c).natAbs < 2 ^ 240 := by
  have h1 := natAbs_bitAnd_le x c
  have h2 : 2 ^ 230 + 30 ≤ 2 ^ 240 := by decide
  generalize 2 ^ 230 = M at h h2
  generalize 2 ^ 240 = M' at h2
  omega
theorem lt_400 {x : Int} (h : x.natAbs < 2 ^ 230) : x.natAbs < 2 ^ 240 :=
  Nat.lt_of_lt_of_le h (Nat.pow_le_pow_right (by decide) (by decide))
theorem mul_ok_right {x r : Int} (h1 : -21 ≤ r) (h2 : r ≤ 21) : IntMulOk x r :=
  IntMulOk.of_right (intBits_le_iff.mpr (Nat.lt_of_lt_of_le (show r.natAbs < 2 ^ 5 by omega) (Nat.pow_le_pow_right (by decide) (by decide))))
end Mine

end
section
open PySem PySem.W PyProof.Rows PySem.Spec PySem.Calls
namespace Mine


set_option maxRecDepth 100000 in
set_option maxHeartbeats 8000000 in
theorem there_tells {w : World} {mean : ExcName → Option Value} {mg mb : Str → Option Value} 
   (dp un : Nat) (gd : Option (List Code)) (cn : Str) (cs : Scope) (a : Addr) (ccd : Value) (cl : List (Str × Addr)) (outer : List Env) (A₀ : Around) (base h₀ : Heap) (L : Addr) (m : Str → Option Value) (news : List (Addr × Obj)) (s : Shared)
   (l : Addr) (us : List Value) (nn : Nat) (d : List (Int × Int)) (x : Int) (t : Tok)
    (Q E : Value → Shared → Prop)
    (B : Below A₀ base outer h₀) (F : Fr h₀ L s.heap m) (X : (hd.heap_39 w.params).In h₀) (N : News h₀ L s.heap news) (T : Top hd.view_39 (looseW hd.view_39 []) mean mg mb h₀) (hk : cs.kind = .function) 
    (hl : (l, listOf us.toArray nn) ∈ news) (hP : PairsIn news us d) (hG : Good d) (hx : x.natAbs < 2 ^ 100) (hdp : dp + 10 < recursionLimit)
    (hret : ∀ t' h' tk', Fr h₀ L h' m → News h₀ L h' news → Q (.int ((line d).1 * x + (line d).2) t') { s with heap := h', toks := tk' }) :
    wpAny (model Challenge.rw_ny0463_01.row.prog w) (ktrTop dp un gd cn cs L a ccd cl outer) (call (.ref 175) [.ref l, .int x t]) Q E s := by
  w_on
  k_with_none
  k_with "exec For Tuple Name cons nil" => (k_here; (rename Fr _ _ _ _ => lF'); (with_unfolding_all refine' For_turns lF' ?_; k_whole))
  k_with "call ref" => (k_here; (with_reducible show wpAny _ _ (call (Value.ref 63) _) _ _ _); k_dflt (refine' add_call ?F ?N ?X ?T ?B ?hA ?hf ?hke ?ho ?hcd ?hroom  ?_; (case F => k_asm); (case N => k_asm); (case X => k_asm); (case T => k_asm); (case B => k_asm); (case hA => exact rfl); (case hf => exact rfl); (case hke => exact rfl); (case ho => k_is); (case hcd => k_is); (case hroom => ktr_room)); intro t' h' tk' F' N'; (try k_sweep))
  k_with "call ref" => (k_here; (with_reducible show wpAny _ _ (call (Value.ref 133) _) _ _ _); k_dflt (refine' sub_call ?F ?N ?X ?T ?B ?hA ?hf ?hke ?ho ?hcd ?hroom  ?_; (case F => k_asm); (case N => k_asm); (case X => k_asm); (case T => k_asm); (case B => k_asm); (case hA => exact rfl); (case hf => exact rfl); (case hke => exact rfl); (case ho => k_is); (case hcd => k_is); (case hroom => ktr_room)); intro t' h' tk' F' N'; (try k_sweep))
  k_with "call ref" => (k_here; (with_reducible show wpAny _ _ (call (Value.ref 105) _) _ _ _); k_dflt (refine' mul_call ?F ?N ?X ?T ?B ?hA ?hf ?hke ?ho ?hcd ?hroom ?e0 ?_; (case F => k_asm); (case N => k_asm); (case X => k_asm); (case T => k_asm); (case B => k_asm); (case hA => exact rfl); (case hf => exact rfl); (case hke => exact rfl); (case ho => k_is); (case hcd => k_is); (case hroom => ktr_room); (case e0 => exact mul_ok_right (by omega) (by omega))); intro t' h' tk' F' N'; (try k_sweep))
  k_with "call ref" => (k_here; (with_reducible show wpAny _ _ (call (Value.ref 112) _) _ _ _); k_dflt (refine' neg_call ?F ?N ?X ?T ?B ?hA ?hf ?hke ?ho ?hcd ?hroom  ?_; (case F => k_asm); (case N => k_asm); (case X => k_asm); (case T => k_asm); (case B => k_asm); (case hA => exact rfl); (case hf => exact rfl); (case hke => exact rfl); (case ho => k_is); (case hcd => k_is); (case hroom => ktr_room)); intro t' h' tk' F' N'; (try k_sweep))
  k_with "call ref" => (k_here; (with_reducible show wpAny _ _ (call (Value.ref 84) _) _ _ _); k_dflt (refine' inv_call ?F ?N ?X ?T ?B ?hA ?hf ?hke ?ho ?hcd ?hroom  ?_; (case F => k_asm); (case N => k_asm); (case X => k_asm); (case T => k_asm); (case B => k_asm); (case hA => exact rfl); (case hf => exact rfl); (case hke => exact rfl); (case ho => k_is); (case hcd => k_is); (case hroom => ktr_room)); intro t' h' tk' F' N'; (try k_sweep))
  k_with "call ref" => (k_here; (with_reducible show wpAny _ _ (call (Value.ref 91) _) _ _ _); k_dflt (refine' lshift_call ?F ?N ?X ?T ?B ?hA ?hf ?hke ?ho ?hcd ?hroom ?e0 ?e1 ?_; (case F => k_asm); (case N => k_asm); (case X => k_asm); (case T => k_asm); (case B => k_asm); (case hA => exact rfl); (case hf => exact rfl); (case hke => exact rfl); (case ho => k_is); (case hcd => k_is); (case hroom => ktr_room); (case e0 => omega); (case e1 => exact shl_ok (by assumption) (by omega))); intro t' h' tk' F' N'; (try k_sweep))
  k_with "call ref" => (k_here; (with_reducible show wpAny _ _ (call (Value.ref 140) _) _ _ _); k_dflt (refine' xor_call ?F ?N ?X ?T ?B ?hA ?hf ?hke ?ho ?hcd ?hroom  ?_; (case F => k_asm); (case N => k_asm); (case X => k_asm); (case T => k_asm); (case B => k_asm); (case hA => exact rfl); (case hf => exact rfl); (case hke => exact rfl); (case ho => k_is); (case hcd => k_is); (case hroom => ktr_room)); intro t' h' tk' F' N'; (try k_sweep))
  k_with "call ref" => (k_here; (with_reducible show wpAny _ _ (call (Value.ref 70) _) _ _ _); k_dflt (refine' and_call ?F ?N ?X ?T ?B ?hA ?hf ?hke ?ho ?hcd ?hroom  ?_; (case F => k_asm); (case N => k_asm); (case X => k_asm); (case T => k_asm); (case B => k_asm); (case hA => exact rfl); (case hf => exact rfl); (case hke => exact rfl); (case ho => k_is); (case hcd => k_is); (case hroom => ktr_room)); intro t' h' tk' F' N'; (try k_sweep))
  k_with "call ref" => (k_here; (with_reducible show wpAny _ _ (call (Value.ref 119) _) _ _ _); k_dflt (refine' or_call ?F ?N ?X ?T ?B ?hA ?hf ?hke ?ho ?hcd ?hroom  ?_; (case F => k_asm); (case N => k_asm); (case X => k_asm); (case T => k_asm); (case B => k_asm); (case hA => exact rfl); (case hf => exact rfl); (case hke => exact rfl); (case ho => k_is); (case hcd => k_is); (case hroom => ktr_room)); intro t' h' tk' F' N'; (try k_sweep))
  revert X
  k_fill
  intro X
  refine wpAny_call ?_
  k_dflt ktr_enter
  k_steps
  rename Fr _ _ _ _ => lF'
  rename News _ _ _ _ => lN'
  refine' pairs_iter (σ := Int × Tok) (fun _ => []) _ (fun c => [(Str.ofString "x", Value.int c.1 c.2)]) (fun pre c => c.1 = (line pre).1 * x + (line pre).2 ∧ c.1.natAbs < 2 ^ (100 + 6 * pre.length)) (_, _) ?h1 ?h2 hP ?h3 ?h4 ?h5 lF' lN' ?h6 ?h7 ?h8 ?turn ?done
  case h1 => rfl
  case h2 => assumption
  case h3 => rfl
  case h4 => rfl
  case h5 => rfl
  case h6 => exact fun _ h => h
  case h7 => kst_all
  case h8 => exact ⟨by show x = 1 * x + 0; omega, hx⟩
  case turn =>
    rintro ⟨x', tx'⟩ pre' ⟨k', c'⟩ post' t1' t2' u' h' tk' own' hds' hp' hoff' F' N'
    obtain ⟨hg0, hg1, hg2, hg3, hg4, hg5, hg6⟩ := Good.here hG hds'
    clear lF' lN'
    simp only [List.nil_append] at N' hoff'
    dsimp only [kstB] at hp' F' N'
    have hx1 := pow_le_400 hp'.2 hg0
    have hx2 := lt_400 hx1
    have hx3 := and_400 hx1 hg3 hg4
    k_steps
    all_goals (refine' pk_end (_, _) ?F ?N ?hn ?ho ?ha ?hk ?hp; (case F => assumption); (case N => assumption); (case hn => exact fun p hp => List.mem_append.mpr (.inl hp)); (case ho => exact fun p hp => List.mem_append.mpr (.inr hp)); (case ha => exact hoff'); (case hk => kst_all); (case hp => (refine there_end hp' hg3 hg4 hg6 ?_; (dsimp only); simp only [thereStep, bitXor_and, bitOr_and, Builtin.bitNot, show (2 : Int) ^ Int.toNat 1 = 2 from rfl]; (repeat' split) <;> first | rfl | omega | (exfalso; omega))))
  case done =>
    rintro ⟨x', tx'⟩ u' h' tk' hp' F' N'
    clear lF' lN'
    have ea : x' = (line d).1 * x + (line d).2 := hp'.1
    subst ea
    simp only [List.nil_append] at N'
    dsimp only [kstB] at hp' F' N'
    k_steps
    exact hret _ _ _ (by assumption) (by assumption)
end Mine

end
section
open PySem PySem.W PyProof.Rows
namespace Mine
def backStep (s : Int × List Int) (p : Int × Int) : Int × List Int :=
  if p.1 = 1 then (s.1 + p.2, s.2)
  else if p.1 = 2 then (s.1.fdiv p.2, s.2 ++ [s.1.fmod p.2])
  else if p.1 = 3 then (-s.1, s.2)
  else if p.1 = 4 then (-s.1 - 1, s.2)
  else if p.1 = 5 then (s.1.fdiv (2 ^ p.2.toNat), s.2 ++ [s.1.fmod (2 ^ p.2.toNat)])
  else (s.1 - p.2, s.2)
def back (rd : List (Int × Int)) (x : Int) : Int × List Int := rd.foldl backStep (x, [])

theorem back_snoc (pre : List (Int × Int)) (p : Int × Int) (x : Int) : back (pre ++ [p]) x = backStep (back pre x) p := by
  simp [back, List.foldl_append]

theorem mask_fmod {x c : Int} (h : c ≤ 4) : Builtin.bitAnd x (1 * 2 ^ c.toNat - 1) = x.fmod (2 ^ c.toNat) := by
  have h' : c.toNat ≤ 4 := by omega
  generalize c.toNat = n at h'
  match n, h' with
  | 0, _ =>
    show Builtin.bitAnd x 0 = x.fmod 1
    rw [bitAnd_zero, Int.fmod_one]
  | 1, _ =>
    show Builtin.bitAnd x 1 = x.fmod 2
    rw [bitAnd_m1, Int.fmod_eq_emod_of_nonneg _ (by decide)]
  | 2, _ =>
    show Builtin.bitAnd x 3 = x.fmod 4
    rw [bitAnd_m2, Int.fmod_eq_emod_of_nonneg _ (by decide)]
  | 3, _ =>
    show Builtin.bitAnd x 7 = x.fmod 8
    rw [bitAnd_m3, Int.fmod_eq_emod_of_nonneg _ (by decide)]
  | 4, _ =>
    show Builtin.bitAnd x 15 = x.fmod 16
    rw [bitAnd_m4, Int.fmod_eq_emod_of_nonneg _ (by decide)]

theorem not_and (x c : Int) : Builtin.bitAnd (Builtin.bitNot x) c = c - Builtin.bitAnd x c := by
  rw [bitAnd_comm, bitAnd_not, bitAnd_comm c x]

theorem back_bound {s : Int × List Int} {k c : Int} {B : Nat} (hs : s.1.natAbs < B) (h3 : -21 ≤ c) (h4 : c ≤ 21) : (backStep s (k, c)).1.natAbs < B + 25 := by
  unfold backStep
  dsimp only
  have h1 := natAbs_fdiv_le s.1 c
  have h2 := natAbs_fdiv_le s.1 (2 ^ c.toNat)
  repeat' split
  all_goals (dsimp only; omega)

theorem back_len {s : Int × List Int} {p : Int × Int} : (backStep s p).2.length ≤ s.2.length + 1 := by
  unfold backStep
  repeat' split
  all_goals simp

/-- what is kept of the loop of _law_back -/
def BackInv (x : Int) (pre : List (Int × Int)) (x' : Int) (vs : List Value) (ns : List Int) : Prop :=
  (x', ns) = back pre x ∧ x'.natAbs < 2 ^ 220 + 25 * pre.length ∧ ns.length ≤ pre.length ∧ IntsAre vs ns

theorem BackInv.next {x x' v k c : Int} {pre : List (Int × Int)} {vs vs' : List Value} {ns ns' : List Int} (h : BackInv x pre x' vs ns) (h3 : -21 ≤ c) (h4 : c ≤ 21)
    (hv : (v, ns') = backStep (x', ns) (k, c)) (hi : IntsAre vs' ns') : BackInv x (pre ++ [(k, c)]) v vs' ns' := by
  obtain ⟨e, hb, hl, _⟩ := h
  refine ⟨?_, ?_, ?_, hi⟩
  · rw [back_snoc, ← e, hv]
  · have := back_bound (s := (x', ns)) (k := k) hb h3 h4
    rw [← hv] at this
    rw [List.length_append]
    simp only [List.length_singleton]
    generalize 2 ^ 220 = M at *
    dsimp only at this
    omega
  · have := back_len (s := (x', ns)) (p := (k, c))
    rw [← hv] at this
    rw [List.length_append]
    simp only [List.length_singleton]
    dsimp only at this
    omega
theorem BackInv.small {x x' : Int} {pre : List (Int × Int)} {vs : List Value} {ns : List Int} (h : BackInv x pre x' vs ns) (hn : pre.length < 20) : x'.natAbs < 2 ^ 230 := by
  have h1 := h.2.1
  have h2 : 2 ^ 220 + 25 * 20 ≤ 2 ^ 230 := by decide
  generalize 2 ^ 220 = M at *
  generalize 2 ^ 230 = M' at *
  omega
theorem BackInv.len {x x' : Int} {pre : List (Int × Int)} {vs : List Value} {ns : List Int} (h : BackInv x pre x' vs ns) (hn : pre.length < 20) : vs.length ≤ 100 := by
  have h1 := h.2.2.2.length
  have h2 := h.2.2.1
  omega
theorem not_and_small {x c : Int} (h : x.natAbs < 2 ^ 230) (h3 : -21 ≤ c) (h4 : c ≤ 21) : (Builtin.bitAnd (Builtin.bitNot x) c).natAbs < 2 ^ 240 := by
  have h1 := natAbs_bitAnd_le (Builtin.bitNot x) c
  have h2 : 2 ^ 230 + 30 ≤ 2 ^ 240 := by decide
  have h4 : Builtin.bitNot x = -x - 1 := rfl
  generalize 2 ^ 230 = M at *
  generalize 2 ^ 240 = M' at *
  omega
end Mine

end
section
open PySem PySem.W PyProof.Rows
namespace Mine
theorem PairsIn.rev {news : List (Addr × Obj)} {us ds} (h : PairsIn news us ds) : PairsIn news us.reverse ds.reverse := by
  refine ⟨by simp [h.1], fun i p e => ?_⟩
  have hi : i < ds.reverse.length := (List.getElem?_eq_some_iff.mp e).1
  have hi' : i < ds.length := by simpa using hi
  rw [List.getElem?_reverse hi'] at e
  obtain ⟨a, t1, t2, n, e1, e2⟩ := h.2 _ _ e
  exact ⟨a, t1, t2, n, by rw [List.getElem?_reverse (by rw [h.1]; exact hi'), h.1]; exact e1, e2⟩
theorem Good.rev {d : List (Int × Int)} (h : Good d) : Good d.reverse := ⟨by simpa using h.1, fun p hp => h.2 p (by simpa using hp)⟩
theorem isList_news {h₀ h : Heap} {L l : Addr} {its : Array Value} {nn : Nat} {news : List (Addr × Obj)} (N : News h₀ L h news) (hm : (l, listOf its nn) ∈ news) : h.IsList l its := ⟨_, (N _ hm).1, rfl, nn, rfl⟩
theorem size_ok {news : List (Addr × Obj)} {us d} (h : PairsIn news us d) (g : Good d) : us.toArray.size ≤ sizeLine := by
  have h1 := h.1
  have h2 := g.1
  rw [sizeLine_eq, List.size_toArray]
  omega
theorem allLt_to {d : Addr} : ∀ {l : List (Addr × Obj)}, AllLt d l → ∀ p ∈ l, p.1 < d
  | [], _, _, hp => (nomatch hp)
  | q :: r, h, p, hp => by
    rcases List.mem_cons.mp hp with rfl | hp
    · exact h.1
    · exact allLt_to h.2 p hp

section
variable {prog : Program} {w : World} {A : Around} {E : Value → Shared → Prop} {s : Shared} {env : Env} {h₀ : Heap} {k1 c1 : Str} {p1 p2 : Pos} {kk : Nat} {pt : Pos} {body : List Stmt} {Q : Flow → Shared → Prop}

theorem append_head {L r : Addr} {m : Str → Option Value} {vs : List Value} {n : Nat} {v : Value} {rest : List (Addr × Obj)} {Q' : Value → Shared → Prop}
    (F : Fr h₀ L s.heap m) (N : News h₀ L s.heap ((r, listOf vs.toArray n) :: rest)) (hne : ∀ p ∈ rest, p.1 ≠ r) (hz : vs.length ≤ 100)
    (h : ∀ h', Fr h₀ L h' m → News h₀ L h' ((r, listOf (vs ++ [v]).toArray (n + 1)) :: rest) → Q' .none { s with heap := h' }) :
    wpAny (model prog w) A (call (.builtin "list.append") [.ref r, v]) Q' E s := by
  refine append_K F N (Upd.head hne) (fun h' F' N' => h h' F' ?_) (by rw [sizeLine_eq, List.size_toArray]; omega)
  rw [List.push_toArray] at N'
  exact N'

/-- the same loop, a list r grown by it -/
theorem grow_iter {σ : Type} {r D : Addr} {us : List Value} {ds : List (Int × Int)} {nD nr : Nat} {m₀ : Str → Option Value} {news : List (Addr × Obj)}
    (val : σ → List Value) (num : σ → Nat) (tl : σ → List (Addr × Obj)) (ps : Addr → σ → List (Str × Value)) (P : List (Int × Int) → σ → Prop) (c₀ : σ)
    (hh : A.handled = none) (hd : PairsIn news us ds)
    (hx1 : env.kindOf k1 = some .local) (hx2 : env.kindOf c1 = some .local)
    (hp : (env.scope.kind == .class || (env.scope.kind == .module && env.locals != env.globals)) = false)
    (F : Fr h₀ env.locals s.heap m₀) (N : News h₀ env.locals s.heap ((D, listOf us.toArray nD) :: (r, listOf #[] nr) :: news))
    (hv0 : val c₀ = []) (hn0 : num c₀ = nr) (ht0 : tl c₀ = []) (hlD : r < D) (hlr : ∀ p ∈ news, p.1 < r)
    (hk : ∀ p ∈ ps r c₀, m₀ p.1 = some p.2) (hp0 : P [] c₀)
    (turn : ∀ (c : σ) pre p post t1 t2 (u : Str → Option Value) h tk own, ds = pre ++ p :: post → P pre c → OwnOff own (((r, listOf (val c).toArray (num c)) :: (tl c ++ ((D, listOf us.toArray nD) :: news))).map (·.1)) →
      (∀ q ∈ tl c ++ ((D, listOf us.toArray nD) :: (news ++ own)), q.1 ≠ r) → (∀ q ∈ tl c, q.1 ≠ r) →
      Fr h₀ env.locals h (fun y => if y = c1 then some (.int p.2 t2) else if y = k1 then some (.int p.1 t1) else kstB u (ps r c) y) →
      News h₀ env.locals h ((r, listOf (val c).toArray (num c)) :: (tl c ++ ((D, listOf us.toArray nD) :: (news ++ own)))) →
      wpAny (model prog w) A (execs body env) (InvPostG h₀ env.locals (PkS (fun c => (r, listOf (val c).toArray (num c)) :: tl c) ((D, listOf us.toArray nD) :: news) (ps r) (fun pre c => P pre c ∧ ∀ q ∈ tl c, q.1 ≠ r) (pre ++ [p])) own { s with heap := h, toks := tk } Q) E { s with heap := h, toks := tk })
    (done : ∀ (c : σ) (u : Str → Option Value) h tk, P ds c → (∀ q ∈ tl c, q.1 ≠ r) → Fr h₀ env.locals h (kstB u (ps r c)) → News h₀ env.locals h ((r, listOf (val c).toArray (num c)) :: (tl c ++ ((D, listOf us.toArray nD) :: news))) → Q .next { s with heap := h, toks := tk }) :
    wpAny (model prog w) A (pyIter (.ref D)) (fun it s₂ => TurnsAt prog w A h₀ env (.Tuple [.Name k1 p1, .Name c1 p2] kk pt) body Q E it s₂) E s := by
  refine pairs_iter (fun c => (r, listOf (val c).toArray (num c)) :: tl c) ((D, listOf us.toArray nD) :: news) (ps r) (fun pre c => P pre c ∧ ∀ q ∈ tl c, q.1 ≠ r) c₀ hh (.head _) (hd.mono fun p hp => .tail _ hp) hx1 hx2 hp F N ?_ hk ⟨hp0, by rw [ht0]; exact fun _ h => nomatch h⟩ ?_ ?_
  · intro p hp
    rw [hv0, hn0, ht0] at hp
    rcases List.mem_cons.mp hp with rfl | hp
    · exact .tail _ (.head _)
    · rcases List.mem_cons.mp hp with rfl | hp
      · exact .head _
      · exact .tail _ (.tail _ hp)
  · intro c pre p post t1 t2 u h tk own e1 hP hoff F' N'
    refine turn c pre p post t1 t2 u h tk own e1 hP.1 hoff ?_ hP.2 F' N'
    intro q hq
    rcases List.mem_append.mp hq with hq | hq
    · exact hP.2 q hq
    · rcases List.mem_cons.mp hq with rfl | hq
      · exact Nat.ne_of_gt hlD
      · rcases List.mem_append.mp hq with hq | hq
        · exact Nat.ne_of_lt (hlr q hq)
        · exact hoff q hq r (.head _)
  · intro c u h tk hP F' N'
    exact done c u h tk hP.1 hP.2 F' N'
end
end Mine

end
section
open PySem PySem.W PyProof.Rows PySem.Spec PySem.Calls
namespace Mine
theorem ends_sub {q D : Addr × Obj} {news own : List (Addr × Obj)} : ∀ p ∈ [q] ++ (D :: news), p ∈ q :: D :: (news ++ own) := by
  intro p hp
  simp only [List.cons_append, List.nil_append, List.mem_cons, List.mem_append] at hp ⊢
  rcases hp with h | h | h
  · exact .inl h
  · exact .inr (.inl h)
  · exact .inr (.inr (.inl h))
theorem ends_own {q D : Addr × Obj} {news own : List (Addr × Obj)} : ∀ p ∈ own, p ∈ q :: D :: (news ++ own) := fun p hp => .tail _ (.tail _ (List.mem_append.mpr (.inr hp)))
theorem drop_third {p a b c : Addr × Obj} {news : List (Addr × Obj)} (h : p ∈ a :: b :: news) : p ∈ a :: b :: c :: news := by
  simp only [List.mem_cons] at h ⊢
  rcases h with h | h | h
  · exact .inl h
  · exact .inr (.inl h)
  · exact .inr (.inr (.inr h))
set_option maxRecDepth 100000 in
set_option maxHeartbeats 8000000 in
theorem back_tells {w : World} {mean : ExcName → Option Value} {mg mb : Str → Option Value} 
   (dp un : Nat) (gd : Option (List Code)) (cn : Str) (cs : Scope) (a : Addr) (ccd : Value) (cl : List (Str × Addr)) (outer : List Env) (A₀ : Around) (base h₀ : Heap) (L : Addr) (m : Str → Option Value) (news : List (Addr × Obj)) (s : Shared)
   (l : Addr) (us : List Value) (nn : Nat) (d : List (Int × Int)) (x : Int) (t : Tok)
    (Q E : Value → Shared → Prop)
    (B : Below A₀ base outer h₀) (F : Fr h₀ L s.heap m) (X : (hd.heap_39 w.params).In h₀) (N : News h₀ L s.heap news) (T : Top hd.view_39 (looseW hd.view_39 []) mean mg mb h₀) (hk : cs.kind = .function) 
    (hl : (l, listOf us.toArray nn) ∈ news) (hP : PairsIn news us d) (hG : Good d) (hx : x.natAbs < 2 ^ 220) (hdp : dp + 10 < recursionLimit)
    (hret : ∀ R r z ns vs n n' t h' tk', (z, ns) = back d.reverse x → IntsAre vs ns → Fr h₀ L h' m → News h₀ L h' ((R, { cls := .type "tuple", data := .seq #[.int z t, .ref r] n }) :: (r, listOf vs.toArray n') :: news) → r < R → (∀ q ∈ news, q.1 < r) → Q (.ref R) { s with heap := h', toks := tk' }) :
    wpAny (model Challenge.rw_ny0463_01.row.prog w) (ktrTop dp un gd cn cs L a ccd cl outer) (call (.ref 182) [.ref l, .int x t]) Q E s := by
  w_on
  k_with_none
  k_with "exec For Tuple Subscript cons nil" => (k_here; (rename Fr _ _ _ _ => lF'); (with_unfolding_all refine' For_turns lF' ?_; k_whole))
  k_with "call builtin:list.append" => (k_here; (rename Fr _ _ _ _ => lF'); (rename News _ _ _ _ => lN'); (rename ∀ (q : Addr × Obj), q ∈ _ → q.1 ≠ _ => lS'); k_dflt (refine' append_head lF' lN' lS' ?kz ?_; (case kz => assumption)); clear lF' lN'; intro h' F' N')
  k_with "subscriptTail Name Slice ref ref" => ((rename Fr _ _ _ _ => lF'); (rename News _ _ _ _ => lN'); (k_here; k_dflt (refine' krv_lit lF' lN' (isList_news lN' (.tail _ (by assumption))) ?k rfl ?_ ?s ?t ?z; (case z => exact size_ok (by assumption) (by assumption)); (case k => exact IsPart.int _ _); (case s => with_unfolding_all rfl); (case t => kmk_pure))); clear lF' lN'; intro D' h' F' N' l1; (try k_lt l1); (try k_sweep))
  k_with "call ref" => (k_here; (with_reducible show wpAny _ _ (call (Value.ref 63) _) _ _ _); k_dflt (refine' add_call ?F ?N ?X ?T ?B ?hA ?hf ?hke ?ho ?hcd ?hroom  ?_; (case F => k_asm); (case N => k_asm); (case X => k_asm); (case T => k_asm); (case B => k_asm); (case hA => exact rfl); (case hf => exact rfl); (case hke => exact rfl); (case ho => k_is); (case hcd => k_is); (case hroom => ktr_room)); intro t' h' tk' F' N'; (try k_sweep))
  k_with "call ref" => (k_here; (with_reducible show wpAny _ _ (call (Value.ref 133) _) _ _ _); k_dflt (refine' sub_call ?F ?N ?X ?T ?B ?hA ?hf ?hke ?ho ?hcd ?hroom  ?_; (case F => k_asm); (case N => k_asm); (case X => k_asm); (case T => k_asm); (case B => k_asm); (case hA => exact rfl); (case hf => exact rfl); (case hke => exact rfl); (case ho => k_is); (case hcd => k_is); (case hroom => ktr_room)); intro t' h' tk' F' N'; (try k_sweep))
  k_with "call ref" => (k_here; (with_reducible show wpAny _ _ (call (Value.ref 98) _) _ _ _); k_dflt (refine' mod_call ?F ?N ?X ?T ?B ?hA ?hf ?hke ?ho ?hcd ?hroom ?e0 ?_; (case F => k_asm); (case N => k_asm); (case X => k_asm); (case T => k_asm); (case B => k_asm); (case hA => exact rfl); (case hf => exact rfl); (case hke => exact rfl); (case ho => k_is); (case hcd => k_is); (case hroom => ktr_room); (case e0 => omega)); intro t' h' tk' F' N'; (try k_sweep))
  k_with "call ref" => (k_here; (with_reducible show wpAny _ _ (call (Value.ref 77) _) _ _ _); k_dflt (refine' floordiv_call ?F ?N ?X ?T ?B ?hA ?hf ?hke ?ho ?hcd ?hroom ?e0 ?e1 ?_; (case F => k_asm); (case N => k_asm); (case X => k_asm); (case T => k_asm); (case B => k_asm); (case hA => exact rfl); (case hf => exact rfl); (case hke => exact rfl); (case ho => k_is); (case hcd => k_is); (case hroom => ktr_room); (case e0 => omega); (case e1 => exact PyProof.noPylong_small (by omega))); intro t' h' tk' F' N'; (try k_sweep))
  k_with "call ref" => (k_here; (with_reducible show wpAny _ _ (call (Value.ref 112) _) _ _ _); k_dflt (refine' neg_call ?F ?N ?X ?T ?B ?hA ?hf ?hke ?ho ?hcd ?hroom  ?_; (case F => k_asm); (case N => k_asm); (case X => k_asm); (case T => k_asm); (case B => k_asm); (case hA => exact rfl); (case hf => exact rfl); (case hke => exact rfl); (case ho => k_is); (case hcd => k_is); (case hroom => ktr_room)); intro t' h' tk' F' N'; (try k_sweep))
  k_with "call ref" => (k_here; (with_reducible show wpAny _ _ (call (Value.ref 84) _) _ _ _); k_dflt (refine' inv_call ?F ?N ?X ?T ?B ?hA ?hf ?hke ?ho ?hcd ?hroom  ?_; (case F => k_asm); (case N => k_asm); (case X => k_asm); (case T => k_asm); (case B => k_asm); (case hA => exact rfl); (case hf => exact rfl); (case hke => exact rfl); (case ho => k_is); (case hcd => k_is); (case hroom => ktr_room)); intro t' h' tk' F' N'; (try k_sweep))
  k_with "call ref" => (k_here; (with_reducible show wpAny _ _ (call (Value.ref 70) _) _ _ _); k_dflt (refine' and_call ?F ?N ?X ?T ?B ?hA ?hf ?hke ?ho ?hcd ?hroom  ?_; (case F => k_asm); (case N => k_asm); (case X => k_asm); (case T => k_asm); (case B => k_asm); (case hA => exact rfl); (case hf => exact rfl); (case hke => exact rfl); (case ho => k_is); (case hcd => k_is); (case hroom => ktr_room)); intro t' h' tk' F' N'; (try k_sweep))
  k_with "call ref" => (k_here; (with_reducible show wpAny _ _ (call (Value.ref 91) _) _ _ _); k_dflt (refine' lshift_call ?F ?N ?X ?T ?B ?hA ?hf ?hke ?ho ?hcd ?hroom ?e0 ?e1 ?_; (case F => k_asm); (case N => k_asm); (case X => k_asm); (case T => k_asm); (case B => k_asm); (case hA => exact rfl); (case hf => exact rfl); (case hke => exact rfl); (case ho => k_is); (case hcd => k_is); (case hroom => ktr_room); (case e0 => omega); (case e1 => exact shl_ok (by assumption) (by omega))); intro t' h' tk' F' N'; (try k_sweep))
  k_with "call ref" => (k_here; (with_reducible show wpAny _ _ (call (Value.ref 126) _) _ _ _); k_dflt (refine' rshift_call ?F ?N ?X ?T ?B ?hA ?hf ?hke ?ho ?hcd ?hroom ?e0 ?_; (case F => k_asm); (case N => k_asm); (case X => k_asm); (case T => k_asm); (case B => k_asm); (case hA => exact rfl); (case hf => exact rfl); (case hke => exact rfl); (case ho => k_is); (case hcd => k_is); (case hroom => ktr_room); (case e0 => omega)); intro t' h' tk' F' N'; (try k_sweep))
  k_with "call ref" => (k_here; (with_reducible show wpAny _ _ (call (Value.ref 140) _) _ _ _); k_dflt (refine' xor_call ?F ?N ?X ?T ?B ?hA ?hf ?hke ?ho ?hcd ?hroom  ?_; (case F => k_asm); (case N => k_asm); (case X => k_asm); (case T => k_asm); (case B => k_asm); (case hA => exact rfl); (case hf => exact rfl); (case hke => exact rfl); (case ho => k_is); (case hcd => k_is); (case hroom => ktr_room)); intro t' h' tk' F' N'; (try k_sweep))
  revert X
  k_fill
  intro X
  refine wpAny_call ?_
  k_dflt ktr_enter
  k_steps
  rename Fr _ _ _ _ => lF'
  rename News _ _ _ _ => lN'
  rename _ ∧ AllLt _ _ => lA'
  rename ∀ (p : Addr × Obj), p ∈ news → p.1 < _ => lB'
  refine' grow_iter (σ := Int × Tok × List Value × List Int × Nat) (fun c => c.2.2.1) (fun c => c.2.2.2.2) (fun _ => []) (fun r c => [(Str.ofString "x", Value.int c.1 c.2.1), (Str.ofString "rests", Value.ref r)]) (fun pre c => BackInv x pre c.1 c.2.2.1 c.2.2.2.1) (_, _, [], [], 0) ?h1 hP.rev ?h3 ?h4 ?h5 lF' lN' ?h6 ?h6b ?h6c lA'.1 lB' ?h7 ?h8 ?turn ?done
  case h1 => rfl
  case h3 => rfl
  case h4 => rfl
  case h5 => rfl
  case h6 => rfl
  case h6b => rfl
  case h6c => rfl
  case h7 => kst_all
  case h8 => exact ⟨rfl, by show x.natAbs < _; omega, Nat.le_refl _, .nil⟩
  case turn =>
    rintro ⟨x', tx', vs', ns', n'⟩ pre' ⟨k', c'⟩ post' t1' t2' u' h' tk' own' hds' hp' hoff' hsep' hsep2 F' N'
    obtain ⟨hg0, hg1, hg2, hg3, hg4, hg5, hg6⟩ := Good.here hG.rev hds'
    clear lF' lN' hsep2
    simp only [List.nil_append] at N' hoff' hsep'
    dsimp only [kstB] at hp' F' N' hoff'
    have hx1 := BackInv.small hp' hg0
    have hx2 := not_and_small hx1 hg3 hg4
    have hx3 : Int.natAbs 1 < 2 ^ 240 := by decide
    have hx4 := BackInv.len hp' hg0
    k_steps
    all_goals (first
      | (refine' pk_end (_, _, _, ns', _) ?F ?N ?hn ?ho ?ha ?hk ?hp; (case F => assumption); (case N => assumption); (case hn => (dsimp only; exact ends_sub)); (case ho => exact ends_own); (case ha => exact hoff'); (case hk => kst_all); (case hp => (dsimp only; refine ⟨BackInv.next hp' hg3 hg4 ?_ hp'.2.2.2, fun _ h => nomatch h⟩; (try rw [mask_fmod (by omega)]); simp only [backStep, bitXor_and, bitOr_and, not_and, bitAnd_not, show (2 : Int) ^ Int.toNat 1 = 2 from rfl]; (try simp only [show Builtin.bitNot x' = -x' - 1 from rfl]); (repeat' split) <;> first | rfl | exact congrArg (fun z => (z, _)) (by omega) | (exfalso; omega))))
      | (refine' pk_end (_, _, _, ns' ++ [x'.fmod c'], _) ?F ?N ?hn ?ho ?ha ?hk ?hp; (case F => assumption); (case N => assumption); (case hn => (dsimp only; exact ends_sub)); (case ho => exact ends_own); (case ha => exact hoff'); (case hk => kst_all); (case hp => (dsimp only; refine ⟨BackInv.next hp' hg3 hg4 ?_ (hp'.2.2.2.append (IntsAre.cons _ _ IntsAre.nil)), fun _ h => nomatch h⟩; (try rw [mask_fmod (by omega)]); simp only [backStep, bitXor_and, bitOr_and, not_and, bitAnd_not, show (2 : Int) ^ Int.toNat 1 = 2 from rfl]; (try simp only [show Builtin.bitNot x' = -x' - 1 from rfl]); (repeat' split) <;> first | rfl | exact congrArg (fun z => (z, _)) (by omega) | (exfalso; omega))))
      | (refine' pk_end (_, _, _, ns' ++ [Builtin.bitAnd x' (1 * 2 ^ c'.toNat - 1)], _) ?F ?N ?hn ?ho ?ha ?hk ?hp; (case F => assumption); (case N => assumption); (case hn => (dsimp only; exact ends_sub)); (case ho => exact ends_own); (case ha => exact hoff'); (case hk => kst_all); (case hp => (dsimp only; refine ⟨BackInv.next hp' hg3 hg4 ?_ (hp'.2.2.2.append (IntsAre.cons _ _ IntsAre.nil)), fun _ h => nomatch h⟩; (try rw [mask_fmod (by omega)]); simp only [backStep, bitXor_and, bitOr_and, not_and, bitAnd_not, show (2 : Int) ^ Int.toNat 1 = 2 from rfl]; (try simp only [show Builtin.bitNot x' = -x' - 1 from rfl]); (repeat' split) <;> first | rfl | exact congrArg (fun z => (z, _)) (by omega) | (exfalso; omega)))))
  case done =>
    rintro ⟨x', tx', vs', ns', n'⟩ u' h' tk' hp' hsep2 F' N'
    clear lF' lN'
    simp only [List.nil_append] at N'
    dsimp only [kstB] at hp' F' N'
    k_steps
    rename _ ∧ _ ∧ AllLt _ _ => lC'
    rename News h₀ L _ _ => kN'
    exact hret _ _ _ _ _ _ _ _ _ _ hp'.1 hp'.2.2.2 (by assumption) (fun p hp => kN' p (drop_third hp)) lC'.1 lB'
end Mine

end
section
open PySem PySem.W PyProof.Rows
namespace Mine
def wStep (s : Int × List (Int × Int)) (p : Int × Int) : Int × List (Int × Int) :=
  if p.1 = 2 then (s.1 * p.2, s.2 ++ [(p.2, s.1)])
  else if p.1 = 5 then (s.1 * 2 ^ p.2.toNat, s.2 ++ [(2 ^ p.2.toNat, s.1)])
  else if p.1 = 3 ∨ p.1 = 4 then (-s.1, s.2)
  else s
def weights (rd : List (Int × Int)) : Int × List (Int × Int) := rd.foldl wStep (1, [])
theorem weights_snoc (pre : List (Int × Int)) (p : Int × Int) : weights (pre ++ [p]) = wStep (weights pre) p := by
  simp [weights, List.foldl_append]
theorem wStep_len {s : Int × List (Int × Int)} {p : Int × Int} : (wStep s p).2.length ≤ s.2.length + 1 := by
  unfold wStep
  repeat' split
  all_goals simp

theorem PairsIn.snoc {news : List (Addr × Obj)} {us ds} {T : Addr} {p : Int × Int} {t1 t2 : Tok} {n : Nat} (h : PairsIn news us ds) : PairsIn ((T, tup2 p t1 t2 n) :: news) (us ++ [Value.ref T]) (ds ++ [p]) := by
  refine ⟨by simp [h.1], fun i q e => ?_⟩
  by_cases hi : i < ds.length
  · rw [List.getElem?_append_left hi] at e
    obtain ⟨a, t1, t2, n, e1, e2⟩ := h.2 i q e
    exact ⟨a, t1, t2, n, by rw [List.getElem?_append_left (by rw [h.1]; exact hi)]; exact e1, .tail _ e2⟩
  · rw [List.getElem?_append_right (by omega)] at e
    have h0 : i - ds.length = 0 := by
      cases hq : i - ds.length with
      | zero => rfl
      | succ k => rw [hq] at e; simp at e
    rw [h0] at e
    have eq : p = q := by simpa using e
    subst eq
    refine ⟨T, t1, t2, n, ?_, .head _⟩
    rw [List.getElem?_append_right (by rw [h.1]; omega), h.1, h0]
    rfl
theorem PairsIn.nil {news : List (Addr × Obj)} : PairsIn news [] [] := ⟨rfl, fun i p e => by simp at e⟩

/-- what is kept of the loop of _law_weights -/
def WInv (pre : List (Int × Int)) (x : Int) (vs : List Value) (ws : List (Int × Int)) (tl : List (Addr × Obj)) : Prop :=
  (x, ws) = weights pre ∧ ws.length ≤ pre.length ∧ PairsIn tl vs ws
theorem WInv.next {pre : List (Int × Int)} {p : Int × Int} {x x' : Int} {vs vs' : List Value} {ws ws' : List (Int × Int)} {tl tl' : List (Addr × Obj)} (h : WInv pre x vs ws tl)
    (hv : (x', ws') = wStep (x, ws) p) (hi : PairsIn tl' vs' ws') : WInv (pre ++ [p]) x' vs' ws' tl' := by
  obtain ⟨e, hl, _⟩ := h
  refine ⟨?_, ?_, hi⟩
  · rw [weights_snoc, ← e, hv]
  · have := wStep_len (s := (x, ws)) (p := p)
    rw [← hv] at this
    rw [List.length_append]
    simp only [List.length_singleton]
    dsimp only at this
    omega
theorem WInv.len {pre : List (Int × Int)} {x : Int} {vs : List Value} {ws : List (Int × Int)} {tl : List (Addr × Obj)} (h : WInv pre x vs ws tl) (hn : pre.length < 20) : vs.length ≤ 100 := by
  have h1 := h.2.2.1
  have h2 := h.2.1
  omega
section
variable {prog : Program} {w : World} {A : Around} {E : Value → Shared → Prop} {s : Shared} {h₀ : Heap}
theorem append_second {L r : Addr} {m : Str → Option Value} {vs : List Value} {n : Nat} {v : Value} {q : Addr × Obj} {rest : List (Addr × Obj)} {Q' : Value → Shared → Prop}
    (F : Fr h₀ L s.heap m) (N : News h₀ L s.heap (q :: (r, listOf vs.toArray n) :: rest)) (hq : q.1 ≠ r) (hne : ∀ p ∈ rest, p.1 ≠ r) (hz : vs.length ≤ 100)
    (h : ∀ h', Fr h₀ L h' m → News h₀ L h' (q :: (r, listOf (vs ++ [v]).toArray (n + 1)) :: rest) → Q' .none { s with heap := h' }) :
    wpAny (model prog w) A (call (.builtin "list.append") [.ref r, v]) Q' E s := by
  refine append_K F N (Upd.tail hq (Upd.head hne)) (fun h' F' N' => h h' F' ?_) (by rw [sizeLine_eq, List.size_toArray]; omega)
  rw [List.push_toArray] at N'
  exact N'
end
theorem wends_sub {r T D : Addr × Obj} {tl news own : List (Addr × Obj)} : ∀ p ∈ (r :: T :: tl) ++ (D :: news), p ∈ T :: r :: (tl ++ (D :: (news ++ own))) := by
  intro p hp
  simp only [List.cons_append, List.mem_cons, List.mem_append] at hp ⊢
  rcases hp with h | h | h | h | h
  · exact .inr (.inl h)
  · exact .inl h
  · exact .inr (.inr (.inl h))
  · exact .inr (.inr (.inr (.inl h)))
  · exact .inr (.inr (.inr (.inr (.inl h))))
theorem wends_own {r T D : Addr × Obj} {tl news own : List (Addr × Obj)} : ∀ p ∈ own, p ∈ T :: r :: (tl ++ (D :: (news ++ own))) := fun p hp => .tail _ (.tail _ (List.mem_append.mpr (.inr (.tail _ (List.mem_append.mpr (.inr hp))))))
theorem wends0_sub {r D : Addr × Obj} {tl news own : List (Addr × Obj)} : ∀ p ∈ (r :: tl) ++ (D :: news), p ∈ r :: (tl ++ (D :: (news ++ own))) := by
  intro p hp
  simp only [List.cons_append, List.mem_cons, List.mem_append] at hp ⊢
  rcases hp with h | h | h | h
  · exact .inl h
  · exact .inr (.inl h)
  · exact .inr (.inr (.inl h))
  · exact .inr (.inr (.inr (.inl h)))
theorem wends0_own {r D : Addr × Obj} {tl news own : List (Addr × Obj)} : ∀ p ∈ own, p ∈ r :: (tl ++ (D :: (news ++ own))) := fun p hp => .tail _ (List.mem_append.mpr (.inr (.tail _ (List.mem_append.mpr (.inr hp)))))
theorem wends_off {r D : Addr} {o o' oD oT : Obj} {T : Addr} {tl news own : List (Addr × Obj)} (h : OwnOff own (((r, o) :: (tl ++ ((D, oD) :: news))).map (·.1))) (hl : AllLt T (tl ++ ((D, oD) :: (news ++ own)))) :
    OwnOff own ((((r, o') :: (T, oT) :: tl) ++ ((D, oD) :: news)).map (·.1)) := by
  intro p hp b hb
  have hpT : p.1 ≠ T := Nat.ne_of_lt (allLt_to hl p (List.mem_append.mpr (.inr (.tail _ (List.mem_append.mpr (.inr hp))))))
  simp only [List.cons_append, List.map_cons, List.mem_cons] at hb
  rcases hb with rfl | rfl | hb
  · exact h p hp _ (by simp)
  · exact hpT
  · exact h p hp b (by simp only [List.map_cons]; exact .tail _ hb)
theorem wends_sep {r T : Addr} {oT : Obj} {tl : List (Addr × Obj)} (h : ∀ q ∈ tl, q.1 ≠ r) (hr : r < T) : ∀ q ∈ (T, oT) :: tl, q.1 ≠ r := by
  intro q hq
  rcases List.mem_cons.mp hq with rfl | hq
  · exact Nat.ne_of_gt hr
  · exact h q hq
abbrev WPost (r D : Addr) (oD : Obj) (news : List (Addr × Obj)) (pre : List (Int × Int)) : (Str → Option Value) → List (Addr × Obj) → Prop :=
  PkS (σ := Int × Tok × List Value × List (Int × Int) × Nat × List (Addr × Obj)) (fun c => (r, listOf c.2.2.1.toArray c.2.2.2.2.1) :: c.2.2.2.2.2) ((D, oD) :: news)
    (fun c => [(Str.ofString "weight", Value.int c.1 c.2.1), (Str.ofString "weights", Value.ref r)])
    (fun pre c => WInv pre c.1 c.2.2.1 c.2.2.2.1 c.2.2.2.2.2 ∧ ∀ q ∈ c.2.2.2.2.2, q.1 ≠ r) pre
section
variable {h₀ h' : Heap} {L r D T : Addr} {oD : Obj} {m' : Str → Option Value} {news own tl : List (Addr × Obj)} {pre : List (Int × Int)} {p : Int × Int} {x x2 dv : Int} {t2 ta tb : Tok} {vs : List Value} {ws : List (Int × Int)} {n nT : Nat} {s₁ : Shared} {tk : Nat}
theorem w_end1 (F : Fr h₀ L h' m') (N : News h₀ L h' ((T, tup2 (dv, x) ta tb nT) :: (r, listOf (vs ++ [Value.ref T]).toArray (n + 1)) :: (tl ++ ((D, oD) :: (news ++ own)))))
    (hoff : OwnOff own (((r, listOf vs.toArray n) :: (tl ++ ((D, oD) :: news))).map (·.1))) (hl : r < T ∧ AllLt T (tl ++ ((D, oD) :: (news ++ own)))) (hsep : ∀ q ∈ tl, q.1 ≠ r) (hp : WInv pre x vs ws tl)
    (hk1 : m' (Str.ofString "weight") = some (.int x2 t2)) (hk2 : m' (Str.ofString "weights") = some (.ref r)) (hv : (x2, ws ++ [(dv, x)]) = wStep (x, ws) p) :
    InvEndG h₀ L (WPost r D oD news (pre ++ [p])) own s₁ { s₁ with heap := h', toks := tk } :=
  pk_end (x2, t2, vs ++ [Value.ref T], ws ++ [(dv, x)], n + 1, (T, tup2 (dv, x) ta tb nT) :: tl) F N wends_sub wends_own (wends_off hoff hl.2)
    (List.forall_mem_cons.mpr ⟨hk1, List.forall_mem_cons.mpr ⟨hk2, List.forall_mem_nil _⟩⟩) ⟨hp.next hv hp.2.2.snoc, wends_sep hsep hl.1⟩
theorem w_end0 (F : Fr h₀ L h' m') (N : News h₀ L h' ((r, listOf vs.toArray n) :: (tl ++ ((D, oD) :: (news ++ own)))))
    (hoff : OwnOff own (((r, listOf vs.toArray n) :: (tl ++ ((D, oD) :: news))).map (·.1))) (hsep : ∀ q ∈ tl, q.1 ≠ r) (hp : WInv pre x vs ws tl)
    (hk1 : m' (Str.ofString "weight") = some (.int x2 t2)) (hk2 : m' (Str.ofString "weights") = some (.ref r)) (hv : (x2, ws) = wStep (x, ws) p) :
    InvEndG h₀ L (WPost r D oD news (pre ++ [p])) own s₁ { s₁ with heap := h', toks := tk } :=
  pk_end (x2, t2, vs, ws, n, tl) F N wends0_sub wends0_own hoff
    (List.forall_mem_cons.mpr ⟨hk1, List.forall_mem_cons.mpr ⟨hk2, List.forall_mem_nil _⟩⟩) ⟨hp.next hv hp.2.2, hsep⟩
end
theorem w_drop {a D : Addr × Obj} {tl news : List (Addr × Obj)} : ∀ p ∈ a :: (tl ++ news), p ∈ a :: (tl ++ (D :: news)) := by
  intro p hp
  simp only [List.mem_cons, List.mem_append] at hp ⊢
  rcases hp with h | h | h
  · exact .inl h
  · exact .inr (.inl h)
  · exact .inr (.inr (.inr h))
end Mine

end
section
open PySem PySem.W PyProof.Rows PySem.Spec PySem.Calls
namespace Mine
set_option maxRecDepth 100000 in
set_option maxHeartbeats 8000000 in
theorem weights_tells {w : World} {mean : ExcName → Option Value} {mg mb : Str → Option Value} 
   (dp un : Nat) (gd : Option (List Code)) (cn : Str) (cs : Scope) (a : Addr) (ccd : Value) (cl : List (Str × Addr)) (outer : List Env) (A₀ : Around) (base h₀ : Heap) (L : Addr) (m : Str → Option Value) (news : List (Addr × Obj)) (s : Shared)
   (l : Addr) (us : List Value) (nn : Nat) (d : List (Int × Int))
    (Q E : Value → Shared → Prop)
    (B : Below A₀ base outer h₀) (F : Fr h₀ L s.heap m) (X : (hd.heap_39 w.params).In h₀) (N : News h₀ L s.heap news) (T : Top hd.view_39 (looseW hd.view_39 []) mean mg mb h₀) (hk : cs.kind = .function) 
    (hl : (l, listOf us.toArray nn) ∈ news) (hP : PairsIn news us d) (hG : Good d) (hdp : dp + 10 < recursionLimit)
    (hret : ∀ r ws vs n tl h' tk', ws = (weights d.reverse).2 → ws.length ≤ 20 → PairsIn tl vs ws → Fr h₀ L h' m → News h₀ L h' ((r, listOf vs.toArray n) :: (tl ++ news)) → (∀ q ∈ news, q.1 < r) → (∀ q ∈ tl, q.1 ≠ r) → Q (.ref r) { s with heap := h', toks := tk' }) :
    wpAny (model Challenge.rw_ny0463_01.row.prog w) (ktrTop dp un gd cn cs L a ccd cl outer) (call (.ref 168) [.ref l]) Q E s := by
  w_on
  k_with_none
  k_with "inplaceOp Mult int int" => (with_reducible refine imul_int ?_ (IntMulOk.of_right (bits_pow2 (by omega))))
  k_with "exec For Tuple Subscript cons nil" => (k_here; (rename Fr _ _ _ _ => lF'); (with_unfolding_all refine' For_turns lF' ?_; k_whole))
  k_with "subscriptTail Name Slice ref ref" => ((rename Fr _ _ _ _ => lF'); (rename News _ _ _ _ => lN'); (k_here; k_dflt (refine' krv_lit lF' lN' (isList_news lN' (.tail _ (by assumption))) ?k rfl ?_ ?s ?t ?z; (case z => exact size_ok (by assumption) (by assumption)); (case k => exact IsPart.int _ _); (case s => with_unfolding_all rfl); (case t => kmk_pure))); clear lF' lN'; intro D' h' F' N' l1; (try k_lt l1); (try k_sweep))
  k_with "call builtin:list.append" => (k_here; (rename Fr _ _ _ _ => lF'); (rename News _ _ _ _ => lN'); (rename _ ∧ AllLt _ _ => lA'); k_dflt (refine' append_second lF' lN' (Nat.ne_of_gt lA'.1) ?ks ?kz ?_; (case ks => assumption); (case kz => assumption)); clear lF' lN'; intro h' F' N')
  revert X
  k_fill
  intro X
  refine wpAny_call ?_
  k_dflt ktr_enter
  k_steps
  rename Fr _ _ _ _ => lF'
  rename News _ _ _ _ => lN'
  rename _ ∧ AllLt _ _ => lA'
  rename ∀ (p : Addr × Obj), p ∈ news → p.1 < _ => lB'
  refine' grow_iter (σ := Int × Tok × List Value × List (Int × Int) × Nat × List (Addr × Obj)) (fun c => c.2.2.1) (fun c => c.2.2.2.2.1) (fun c => c.2.2.2.2.2) (fun r c => [(Str.ofString "weight", Value.int c.1 c.2.1), (Str.ofString "weights", Value.ref r)]) (fun pre c => WInv pre c.1 c.2.2.1 c.2.2.2.1 c.2.2.2.2.2) (_, _, [], [], 0, []) ?h1 hP.rev ?h3 ?h4 ?h5 lF' lN' ?h6 ?h6b ?h6c lA'.1 lB' ?h7 ?h8 ?turn ?done
  case h1 => rfl
  case h3 => rfl
  case h4 => rfl
  case h5 => rfl
  case h6 => rfl
  case h6b => rfl
  case h6c => rfl
  case h7 => kst_all
  case h8 => exact ⟨rfl, Nat.le_refl _, PairsIn.nil⟩
  case turn =>
    rintro ⟨x', tx', vs', ws', n', tl'⟩ pre' ⟨k', c'⟩ post' t1' t2' u' h' tk' own' hds' hp' hoff' hsep' hsep2 F' N'
    obtain ⟨hg0, hg1, hg2, hg3, hg4, hg5, hg6⟩ := Good.here hG.rev hds'
    clear lF' lN' lA'
    dsimp only [kstB] at hp' F' N' hoff' hsep' hsep2
    have hx4 := WInv.len hp' hg0
    k_steps
    all_goals (first
      | (refine' w_end0 ?F ?N hoff' hsep2 hp' ?k1 ?k2 ?hv; (case F => assumption); (case N => assumption); (case k1 => with_unfolding_all rfl); (case k2 => with_unfolding_all rfl); (case hv => (simp only [wStep]; (repeat' split) <;> first | rfl | (exfalso; omega))))
      | (refine' w_end1 ?F ?N hoff' ?hl hsep2 hp' ?k1 ?k2 ?hv; (case F => assumption); (case N => assumption); (case hl => assumption); (case k1 => with_unfolding_all rfl); (case k2 => with_unfolding_all rfl); (case hv => (simp only [wStep]; (repeat' split) <;> first | rfl | (exfalso; omega)))))
  case done =>
    rintro ⟨x', tx', vs', ws', n', tl'⟩ u' h' tk' hp' hsep2 F' N'
    clear lF' lN'
    dsimp only [kstB] at hp' F' N' hsep2
    k_steps
    rename News h₀ L _ _ => kN'
    have hlen : ws'.length ≤ 20 := Nat.le_trans hp'.2.1 hG.rev.1
    refine hret _ ws' _ _ _ _ _ ?_ hlen hp'.2.2 (by assumption) (fun p hp => kN' p (w_drop p hp)) lB' hsep2
    rw [← hp'.1]
end Mine

end
section
open PySem PySem.W PyProof.Rows
namespace Mine
def restSum : List Int → List (Int × Int) → Int
  | r :: rs, w :: ws => r * w.2 + restSum rs ws
  | _, _ => 0
theorem restSum_snoc : ∀ (rs : List Int) (ws : List (Int × Int)) (r : Int) (w : Int × Int), rs.length = ws.length → restSum (rs ++ [r]) (ws ++ [w]) = restSum rs ws + r * w.2
  | [], [], r, w, _ => by simp [restSum]
  | x :: rs, y :: ws, r, w, h => by
    have := restSum_snoc rs ws r w (by simpa using h)
    simp only [List.cons_append, restSum, this]
    omega
  | [], _ :: _, _, _, h => by simp at h
  | _ :: _, [], _, _, h => by simp at h
theorem restSum_take {rs : List Int} {ws : List (Int × Int)} {i : Nat} {r : Int} {w : Int × Int} (hr : rs[i]? = some r) (hw : ws[i]? = some w) :
    restSum (rs.take (i + 1)) (ws.take (i + 1)) = restSum (rs.take i) (ws.take i) + r * w.2 := by
  have e1 : rs.take (i + 1) = rs.take i ++ [r] := by rw [List.take_add_one, hr]; rfl
  have e2 : ws.take (i + 1) = ws.take i ++ [w] := by rw [List.take_add_one, hw]; rfl
  have h1 := (List.getElem?_eq_some_iff.mp hr).1
  have h2 := (List.getElem?_eq_some_iff.mp hw).1
  rw [e1, e2, restSum_snoc _ _ _ _ (by rw [List.length_take, List.length_take]; omega)]

theorem lineStep_bound {s : Int × Int} {k c : Int} {B : Nat} (hs : s.1.natAbs ≤ B) (h3 : -21 ≤ c) (h4 : c ≤ 21) (h5 : k = 5 → 0 ≤ c ∧ c ≤ 4) : (lineStep s (k, c)).1.natAbs ≤ B * 32 := by
  unfold lineStep
  dsimp only
  repeat' split
  · dsimp only; omega
  · dsimp only
    rw [Int.natAbs_mul]
    have : s.1.natAbs * c.natAbs ≤ s.1.natAbs * 21 := Nat.mul_le_mul_left _ (by omega)
    omega
  · dsimp only; omega
  · dsimp only; omega
  · rename_i h
    have hp := pow_small (h5 h).2
    dsimp only
    rw [Int.natAbs_mul]
    have : s.1.natAbs * ((2 : Int) ^ c.toNat).natAbs ≤ s.1.natAbs * 16 := Nat.mul_le_mul_left _ (by omega)
    omega
  · dsimp only; omega
theorem line_bound' : ∀ (ds : List (Int × Int)) (s : Int × Int) (B : Nat), s.1.natAbs ≤ B → (∀ p ∈ ds, GoodDeed p) → (ds.foldl lineStep s).1.natAbs ≤ B * 32 ^ ds.length
  | [], s, B, h, _ => by simpa using h
  | (k, c) :: ds, s, B, h, hg => by
    obtain ⟨h1, h2, h3, h4, h5, h6⟩ := hg (k, c) (.head _)
    have := line_bound' ds (lineStep s (k, c)) (B * 32) (lineStep_bound h h3 h4 h6) (fun p hp => hg p (.tail _ hp))
    rw [List.foldl_cons, List.length_cons, Nat.pow_succ]
    rw [Nat.mul_assoc, Nat.mul_comm 32] at this
    exact this
theorem line_bound {ds : List (Int × Int)} (h : Good ds) : (line ds).1.natAbs < 2 ^ 101 := by
  have h1 := line_bound' ds (1, 0) 1 (by decide) h.2
  have h2 : 32 ^ ds.length ≤ 32 ^ 20 := Nat.pow_le_pow_right (by decide) h.1
  have h3 : 32 ^ 20 < 2 ^ 101 := by decide
  unfold line
  generalize 32 ^ ds.length = A at h1 h2
  omega
theorem mul_ok {a z : Int} (ha : a.natAbs < 2 ^ 101) (hz : z.natAbs < 2 ^ 230) : IntMulOk a z :=
  IntMulOk.of_le (intBits_le_iff.mpr ha) (intBits_le_iff.mpr hz) (by decide)
theorem mul_ok_small {r x : Int} (h1 : -21 ≤ r) (h2 : r ≤ 21) : IntMulOk r x :=
  IntMulOk.of_left (intBits_le_iff.mpr (Nat.lt_of_lt_of_le (show r.natAbs < 2 ^ 5 by omega) (Nat.pow_le_pow_right (by decide) (by decide))))
section
variable {prog : Program} {w : World} {A : Around} {E : Value → Shared → Prop} {s : Shared} {h₀ : Heap} {L l : Addr}
theorem pairs_len {news pn : List (Addr × Obj)} {us : List Value} {ds : List (Int × Int)} {n : Nat} {Q : Value → Shared → Prop} (N : News h₀ L s.heap news) (hm : (l, listOf us.toArray n) ∈ news) (hd : PairsIn pn us ds) (hfit : ds.length ≤ 20)
    (h : Q (.int (ds.length : Int) (s.toks + 1)) { s with toks := s.toks + 1 + 1 }) : wpAny (model prog w) A (call (.builtin "len") [.ref l]) Q E s := by
  have e : us.toArray.size = ds.length := by rw [List.size_toArray, hd.1]
  exact len_list (isList_news N hm) (by rw [e]; omega) (by rw [e]; exact h)
theorem pairs_item {value slice : PySem.Expr} {news pn : List (Addr × Obj)} {us : List Value} {ds : List (Int × Int)} {n i : Nat} {p : Int × Int} {u : Tok} {Q : Value → Shared → Prop} (N : News h₀ L s.heap news) (hm : (l, listOf us.toArray n) ∈ news) (hd : PairsIn pn us ds)
    (hx : ds[i]? = some p) (hfit : i ≤ 20) (h : ∀ T t1 t2 n', (T, tup2 p t1 t2 n') ∈ pn → Q (.ref T) s)
    (hs : subscripted slice false (.ref l) (.int (i : Int) u) = operate [.ref l, .int (i : Int) u] (getItem (.ref l) (.int (i : Int) u)) := by with_unfolding_all rfl) :
    wpAny (model prog w) A (subscriptTail value slice (.ref l) (.int (i : Int) u)) Q E s := by
  obtain ⟨T, t1, t2, n', e1, e2⟩ := hd.2 i _ hx
  exact tail_any (isList_news N hm).typeIs slot_list_getitem.lookup (wpAny_getItem_list (isList_news N hm) (by omega) (by omega) (by simpa using e1) (h _ _ _ _ e2)) hs
theorem ints_item {value slice : PySem.Expr} {news : List (Addr × Obj)} {us : List Value} {ns : List Int} {n i : Nat} {x : Int} {u : Tok} {Q : Value → Shared → Prop} (N : News h₀ L s.heap news) (hm : (l, listOf us.toArray n) ∈ news) (hd : IntsAre us ns)
    (hx : ns[i]? = some x) (hfit : i ≤ 20) (h : ∀ t, Q (.int x t) s)
    (hs : subscripted slice false (.ref l) (.int (i : Int) u) = operate [.ref l, .int (i : Int) u] (getItem (.ref l) (.int (i : Int) u)) := by with_unfolding_all rfl) :
    wpAny (model prog w) A (subscriptTail value slice (.ref l) (.int (i : Int) u)) Q E s := by
  obtain ⟨t, e1⟩ := hd.get i _ hx
  exact tail_any (isList_news N hm).typeIs slot_list_getitem.lookup (wpAny_getItem_list (isList_news N hm) (by omega) (by omega) (by simpa using e1) (h _)) hs
theorem mem_first {h : Heap} {q : Addr × Obj} {rest own : List (Addr × Obj)} (_ : News h₀ L h ((q :: rest) ++ own)) : q ∈ (q :: rest) ++ own := .head _
theorem mem_deep {h : Heap} {q0 q1 p : Addr × Obj} {tl news own : List (Addr × Obj)} (_ : News h₀ L h ((q0 :: (tl ++ (q1 :: news))) ++ own)) (hp : p ∈ news) : p ∈ (q0 :: (tl ++ (q1 :: news))) ++ own :=
  List.mem_append.mpr (.inl (.tail _ (List.mem_append.mpr (.inr (.tail _ hp)))))
theorem mem_tl {h : Heap} {q0 q1 p : Addr × Obj} {tl news own : List (Addr × Obj)} (_ : News h₀ L h ((q0 :: (tl ++ (q1 :: news))) ++ own)) (hp : p ∈ tl) : p ∈ (q0 :: (tl ++ (q1 :: news))) ++ own :=
  List.mem_append.mpr (.inl (.tail _ (List.mem_append.mpr (.inl hp))))
end
end Mine

end
section
open PySem PySem.W PyProof.Rows
namespace Mine
/-- a goal at which the walk is to stop -/
structure Held (p : Prop) : Prop where
  out : p
def RkS {σ : Type} (news : List (Addr × Obj)) (ps : σ → List (Str × Value)) (P : Nat → σ → Prop) (i : Nat) (m : Str → Option Value) (nx : List (Addr × Obj)) : Prop :=
  ∃ c : σ, nx = news ∧ (∀ p ∈ ps c, m p.1 = some p.2) ∧ P i c
section
variable {prog : Program} {w : World} {A : Around} {E : Value → Shared → Prop} {s : Shared} {env : Env} {h₀ : Heap} {x : Str} {body : List Stmt} {Q : Flow → Shared → Prop}
theorem rk_end {σ : Type} {news : List (Addr × Obj)} {ps : σ → List (Str × Value)} {P : Nat → σ → Prop} {i : Nat} (c : σ) {L : Addr} {m' : Str → Option Value} {own : List (Addr × Obj)} {s₁ : Shared} {h' : Heap} {tk : Nat}
    (F : Fr h₀ L h' m') (N : News h₀ L h' (news ++ own)) (ha : OwnOff own (news.map (·.1)))
    (hk : ∀ p ∈ ps c, m' p.1 = some p.2) (hp : P i c) :
    InvEndG h₀ L (RkS news ps P i) own s₁ { s₁ with heap := h', toks := tk } :=
  ⟨h', tk, m', news ++ own, news, rfl, F, N, fun _ h => List.mem_append.mpr (.inl h), fun _ h => List.mem_append.mpr (.inr h), ha, c, rfl, hk, hp⟩
set_option maxHeartbeats 3200000 in
theorem range_iter {σ : Type} {r : Addr} {t₀ u₀ v₀ : Tok} {n : Nat} {m₀ : Str → Option Value} {news : List (Addr × Obj)} (ps : σ → List (Str × Value)) (P : Nat → σ → Prop) (c₀ : σ)
    (hh : A.handled = none) (hr : IsRange s.heap r 0 (n : Int) 1 t₀ u₀ v₀) (hn : n ≤ 1000) (F : Fr h₀ env.locals s.heap m₀) (N : News h₀ env.locals s.heap news) (hk : ∀ p ∈ ps c₀, m₀ p.1 = some p.2) (hp : P 0 c₀)
    (turn : ∀ (c : σ) (i : Nat) t (u : Str → Option Value) h tk own, i < n → P i c → OwnOff own (news.map (·.1)) →
      Fr h₀ env.locals h (fun y => if y = x then some (.int (i : Int) t) else kstB u (ps c) y) → News h₀ env.locals h (news ++ own) →
      wpAny (model prog w) A (execs body env) (InvPostG h₀ env.locals (RkS news ps P (i + 1)) own { s with heap := h, toks := tk } Q) E { s with heap := h, toks := tk })
    (done : ∀ (c : σ) (u : Str → Option Value) h tk, P n c → Fr h₀ env.locals h (kstB u (ps c)) → News h₀ env.locals h news → Q .next { s with heap := h, toks := tk }) :
    wpAny (model prog w) A (pyIter (.ref r)) (fun it s₂ => LoopAtV prog w A h₀ env x body Q E it s₂) E s := by
  have hsmall : Builtin.Range.small 0 (n : Int) 1 = true := small_one (by omega) (by omega) (by omega) (by omega)
  have hsz : Builtin.Range.rangeSize 0 (n : Int) 1 = (n : Int) := by
    have := rangeSize_nat 0 (n : Int)
    simpa using this
  refine wpAny_pyIter_range hr hsmall ?_
  have W : Walks prog w A s.heap.objs.size [s.heap.objs.size] [s.heap.objs.size] n (fun i v => i < n ∧ ∃ t, v = .int (0 + (i : Nat) * 1) t)
      (fun i h => IsRangeIter h s.heap.objs.size (0 + (i : Nat) * 1) ((n : Int) - (i : Nat)) 1) := (Walks.range hh _ 0 1 n).bound
  refine kdr_loop (fun i m nx => RkS news ps P i m nx) W (fun _ h => h) (fun _ h => h) ?_ ?_ ?_ ?_ (by show IsRangeIter _ _ _ _ _; rw [hsz]; simpa using Heap.get?_push_size _ rfl) (F.push _) (fun p hp => ⟨Heap.get?_push_of_some _ (N p hp).1, (N p hp).2⟩) ⟨c₀, rfl, hk, hp⟩ ?_ ?_
  · intro i h hi b hb
    rw [List.mem_singleton.mp hb]
    exact ⟨_, hi⟩
  · intro hm
    exact absurd F.ns.lt ((List.mem_singleton.mp hm) ▸ Nat.lt_irrefl _)
  · intro b hb
    rw [List.mem_singleton.mp hb]
    exact next_is_new F
  · intro p hp hI
    exact absurd (Heap.lt_size (N p hp).1) ((List.mem_singleton.mp hI) ▸ Nat.lt_irrefl _)
  · rintro i v m₁ nx h tk own hi ⟨_, t, rfl⟩ hoff ⟨c, rfl, h1, hp'⟩ F₁ N₁
    have e1 : (0 : Int) + (i : Int) * 1 = (i : Int) := by omega
    rw [e1] at F₁
    refine turn c i t m₁ h tk own hi hp' hoff ?_ N₁
    rw [kstB_all h1]
    exact F₁
  · rintro m₁ nx h tk ⟨c, rfl, h1, hp'⟩ F₁ N₁
    refine done c m₁ h tk hp' ?_ N₁
    rw [kstB_all h1]
    exact F₁
end
end Mine

end
section
open PySem PySem.W PyProof.Rows PySem.Spec PySem.Calls
namespace Mine
set_option maxRecDepth 100000 in
set_option maxHeartbeats 8000000 in
theorem whole_tells {w : World} {mean : ExcName → Option Value} {mg mb : Str → Option Value} 
   (dp un : Nat) (gd : Option (List Code)) (cn : Str) (cs : Scope) (a : Addr) (ccd : Value) (cl : List (Str × Addr)) (outer : List Env) (A₀ : Around) (base h₀ : Heap) (L : Addr) (m : Str → Option Value) (news : List (Addr × Obj)) (s : Shared)
   (l : Addr) (us : List Value) (nn : Nat) (d : List (Int × Int)) (z : Int) (t : Tok) (r : Addr) (vs : List Value) (nr : Nat) (ns : List Int)
    (Q E : Value → Shared → Prop)
    (B : Below A₀ base outer h₀) (F : Fr h₀ L s.heap m) (X : (hd.heap_39 w.params).In h₀) (N : News h₀ L s.heap news) (T : Top hd.view_39 (looseW hd.view_39 []) mean mg mb h₀) (hk : cs.kind = .function) 
    (hl : (l, listOf us.toArray nn) ∈ news) (hP : PairsIn news us d) (hG : Good d) (hz : z.natAbs < 2 ^ 230) (hr : (r, listOf vs.toArray nr) ∈ news) (hI : IntsAre vs ns)
    (hlen : ns.length = (weights d.reverse).2.length)
    (hok : ∀ (i : Nat) (x : Int) (p : Int × Int), ns[i]? = some x → (weights d.reverse).2[i]? = some p → -21 ≤ p.1 ∧ p.1 ≤ 21 ∧ ¬ (x < min 0 (p.1 + 1)) ∧ ¬ (x > max 0 (p.1 - 1))) (hdp : dp + 12 < recursionLimit)
    (hret : ∀ t' h' tk', Fr h₀ L h' m → News h₀ L h' news → Q (.int ((line d).1 * z + (line d).2 + restSum ns (weights d.reverse).2) t') { s with heap := h', toks := tk' }) :
    wpAny (model Challenge.rw_ny0463_01.row.prog w) (ktrTop dp un gd cn cs L a ccd cl outer) (call (.ref 189) [.ref l, .int z t, .ref r]) Q E s := by
  w_on
  k_with_none
  k_with "call ref" => (k_here; (with_reducible show wpAny _ _ (call (Value.ref 161) _) _ _ _); k_dflt (refine' line_tells _ _ _ _ _ _ _ _ _ _ _ _ _ _ _ _ _ _ _ _ _ _ ?B ?F ?X ?N ?T ?hk ?hl ?hP ?hG ?hdp ?_; (case B => k_asm); (case F => k_asm); (case X => k_asm); (case N => k_asm); (case T => k_asm); (case hk => exact rfl); (case hl => (repeat (first | assumption | apply List.mem_cons_of_mem))); (case hP => first | assumption | exact PairsIn.mono (by assumption) (fun _ h => by (repeat (first | exact h | apply List.mem_cons_of_mem)))); (case hG => assumption); (case hdp => ktr_room)); intro r' n' t1' t2' h' tk' F' N' l1; (try k_lt l1); (try k_sweep))
  k_with "call ref" => (k_here; (with_reducible show wpAny _ _ (call (Value.ref 168) _) _ _ _); k_dflt (refine' weights_tells _ _ _ _ _ _ _ _ _ _ _ _ _ _ _ _ _ _ _ _ _ _ ?B ?F ?X ?N ?T ?hk ?hl ?hP ?hG ?hdp ?_; (case B => k_asm); (case F => k_asm); (case X => k_asm); (case N => k_asm); (case T => k_asm); (case hk => exact rfl); (case hl => (repeat (first | assumption | apply List.mem_cons_of_mem))); (case hP => first | assumption | exact PairsIn.mono (by assumption) (fun _ h => by (repeat (first | exact h | apply List.mem_cons_of_mem)))); (case hG => assumption); (case hdp => ktr_room)); intro r' ws' vs' n' tl' h' tk' hws' hwl' hwp' F' N' l1 l2; (try k_lt l1); (try k_sweep))
  k_with "binaryOp Mult int int" => (k_here; with_reducible refine PyProof.Rows.mul_int ?_ (mul_ok (by assumption) (by assumption)))
  k_with "call builtin:len" => (k_here; (rename News _ _ _ _ => lN'); k_dflt (refine' pairs_len lN' (.head _) ?k1 ?k2 ?_; (case k1 => assumption); (case k2 => assumption)))
  k_with "exec For Name Call cons nil" => (k_here; (rename Fr _ _ _ _ => lF'); (with_unfolding_all refine' For_invVF lF' ?k1 ?k2 ?_; (case k1 => exact rfl); (case k2 => exact rfl); k_whole))
  k_with "pyIter ref" => (k_here; refine Held.out ?_)
  k_with "subscriptTail Name Name ref int" => (k_here; (rename News _ _ _ _ => lN'); (with_unfolding_all refine' ints_item lN' ?k1 ?k2 ?k3 ?k4 ?_ ?k5; (case k1 => assumption); (case k2 => assumption); (case k3 => assumption); (case k4 => omega); (case k5 => with_unfolding_all rfl)); intro t')
  k_with "subscriptTail Name Name ref int" => (k_here; (rename News _ _ _ _ => lN'); (with_unfolding_all refine' pairs_item lN' ?k1 ?k2 ?k3 ?k4 ?_ ?k5; (case k1 => assumption); (case k2 => assumption); (case k3 => assumption); (case k4 => omega); (case k5 => with_unfolding_all rfl)); intro T' t1' t2' n' hT'; have hT2' := mem_tl lN' hT'; clear hT')
  k_with "assign Tuple" => (k_here; (rename Fr _ _ _ _ => lF'); (rename News _ _ _ _ => lN'); (with_unfolding_all refine' assign_pair ?k1 ?k2 ?k3 ?k4 lF' lN' ?k5 ?_; (case k1 => rfl); (case k2 => rfl); (case k3 => rfl); (case k4 => rfl); (case k5 => assumption)); clear lF' lN'; intro h' tk' F' N'; (try k_sweep))
  k_with "binaryOp Mult int int" => (k_here; with_reducible refine PyProof.Rows.mul_int ?_ (mul_ok_small (by omega) (by omega)))
  revert X
  k_fill
  intro X
  have ha := line_bound hG
  refine wpAny_call ?_
  k_dflt ktr_enter
  k_steps
  refine ⟨?_⟩
  rename Fr _ _ _ _ => lF'
  rename News _ _ _ _ => lN'
  rename IsRange _ _ _ _ _ _ _ _ => lR'
  rename _ = (weights d.reverse).2 => hws
  rename List.length _ ≤ 20 => hwl
  subst hws
  refine' range_iter (σ := Int × Tok) (fun c => [(Str.ofString "whole", Value.int c.1 c.2), (Str.ofString "weights", Value.ref _), (Str.ofString "rests", Value.ref _)]) (fun i c => c.1 = (line d).1 * z + (line d).2 + restSum (ns.take i) ((weights d.reverse).2.take i)) (_, _) ?h1 lR' ?h2 lF' lN' ?h7 ?h8 ?turn ?done
  case h1 => rfl
  case h2 => omega
  case h7 => kst_all
  case h8 => simp [restSum]
  case turn =>
    rintro ⟨x', tx'⟩ i' t1' u' h' tk' own' hi' hp' hoff' F' N'
    clear lF' lN' lR'
    dsimp only [kstB] at hp' F' N'
    obtain ⟨⟨dv, wt⟩, hdv⟩ : ∃ p, (weights d.reverse).2[i']? = some p := ⟨_, List.getElem?_eq_getElem hi'⟩
    obtain ⟨rs, hrs⟩ : ∃ p, ns[i']? = some p := ⟨_, List.getElem?_eq_getElem (by omega)⟩
    obtain ⟨ho1, ho2, ho3, ho4⟩ := hok i' rs (dv, wt) hrs hdv
    dsimp only at ho1 ho2 ho3 ho4
    have m1 := mem_first N'
    have m2 := mem_deep N' hr
    k_steps
    refine' rk_end (_, _) ?F ?N hoff' ?hk ?hp
    case F => assumption
    case N => assumption
    case hk => kst_all
    case hp =>
      dsimp only
      rw [restSum_take hrs hdv, hp']
      dsimp only
      omega
  case done =>
    rintro ⟨x', tx'⟩ u' h' tk' hp' F' N'
    clear lF' lN'
    rw [List.take_of_length_le (by omega), List.take_of_length_le (Nat.le_refl _)] at hp'
    dsimp only [kstB] at hp' F' N'
    subst hp'
    k_steps
    rename News h₀ L _ _ => kN'
    exact hret _ _ _ (by assumption) (fun p hp => kN' p (.tail _ (List.mem_append.mpr (.inr (.tail _ hp)))))
end Mine

end
section
open PySem PySem.W PyProof.Rows
namespace Mine
section
variable {prog : Program} {w : World} {A : Around} {E : Value → Shared → Prop} {s : Shared} {env : Env} {h₀ : Heap} {x : Str} {body : List Stmt} {Q : Flow → Shared → Prop}
def IkS {σ : Type} (Led : σ → List (Addr × Obj)) (cst : List (Addr × Obj)) (ps : σ → List (Str × Value)) (P : List Int → σ → Prop) (pre : List Int) (m : Str → Option Value) (nx : List (Addr × Obj)) : Prop :=
  ∃ c : σ, nx = Led c ++ cst ∧ (∀ p ∈ ps c, m p.1 = some p.2) ∧ P pre c
theorem ik_end {σ : Type} {Led : σ → List (Addr × Obj)} {cst : List (Addr × Obj)} {ps : σ → List (Str × Value)} {P : List Int → σ → Prop} {pre : List Int} (c : σ) {L : Addr} {m' : Str → Option Value} {own news' : List (Addr × Obj)} {s₁ : Shared} {h' : Heap} {tk : Nat}
    (F : Fr h₀ L h' m') (N : News h₀ L h' news') (hn : ∀ p ∈ Led c ++ cst, p ∈ news') (ho : ∀ p ∈ own, p ∈ news') (ha : OwnOff own ((Led c ++ cst).map (·.1)))
    (hk : ∀ p ∈ ps c, m' p.1 = some p.2) (hp : P pre c) :
    InvEndG h₀ L (IkS Led cst ps P pre) own s₁ { s₁ with heap := h', toks := tk } :=
  ⟨h', tk, m', news', Led c ++ cst, rfl, F, N, hn, ho, ha, c, rfl, hk, hp⟩
set_option maxHeartbeats 3200000 in
theorem ints_iter {σ : Type} {l : Addr} {us : List Value} {ns : List Int} {nn : Nat} {m₀ : Str → Option Value} {news : List (Addr × Obj)}
    (Led : σ → List (Addr × Obj)) (cst : List (Addr × Obj)) (ps : σ → List (Str × Value)) (P : List Int → σ → Prop) (c₀ : σ)
    (hh : A.handled = none) (hl : (l, listOf us.toArray nn) ∈ cst) (hd : IntsAre us ns)
    (F : Fr h₀ env.locals s.heap m₀) (N : News h₀ env.locals s.heap news) (hn : ∀ p ∈ Led c₀ ++ cst, p ∈ news) (hk : ∀ p ∈ ps c₀, m₀ p.1 = some p.2) (hp0 : P [] c₀)
    (turn : ∀ (c : σ) pre p post t1 (u : Str → Option Value) h tk own, ns = pre ++ p :: post → P pre c → OwnOff own ((Led c ++ cst).map (·.1)) →
      Fr h₀ env.locals h (fun y => if y = x then some (.int p t1) else kstB u (ps c) y) → News h₀ env.locals h (Led c ++ (cst ++ own)) →
      wpAny (model prog w) A (execs body env) (InvPostG h₀ env.locals (IkS Led cst ps P (pre ++ [p])) own { s with heap := h, toks := tk } Q) E { s with heap := h, toks := tk })
    (done : ∀ (c : σ) (u : Str → Option Value) h tk, P ns c → Fr h₀ env.locals h (kstB u (ps c)) → News h₀ env.locals h (Led c ++ cst) → Q .next { s with heap := h, toks := tk }) :
    wpAny (model prog w) A (pyIter (.ref l)) (fun it s₂ => LoopAtV prog w A h₀ env x body Q E it s₂) E s := by
  have N0 : News h₀ env.locals s.heap (Led c₀ ++ cst) := fun p hp => N p (hn p hp)
  refine kdl_iter (fun i m nx => IkS Led cst ps P (ns.take i) m nx) hh (List.mem_append.mpr (.inr hl)) F N0 ⟨c₀, rfl, hk, by simpa using hp0⟩ ?_ ?_
  · rintro i v m₁ nx h tk own hv hoff hl₁ ⟨c, rfl, h1, hp'⟩ F₁ N₁
    have hin : i < ns.length := by rw [← hd.length]; exact (List.getElem?_eq_some_iff.mp hv).1
    obtain ⟨t, hx⟩ := hd.get i (ns[i]'hin) (List.getElem?_eq_getElem hin)
    have ev : v = .int (ns[i]'hin) t := by rw [hx] at hv; exact (Option.some.inj hv).symm
    subst ev
    have hs : ns.take (i + 1) = ns.take i ++ [ns[i]'hin] := by rw [List.take_add_one, List.getElem?_eq_getElem hin]; rfl
    have e : ns = ns.take i ++ (ns[i]'hin) :: ns.drop (i + 1) := by
      have h9 := List.take_append_drop (i + 1) ns
      rw [hs, List.append_assoc] at h9
      exact h9.symm
    rw [List.append_assoc] at N₁
    have F₂ : Fr h₀ env.locals h (fun y => if y = x then some (.int (ns[i]'hin) t) else kstB m₁ (ps c) y) := by rw [kstB_all h1]; exact F₁
    refine wpAny_mono (turn c _ _ _ t m₁ h tk own e hp' hoff F₂ N₁) (fun f s₂ p => ?_) fun _ _ x => x
    have up : InvEndG h₀ env.locals (IkS Led cst ps P (ns.take i ++ [ns[i]'hin])) own { s with heap := h, toks := tk } s₂ →
        InvEndG h₀ env.locals (fun m' nx => (l, listOf us.toArray nn) ∈ nx ∧ IkS Led cst ps P (ns.take (i + 1)) m' nx) own { s with heap := h, toks := tk } s₂ := by
      rintro ⟨h', tk', m', news', nx', e', F', N', hn', ho', ha, hS⟩
      refine ⟨h', tk', m', news', nx', e', F', N', hn', ho', ha, ?_, by rw [hs]; exact hS⟩
      obtain ⟨c', rfl, _⟩ := hS
      exact List.mem_append.mpr (.inr hl)
    cases f with
    | ret v => exact p
    | brk => exact p
    | next => exact up p
    | cont => exact up p
  · rintro m₁ nx h tk ⟨c, rfl, h1, hp'⟩ F₁ N₁
    rw [hd.length, List.take_length] at hp'
    refine done c m₁ h tk hp' ?_ N₁
    rw [kstB_all h1]
    exact F₁
end
end Mine

end
section
open PySem PySem.W PyProof.Rows
namespace Mine
def deedOf (n : Int) : Int × Int :=
  (n.fmod 8,
    let c := (n.fdiv 8).fmod 41 - 20
    let c := if n.fmod 8 = 2 ∧ c = 0 then 21 else c
    if n.fmod 8 = 5 then c.fmod 5 else c)
theorem deed_eq1 {p : Int} (h : p.fmod 8 = 2) (h0 : (p.fdiv 8).fmod 41 - 20 = 0) : (p.fmod 8, (21 : Int)) = deedOf p := by
  simp [deedOf, h, h0]
theorem deed_eq2 {p : Int} (h : p.fmod 8 = 2) (h0 : (p.fdiv 8).fmod 41 - 20 ≠ 0) : (p.fmod 8, (p.fdiv 8).fmod 41 - 20) = deedOf p := by
  simp [deedOf, h, h0]
theorem deed_eq3 {p : Int} (h : p.fmod 8 ≠ 2) (h5 : p.fmod 8 = 5) : (p.fmod 8, ((p.fdiv 8).fmod 41 - 20).fmod 5) = deedOf p := by
  simp [deedOf, h5]
theorem deed_eq4 {p : Int} (h : p.fmod 8 ≠ 2) (h5 : p.fmod 8 ≠ 5) : (p.fmod 8, (p.fdiv 8).fmod 41 - 20) = deedOf p := by
  simp [deedOf, h, h5]
def deeds0 : List (Int × Int) := [(0, 7), (4, 0), (2, -3), (6, 11), (3, 0), (5, 2), (7, -6), (1, 9)]
def deedsOf (ns : List Int) : List (Int × Int) := deeds0 ++ (ns.take 12).map deedOf

theorem good_deed (n : Int) : GoodDeed (deedOf n) := by
  unfold GoodDeed deedOf
  have h1 : n.fmod 8 = n % 8 := Int.fmod_eq_emod_of_nonneg _ (by decide)
  have h2 : n.fdiv 8 = n / 8 := Int.fdiv_eq_ediv_of_nonneg _ (by decide)
  have h3 : ∀ c : Int, c.fmod 41 = c % 41 := fun c => Int.fmod_eq_emod_of_nonneg _ (by decide)
  have h4 : ∀ c : Int, c.fmod 5 = c % 5 := fun c => Int.fmod_eq_emod_of_nonneg _ (by decide)
  dsimp only
  simp only [h1, h2, h3, h4]
  refine ⟨by omega, by omega, ?_⟩
  split <;> split <;> omega
theorem good_deeds (ns : List Int) : Good (deedsOf ns) := by
  refine ⟨?_, fun p hp => ?_⟩
  · unfold deedsOf deeds0
    simp only [List.length_append, List.length_map, List.length_take, List.length_cons, List.length_nil]
    omega
  · rcases List.mem_append.mp hp with h | h
    · have h9 : ∀ p ∈ deeds0, GoodDeed p := by
        unfold deeds0 GoodDeed
        decide
      exact h9 p h
    · obtain ⟨n, _, rfl⟩ := List.mem_map.mp h
      exact good_deed n

theorem PairsIn.cons {news : List (Addr × Obj)} {us ds} {T : Addr} {p : Int × Int} {t1 t2 : Tok} {n : Nat} (hT : (T, tup2 p t1 t2 n) ∈ news) (h : PairsIn news us ds) : PairsIn news (Value.ref T :: us) (p :: ds) := by
  refine ⟨by simp [h.1], fun i q e => ?_⟩
  cases i with
  | zero =>
    have eq : p = q := by simpa using e
    subst eq
    exact ⟨T, t1, t2, n, rfl, hT⟩
  | succ i =>
    have e' : ds[i]? = some q := by simpa using e
    obtain ⟨a, t1, t2, n, e1, e2⟩ := h.2 i q e'
    exact ⟨a, t1, t2, n, by simpa using e1, e2⟩

abbrev DPost (r D : Addr) (oD : Obj) (old : List (Addr × Obj)) (ds0 : List (Int × Int)) (pre : List Int) : (Str → Option Value) → List (Addr × Obj) → Prop :=
  IkS (σ := List Value × Nat × List (Addr × Obj)) (fun c => (r, listOf c.1.toArray c.2.1) :: c.2.2) ((D, oD) :: old)
    (fun _ => [(Str.ofString "deeds", Value.ref r)])
    (fun pre c => PairsIn (c.2.2 ++ old) c.1 (ds0 ++ pre.map deedOf) ∧ ∀ q ∈ c.2.2, q.1 ≠ r) pre
section
variable {h₀ h' : Heap} {L r D T : Addr} {oD : Obj} {m' : Str → Option Value} {old own tl : List (Addr × Obj)} {ds0 : List (Int × Int)} {pre : List Int} {p : Int} {q : Int × Int} {t2 ta tb : Tok} {vs : List Value} {n nT : Nat} {s₁ : Shared} {tk : Nat}
theorem d_end (F : Fr h₀ L h' m') (N : News h₀ L h' ((T, tup2 q ta tb nT) :: (r, listOf (vs ++ [Value.ref T]).toArray (n + 1)) :: (tl ++ ((D, oD) :: (old ++ own)))))
    (hoff : OwnOff own (((r, listOf vs.toArray n) :: (tl ++ ((D, oD) :: old))).map (·.1))) (hl : r < T ∧ AllLt T (tl ++ ((D, oD) :: (old ++ own)))) (hsep : ∀ q ∈ tl, q.1 ≠ r) (hp : PairsIn (tl ++ old) vs (ds0 ++ pre.map deedOf))
    (hk2 : m' (Str.ofString "deeds") = some (.ref r)) (hv : q = deedOf p) :
    InvEndG h₀ L (DPost r D oD old ds0 (pre ++ [p])) own s₁ { s₁ with heap := h', toks := tk } := by
  refine ik_end (vs ++ [Value.ref T], n + 1, (T, tup2 q ta tb nT) :: tl) F N wends_sub wends_own (wends_off hoff hl.2) (List.forall_mem_cons.mpr ⟨hk2, List.forall_mem_nil _⟩) ⟨?_, wends_sep hsep hl.1⟩
  subst hv
  rw [List.map_append, ← List.append_assoc]
  exact hp.snoc
end
section
variable {prog : Program} {w : World} {A : Around} {E : Value → Shared → Prop} {s : Shared} {env : Env} {h₀ : Heap} {x : Str} {body : List Stmt} {Q : Flow → Shared → Prop}
theorem deeds_iter {r D : Addr} {us vs0 : List Value} {ns : List Int} {ds0 : List (Int × Int)} {nD n0 : Nat} {m₀ : Str → Option Value} {old : List (Addr × Obj)}
    (hh : A.handled = none) (hd : IntsAre us ns)
    (F : Fr h₀ env.locals s.heap m₀) (N : News h₀ env.locals s.heap ((D, listOf us.toArray nD) :: (r, listOf vs0.toArray n0) :: old)) (hlD : r < D) (hlr : ∀ p ∈ old, p.1 < r) (hp0 : PairsIn old vs0 ds0)
    (hk : m₀ (Str.ofString "deeds") = some (.ref r))
    (turn : ∀ vs n tl pre p post t1 (u : Str → Option Value) h tk own, ns = pre ++ p :: post → PairsIn (tl ++ old) vs (ds0 ++ pre.map deedOf) → OwnOff own (((r, listOf vs.toArray n) :: (tl ++ ((D, listOf us.toArray nD) :: old))).map (·.1)) →
      (∀ q ∈ tl ++ ((D, listOf us.toArray nD) :: (old ++ own)), q.1 ≠ r) → (∀ q ∈ tl, q.1 ≠ r) →
      Fr h₀ env.locals h (fun y => if y = x then some (.int p t1) else if y = Str.ofString "deeds" then some (.ref r) else u y) → News h₀ env.locals h ((r, listOf vs.toArray n) :: (tl ++ ((D, listOf us.toArray nD) :: (old ++ own)))) →
      wpAny (model prog w) A (execs body env) (InvPostG h₀ env.locals (DPost r D (listOf us.toArray nD) old ds0 (pre ++ [p])) own { s with heap := h, toks := tk } Q) E { s with heap := h, toks := tk })
    (done : ∀ vs n tl (u : Str → Option Value) h tk, PairsIn (tl ++ old) vs (ds0 ++ ns.map deedOf) → (∀ q ∈ tl, q.1 ≠ r) → Fr h₀ env.locals h (fun y => if y = Str.ofString "deeds" then some (.ref r) else u y) → News h₀ env.locals h ((r, listOf vs.toArray n) :: (tl ++ ((D, listOf us.toArray nD) :: old))) → Q .next { s with heap := h, toks := tk }) :
    wpAny (model prog w) A (pyIter (.ref D)) (fun it s₂ => LoopAtV prog w A h₀ env x body Q E it s₂) E s := by
  refine ints_iter (σ := List Value × Nat × List (Addr × Obj)) (fun c => (r, listOf c.1.toArray c.2.1) :: c.2.2) ((D, listOf us.toArray nD) :: old) (fun _ => [(Str.ofString "deeds", Value.ref r)])
    (fun pre c => PairsIn (c.2.2 ++ old) c.1 (ds0 ++ pre.map deedOf) ∧ ∀ q ∈ c.2.2, q.1 ≠ r) (vs0, n0, []) hh (.head _) hd F N ?_ (List.forall_mem_cons.mpr ⟨hk, List.forall_mem_nil _⟩) ⟨by simpa using hp0, fun _ h => nomatch h⟩ ?_ ?_
  · intro p hp
    rcases List.mem_cons.mp hp with rfl | hp
    · exact .tail _ (.head _)
    · rcases List.mem_cons.mp hp with rfl | hp
      · exact .head _
      · exact .tail _ (.tail _ hp)
  · rintro ⟨vs, n, tl⟩ pre p post t1 u h tk own e1 hP hoff F' N'
    refine turn vs n tl pre p post t1 u h tk own e1 hP.1 hoff ?_ hP.2 F' N'
    intro q hq
    rcases List.mem_append.mp hq with hq | hq
    · exact hP.2 q hq
    · rcases List.mem_cons.mp hq with rfl | hq
      · exact Nat.ne_of_gt hlD
      · rcases List.mem_append.mp hq with hq | hq
        · exact Nat.ne_of_lt (hlr q hq)
        · exact hoff q hq r (.head _)
  · rintro ⟨vs, n, tl⟩ u h tk hP F' N'
    exact done vs n tl u h tk hP.1 hP.2 F' N'
end
theorem abs_old {h₀ h : Heap} {L r D : Addr} {oD : Obj} {vs0 : List Value} {n0 : Nat} {old news : List (Addr × Obj)} {ds0 : List (Int × Int)}
    (N : News h₀ L h ((D, oD) :: (r, listOf vs0.toArray n0) :: old)) (hl : ∀ p ∈ old, p.1 < r) (hp : PairsIn old vs0 ds0) (hn : ∀ q ∈ news, q ∈ old) :
    ∃ (old' : List (Addr × Obj)) (vs' : List Value), News h₀ L h ((D, oD) :: (r, listOf vs'.toArray n0) :: old') ∧ (∀ p ∈ old', p.1 < r) ∧ PairsIn old' vs' ds0 ∧ ∀ q ∈ news, q ∈ old' := ⟨old, vs0, N, hl, hp, hn⟩
theorem deeds_len {tl : List (Addr × Obj)} {vs : List Value} {ns pre post : List Int} {p : Int} (h : PairsIn tl vs (deeds0 ++ pre.map deedOf)) (e : ns.take 12 = pre ++ p :: post) : vs.length ≤ 100 := by
  have h1 := h.1
  have h2 := congrArg List.length e
  simp only [deeds0, List.length_append, List.length_map, List.length_take, List.length_cons, List.length_nil] at h1 h2
  omega
theorem d_drop {a D : Addr × Obj} {tl old news : List (Addr × Obj)} (hn : ∀ q ∈ news, q ∈ old) : ∀ p ∈ a :: ((tl ++ old) ++ news), p ∈ a :: (tl ++ (D :: old)) := by
  intro p hp
  simp only [List.mem_cons, List.mem_append] at hp ⊢
  rcases hp with h | (h | h) | h
  · exact .inl h
  · exact .inr (.inl h)
  · exact .inr (.inr (.inr h))
  · exact .inr (.inr (.inr (hn _ h)))
end Mine

end
section
open PySem PySem.W PyProof.Rows PySem.Spec PySem.Calls
namespace Mine
set_option maxRecDepth 100000 in
set_option maxHeartbeats 8000000 in
theorem deeds_tells {w : World} {mean : ExcName → Option Value} {mg mb : Str → Option Value} 
   (dp un : Nat) (gd : Option (List Code)) (cn : Str) (cs : Scope) (a : Addr) (ccd : Value) (cl : List (Str × Addr)) (outer : List Env) (A₀ : Around) (base h₀ : Heap) (L : Addr) (m : Str → Option Value) (news : List (Addr × Obj)) (s : Shared)
   (sc : Addr) (svs : List Value) (ns : List Int)
    (Q E : Value → Shared → Prop)
    (B : Below A₀ base outer h₀) (F : Fr h₀ L s.heap m) (X : (hd.heap_39 w.params).In h₀) (N : News h₀ L s.heap news) (T : Top hd.view_39 (looseW hd.view_39 []) mean mg mb h₀) (hk : cs.kind = .function) 
    (hS : h₀.IsList sc svs.toArray) (hI : IntsAre svs ns) (hn : ns.length ≤ 63) (hdp : dp + 10 < recursionLimit)
    (hret : ∀ r vs n tl h' tk', PairsIn tl vs (deedsOf ns) → Fr h₀ L h' m → News h₀ L h' ((r, listOf vs.toArray n) :: (tl ++ news)) → Q (.ref r) { s with heap := h', toks := tk' }) :
    wpAny (model Challenge.rw_ny0463_01.row.prog w) (ktrTop dp un gd cn cs L a ccd cl outer) (call (.ref 147) [.ref sc]) Q E s := by
  w_on
  k_with_none
  k_with "exec For Name Subscript cons nil" => (k_here; (rename Fr _ _ _ _ => lF'); (with_unfolding_all refine' For_invVF lF' ?k1 ?k2 ?_; (case k1 => exact rfl); (case k2 => exact rfl); k_whole))
  k_with "pyIter ref" => (k_here; refine Held.out ?_)
  k_with "call builtin:list.append" => (k_here; (rename Fr _ _ _ _ => lF'); (rename News _ _ _ _ => lN'); (rename _ ∧ AllLt _ _ => lA'); k_dflt (refine' append_second lF' lN' (Nat.ne_of_gt lA'.1) ?ks ?kz ?_; (case ks => assumption); (case kz => assumption)); clear lF' lN'; intro h' F' N')
  revert X
  k_fill
  intro X
  refine wpAny_call ?_
  k_dflt ktr_enter
  rename Fr h₀ L _ m => FG'
  have hS' := hS.at (fun o e => FG'.keep _ _ e)
  k_steps
  refine ⟨?_⟩
  rename Fr _ _ _ _ => lF'
  rename News _ _ _ _ => lN'
  rename IntsAre _ (List.take 12 ns) => lI'
  rename _ ∧ _ => lD'
  have lDD := lD'.1
  clear lD'
  rename _ ∧ _ => lR'
  have hold := abs_old (ds0 := deeds0) (news := news) lN' (allLt_to lR') (PairsIn.cons (.tail _ (.tail _ (.tail _ (.tail _ (.tail _ (.tail _ (.tail _ (.head _)))))))) (PairsIn.cons (.tail _ (.tail _ (.tail _ (.tail _ (.tail _ (.tail _ (.head _))))))) (PairsIn.cons (.tail _ (.tail _ (.tail _ (.tail _ (.tail _ (.head _)))))) (PairsIn.cons (.tail _ (.tail _ (.tail _ (.tail _ (.head _))))) (PairsIn.cons (.tail _ (.tail _ (.tail _ (.head _)))) (PairsIn.cons (.tail _ (.tail _ (.head _))) (PairsIn.cons (.tail _ (.head _)) (PairsIn.cons (.head _) PairsIn.nil)))))))) (fun q hq => .tail _ (.tail _ (.tail _ (.tail _ (.tail _ (.tail _ (.tail _ (.tail _ hq))))))))
  clear lN' lR'
  obtain ⟨old, vs0, lN', lR', lP', lM'⟩ := hold
  refine' deeds_iter (ds0 := deeds0) ?h1 lI' lF' lN' lDD lR' lP' ?hk ?turn ?done
  case h1 => rfl
  case hk => with_unfolding_all rfl
  case turn =>
    rintro vs' n' tl' pre' p' post' t1' u' h' tk' own' hds' hp' hoff' hsep' hsep2 F' N'
    clear lF' lN' lR'
    have hx4 := deeds_len hp' hds'
    k_steps
    all_goals (refine' d_end (q := (_, _)) ?F ?N hoff' ?hl hsep2 hp' ?k2 ?hv; (case F => assumption); (case N => assumption); (case hl => assumption); (case k2 => with_unfolding_all rfl); (case hv => first | exact deed_eq1 (by assumption) (by assumption) | exact deed_eq2 (by assumption) (by assumption) | exact deed_eq3 (by assumption) (by assumption) | exact deed_eq4 (by assumption) (by assumption) | (exfalso; omega)))
  case done =>
    rintro vs' n' tl' u' h' tk' hp' hsep2 F' N'
    clear lF' lN' lR'
    k_steps
    rename News h₀ L _ _ => kN'
    exact hret _ _ _ _ _ _ hp' (by assumption) (fun p hp => kN' p (d_drop lM' p hp))
end Mine

end
section
open PySem PySem.W PyProof.Rows PySem.Spec PySem.Calls
namespace Mine
def sizeOf (n : Int) : Int := if n < 0 then -((-n).fmod (10 ^ 30)) else n.fmod (10 ^ 30)
theorem size_small (n : Int) : (sizeOf n).natAbs < 2 ^ 100 := by
  have h : ∀ a : Int, a.fmod (10 ^ 30) = a % (10 ^ 30) := fun a => Int.fmod_eq_emod_of_nonneg _ (by decide)
  unfold sizeOf
  split
  · rw [h]; omega
  · rw [h]; omega
set_option maxRecDepth 100000 in
set_option maxHeartbeats 8000000 in
theorem size_tells {w : World} {mean : ExcName → Option Value} {mg mb : Str → Option Value} 
   (dp un : Nat) (gd : Option (List Code)) (cn : Str) (cs : Scope) (a : Addr) (ccd : Value) (cl : List (Str × Addr)) (outer : List Env) (A₀ : Around) (base h₀ : Heap) (L : Addr) (m : Str → Option Value) (news : List (Addr × Obj)) (s : Shared)
   (n : Int) (t : Tok)
    (Q E : Value → Shared → Prop)
    (B : Below A₀ base outer h₀) (F : Fr h₀ L s.heap m) (X : (hd.heap_39 w.params).In h₀) (N : News h₀ L s.heap news) (T : Top hd.view_39 (looseW hd.view_39 []) mean mg mb h₀) (hk : cs.kind = .function) 
    (hdp : dp + 10 < recursionLimit)
    (hret : ∀ t' h' tk', Fr h₀ L h' m → News h₀ L h' news → Q (.int (sizeOf n) t') { s with heap := h', toks := tk' }) :
    wpAny (model Challenge.rw_ny0463_01.row.prog w) (ktrTop dp un gd cn cs L a ccd cl outer) (call (.ref 154) [.int n t]) Q E s := by
  w_on
  k_with_none
  k_with "binaryOp Mod int int" => (k_here; refine mod_int' (by decide) ?_)
  revert X
  k_fill
  intro X
  refine wpAny_call ?_
  k_dflt ktr_enter
  k_steps
  · have e : sizeOf n = -((-n).fmod (10 ^ Int.toNat 30)) := if_pos (by assumption)
    rw [← e]
    exact hret _ _ _ (by assumption) (by assumption)
  · have e : sizeOf n = n.fmod (10 ^ Int.toNat 30) := if_neg (by assumption)
    rw [← e]
    exact hret _ _ _ (by assumption) (by assumption)
end Mine

end
section
open PySem PySem.W PyProof.Rows
namespace Mine
theorem line_val' : ∀ (ds : List (Int × Int)) (s : Int × Int) (x : Int), (ds.foldl lineStep s).1 * x + (ds.foldl lineStep s).2 = ds.foldl thereStep (s.1 * x + s.2)
  | [], _, _ => rfl
  | p :: ds, s, x => by
    rw [List.foldl_cons, List.foldl_cons, there_line s.1 s.2 x p]
    exact line_val' ds (lineStep s p) x
theorem there_small' : ∀ (ds : List (Int × Int)) (x : Int) (n : Nat), x.natAbs < 2 ^ (100 + 6 * n) → (∀ p ∈ ds, GoodDeed p) → (ds.foldl thereStep x).natAbs < 2 ^ (100 + 6 * (n + ds.length))
  | [], _, _, h, _ => by simpa using h
  | (k, c) :: ds, x, n, h, hg => by
    obtain ⟨h1, h2, h3, h4, h5, h6⟩ := hg (k, c) (.head _)
    have := there_small' ds (thereStep x (k, c)) (n + 1) (there_bound h h3 h4 h6) (fun p hp => hg p (.tail _ hp))
    rw [List.foldl_cons, List.length_cons]
    rw [show n + 1 + ds.length = n + (ds.length + 1) by omega] at this
    exact this
theorem val_small {ds : List (Int × Int)} {x : Int} (hg : Good ds) (hx : x.natAbs < 2 ^ 100) : ((line ds).1 * x + (line ds).2).natAbs < 2 ^ 220 := by
  unfold line
  rw [line_val', show (1 : Int) * x + 0 = x by omega]
  have h := there_small' ds x 0 (by simpa using hx) hg.2
  have h1 := hg.1
  exact Nat.lt_of_lt_of_le h (Nat.pow_le_pow_right (by decide) (by omega))
theorem lt_220 {x : Int} (h : x.natAbs < 2 ^ 100) : x.natAbs < 2 ^ 220 := Nat.lt_of_lt_of_le h (Nat.pow_le_pow_right (by decide) (by decide))
theorem lt_230 {x : Int} (h : x.natAbs < 2 ^ 100) : x.natAbs < 2 ^ 230 := Nat.lt_of_lt_of_le h (Nat.pow_le_pow_right (by decide) (by decide))
theorem back_small' : ∀ (ds : List (Int × Int)) (s : Int × List Int) (B : Nat), s.1.natAbs < B → (∀ p ∈ ds, GoodDeed p) → (ds.foldl backStep s).1.natAbs < B + 25 * ds.length
  | [], _, _, h, _ => by simpa using h
  | (k, c) :: ds, s, B, h, hg => by
    obtain ⟨h1, h2, h3, h4, h5, h6⟩ := hg (k, c) (.head _)
    have := back_small' ds (backStep s (k, c)) (B + 25) (back_bound h h3 h4) (fun p hp => hg p (.tail _ hp))
    rw [List.foldl_cons, List.length_cons]
    omega
theorem back_small {ds : List (Int × Int)} {x z : Int} {ns : List Int} (hg : Good ds) (hx : x.natAbs < 2 ^ 220) (e : (z, ns) = back ds.reverse x) : z.natAbs < 2 ^ 230 := by
  have h := back_small' ds.reverse (x, []) (2 ^ 220) hx hg.rev.2
  unfold back at e
  rw [← e] at h
  have h1 := hg.rev.1
  have h2 : 2 ^ 220 + 25 * 20 ≤ 2 ^ 230 := by decide
  generalize 2 ^ 220 = M at *
  generalize 2 ^ 230 = M' at *
  dsimp only at h
  omega
end Mine

end
section
open PySem PySem.W PyProof.Rows PySem.Spec PySem.Calls PyProof.V PyProof.Rows.LCg
namespace Mine
def zs (test : Int × Int → Bool) (l : List (Int × Int)) : List Int := (l.filter test).map fun _ => 0
theorem zs_snoc {test : Int × Int → Bool} {l : List (Int × Int)} {p : Int × Int} : zs test (l ++ [p]) = zs test l ++ (if test p then [0] else []) := by
  unfold zs
  rw [List.filter_append, List.map_append]
  cases h : test p <;> simp [h]
section
variable {prog : Program} {w : World} {A : Around} {E : Value → Shared → Prop} {s : Shared} {env : Env} {h₀ : Heap}
set_option maxHeartbeats 3200000 in
theorem comp_loop {R : Result → Shared → Prop} {x x₂ : Str} {px px₂ tp pos pos0 : Pos} {tk k0 : Nat} {iter c : Expr} {scope : Scope} {cl : List (Str × Addr)} {I C D ax L : Addr} {us : List Value} {ds : List (Int × Int)} {nn : Nat} {m m₁ : Str → Option Value} {news : List (Addr × Obj)} {h₁ : Heap} {tk₁ : Nat} {test : Int × Int → Bool}
    (hh : A.handled = none) (hm : (ax, listOf us.toArray nn) ∈ news) (hd : PairsIn news us ds) (hsz : ds.length ≤ 20) (hkind : scope.kind = .function) (hx : scope.names.lookup x = some .local) (hx₂ : scope.names.lookup x₂ = some .local) (hxx : x ≠ x₂)
    (hIC : I ≠ C) (hID : I ≠ D) (hCD : C ≠ D) (hLI : L ≠ I) (hLC : C ≠ L) (hLD : D ≠ L) (hI0 : h₀.get? I = none) (hC0 : h₀.get? C = none) (hD0 : h₀.get? D = none)
    (hnI : ∀ p ∈ news, p.1 ≠ I) (hnC : ∀ p ∈ news, p.1 ≠ C) (hnD : ∀ p ∈ news, p.1 ≠ D)
    (st : h₁.IsListIter I ax 0) (F : Fr h₀ L h₁ m) (hC : h₁.Ns C m₁) (N : News h₀ L h₁ ((D, lst []) :: news))
    (htest : ∀ (p : Int × Int) t1 t2 (s' : Shared) m' (E' : Value → Shared → Prop) (Q' : Bool → Shared → Prop), s'.heap.Ns C m' → m' x = some (.int p.1 t1) → m' x₂ = some (.int p.2 t2) → (∀ tk', Q' (test p) { s' with toks := tk' }) →
      wpAny (model prog w) A (isTrue c (compEnvC scope cl C env) (eval c (compEnvC scope cl C env))) Q' E' s')
    (fin : ∀ h tk ys m', IntsAre ys (zs test ds) → Fr h₀ L h m → h.Ns C m' → News h₀ L h ((D, lst ys) :: news) → R (.ok .next) { s with heap := h, toks := tk }) :
    codeAny (model prog w) A (.compLoop (.ListComp (.Constant (.int 0) k0 pos0) [⟨.Tuple [.Name x px, .Name x₂ px₂] tk tp, iter, [c], 0⟩] scope pos) 0 (.ref I) (.ref D) (compEnvC scope cl C env)) R { s with heap := h₁, toks := tk₁ } := by
  have hne : ax ≠ I := hnI _ hm
  have W := Walks.list (prog := prog) (w := w) hh I ax hne us.toArray
  have hlen : us.toArray.size = ds.length := by simp [hd.1]
  rw [hlen] at W
  refine kct_loop (fun k s' => ∃ h' tk i ys m', s' = { s with heap := h', toks := tk } ∧ i ≤ ds.length ∧ k = ds.length + 1 - i ∧ IntsAre ys (zs test (ds.take i)) ∧ ys.length ≤ i ∧ h'.IsListIter I ax i ∧ Fr h₀ L h' m ∧ h'.Ns C m' ∧ News h₀ L h' ((D, lst ys) :: news)) ?_ (ds.length + 1)
    ⟨h₁, tk₁, 0, [], m₁, rfl, Nat.zero_le _, rfl, by simpa [zs] using IntsAre.nil, Nat.le_refl _, st, F, hC, N⟩
  rintro k s' ⟨h', tk', i, ys, m', rfl, hi, rfl, hys, hyl, hit, F', hn', N'⟩
  have hls : h'.IsList ax us.toArray := isList_news N' (.tail _ hm)
  have keepN : ∀ h₂ : Heap, (∀ b o, b ∉ [I] → h'.get? b = some o → h₂.get? b = some o) → News h₀ L h₂ ((D, lst ys) :: news) := fun h₂ hk₂ => news_but N' hk₂ fun p hp => by
    rcases List.mem_cons.mp hp with rfl | hp
    · exact Ne.symm hID
    · exact hnI p hp
  by_cases hlt : i < ds.length
  · refine W.item i _ _ _ hlt ⟨hit, hls⟩ fun v h₂ tk₂ hPv hst₂ hk₂ => ?_
    have hPv' : us[i]? = some v := by simpa using hPv
    have hdi : ds[i]? = some (ds[i]'hlt) := List.getElem?_eq_getElem hlt
    obtain ⟨T, t1, t2, n, e1, e2⟩ := hd.2 i _ hdi
    have ev : v = .ref T := by rw [e1] at hPv'; exact (Option.some.inj hPv').symm
    subst ev
    have hs : ds.take (i + 1) = ds.take i ++ [ds[i]'hlt] := by rw [List.take_add_one, hdi]; rfl
    generalize hpe : ds[i]'hlt = p at hs e2
    have N₂ := keepN h₂ hk₂
    have ht : IsTup h₂ T #[.int p.1 t1, .int p.2 t2] := ⟨_, (N₂ _ (.tail _ e2)).1, rfl, n, rfl⟩
    refine wpAny_letOwnedTupleGo_listiter hst₂.1 ?_
    refine assign_Tuple_tuple hh ht rfl rfl fun h₅ he => ?_
    have he' : ∀ b o, h₂.get? b = some o → h₅.get? b = some o := fun b o e => he b o (Nat.ne_of_lt (Heap.lt_size e)) e
    have nsC : h₅.Ns C m' := (hn'.at' fun o e => hk₂ _ o (by simpa using Ne.symm hIC) e).at' fun o e => he' _ o e
    refine assignInOrder_cons (wpAny_assign_Name (wpAny_storeName_local (lookup_relabel_local hx) nsC (fun h₆ hn₆ hs₆ => ?_) (by simp [compEnvC, relabel, hkind])))
    refine assignInOrder_cons (wpAny_assign_Name (wpAny_storeName_local (lookup_relabel_local hx₂) hn₆ (fun h₃ hn₃ hs₃ => ?_) (by simp [compEnvC, relabel, hkind])))
    refine assignInOrder_nil ?_
    have old3 : ∀ b o, b ≠ C → h₂.get? b = some o → h₃.get? b = some o := fun b o hb e => hs₃.extBut b o hb (hs₆.extBut b o hb (he' b o e))
    have F₃ : Fr h₀ L h₃ m := (((fr_but F' hk₂ hLI hI0).keeps he').change hs₆ hLC hC0).change hs₃ hLC hC0
    have N₃ : News h₀ L h₃ ((D, lst ys) :: news) := fun q hq => ⟨old3 _ _ (by
      rcases List.mem_cons.mp hq with rfl | hq
      · exact Ne.symm hCD
      · exact hnC q hq) (N₂ q hq).1, (N₂ q hq).2⟩
    have it₃ : h₃.IsListIter I ax (i + 1) := by
      obtain ⟨o, e, r⟩ := hst₂.1
      exact ⟨o, old3 _ _ hIC e, r⟩
    refine htest p t1 t2 _ _ _ _ hn₃ (by simp [hxx]) (by simp) fun tk₃ => ?_
    cases htp : test p with
    | false =>
      simp only [Bool.false_eq_true, if_false]
      refine ⟨ds.length + 1 - (i + 1), by omega, h₃, tk₃, i + 1, ys, _, rfl, hlt, rfl, ?_, by omega, it₃, F₃, hn₃, N₃⟩
      rw [hs, zs_snoc, htp]
      simpa using hys
    | true =>
      simp only [if_true]
      refine wpAny_Constant_int ?_
      refine append_at (hsz := by rw [List.size_toArray, sizeLine_eq]; omega) (N₃ _ (.head _)).1 fun h₇ hs₇ hD₇ => ?_
      refine ⟨ds.length + 1 - (i + 1), by omega, h₇, _, i + 1, ys ++ [.int 0 tk₃], _, rfl, hlt, rfl, ?_, by rw [List.length_append, List.length_singleton]; omega, ?_, F₃.change hs₇ hLD hD0, hn₃.sameBut hs₇ hCD, fun q hq => ?_⟩
      · rw [hs, zs_snoc, htp]
        exact hys.append (IntsAre.cons _ _ IntsAre.nil)
      · obtain ⟨o, e, r⟩ := it₃
        exact ⟨o, hs₇.extBut _ _ hID e, r⟩
      · rcases List.mem_cons.mp hq with rfl | hq
        · exact ⟨hD₇.trans (congrArg some (lst_snoc ys _)), hLD, hD0⟩
        · exact ⟨hs₇.extBut _ _ (hnD q hq) (N₃ q (.tail _ hq)).1, (N₃ q (.tail _ hq)).2⟩
  · obtain rfl : i = ds.length := Nat.le_antisymm hi (Nat.not_lt.mp hlt)
    refine W.done _ _ _ ⟨hit, hls⟩ fun h₂ tk₂ hk₂ => ?_
    rw [List.take_length] at hys
    exact fin h₂ tk₂ ys m' hys (fr_but F' hk₂ hLI hI0) (hn'.at' fun o e => hk₂ _ o (by simpa using Ne.symm hIC) e) (keepN h₂ hk₂)
end
end Mine

end
section
open PySem PySem.W PyProof.Rows PySem.Spec PySem.Calls PyProof.V PyProof.Rows.LCg
namespace Mine
theorem neA {a b : Addr} (h : @LT.lt Nat _ a b) : a ≠ b := Nat.ne_of_lt h
theorem neB {a b : Addr} (h : @LT.lt Nat _ b a) : a ≠ b := Nat.ne_of_gt h
section
variable {prog : Program} {w : World} {A : Around} {E : Value → Shared → Prop} {s : Shared} {env : Env} {h₀ : Heap}
set_option maxHeartbeats 3200000 in
theorem comp_zeros {x x₂ y : Str} {px px₂ tp pos pos0 spos py : Pos} {tk k0 : Nat} {iter c : Expr} {scope : Scope} {cl : List (Str × Addr)} {ax : Addr} {us : List Value} {ds : List (Int × Int)} {nn : Nat} {m : Str → Option Value} {news : List (Addr × Obj)} {test : Int × Int → Bool} {Q : Flow → Shared → Prop}
    (F : Fr h₀ env.locals s.heap m) (N : News h₀ env.locals s.heap news) (hh : A.handled = none) (hm : (ax, listOf us.toArray nn) ∈ news) (hd : PairsIn news us ds) (hsz : ds.length ≤ 20)
    (hsw : swapsWith (.ListComp (.Constant (.int 0) k0 pos0) [⟨.Tuple [.Name x px, .Name x₂ px₂] tk tp, iter, [c], 0⟩] scope pos) (some (.Name y py)) spos.line env = pure true)
    (hclos : closureFor scope env = pure cl) (hcell : ∀ z ∈ scope.names, z.2 ≠ .cell) (hkind : scope.kind = .function)
    (hnames : ∀ z ∈ scope.names, z.2 = .local → scope.names.lookup z.1 = some .local) (hx : scope.names.lookup x = some .local) (hx₂ : scope.names.lookup x₂ = some .local) (hxx : x ≠ x₂)
    (hy : env.kindOf y = some .local) (hp : (env.scope.kind == .class || (env.scope.kind == .module && env.locals != env.globals)) = false)
    (htest : ∀ (C : Addr) (p : Int × Int) t1 t2 (s' : Shared) m' (E' : Value → Shared → Prop) (Q' : Bool → Shared → Prop), s'.heap.Ns C m' → m' x = some (.int p.1 t1) → m' x₂ = some (.int p.2 t2) → (∀ tk', Q' (test p) { s' with toks := tk' }) →
      wpAny (model prog w) A (isTrue c (compEnvC scope cl C env) (eval c (compEnvC scope cl C env))) Q' E' s')
    (hiter : ∀ Q' : Value → Shared → Prop, Q' (.ref ax) s → wpAny (model prog w) A (eval iter env) Q' E s)
    (done : ∀ D h tk ys, IntsAre ys (zs test ds) → Fr h₀ env.locals h (fun z => if z = y then some (.ref D) else m z) → News h₀ env.locals h ((D, lst ys) :: news) → (∀ q ∈ news, q.1 < D) → Q .next { s with heap := h, toks := tk })
    (hs : ∀ x, foldedSetIterable iter env x = pure x := by intro _; rfl) :
    wpAny (model prog w) A (exec (.Assign [.Name y py] (.ListComp (.Constant (.int 0) k0 pos0) [⟨.Tuple [.Name x px, .Name x₂ px₂] tk tp, iter, [c], 0⟩] scope pos) spos) env) Q E s := by
  rw [exec_Assign_Name_used _ _ _ _ hsw]
  refine wpAny_bind (wpAny_standAt (wpAny_bind ?_))
  show wpAny _ A (do let _ ← comprehension (.ListComp (.Constant (.int 0) k0 pos0) [⟨.Tuple [.Name x px, .Name x₂ px₂] tk tp, iter, [c], 0⟩] scope pos) scope env _ (newList []) false (eval iter env) (some (assign (.Name y py) env))) _ _ s
  refine wpAny_bind (wpAny_mono (wpAny_comprehension_free (use := some (assign (.Name y py) env)) (Q := fun _ s' => Q .next s') rfl hs hclos hkind hnames (hiter _ ?_)) (fun _ s' hq => wpAny_pure (wpAny_pure hq)) fun _ _ e => e)
  have hl := isList_news N hm
  have hax : ax < s.heap.objs.size := Heap.lt_size (N _ hm).1
  refine wpAny_pyIter_list hl ?_
  generalize hS2 : s.heap.push { cls := .type "list_iterator", data := .fields #[.ref ax, .int 0 0] } = S2
  have szS2 : S2.objs.size = s.heap.objs.size + 1 := by rw [← hS2, Heap.size_push]
  have oldS2 : ∀ b o, s.heap.get? b = some o → S2.get? b = some o := fun b o e => hS2 ▸ Heap.get?_push_of_some _ e
  have itS2 : S2.IsListIter s.heap.objs.size ax 0 := ⟨_, hS2 ▸ Heap.get?_push_size _ rfl, rfl, rfl⟩
  refine wpAny_newObj_type (wpAny_newFunctionEnv hcell (by intro y hy; simp at hy) (fun h₁ hns₁ hsb₁ => ?_) hkind)
  dsimp only at hns₁ hsb₁ ⊢
  generalize hH2 : S2.push { cls := .type "list", dict := none, data := .seq ([] : List Value).toArray } = H2 at hns₁ hsb₁ ⊢
  have szH2 : H2.objs.size = s.heap.objs.size + 2 := by rw [← hH2, Heap.size_push, szS2]
  have oldH2 : ∀ b o, S2.get? b = some o → H2.get? b = some o := fun b o e => hH2 ▸ Heap.get?_push_of_some _ e
  have old1 : ∀ b o, H2.get? b = some o → h₁.get? b = some o := fun b o e => hsb₁.extBut b o (Nat.ne_of_lt (Heap.lt_size e)) (Heap.get?_push_of_some _ e)
  have fresh₀ : ∀ a, s.heap.objs.size ≤ a → h₀.get? a = none := fun a ha => by
    cases e : h₀.get? a with
    | none => rfl
    | some o' => exact absurd (Heap.lt_size (F.keep a o' e)) (Nat.not_lt.mpr ha)
  have e1 : @LT.lt Nat _ s.heap.objs.size S2.objs.size := by rw [szS2]; exact Nat.lt_succ_self _
  have e2 : @LT.lt Nat _ S2.objs.size H2.objs.size := by rw [szS2, szH2]; exact Nat.lt_succ_self _
  have e3 : @LT.lt Nat _ s.heap.objs.size H2.objs.size := Nat.lt_trans e1 e2
  have hLlt : @LT.lt Nat _ env.locals s.heap.objs.size := F.ns.lt
  have hL2 : @LT.lt Nat _ env.locals S2.objs.size := Nat.lt_trans hLlt e1
  have hL3 : @LT.lt Nat _ env.locals H2.objs.size := Nat.lt_trans hLlt e3
  have hnlt : ∀ p ∈ news, @LT.lt Nat _ p.1 s.heap.objs.size := fun p hp => Heap.lt_size (N p hp).1
  have F₁ : Fr h₀ env.locals h₁ m := F.keeps fun b o e => old1 b o (oldH2 b o (oldS2 b o e))
  have it₁ : h₁.IsListIter s.heap.objs.size ax 0 := by
    obtain ⟨o, e, r⟩ := itS2
    exact ⟨o, old1 _ _ (oldH2 _ _ e), r⟩
  have hDget : h₁.get? S2.objs.size = some (lst []) := old1 _ _ (hH2 ▸ Heap.get?_push_size _ rfl)
  have N₁ : News h₀ env.locals h₁ ((S2.objs.size, lst []) :: news) := fun q hq => by
    rcases List.mem_cons.mp hq with rfl | hq
    · exact ⟨hDget, neB hL2, fresh₀ _ (Nat.le_of_lt e1)⟩
    · exact ⟨old1 _ _ (oldH2 _ _ (oldS2 _ _ (N q hq).1)), (N q hq).2⟩
  have loop : ∀ s₃ : Shared, s₃ = { s with heap := h₁, toks := s.toks + ([] : List (Str × Value)).length } →
      codeAny (model prog w) A (.compLoop (.ListComp (.Constant (.int 0) k0 pos0) [⟨.Tuple [.Name x px, .Name x₂ px₂] tk tp, iter, [c], 0⟩] scope pos) 0 (.ref s.heap.objs.size) (.ref S2.objs.size) (compEnvC scope cl H2.objs.size env))
        (compPost (model prog w) A E (some (assign (.Name y py) env)) (fun _ s' => Q .next s') (.ref S2.objs.size) H2.objs.size) s₃ := by
    rintro s₃ rfl
    refine comp_loop (test := test) hh hm hd hsz hkind hx hx₂ hxx (neA e3) (neA e1) (neB e2) (neA hLlt) (neB hL3) (neB hL2) (fresh₀ _ (Nat.le_refl _)) (fresh₀ _ (Nat.le_of_lt e3)) (fresh₀ _ (Nat.le_of_lt e1))
      (fun p hp => neA (hnlt p hp)) (fun p hp => neA (Nat.lt_trans (hnlt p hp) e3)) (fun p hp => neA (Nat.lt_trans (hnlt p hp) e1)) it₁ F₁ hns₁ N₁ (htest _) ?_
    intro h' tk' ys m' hys F' hn N'
    show wpAny _ A (assign (.Name y py) env (.ref S2.objs.size)) _ _ _
    refine wpAny_assign_Name (wpAny_storeName_local hy F'.ns (fun h₂ hn₂ hs₂ => ?_) hp)
    have hL₀ : h₀.get? env.locals = none := Heap.get?_none_of_le F'.above
    have F₂ : Fr h₀ env.locals h₂ (fun z => if z = y then some (.ref S2.objs.size) else m z) := ⟨hn₂, fun b o e => hs₂.extBut b o (fun q => by rw [q, hL₀] at e; cases e) (F'.keep b o e), F'.above⟩
    have hCL : H2.objs.size ≠ env.locals := neB hL3
    refine ⟨m', hn.sameBut hs₂ hCL, fun h'' hs'' => done _ h'' _ ys hys (F₂.change hs'' hCL (fresh₀ _ (Nat.le_of_lt e3))) (fun p hp => ?_) (fun q hq => Nat.lt_trans (hnlt q hq) e1)⟩
    have z : h₂.get? p.1 = some p.2 := hs₂.extBut _ _ (N' p hp).2.1 (N' p hp).1
    refine ⟨hs''.extBut _ _ ?_ z, (N' p hp).2⟩
    rcases List.mem_cons.mp hp with rfl | hp
    · exact neA e2
    · exact neA (Nat.lt_trans (hnlt p hp) e3)
  have W := Walks.list (prog := prog) (w := w) hh s.heap.objs.size ax (Nat.ne_of_lt hax) us.toArray
  exact codeAny_compStart_list (loop _ rfl) (W.self 0 _ _ _ ⟨it₁, isList_news N₁ (.tail _ hm)⟩ (loop _ rfl))
end
end Mine

end
section
open PySem PySem.W PyProof.Rows PySem.Spec PySem.Calls PyProof.V PyProof.Rows.LCg
namespace Mine
def is25 (p : Int × Int) : Bool := (p.1 == 2) || (p.1 == 5)
section
variable {prog : Program} {w : World} {A : Around} {env : Env}
theorem test25 {x : Str} {q1 q2 q3 q4 q5 q6 q7 : Pos} {a1 a2 : Nat} {scope : Scope} {cl : List (Str × Addr)} (hkind : scope.kind = .function) (hx : scope.names.lookup x = some .local) (hxd : (x == ("__debug__" : Str)) = false)
    (C : Addr) (p : Int × Int) (t1 : Tok) (s' : Shared) (m' : Str → Option Value) (E' : Value → Shared → Prop) (Q' : Bool → Shared → Prop) (hn : s'.heap.Ns C m') (hv : m' x = some (.int p.1 t1)) (h : ∀ tk', Q' (is25 p) { s' with toks := tk' }) :
    wpAny (model prog w) A (isTrue (.BoolOp .Or [.Compare (.Name x q1) [.Eq] [.Constant (.int 2) a1 q2] q3, .Compare (.Name x q4) [.Eq] [.Constant (.int 5) a2 q5] q6] q7) (compEnvC scope cl C env) (eval (.BoolOp .Or [.Compare (.Name x q1) [.Eq] [.Constant (.int 2) a1 q2] q3, .Compare (.Name x q4) [.Eq] [.Constant (.int 5) a2 q5] q6] q7) (compEnvC scope cl C env))) Q' E' s' := by
  have hk : (compEnvC scope cl C env).scope.kind = .function := hkind
  refine isTrue_or (wpAny_isTrue_Compare1 (wpAny_Name (wpAny_loadName_local hk (lookup_relabel_local hx) hn hv (wpAny_Constant_int (PySem.P.eq_int (wpAny_truthy_bool ?_)))) hxd))
  cases h2 : (p.1 == 2) with
  | true =>
    simp only [if_true]
    have := h (s'.toks + 1)
    simpa [is25, h2] using this
  | false =>
    simp only [Bool.false_eq_true, if_false]
    refine isTrue_or (wpAny_isTrue_Compare1 (wpAny_Name (wpAny_loadName_local hk (lookup_relabel_local hx) hn hv (wpAny_Constant_int (PySem.P.eq_int (wpAny_truthy_bool ?_)))) hxd))
    cases h5 : (p.1 == 5) with
    | true =>
      simp only [if_true]
      have := h (s'.toks + 1 + 1)
      simpa [is25, h2, h5] using this
    | false =>
      simp only [Bool.false_eq_true, if_false]
      refine isTrue_or_nil ?_
      have := h (s'.toks + 1 + 1)
      simpa [is25, h2, h5] using this
end
end Mine

end
section
open PySem PySem.W PyProof.Rows PySem.Spec PySem.Calls PyProof.V
namespace Mine
theorem lineStep_aff (s q : Int × Int) : lineStep s q = ((lineStep (1, 0) q).1 * s.1, (lineStep (1, 0) q).1 * s.2 + (lineStep (1, 0) q).2) := by
  unfold lineStep
  dsimp only
  repeat' split
  all_goals (apply Prod.ext <;> dsimp only <;> grind)
theorem line_fold : ∀ (d : List (Int × Int)) (s : Int × Int), d.foldl lineStep s = ((line d).1 * s.1, (line d).1 * s.2 + (line d).2)
  | [], s => by
    show s = (1 * s.1, 1 * s.2 + 0)
    apply Prod.ext <;> dsimp only <;> omega
  | q :: d, s => by
    have h1 := line_fold d (lineStep s q)
    have h2 := line_fold d (lineStep (1, 0) q)
    have h3 : line (q :: d) = d.foldl lineStep (lineStep (1, 0) q) := rfl
    rw [List.foldl_cons, h1, h3, h2, lineStep_aff s q]
    generalize (lineStep (1, 0) q).1 = α
    generalize (lineStep (1, 0) q).2 = β
    apply Prod.ext <;> dsimp only <;> grind
theorem line_cons (p : Int × Int) (d : List (Int × Int)) : line (p :: d) = ((line d).1 * (lineStep (1, 0) p).1, (line d).1 * (lineStep (1, 0) p).2 + (line d).2) := line_fold d (lineStep (1, 0) p)
theorem back_cons (p : Int × Int) (d : List (Int × Int)) (w : Int) : back (p :: d).reverse w = backStep (back d.reverse w) p := by
  rw [List.reverse_cons, back_snoc]
theorem weights_cons (p : Int × Int) (d : List (Int × Int)) : weights (p :: d).reverse = wStep (weights d.reverse) p := by
  rw [List.reverse_cons, weights_snoc]
theorem weights_fst : ∀ d : List (Int × Int), (weights d.reverse).1 = (line d).1
  | [] => rfl
  | p :: d => by
    have ih := weights_fst d
    rw [weights_cons, line_cons]
    dsimp only
    rw [← ih]
    unfold wStep lineStep
    dsimp only
    repeat' split
    all_goals first | (dsimp only; omega) | (exfalso; omega) | (dsimp only; grind)
/-- a rest fits its divisor -/
def RestOk (x : Int) (p : Int × Int) : Prop := -21 ≤ p.1 ∧ p.1 ≤ 21 ∧ ¬ (x < min 0 (p.1 + 1)) ∧ ¬ (x > max 0 (p.1 - 1))
def Ok2 (ns : List Int) (ws : List (Int × Int)) : Prop := ns.length = ws.length ∧ ∀ (i : Nat) (x : Int) (p : Int × Int), ns[i]? = some x → ws[i]? = some p → RestOk x p
theorem Ok2.snoc {ns : List Int} {ws : List (Int × Int)} {x : Int} {p : Int × Int} (h : Ok2 ns ws) (hr : RestOk x p) : Ok2 (ns ++ [x]) (ws ++ [p]) := by
  refine ⟨by simp [h.1], fun i y q e1 e2 => ?_⟩
  by_cases hi : i < ns.length
  · rw [List.getElem?_append_left hi] at e1
    rw [List.getElem?_append_left (by rw [← h.1]; exact hi)] at e2
    exact h.2 i y q e1 e2
  · rw [List.getElem?_append_right (by omega)] at e1
    rw [List.getElem?_append_right (by rw [← h.1]; omega), ← h.1] at e2
    have h0 : i - ns.length = 0 := by
      cases hq : i - ns.length with
      | zero => rfl
      | succ k => rw [hq] at e1; simp at e1
    rw [h0] at e1 e2
    have e1' : x = y := by simpa using e1
    have e2' : p = q := by simpa using e2
    rw [← e1', ← e2']
    exact hr
theorem fmod_ok {z c W : Int} (h0 : c ≠ 0) (h1 : -21 ≤ c) (h2 : c ≤ 21) : RestOk (z.fmod c) (c, W) := by
  unfold RestOk
  dsimp only
  refine ⟨h1, h2, ?_⟩
  by_cases hc : 0 < c
  · have a := Int.fmod_nonneg_of_pos z hc
    have b := Int.fmod_lt_of_pos z hc
    omega
  · have e : z.fmod c = -((-z).fmod (-c)) := by
      rw [Int.neg_fmod_neg]; omega
    have a := Int.fmod_nonneg_of_pos (-z) (show 0 < -c by omega)
    have b := Int.fmod_lt_of_pos (-z) (show 0 < -c by omega)
    omega
end Mine

end
section
open PySem PySem.W PyProof.Rows PySem.Spec PySem.Calls PyProof.V
namespace Mine
theorem whole_all : ∀ (d : List (Int × Int)) (w : Int), (∀ p ∈ d, GoodDeed p) →
    Ok2 (back d.reverse w).2 (weights d.reverse).2 ∧ (line d).1 * (back d.reverse w).1 + (line d).2 + restSum (back d.reverse w).2 (weights d.reverse).2 = w
  | [], w, _ => by
    refine ⟨⟨rfl, fun i x p e => by simp [back] at e⟩, ?_⟩
    show 1 * w + 0 + 0 = w
    omega
  | (k, c) :: d, w, hg => by
    obtain ⟨h1, h2, h3, h4, h5, h6⟩ := hg (k, c) (.head _)
    dsimp only at h1 h2 h3 h4 h5 h6
    obtain ⟨ih1, ih2⟩ := whole_all d w (fun p hp => hg p (.tail _ hp))
    have hW := weights_fst d
    have hl := ih1.1
    rw [back_cons, weights_cons, line_cons]
    generalize back d.reverse w = b at ih1 ih2 hl
    generalize weights d.reverse = v at ih1 ih2 hl hW
    generalize line d = l at ih2 hW
    obtain ⟨z, ns⟩ := b
    obtain ⟨W, ws⟩ := v
    obtain ⟨A, B⟩ := l
    dsimp only at ih1 ih2 hl hW ⊢
    subst hW
    by_cases k2 : k = 2
    · subst k2
      have hc := h5 rfl
      have e := Int.mul_fdiv_add_fmod z c
      simp only [backStep, wStep, lineStep]
      simp only [show ¬ ((2 : Int) = 1) by decide, if_false, if_true]
      refine ⟨ih1.snoc (fmod_ok hc h3 h4), ?_⟩
      rw [restSum_snoc _ _ _ _ hl]
      dsimp only
      generalize z.fdiv c = f at e ⊢
      generalize z.fmod c = r at e ⊢
      grind
    · by_cases k5 : k = 5
      · subst k5
        have hp := pow_small (h6 rfl).2
        have e := Int.mul_fdiv_add_fmod z (2 ^ c.toNat)
        simp only [backStep, wStep, lineStep]
        simp only [show ¬ ((5 : Int) = 1) by decide, show ¬ ((5 : Int) = 2) by decide, show ¬ ((5 : Int) = 3) by decide, show ¬ ((5 : Int) = 4) by decide, if_false, if_true]
        refine ⟨ih1.snoc (fmod_ok (by omega) (by omega) (by omega)), ?_⟩
        rw [restSum_snoc _ _ _ _ hl]
        dsimp only
        generalize (2 : Int) ^ c.toNat = P at e ⊢
        generalize z.fdiv P = f at e ⊢
        generalize z.fmod P = r at e ⊢
        grind
      · simp only [backStep, wStep, lineStep, k2, k5, if_false]
        by_cases k1 : k = 1
        · subst k1
          simp only [if_true, show ¬ ((1 : Int) = 3 ∨ (1 : Int) = 4) by decide, if_false]
          refine ⟨ih1, ?_⟩
          grind
        · by_cases k3 : k = 3
          · subst k3
            simp only [k1, if_true, if_false, true_or]
            refine ⟨ih1, ?_⟩
            grind
          · by_cases k4 : k = 4
            · subst k4
              simp only [k1, k3, if_true, if_false, or_true]
              refine ⟨ih1, ?_⟩
              grind
            · simp only [k1, k3, k4, if_false, or_self]
              refine ⟨ih1, ?_⟩
              grind
theorem whole_len {d : List (Int × Int)} {w z : Int} {ns : List Int} (hg : Good d) (e : (z, ns) = back d.reverse w) : ns.length = (weights d.reverse).2.length := by
  have h := (whole_all d w hg.2).1.1
  rw [← e] at h
  exact h
theorem whole_ok {d : List (Int × Int)} {w z : Int} {ns : List Int} (hg : Good d) (e : (z, ns) = back d.reverse w) :
    ∀ (i : Nat) (x : Int) (p : Int × Int), ns[i]? = some x → (weights d.reverse).2[i]? = some p → -21 ≤ p.1 ∧ p.1 ≤ 21 ∧ ¬ (x < min 0 (p.1 + 1)) ∧ ¬ (x > max 0 (p.1 - 1)) := by
  have h := (whole_all d w hg.2).1.2
  rw [← e] at h
  exact h
theorem whole_val {d : List (Int × Int)} {w z : Int} {ns : List Int} (hg : Good d) (e : (z, ns) = back d.reverse w) : (line d).1 * z + (line d).2 + restSum ns (weights d.reverse).2 = w := by
  have h := (whole_all d w hg.2).2
  rw [← e] at h
  exact h
theorem line_ne' : ∀ (d : List (Int × Int)), (∀ p ∈ d, GoodDeed p) → (line d).1 ≠ 0
  | [], _ => by decide
  | (k, c) :: d, hg => by
    obtain ⟨h1, h2, h3, h4, h5, h6⟩ := hg (k, c) (.head _)
    dsimp only at h1 h2 h3 h4 h5 h6
    have ih := line_ne' d (fun p hp => hg p (.tail _ hp))
    rw [line_cons]
    dsimp only
    refine Int.mul_ne_zero ih ?_
    unfold lineStep
    dsimp only
    repeat' split
    all_goals first | (dsimp only; omega) | skip
    rename_i k5
    have hp := pow_small (h6 k5).2
    dsimp only
    omega
theorem line_ne {d : List (Int × Int)} (hg : Good d) : (line d).1 ≠ 0 := line_ne' d hg.2
theorem zs_cons (p : Int × Int) (d : List (Int × Int)) : zs is25 (p :: d) = zs is25 d ++ (if is25 p then [0] else []) := by
  have h : ∀ (l : List (Int × Int)), (0 : Int) :: l.map (fun _ => 0) = l.map (fun _ => 0) ++ [0] := by
    intro l
    induction l with
    | nil => rfl
    | cons a l ih => rw [List.map_cons, List.cons_append, ← ih]
  unfold zs
  rw [List.filter_cons]
  cases hp : is25 p
  · simp
  · simp only [if_true, List.map_cons]
    exact h _
theorem back_all : ∀ (d : List (Int × Int)) (x : Int), (∀ p ∈ d, GoodDeed p) → back d.reverse ((line d).1 * x + (line d).2) = (x, zs is25 d)
  | [], x, _ => by
    show (1 * x + 0, ([] : List Int)) = (x, [])
    rw [show (1 : Int) * x + 0 = x by omega]
  | (k, c) :: d, x, hg => by
    obtain ⟨h1, h2, h3, h4, h5, h6⟩ := hg (k, c) (.head _)
    dsimp only at h1 h2 h3 h4 h5 h6
    have ih := back_all d ((lineStep (1, 0) (k, c)).1 * x + (lineStep (1, 0) (k, c)).2) (fun p hp => hg p (.tail _ hp))
    rw [back_cons, line_cons, zs_cons]
    dsimp only
    rw [show (line d).1 * (lineStep (1, 0) (k, c)).1 * x + ((line d).1 * (lineStep (1, 0) (k, c)).2 + (line d).2) = (line d).1 * ((lineStep (1, 0) (k, c)).1 * x + (lineStep (1, 0) (k, c)).2) + (line d).2 by grind, ih]
    unfold backStep lineStep is25
    dsimp only
    by_cases k2 : k = 2
    · subst k2
      have hc := h5 rfl
      simp only [show ¬ ((2 : Int) = 1) by decide, if_false, if_true]
      rw [show (1 : Int) * c * x + 0 * c = x * c by grind, Int.mul_fdiv_cancel _ hc, Int.mul_fmod_left]
      rfl
    · by_cases k5 : k = 5
      · subst k5
        have hp := pow_small (h6 rfl).2
        simp only [show ¬ ((5 : Int) = 1) by decide, show ¬ ((5 : Int) = 2) by decide, show ¬ ((5 : Int) = 3) by decide, show ¬ ((5 : Int) = 4) by decide, if_false, if_true]
        generalize (2 : Int) ^ c.toNat = P at hp ⊢
        rw [show (1 : Int) * P * x + 0 * P = x * P by grind, Int.mul_fdiv_cancel _ (by omega), Int.mul_fmod_left]
        rfl
      · have hf : ((k == 2) || (k == 5)) = false := by
          simp [k2, k5]
        rw [hf]
        simp only [k2, k5, if_false, Bool.false_eq_true, List.append_nil]
        repeat' split
        all_goals (refine congrArg (fun z => (z, _)) ?_; dsimp only; omega)
theorem back_zero {d : List (Int × Int)} {x z : Int} {ns : List Int} (hg : Good d) (e : (z, ns) = back d.reverse ((line d).1 * x + (line d).2)) : z = x ∧ ns = zs is25 d := by
  rw [back_all d x hg.2] at e
  exact ⟨congrArg Prod.fst e, congrArg Prod.snd e⟩
end Mine

end
section
open PySem PySem.W PyProof.Rows PySem.Spec PySem.Calls PyProof.V
namespace Mine
theorem datAll_ints {news : List (Addr × Obj)} : ∀ {vs : List Value} {ns : List Int}, IntsAre vs ns → DatAll news vs (ns.map Dat.int)
  | _, _, .nil => .nil
  | _, _, .cons n t h => .cons (.int n t) (datAll_ints h)
section
variable {prog : Program} {w : World} {A : Around} {E : Value → Shared → Prop} {s : Shared} {h₀ : Heap} {L a b : Addr} {news : List (Addr × Obj)} {xs ys : List Value} {ka kb : Nat} {ds : List Dat} {Q : Value → Shared → Prop}
theorem ne_same (N : News h₀ L s.heap news) (ma : (a, listOf xs.toArray ka) ∈ news) (mb : (b, listOf ys.toArray kb) ∈ news) (Da : DatAll news xs ds) (Db : DatAll news ys ds) (ha : ∀ d ∈ ds, kqdOk 8 d = true) (hu : A.units + 64 < cLine) (h : Q (.bool false) s) :
    wpAny (model prog w) A (compareOp .NotEq (.ref a) (.ref b)) Q E s := by
  refine kqd_ne N ma rfl rfl Da (fun _ h => h) mb rfl rfl Db (fun _ h => h) ha ha hu ?_
  simpa using h
theorem ints_ok (ns : List Int) : (ns.map Dat.int).all (kqdOk 6) = true := by
  induction ns with
  | nil => rfl
  | cons n r ih => rw [List.map_cons, List.all_cons, ih]; rfl
theorem ne_two_ints {v1 v2 : Int} {t1 t2 u1 u2 : Tok} (N : News h₀ L s.heap news) (ma : (a, listOf #[.int v1 t1, .int v2 t2] ka) ∈ news) (mb : (b, listOf #[.int v1 u1, .int v2 u2] kb) ∈ news) (hu : A.units + 64 < cLine) (h : Q (.bool false) s) :
    wpAny (model prog w) A (compareOp .NotEq (.ref a) (.ref b)) Q E s :=
  ne_same (xs := [.int v1 t1, .int v2 t2]) (ys := [.int v1 u1, .int v2 u2]) (ds := [.int v1, .int v2]) N ma mb (.cons (.int _ _) (.cons (.int _ _) .nil)) (.cons (.int _ _) (.cons (.int _ _) .nil)) (by intro d hd; simp only [List.mem_cons, List.not_mem_nil, or_false] at hd; rcases hd with rfl | rfl <;> rfl) hu h
theorem ne_two_pairs {x y : Int} {zl : List Int} {R1 R2 r1 r2 T1 T2 D : Addr} {vs1 vs2 vs3 : List Value} {t1 t2 u1 u2 : Tok} {n1 n2 m1 m2 k1 k2 n3 : Nat} (N : News h₀ L s.heap news)
    (ma : (a, listOf #[.ref R1, .ref R2] ka) ∈ news) (mb : (b, listOf #[.ref T1, .ref T2] kb) ∈ news)
    (hR1 : (R1, ({ cls := .type "tuple", data := .seq #[.int x t1, .ref r1] n1 } : Obj)) ∈ news) (hr1 : (r1, listOf vs1.toArray m1) ∈ news) (i1 : IntsAre vs1 zl)
    (hR2 : (R2, ({ cls := .type "tuple", data := .seq #[.int y t2, .ref r2] n2 } : Obj)) ∈ news) (hr2 : (r2, listOf vs2.toArray m2) ∈ news) (i2 : IntsAre vs2 zl)
    (hT1 : (T1, ({ cls := .type "tuple", data := .seq #[.int x u1, .ref D] k1 } : Obj)) ∈ news) (hT2 : (T2, ({ cls := .type "tuple", data := .seq #[.int y u2, .ref D] k2 } : Obj)) ∈ news) (hD : (D, listOf vs3.toArray n3) ∈ news) (i3 : IntsAre vs3 zl)
    (hu : A.units + 64 < cLine) (h : Q (.bool false) s) :
    wpAny (model prog w) A (compareOp .NotEq (.ref a) (.ref b)) Q E s :=
  ne_same (xs := [.ref R1, .ref R2]) (ys := [.ref T1, .ref T2]) (ds := [.tuple [.int x, .list (zl.map Dat.int)], .tuple [.int y, .list (zl.map Dat.int)]]) N ma mb
    (.cons (.tuple (vs := [.int x t1, .ref r1]) hR1 (.cons (.int _ _) (.cons (.list hr1 (datAll_ints i1)) .nil))) (.cons (.tuple (vs := [.int y t2, .ref r2]) hR2 (.cons (.int _ _) (.cons (.list hr2 (datAll_ints i2)) .nil))) .nil))
    (.cons (.tuple (vs := [.int x u1, .ref D]) hT1 (.cons (.int _ _) (.cons (.list hD (datAll_ints i3)) .nil))) (.cons (.tuple (vs := [.int y u2, .ref D]) hT2 (.cons (.int _ _) (.cons (.list hD (datAll_ints i3)) .nil))) .nil))
    (by
      have hz := ints_ok zl
      intro d hd
      simp only [List.mem_cons, List.not_mem_nil, or_false] at hd
      rcases hd with rfl | rfl <;> simp [kqdOk]) hu h
end
end Mine

end
section
open PySem PySem.W PyProof.Rows PySem.Spec PySem.Calls
namespace Mine
theorem whole_tells2 {w : World} {mean : ExcName → Option Value} {mg mb : Str → Option Value} 
   (dp un : Nat) (gd : Option (List Code)) (cn : Str) (cs : Scope) (a : Addr) (ccd : Value) (cl : List (Str × Addr)) (outer : List Env) (A₀ : Around) (base h₀ : Heap) (L : Addr) (m : Str → Option Value) (news : List (Addr × Obj)) (s : Shared)
   (l : Addr) (us : List Value) (nn : Nat) (d : List (Int × Int)) (z : Int) (t : Tok) (r : Addr) (vs : List Value) (nr : Nat) (ns : List Int) (wv : Int)
    (Q E : Value → Shared → Prop)
    (B : Below A₀ base outer h₀) (F : Fr h₀ L s.heap m) (X : (hd.heap_39 w.params).In h₀) (N : News h₀ L s.heap news) (T : Top hd.view_39 (looseW hd.view_39 []) mean mg mb h₀) (hk : cs.kind = .function) 
    (hl : (l, listOf us.toArray nn) ∈ news) (hP : PairsIn news us d) (hG : Good d) (hr : (r, listOf vs.toArray nr) ∈ news) (hI : IntsAre vs ns)
    (hw : wv.natAbs < 2 ^ 220) (he : (z, ns) = back d.reverse wv) (hdp : dp + 12 < recursionLimit)
    (hret : ∀ t' h' tk', Fr h₀ L h' m → News h₀ L h' news → Q (.int wv t') { s with heap := h', toks := tk' }) :
    wpAny (model Challenge.rw_ny0463_01.row.prog w) (ktrTop dp un gd cn cs L a ccd cl outer) (call (.ref 189) [.ref l, .int z t, .ref r]) Q E s := by
  have hv := whole_val hG he
  refine whole_tells dp un gd cn cs a ccd cl outer A₀ base h₀ L m news s l us nn d z t r vs nr ns Q E B F X N T hk hl hP hG (back_small hG hw he) hr hI (whole_len hG he) (whole_ok hG he) hdp ?_
  rw [hv]
  exact hret
end Mine

end
section
open PySem PySem.W PyProof.Rows PySem.Spec PySem.Calls PyProof.V PyProof.Rows.LCg
namespace Mine
theorem keep_two {a : Addr × Obj} {pn news : List (Addr × Obj)} (ha : a ∈ news) (hp : ∀ q ∈ pn, q ∈ news) : ∀ q ∈ a :: pn, q ∈ news := fun q hq => by
  rcases List.mem_cons.mp hq with rfl | hq
  · exact ha
  · exact hp q hq
section
variable {w : World} {mean : ExcName → Option Value} {mg mb : Str → Option Value}
   (dp un : Nat) (gd : Option (List Code)) (cn : Str) (cs : Scope) (a : Addr) (ccd : Value) (cl : List (Str × Addr)) (outer : List Env) (A₀ : Around) (base h₀ : Heap) (L : Addr) (m : Str → Option Value) (news : List (Addr × Obj)) (s : Shared)
   (l : Addr) (us : List Value) (nn : Nat) (d : List (Int × Int)) (x : Int) (t : Tok) (pn : List (Addr × Obj))
    (Q E : Value → Shared → Prop)
    (B : Below A₀ base outer h₀) (F : Fr h₀ L s.heap m) (X : (hd.heap_39 w.params).In h₀) (N : News h₀ L s.heap news) (T : Top hd.view_39 (looseW hd.view_39 []) mean mg mb h₀) (hk : cs.kind = .function)
    (hl : (l, listOf us.toArray nn) ∈ news) (hP : PairsIn pn us d) (hpn : ∀ q ∈ pn, q ∈ news) (hG : Good d)
include B F X N T hk hl hP hpn hG
theorem there_keep (hx : x.natAbs < 2 ^ 100) (hdp : dp + 10 < recursionLimit)
    (hret : ∀ t' h' tk', Fr h₀ L h' m → News h₀ L h' ((l, listOf us.toArray nn) :: pn) → Q (.int ((line d).1 * x + (line d).2) t') { s with heap := h', toks := tk' }) :
    wpAny (model Challenge.rw_ny0463_01.row.prog w) (ktrTop dp un gd cn cs L a ccd cl outer) (call (.ref 175) [.ref l, .int x t]) Q E s :=
  there_tells dp un gd cn cs a ccd cl outer A₀ base h₀ L m news s l us nn d x t Q E B F X N T hk hl (hP.mono hpn) hG hx hdp fun t' h' tk' F' N' => hret t' h' tk' F' fun q hq => N' q (keep_two hl hpn q hq)
theorem back_keep (hx : x.natAbs < 2 ^ 220) (hdp : dp + 10 < recursionLimit)
    (hret : ∀ R r z ns vs n n' t h' tk', (z, ns) = back d.reverse x → IntsAre vs ns → Fr h₀ L h' m → News h₀ L h' ((R, { cls := .type "tuple", data := .seq #[.int z t, .ref r] n }) :: (r, listOf vs.toArray n') :: (l, listOf us.toArray nn) :: pn) → Q (.ref R) { s with heap := h', toks := tk' }) :
    wpAny (model Challenge.rw_ny0463_01.row.prog w) (ktrTop dp un gd cn cs L a ccd cl outer) (call (.ref 182) [.ref l, .int x t]) Q E s :=
  back_tells dp un gd cn cs a ccd cl outer A₀ base h₀ L m news s l us nn d x t Q E B F X N T hk hl (hP.mono hpn) hG hx hdp fun R r z ns vs n n' t h' tk' he hi F' N' _ _ => hret R r z ns vs n n' t h' tk' he hi F' fun q hq => N' q (by
    rcases List.mem_cons.mp hq with rfl | hq
    · exact .head _
    · rcases List.mem_cons.mp hq with rfl | hq
      · exact .tail _ (.head _)
      · exact .tail _ (.tail _ (keep_two hl hpn q hq)))
/-- the two calls whose ways end in x again and noughts -/
theorem back_there (hx : x.natAbs < 2 ^ 100) (hdp : dp + 10 < recursionLimit)
    (hret : ∀ R r vs n n' t h' tk', IntsAre vs (zs is25 d) → Fr h₀ L h' m → News h₀ L h' ((R, { cls := .type "tuple", data := .seq #[.int x t, .ref r] n }) :: (r, listOf vs.toArray n') :: news) → Q (.ref R) { s with heap := h', toks := tk' }) :
    wpAny (model Challenge.rw_ny0463_01.row.prog w) (ktrTop dp un gd cn cs L a ccd cl outer) (call (.ref 182) [.ref l, .int ((line d).1 * x + (line d).2) t]) Q E s :=
  back_tells dp un gd cn cs a ccd cl outer A₀ base h₀ L m news s l us nn d _ t Q E B F X N T hk hl (hP.mono hpn) hG (val_small hG hx) hdp fun R r z ns vs n n' t h' tk' he hi F' N' _ _ => by
    obtain ⟨rfl, rfl⟩ := back_zero hG he
    exact hret R r vs n n' t h' tk' hi F' N'
end
section
variable {w : World} {mean : ExcName → Option Value} {mg mb : Str → Option Value}
/-- the call of _law_whole; behind it the names of ps alone are kept, and no object -/
theorem whole_keep
   (dp un : Nat) (gd : Option (List Code)) (cn : Str) (cs : Scope) (a : Addr) (ccd : Value) (cl : List (Str × Addr)) (outer : List Env) (A₀ : Around) (base h₀ : Heap) (L : Addr) (m : Str → Option Value) (news : List (Addr × Obj)) (s : Shared)
   (l : Addr) (us : List Value) (nn : Nat) (d : List (Int × Int)) (z : Int) (t : Tok) (r : Addr) (vs : List Value) (nr : Nat) (ns : List Int) (wv : Int) (pn : List (Addr × Obj)) (ps : List (Str × Value))
    (Q E : Value → Shared → Prop)
    (B : Below A₀ base outer h₀) (F : Fr h₀ L s.heap m) (X : (hd.heap_39 w.params).In h₀) (N : News h₀ L s.heap news) (T : Top hd.view_39 (looseW hd.view_39 []) mean mg mb h₀) (hk : cs.kind = .function)
    (hl : (l, listOf us.toArray nn) ∈ news) (hP : PairsIn pn us d) (hpn : ∀ q ∈ pn, q ∈ news) (hG : Good d) (hr : (r, listOf vs.toArray nr) ∈ news) (hI : IntsAre vs ns)
    (hw : wv.natAbs < 2 ^ 220) (he : (z, ns) = back d.reverse wv) (hps : ∀ p ∈ ps, m p.1 = some p.2) (hdp : dp + 12 < recursionLimit)
    (hret : ∀ (u : Str → Option Value) t' h' tk', Fr h₀ L h' (kstB u ps) → News h₀ L h' [] → Q (.int wv t') { s with heap := h', toks := tk' }) :
    wpAny (model Challenge.rw_ny0463_01.row.prog w) (ktrTop dp un gd cn cs L a ccd cl outer) (call (.ref 189) [.ref l, .int z t, .ref r]) Q E s :=
  whole_tells2 dp un gd cn cs a ccd cl outer A₀ base h₀ L m news s l us nn d z t r vs nr ns wv Q E B F X N T hk hl (hP.mono hpn) hG hr hI hw he hdp fun t' h' tk' F' _ => hret m t' h' tk' (by rw [kstB_all hps]; exact F') (fun _ h => nomatch h)
end
section
variable {prog : Program} {w : World} {A : Around} {E : Value → Shared → Prop} {s : Shared} {env : Env} {h₀ : Heap}
theorem comp_keep {x x₂ y : Str} {px px₂ tp pos pos0 spos py : Pos} {tk k0 : Nat} {iter c : Expr} {scope : Scope} {cl : List (Str × Addr)} {ax : Addr} {us : List Value} {ds : List (Int × Int)} {nn : Nat} {m : Str → Option Value} {news pn : List (Addr × Obj)} {test : Int × Int → Bool} {Q : Flow → Shared → Prop}
    (F : Fr h₀ env.locals s.heap m) (N : News h₀ env.locals s.heap news) (hh : A.handled = none) (hm : (ax, listOf us.toArray nn) ∈ news) (hd : PairsIn pn us ds) (hpn : ∀ q ∈ pn, q ∈ news) (hsz : ds.length ≤ 20)
    (hsw : swapsWith (.ListComp (.Constant (.int 0) k0 pos0) [⟨.Tuple [.Name x px, .Name x₂ px₂] tk tp, iter, [c], 0⟩] scope pos) (some (.Name y py)) spos.line env = pure true)
    (hclos : closureFor scope env = pure cl) (hcell : ∀ z ∈ scope.names, z.2 ≠ .cell) (hkind : scope.kind = .function)
    (hnames : ∀ z ∈ scope.names, z.2 = .local → scope.names.lookup z.1 = some .local) (hx : scope.names.lookup x = some .local) (hx₂ : scope.names.lookup x₂ = some .local) (hxx : x ≠ x₂)
    (hy : env.kindOf y = some .local) (hp : (env.scope.kind == .class || (env.scope.kind == .module && env.locals != env.globals)) = false)
    (htest : ∀ (C : Addr) (p : Int × Int) t1 t2 (s' : Shared) m' (E' : Value → Shared → Prop) (Q' : Bool → Shared → Prop), s'.heap.Ns C m' → m' x = some (.int p.1 t1) → m' x₂ = some (.int p.2 t2) → (∀ tk', Q' (test p) { s' with toks := tk' }) →
      wpAny (model prog w) A (isTrue c (compEnvC scope cl C env) (eval c (compEnvC scope cl C env))) Q' E' s')
    (hiter : ∀ Q' : Value → Shared → Prop, Q' (.ref ax) s → wpAny (model prog w) A (eval iter env) Q' E s)
    (done : ∀ D h tk ys, IntsAre ys (zs test ds) → Fr h₀ env.locals h (fun z => if z = y then some (.ref D) else m z) → News h₀ env.locals h ((D, listOf ys.toArray ys.length) :: (ax, listOf us.toArray nn) :: pn) → Q .next { s with heap := h, toks := tk })
    (hs : ∀ x, foldedSetIterable iter env x = pure x := by intro _; rfl) :
    wpAny (model prog w) A (exec (.Assign [.Name y py] (.ListComp (.Constant (.int 0) k0 pos0) [⟨.Tuple [.Name x px, .Name x₂ px₂] tk tp, iter, [c], 0⟩] scope pos) spos) env) Q E s := by
  refine comp_zeros F N hh hm (hd.mono hpn) hsz hsw hclos hcell hkind hnames hx hx₂ hxx hy hp htest hiter ?_ hs
  intro D h tk ys hi F' N' _
  refine done D h tk ys hi F' fun q hq => N' q ?_
  rcases List.mem_cons.mp hq with rfl | hq
  · exact .head _
  · exact .tail _ (keep_two hm hpn q hq)
end
end Mine

end
section
open PySem PySem.W PyProof.Rows PySem.Spec PySem.Calls PyProof.V
namespace Mine
section
variable {prog : Program} {w : World} {A : Around} {E : Value → Shared → Prop} {s : Shared} {h₀ : Heap} {L a b : Addr} {news : List (Addr × Obj)} {ka kb : Nat} {Q : Value → Shared → Prop}
theorem eqvAll_bools : ∀ bs : List Bool, PyData.eqvAll (bs.map PyData.bool) (bs.map PyData.bool) = true
  | [] => by simp [PyData.eqvAll]
  | b :: bs => by
    rw [List.map_cons]
    have := eqvAll_bools bs
    cases b <;> simp [PyData.eqvAll, PyData.eqv, this]
theorem readsAll_bools {h : Heap} : ∀ bs : List Bool, ReadsAll h (bs.map Value.bool) (bs.map PyData.bool) []
  | [] => .nil
  | _ :: bs => readsAll_cons_val (.bool _) (readsAll_bools bs)
theorem eq_bools (bs : List Bool) (N : News h₀ L s.heap news) (ma : (a, listOf (bs.map Value.bool).toArray ka) ∈ news) (mb : (b, listOf (bs.map Value.bool).toArray kb) ∈ news) (hs : SeqAt.shaped (.list (bs.map PyData.bool)) = true) (hu : A.units + 64 < cLine) (h : Q (.bool true) s) :
    wpAny (model prog w) A (compareOp .Eq (.ref a) (.ref b)) Q E s := by
  refine eq_dataH (reads_list_at (N _ ma).1 rfl rfl (by simpa using readsAll_bools bs)) (reads_list_at (N _ mb).1 rfl rfl (by simpa using readsAll_bools bs)) hs hs hu ?_
  have e : PyData.eqv (.list (bs.map PyData.bool)) (.list (bs.map PyData.bool)) = true := by
    rw [PyData.eqv]; exact eqvAll_bools bs
  rw [e]
  exact h
theorem eq_six {b1 b2 b3 b4 b5 b6 c1 c2 c3 c4 c5 c6 : Bool} (N : News h₀ L s.heap news) (ma : (a, listOf #[.bool b1, .bool b2, .bool b3, .bool b4, .bool b5, .bool b6] ka) ∈ news) (mb : (b, listOf #[.bool c1, .bool c2, .bool c3, .bool c4, .bool c5, .bool c6] kb) ∈ news) (hu : A.units + 64 < cLine)
    (e1 : b1 = c1) (e2 : b2 = c2) (e3 : b3 = c3) (e4 : b4 = c4) (e5 : b5 = c5) (e6 : b6 = c6) (h : Q (.bool true) s) : wpAny (model prog w) A (compareOp .Eq (.ref a) (.ref b)) Q E s := by
  subst e1 e2 e3 e4 e5 e6
  exact eq_bools [b1, b2, b3, b4, b5, b6] N ma mb rfl hu h
end
end Mine

end
section
open PySem PySem.W PyProof.Rows PySem.Spec PySem.Calls PyProof.V
namespace Mine
theorem bdec {P Q : Prop} [Decidable P] [Decidable Q] (h : P ↔ Q) : decide P = decide Q := decide_eq_decide.mpr h
theorem beqi {a b c d : Int} (h : a = b ↔ c = d) : (a == b) = (c == d) := by
  rw [Bool.eq_iff_iff, beq_iff_eq, beq_iff_eq]
  exact h
theorem bnei {a b c d : Int} (h : a = b ↔ c = d) : (a != b) = (c != d) := by
  unfold bne
  rw [beqi h]
theorem tri_pos {A x y : Int} (h : 0 < A) (B : Int) : (A * x + B < A * y + B ↔ x < y) ∧ (A * x + B = A * y + B ↔ x = y) := by
  have key : ∀ u v : Int, u < v → A * u < A * v := fun u v huv => Int.mul_lt_mul_of_pos_left huv h
  rcases Int.lt_trichotomy x y with hxy | hxy | hxy
  · have := key _ _ hxy
    omega
  · subst hxy
    omega
  · have := key _ _ hxy
    omega
theorem tri_neg {A x y : Int} (h0 : A ≠ 0) (h : ¬ 0 < A) (B : Int) : (A * x + B < A * y + B ↔ y < x) ∧ (A * x + B = A * y + B ↔ y = x) := by
  have key : ∀ u v : Int, u < v → A * v < A * u := fun u v huv => Int.mul_lt_mul_of_neg_left huv (by omega)
  rcases Int.lt_trichotomy x y with hxy | hxy | hxy
  · have := key _ _ hxy
    omega
  · subst hxy
    omega
  · have := key _ _ hxy
    omega
section
variable {prog : Program} {w : World} {Ar : Around} {E : Value → Shared → Prop} {s : Shared} {h₀ : Heap} {L a b : Addr} {news : List (Addr × Obj)} {ka kb : Nat} {Q : Value → Shared → Prop} {A B x y : Int}
theorem told_pos (N : News h₀ L s.heap news)
    (ma : (a, listOf #[.bool (decide (A * x + B < A * y + B)), .bool (decide (A * x + B ≤ A * y + B)), .bool (A * x + B == A * y + B), .bool (A * x + B != A * y + B), .bool (decide (A * y + B ≤ A * x + B)), .bool (decide (A * y + B < A * x + B))] ka) ∈ news)
    (mb : (b, listOf #[.bool (decide (x < y)), .bool (decide (x ≤ y)), .bool (x == y), .bool (x != y), .bool (decide (y ≤ x)), .bool (decide (y < x))] kb) ∈ news) (hu : Ar.units + 64 < cLine) (h0 : 0 < A) (h : Q (.bool true) s) :
    wpAny (model prog w) Ar (compareOp .Eq (.ref a) (.ref b)) Q E s := by
  have t1 := tri_pos (x := x) (y := y) h0 B
  have t2 := tri_pos (x := y) (y := x) h0 B
  exact eq_six N ma mb hu (bdec t1.1) (bdec (by omega)) (beqi t1.2) (bnei t1.2) (bdec (by omega)) (bdec t2.1) h
theorem told_neg (N : News h₀ L s.heap news)
    (ma : (a, listOf #[.bool (decide (A * x + B < A * y + B)), .bool (decide (A * x + B ≤ A * y + B)), .bool (A * x + B == A * y + B), .bool (A * x + B != A * y + B), .bool (decide (A * y + B ≤ A * x + B)), .bool (decide (A * y + B < A * x + B))] ka) ∈ news)
    (mb : (b, listOf #[.bool (decide (y < x)), .bool (decide (y ≤ x)), .bool (y == x), .bool (y != x), .bool (decide (x ≤ y)), .bool (decide (x < y))] kb) ∈ news) (hu : Ar.units + 64 < cLine) (hn : A ≠ 0) (h0 : ¬ 0 < A) (h : Q (.bool true) s) :
    wpAny (model prog w) Ar (compareOp .Eq (.ref a) (.ref b)) Q E s := by
  have t1 := tri_neg (x := x) (y := y) hn h0 B
  have t2 := tri_neg (x := y) (y := x) hn h0 B
  exact eq_six N ma mb hu (bdec t1.1) (bdec (by omega)) (beqi t1.2) (bnei t1.2) (bdec (by omega)) (bdec t2.1) h
end
end Mine

end
section
open PySem PySem.W PyProof.Rows PySem.Spec PySem.Calls
namespace Mine
set_option maxRecDepth 100000 in
set_option maxHeartbeats 8000000 in
theorem law_holds : PySem.Challenge.rw_ny0463_01.Holds := by
  refine hd ?_
  k_with_none
  k_with "call ref" => (k_here; (with_reducible show wpAny _ _ (call (Value.ref 147) _) _ _ _); k_dflt (refine' deeds_tells _ _ _ _ _ _ _ _ _ _ _ _ _ _ _ _ _ _ _ _ _ ?B ?F ?X ?N ?T ?hk ?hS ?hI ?hn ?hdp ?_; (case F => k_asm); (case N => k_asm); (case X => k_asm); (case T => k_asm); (case B => k_asm); (case hk => exact rfl); (case hdp => (show callerA.depth + 1 + _ < recursionLimit; decide)); (case hS => assumption); (case hI => assumption); (case hn => omega)); intro r' vs' n' tl' h' tk' hP' F' N'; (try simp only [List.append_nil] at N'); (try k_sweep))
  k_with "call ref" => (k_here; (with_reducible show wpAny _ _ (call (Value.ref 161) _) _ _ _); k_dflt (refine' line_tells _ _ _ _ _ _ _ _ _ _ _ _ _ _ _ _ _ _ _ _ _ _ ?B ?F ?X ?N ?T ?hk ?hl ?hP ?hG ?hdp ?_; (case F => k_asm); (case N => k_asm); (case X => k_asm); (case T => k_asm); (case B => k_asm); (case hk => exact rfl); (case hdp => (show callerA.depth + 1 + _ < recursionLimit; decide)); (case hl => (repeat (first | exact List.mem_cons_self | apply List.mem_cons_of_mem))); (case hP => exact PairsIn.mono (by assumption) (fun _ h => by (repeat (first | exact h | apply List.mem_cons_of_mem)))); (case hG => exact good_deeds _)); intro r' n' t1' t2' h' tk' F' N' l1; (try k_lt l1); (try k_sweep))
  k_with "call ref" => (k_here; (with_reducible show wpAny _ _ (call (Value.ref 154) _) _ _ _); k_dflt (refine' size_tells _ _ _ _ _ _ _ _ _ _ _ _ _ _ _ _ _ _ _ _ ?B ?F ?X ?N ?T ?hk ?hdp ?_; (case F => k_asm); (case N => k_asm); (case X => k_asm); (case T => k_asm); (case B => k_asm); (case hk => exact rfl); (case hdp => (show callerA.depth + 1 + _ < recursionLimit; decide)); skip); intro t' h' tk' F' N'; (try k_sweep))
  k_with "call ref" => (k_here; (with_reducible show wpAny _ _ (call (Value.ref 175) _) _ _ _); k_dflt (refine' there_keep _ _ _ _ _ _ _ _ _ _ _ _ _ _ _ _ _ _ _ _ _ _ _ _ _ ?B ?F ?X ?N ?T ?hk ?hl ?hP ?hpn ?hG ?hx ?hdp ?_; (case F => k_asm); (case N => k_asm); (case X => k_asm); (case T => k_asm); (case B => k_asm); (case hk => exact rfl); (case hdp => (show callerA.depth + 1 + _ < recursionLimit; decide)); (case hl => (repeat (first | exact List.mem_cons_self | apply List.mem_cons_of_mem))); (case hP => assumption); (case hpn => (exact fun _ h => by (repeat (first | exact h | apply List.mem_cons_of_mem)))); (case hG => exact good_deeds _); (case hx => exact size_small _)); intro t' h' tk' F' N'; (try k_sweep))
  k_with "call ref" => (k_here; (with_reducible show wpAny _ _ (call (Value.ref 182) _) _ _ _); k_dflt (refine' back_keep _ _ _ _ _ _ _ _ _ _ _ _ _ _ _ _ _ _ _ _ _ _ _ _ _ ?B ?F ?X ?N ?T ?hk ?hl ?hP ?hpn ?hG ?hx ?hdp ?_; (case F => k_asm); (case N => k_asm); (case X => k_asm); (case T => k_asm); (case B => k_asm); (case hk => exact rfl); (case hdp => (show callerA.depth + 1 + _ < recursionLimit; decide)); (case hl => (repeat (first | exact List.mem_cons_self | apply List.mem_cons_of_mem))); (case hP => assumption); (case hpn => (exact fun _ h => by (repeat (first | exact h | apply List.mem_cons_of_mem)))); (case hG => exact good_deeds _); (case hx => exact lt_220 (size_small _))); intro R' r' z' ns' vs' n' n2' t' h' tk' he' hi' F' N'; (try k_sweep))
  k_with "call ref" => (k_here; (with_reducible show wpAny _ _ (call (Value.ref 182) _) _ _ _); k_dflt (refine' back_there _ _ _ _ _ _ _ _ _ _ _ _ _ _ _ _ _ _ _ _ _ _ _ _ _ ?B ?F ?X ?N ?T ?hk ?hl ?hP ?hpn ?hG ?hx ?hdp ?_; (case F => k_asm); (case N => k_asm); (case X => k_asm); (case T => k_asm); (case B => k_asm); (case hk => exact rfl); (case hdp => (show callerA.depth + 1 + _ < recursionLimit; decide)); (case hl => (repeat (first | exact List.mem_cons_self | apply List.mem_cons_of_mem))); (case hP => assumption); (case hpn => (exact fun _ h => by (repeat (first | exact h | apply List.mem_cons_of_mem)))); (case hG => exact good_deeds _); (case hx => exact size_small _)); intro R' r' vs' n' n2' t' h' tk' hi' F' N'; (try k_sweep))
  k_with "call ref" => (k_here; (with_reducible show wpAny _ _ (call (Value.ref 189) _) _ _ _); k_dflt (refine' whole_keep _ _ _ _ _ _ _ _ _ _ _ _ _ _ _ _ _ _ _ _ _ _ _ _ _ _ _ _ [(Str.ofString "a", _), (Str.ofString "x", _), (Str.ofString "y", _), (Str.ofString "w", _), (Str.ofString "p", _), (Str.ofString "q", _)] _ _ ?B ?F ?X ?N ?T ?hk ?hl ?hP ?hpn ?hG ?hr ?hi ?hw ?he ?hps ?hdp ?_; (case F => k_asm); (case N => k_asm); (case X => k_asm); (case T => k_asm); (case B => k_asm); (case hk => exact rfl); (case hdp => (show callerA.depth + 1 + _ < recursionLimit; decide)); (case hl => (repeat (first | exact List.mem_cons_self | apply List.mem_cons_of_mem))); (case hP => assumption); (case hpn => (exact fun _ h => by (repeat (first | exact h | apply List.mem_cons_of_mem)))); (case hG => exact good_deeds _); (case hr => (repeat (first | exact List.mem_cons_self | apply List.mem_cons_of_mem))); (case hi => assumption); (case he => assumption); (case hw => exact lt_220 (size_small _)); (case hps => kst_all)); intro u' t' h' tk' F' N'; dsimp only [kstB] at F'; (try k_sweep))
  k_with "binaryOp Mult int int" => (k_here; with_reducible refine PyProof.Rows.mul_int ?_ (mul_ok (line_bound (good_deeds _)) (lt_230 (size_small _))))
  k_with "compareOp NotEq ref ref" => (k_here; k_dflt (refine' ne_two_ints ?N ?ma ?mb ?hu ?_; (case N => k_asm); (case ma => (repeat (first | exact List.mem_cons_self | apply List.mem_cons_of_mem))); (case mb => (repeat (first | exact List.mem_cons_self | apply List.mem_cons_of_mem))); (case hu => ke_room)))
  k_with "compareOp NotEq ref ref" => (k_here; k_dflt (refine' ne_two_pairs ?N ?ma ?mb ?a1 ?a2 ?a3 ?b1 ?b2 ?b3 ?c1 ?c2 ?c3 ?c4 ?hu ?_; (case N => k_asm); (case ma => (repeat (first | exact List.mem_cons_self | apply List.mem_cons_of_mem))); (case mb => (repeat (first | exact List.mem_cons_self | apply List.mem_cons_of_mem))); (case a1 => (repeat (first | exact List.mem_cons_self | apply List.mem_cons_of_mem))); (case a2 => (repeat (first | exact List.mem_cons_self | apply List.mem_cons_of_mem))); (case b1 => (repeat (first | exact List.mem_cons_self | apply List.mem_cons_of_mem))); (case b2 => (repeat (first | exact List.mem_cons_self | apply List.mem_cons_of_mem))); (case c1 => (repeat (first | exact List.mem_cons_self | apply List.mem_cons_of_mem))); (case c2 => (repeat (first | exact List.mem_cons_self | apply List.mem_cons_of_mem))); (case c3 => (repeat (first | exact List.mem_cons_self | apply List.mem_cons_of_mem))); (case a3 => assumption); (case b3 => assumption); (case c4 => assumption); (case hu => ke_room)))
  k_with "compareOp NotEq ref ref" => (k_here; k_dflt (refine' ne_same (xs := []) (ys := []) (ds := []) ?N ?ma ?mb .nil .nil (fun _ h => nomatch h) ?hu ?_; (case N => k_asm); (case ma => (repeat (first | exact List.mem_cons_self | apply List.mem_cons_of_mem))); (case mb => (repeat (first | exact List.mem_cons_self | apply List.mem_cons_of_mem))); (case hu => ke_room)))
  k_with "exec Assign cons ListComp" => (k_here; (rename Fr _ _ _ _ => lF'); (rename News _ _ _ _ => lN'); k_dflt (refine' comp_keep (test := is25) lF' lN' ?hh ?hm ?hd ?hpn ?hsz ?hsw ?hclos ?hcell ?hkind ?hnames ?hx ?hx2 ?hxx ?hy ?hp ?ht ?hi ?_ ?hs; (case hh => rfl); (case hi => exact fun Q' hQ' => ld lF' rfl hQ'); (case hm => (repeat (first | exact List.mem_cons_self | apply List.mem_cons_of_mem))); (case hd => assumption); (case hpn => (exact fun _ h => by (repeat (first | exact h | apply List.mem_cons_of_mem)))); (case hsz => exact (good_deeds _).1); (case hsw => with_unfolding_all rfl); (case hclos => with_unfolding_all rfl); (case hcell => decide); (case hkind => rfl); (case hnames => decide); (case hx => rfl); (case hx2 => rfl); (case hxx => decide); (case hy => rfl); (case hp => rfl); (case ht => exact fun C p t1 t2 s' m' E' Q' hn hv _ h => test25 rfl rfl rfl C p t1 s' m' E' Q' hn hv h); (case hs => (intro _; rfl))); clear lF' lN'; intro D' h' tk' ys' hi' F' N'; (try k_sweep))
  k_with "CompSrcT" => (k_here; k_dflt (refine LCt.CompSrcT.ledger (by rfl) (by k_asm) (by k_asm) (by k_mem) (by exact Nat.le_of_ble_eq_true rfl) ?_; intro g'))
  k_with "CompRestT" => (with_unfolding_all first | (refine LCt.CompRestT.succ ?_; intro v' I' oI' C' oC' D' m' h' tk' E' hv' hC' hx' F' N' off' ne'; lcg_open hv') | refine LCt.CompRestT.zero ?_)
  k_with "CompEnd" => (k_dflt (refine LCg.CompEnd.intro (by k_asm) (by k_asm) _ (fun _ h => h) (by assumption) (Or.inr ⟨_, List.mem_cons_self, rfl, _, rfl⟩) ?_); (try dsimp only))
  k_with "compareOp Eq ref ref" => (k_here; k_dflt (first | (refine' told_pos ?N ?ma ?mb ?hu ?h0 ?_; (case h0 => assumption); (case N => k_asm); (case ma => (repeat (first | exact List.mem_cons_self | apply List.mem_cons_of_mem))); (case mb => (repeat (first | exact List.mem_cons_self | apply List.mem_cons_of_mem))); (case hu => ke_room)) | (refine' told_neg ?N ?ma ?mb ?hu ?hn ?h0 ?_; (case h0 => assumption); (case hn => exact line_ne (good_deeds _)); (case N => k_asm); (case ma => (repeat (first | exact List.mem_cons_self | apply List.mem_cons_of_mem))); (case mb => (repeat (first | exact List.mem_cons_self | apply List.mem_cons_of_mem))); (case hu => ke_room))))
  k_with "call ref" => (k_here; (with_reducible show wpAny _ _ (call (Value.ref 21) _) _ _ _); k_dflt (refine' lt_call ?F ?N ?X ?T ?B ?hA ?hf ?hke ?ho ?hcd ?hroom ?_; (case F => k_asm); (case N => k_asm); (case X => k_asm); (case T => k_asm); (case B => k_asm); (case hA => exact rfl); (case hf => exact rfl); (case hke => exact rfl); (case ho => k_is); (case hcd => k_is); (case hroom => (show callerA.depth + 1 < recursionLimit; decide))); intro h' tk' F' N'; (try k_sweep))
  k_with "call ref" => (k_here; (with_reducible show wpAny _ _ (call (Value.ref 28) _) _ _ _); k_dflt (refine' le_call ?F ?N ?X ?T ?B ?hA ?hf ?hke ?ho ?hcd ?hroom ?_; (case F => k_asm); (case N => k_asm); (case X => k_asm); (case T => k_asm); (case B => k_asm); (case hA => exact rfl); (case hf => exact rfl); (case hke => exact rfl); (case ho => k_is); (case hcd => k_is); (case hroom => (show callerA.depth + 1 < recursionLimit; decide))); intro h' tk' F' N'; (try k_sweep))
  k_with "call ref" => (k_here; (with_reducible show wpAny _ _ (call (Value.ref 35) _) _ _ _); k_dflt (refine' eq_call ?F ?N ?X ?T ?B ?hA ?hf ?hke ?ho ?hcd ?hroom ?_; (case F => k_asm); (case N => k_asm); (case X => k_asm); (case T => k_asm); (case B => k_asm); (case hA => exact rfl); (case hf => exact rfl); (case hke => exact rfl); (case ho => k_is); (case hcd => k_is); (case hroom => (show callerA.depth + 1 < recursionLimit; decide))); intro h' tk' F' N'; (try k_sweep))
  k_with "call ref" => (k_here; (with_reducible show wpAny _ _ (call (Value.ref 42) _) _ _ _); k_dflt (refine' ne_call ?F ?N ?X ?T ?B ?hA ?hf ?hke ?ho ?hcd ?hroom ?_; (case F => k_asm); (case N => k_asm); (case X => k_asm); (case T => k_asm); (case B => k_asm); (case hA => exact rfl); (case hf => exact rfl); (case hke => exact rfl); (case ho => k_is); (case hcd => k_is); (case hroom => (show callerA.depth + 1 < recursionLimit; decide))); intro h' tk' F' N'; (try k_sweep))
  k_with "call ref" => (k_here; (with_reducible show wpAny _ _ (call (Value.ref 49) _) _ _ _); k_dflt (refine' ge_call ?F ?N ?X ?T ?B ?hA ?hf ?hke ?ho ?hcd ?hroom ?_; (case F => k_asm); (case N => k_asm); (case X => k_asm); (case T => k_asm); (case B => k_asm); (case hA => exact rfl); (case hf => exact rfl); (case hke => exact rfl); (case ho => k_is); (case hcd => k_is); (case hroom => (show callerA.depth + 1 < recursionLimit; decide))); intro h' tk' F' N'; (try k_sweep))
  k_with "call ref" => (k_here; (with_reducible show wpAny _ _ (call (Value.ref 56) _) _ _ _); k_dflt (refine' gt_call ?F ?N ?X ?T ?B ?hA ?hf ?hke ?ho ?hcd ?hroom ?_; (case F => k_asm); (case N => k_asm); (case X => k_asm); (case T => k_asm); (case B => k_asm); (case hA => exact rfl); (case hf => exact rfl); (case hke => exact rfl); (case ho => k_is); (case hcd => k_is); (case hroom => (show callerA.depth + 1 < recursionLimit; decide))); intro h' tk' F' N'; (try k_sweep))
  k_go0
  all_goals try k_fold
  k_steps
end Mine

end
theorem PySem.Challenge.cw_ny0463_01_holds : PySem.Challenge.rw_ny0463_01.Holds :=
  Mine.law_holds
