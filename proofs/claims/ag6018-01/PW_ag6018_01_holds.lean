import PyProof.Rows.All
import Wide.All
import OpenK.AllK
import Wide.FinOn
import PySem.Challenge.RW_ag6018_01
open PySem PySem.W PyProof.Rows PySem.Calls PySem.Spec
set_option Elab.async false
set_option maxRecDepth 100000
set_option maxHeartbeats 8000000
set_option linter.unusedSimpArgs false
set_option pp.deepTerms false
set_option pp.deepTerms.threshold 6
set_option pp.maxSteps 100000
set_option pp.proofs.threshold 3
namespace Mine
open_top hd for PySem.Challenge.rw_ag6018_01
/-! Loop -/
/-- what a turn of a loop over a tuple hands on -/
def TurnPost (h₀ : Heap) (L : Addr) (s : Shared) (I : Addr) (oI : Obj) (news : List (Addr × Obj)) (J : (Str → Option Value) → Prop) (Q : Flow → Shared → Prop) (f : Flow) (s' : Shared) : Prop :=
  match f with
  | .ret v => Q (.ret v) s'
  | .brk => Q .next s'
  | _ => ∃ h' tk m', s' = { s with heap := h', toks := tk } ∧ Fr h₀ L h' m' ∧ News h₀ L h' ((I, oI) :: news) ∧ J m'
section
variable {prog : Program} {w : World} {A : Around} {E : Value → Shared → Prop} {s : Shared} {env : Env} {h₀ : Heap} {target : PySem.Expr} {body : List Stmt} {Q : Flow → Shared → Prop}

theorem items_inv {I : Addr} {news : List (Addr × Obj)} (hI : ∀ p ∈ news, p.1 < I) (vs : List Value) (J : Nat → (Str → Option Value) → Prop)
    (step : ∀ i v m₁ h₁ tk₁ oI, vs[i]? = some v → J i m₁ → Fr h₀ env.locals h₁ m₁ → News h₀ env.locals h₁ ((I, oI) :: news) →
      wpAny (model prog w) A (assign target env v) (fun _ s₂ => wpAny (model prog w) A (execs body env) (TurnPost h₀ env.locals { s with heap := h₁, toks := tk₁ } I oI news (J (i + 1)) Q) E s₂) E { s with heap := h₁, toks := tk₁ })
    (fin : ∀ h' tk m', Fr h₀ env.locals h' m' → News h₀ env.locals h' news → J vs.length m' → Q .next { s with heap := h', toks := tk }) :
    ∀ (k i : Nat) (m : Str → Option Value), i + k = vs.length → J i m → ItemsRest prog w A E h₀ env target body Q s [(I, "tuple_iterator")] [] ((vs.drop i).map .val) m news := by
  intro k
  induction k with
  | zero =>
    intro i m hi hJ
    have e : vs.drop i = [] := List.drop_eq_nil_of_le (by omega)
    rw [e]
    refine ItemsRest.zero fun h tk F N => ?_
    exact fin h tk m F N ((show i = vs.length by omega) ▸ hJ)
  | succ k ih =>
    intro i m hi hJ
    have hlt : i < vs.length := by omega
    rw [List.drop_eq_getElem_cons hlt]
    refine ItemsRest.val fun h tk F => AllObj.cons fun oI hc => AllObj.nil fun N => ?_
    refine wpAny_mono (step i _ m h tk oI (List.getElem?_eq_getElem hlt) hJ F N) (fun _ s₂ h₂ => wpAny_mono h₂ (fun f s₃ p => ?_) fun _ _ e => e) fun _ _ e => e
    have fin' : (∃ h' tk' m', s₃ = { ({ s with heap := h, toks := tk } : Shared) with heap := h', toks := tk' } ∧ Fr h₀ env.locals h' m' ∧ News h₀ env.locals h' ((I, oI) :: news) ∧ J (i + 1) m') →
        UnrEndW h₀ env.locals { s with heap := h, toks := tk } [(I, oI)] (fun m' n' => SubL [] n' ∧ ItemsRest prog w A E h₀ env target body Q s [(I, "tuple_iterator")] [] ((vs.drop (i + 1)).map .val) m' n') s₃ := by
      rintro ⟨h', tk', m', e, F', N', J'⟩
      refine ⟨h', tk', m', news, e, F', N', fun p hp q hq => ?_, trivial, ih (i + 1) m' (by omega) J'⟩
      rw [List.mem_singleton.mp hq]
      exact Nat.ne_of_lt (hI p hp)
    cases f with
    | ret v => exact p
    | brk => exact p
    | next => exact fin' p
    | cont => exact fin' p

theorem iter_tab {ax : Addr} {lo : Obj} {vs : List Value} {n : Nat} {m₀ : Str → Option Value} {news : List (Addr × Obj)}
    (hh : A.handled = none) (F : Fr h₀ env.locals s.heap m₀) (N : News h₀ env.locals s.heap news) (hg : h₀.get? ax = some lo) (hc : lo.cls = .type "tuple") (hd : lo.data = .seq vs.toArray n)
    (J : Nat → (Str → Option Value) → Prop) (h0 : J 0 m₀)
    (step : ∀ I i v m₁ h₁ tk₁ oI, vs[i]? = some v → J i m₁ → Fr h₀ env.locals h₁ m₁ → News h₀ env.locals h₁ ((I, oI) :: news) →
      wpAny (model prog w) A (assign target env v) (fun _ s₂ => wpAny (model prog w) A (execs body env) (TurnPost h₀ env.locals { s with heap := h₁, toks := tk₁ } I oI news (J (i + 1)) Q) E s₂) E { s with heap := h₁, toks := tk₁ })
    (fin : ∀ h' tk m', Fr h₀ env.locals h' m' → News h₀ env.locals h' news → J vs.length m' → Q .next { s with heap := h', toks := tk }) :
    wpAny (model prog w) A (pyIter (.ref ax)) (fun it s₂ => TurnsAt prog w A h₀ env target body Q E it s₂) E s := by
  have hax : s.heap.get? ax = some lo := F.keep _ _ hg
  have hl : s.heap.IsTuple ax vs.toArray := ⟨lo, hax, hc, n, hd⟩
  have hlt : ax < s.heap.objs.size := Heap.lt_size hax
  refine wpAny_pyIter_tuple hl ?_
  have W := Walks.tuple (prog := prog) (w := w) hh s.heap.objs.size ax (Nat.ne_of_lt hlt) vs.toArray
  refine ktg_core (tk0 := s.toks) (keep := []) (ws := [(s.heap.objs.size, "tuple_iterator")]) (xs := vs.map .val) (KTurns.ofWalks W fun i v s Q E st q => letGo_tupleiter st.1 q) (by simp) ?_ ?_ ?_ ?_ ?_ ?_ ?_ ?_ (F.push _) (fun p hp => ⟨Heap.get?_push_of_some _ (N p hp).1, (N p hp).2⟩) trivial ?_
  · intro i v h hp
    have hp' : vs.toArray[i]? = some v := hp
    exact ⟨.val v, by simpa using hp', rfl⟩
  · intro i h st
    obtain ⟨it, hit, hic, _⟩ := st.1
    exact ⟨[(s.heap.objs.size, it)], ⟨⟨rfl, hic⟩, trivial⟩, fun p hp => by rw [List.mem_singleton.mp hp]; exact hit⟩
  · intro b hb
    have hb' : b = s.heap.objs.size := by simpa using hb
    subst hb'
    exact ⟨List.mem_cons_self .., next_is_new F⟩
  · intro b hb
    simpa using hb
  · intro b hb
    have hb' : b = s.heap.objs.size ∨ b = ax := by simpa using hb
    rcases hb' with e | e
    · exact .inl (by simp [e])
    · exact .inr (.inr ⟨lo, by rw [e]; exact hg⟩)
  · intro hI
    have hI' : env.locals = s.heap.objs.size ∨ env.locals = ax := by simpa using hI
    rcases hI' with e | e
    · exact absurd F.ns.lt (e ▸ Nat.lt_irrefl _)
    · exact absurd (Heap.lt_size hg) (Nat.not_lt.mpr (e ▸ F.above))
  · intro p hp hI
    exact absurd (Heap.lt_size (N p hp).1) ((List.mem_singleton.mp hI) ▸ Nat.lt_irrefl _)
  · exact ⟨⟨_, Heap.get?_push_size _ rfl, rfl, rfl⟩, hl.at fun o e => Heap.get?_push_of_some _ e⟩
  · have := items_inv (prog := prog) (w := w) (A := A) (E := E) (s := s) (target := target) (body := body) (Q := Q) (h₀ := h₀) (env := env) (I := s.heap.objs.size) (news := news) (fun p hp => Heap.lt_size (N p hp).1) vs J
      (fun i v m₁ h₁ tk₁ oI => step _ i v m₁ h₁ tk₁ oI) fin vs.length 0 m₀ (by omega) h0
    rw [List.drop_zero] at this
    exact this
end
/-! Base -/
abbrev Ct (w : World) (mean : ExcName → Option Value) (mg mb : Str → Option Value) (d : Nat) (f : Addr) (news : List (Addr × Obj)) (vs : List Value) (R : Tok → Value) : Prop :=
  ∀ (dp un : Nat) (gd : Option (List Code)) (cn : Str) (cs : Scope) (a : Addr) (ccd : Value) (cl : List (Str × Addr)) (outer : List Env) (A₀ : Around) (base h₀ : Heap) (L : Addr) (m : Str → Option Value) (s : Shared) (Q E : Value → Shared → Prop),
    Below A₀ base outer h₀ → Fr h₀ L s.heap m → (hd.heap_39 w.params).In h₀ → News h₀ L s.heap news →
    Top hd.view_39 (PySem.W.looseW hd.view_39 [PySem.Str.ofString "unicode_type", PySem.Str.ofString "bytes_type"]) mean mg mb h₀ → cs.kind = .function →
    dp + d < recursionLimit → un + 8 * d < cLine →
    (∀ (t : Tok) (h' : Heap) (tk' : Nat), Fr h₀ L h' m → News h₀ L h' news → Q (R t) { s with heap := h', toks := tk' }) →
    wpAny (model (PySem.W.RowW.prog (PySem.W.OpenRow.toRowW (PySem.W.OpenLaw.row PySem.Challenge.rw_ag6018_01))) w) (ktrTop dp un gd cn cs L a ccd cl outer) (call (.ref f) vs) Q E s
/-- a map written out at one name -/
theorem upd_id {m : Str → Option Value} {x : Str} {v : Option Value} (h : m x = v) : m = fun z => if z = x then v else m z := by
  funext z
  by_cases e : z = x
  · rw [if_pos e, e, h]
  · rw [if_neg e]
theorem Fr.at1 {h₀ h : Heap} {L : Addr} {m : Str → Option Value} (F : Fr h₀ L h m) {x : Str} {v : Option Value} (h1 : m x = v) : Fr h₀ L h (fun z => if z = x then v else m z) := (upd_id h1) ▸ F
/-- a table of pairs: the tuple's items, each the address of a pair that the top made -/
def PairsAt (K : Frag) (vs : List Value) (ps : List (Int × Int)) : Prop :=
  vs.length = ps.length ∧ ∀ (i : Nat) (v : Value) (p : Int × Int), vs[i]? = some v → ps[i]? = some p → ∃ (a : Addr) (t u : Tok) (n : Nat), v = Value.ref a ∧ K.lookup a = some { cls := .type "tuple", data := .seq #[.int p.1 t, .int p.2 u] n }
def inTab (ps : List (Int × Int)) (v : Int) : Bool := ps.any fun p => decide (p.1 ≤ v) && decide (v ≤ p.2)
theorem ct_same {w : World} {mean mg mb} {d : Nat} {f : Addr} {news news' : List (Addr × Obj)} {vs : List Value} {R : Tok → Value}
    (h : Ct w mean mg mb d f news' vs R) (h1 : ∀ p ∈ news', p ∈ news) (h2 : ∀ p ∈ news, p ∈ news') : Ct w mean mg mb d f news vs R := by
  intro dp un gd cn cs a ccd cl outer A₀ base h₀ L m s Q E hB hF hK hN hTop hk hdp hun hret
  exact h dp un gd cn cs a ccd cl outer A₀ base h₀ L m s Q E hB hF hK (fun p hp => hN p (h1 p hp)) hTop hk hdp hun
    (fun t h' tk' F N => hret t h' tk' F fun p hp => N p (h2 p hp))
theorem ct_use {w : World} {mean mg mb} {d : Nat} {f : Addr} {news : List (Addr × Obj)} {vs : List Value} {R : Tok → Value}
    {dp un : Nat} {gd : Option (List Code)} {cn : Str} {cs : Scope} {a : Addr} {ccd : Value} {cl : List (Str × Addr)} {outer : List Env} {A₀ : Around} {base h₀ : Heap} {L : Addr} {m : Str → Option Value} {s : Shared} {Q E : Value → Shared → Prop}
    (h : Ct w mean mg mb d f news vs R) (hB : Below A₀ base outer h₀) (hF : Fr h₀ L s.heap m) (hK : (hd.heap_39 w.params).In h₀) (hN : News h₀ L s.heap news)
    (hT : Top hd.view_39 (PySem.W.looseW hd.view_39 [PySem.Str.ofString "unicode_type", PySem.Str.ofString "bytes_type"]) mean mg mb h₀) (hk : cs.kind = .function) (hd : dp + d < recursionLimit) (hu : un + 8 * d < cLine)
    (ret : ∀ t h' tk', Fr h₀ L h' m → News h₀ L h' news → Q (R t) { s with heap := h', toks := tk' }) :
    wpAny (model (PySem.W.RowW.prog (PySem.W.OpenRow.toRowW (PySem.W.OpenLaw.row PySem.Challenge.rw_ag6018_01))) w) (ktrTop dp un gd cn cs L a ccd cl outer) (call (.ref f) vs) Q E s :=
  h dp un gd cn cs a ccd cl outer A₀ base h₀ L m s Q E hB hF hK hN hT hk hd hu ret
theorem tail1 {h₀ h : Heap} {L : Addr} {p : Addr × Obj} {news : List (Addr × Obj)} (N : News h₀ L h (p :: news)) : News h₀ L h news := fun q hq => N q (List.mem_cons_of_mem _ hq)
/-! C1 -/
theorem within (w : World) (mean mg mb) (news) (v : Int) (t : Tok) (ta : Addr) (vs : List Value) (ps : List (Int × Int)) (n : Nat)
    (hT : (hd.heap_39 w.params).lookup ta = some { cls := .type "tuple", data := .seq vs.toArray n }) (hP : PairsAt (hd.heap_39 w.params) vs ps) :
    Ct w mean mg mb 1 35 news [.int v t, .ref ta] (fun _ => .bool (inTab ps v)) := by
  dsimp only [Ct]
  k_fill
  intro dp un gd cn cs a ccd cl outer A₀ base h₀ L m s Q E hB hF hK hN hTop hk hdp hun hret
  refine wpAny_call ?_
  k_dflt cell_enter
  rename_i g' L' h' FG' F' N' B' X' T'
  walk1
  walk1
  with_unfolding_all refine For_turns F' ?_
  k_dflt (refine ld F' (by rfl) ?_)
  refine iter_tab (ax := ta) (vs := vs) (n := n) (by rfl) F' N' (X' _ _ hT) rfl rfl
    (fun i m₁ => m₁ (Str.ofString "number") = some (.int v t) ∧ inTab (ps.take i) v = false) ⟨rfl, rfl⟩ ?_ ?_
  · intro I i x m₁ h₁ tk₁ oI hx hJ F₁ N₁
    obtain ⟨hm, hj⟩ := hJ
    obtain ⟨p, hp⟩ : ∃ p, ps[i]? = some p := by
      have : i < vs.length := (List.getElem?_eq_some_iff.mp hx).1
      exact ⟨_, List.getElem?_eq_getElem (hP.1 ▸ this)⟩
    obtain ⟨b, t1, t2, n1, rfl, hb⟩ := hP.2 i x p hx hp
    have F₂ := Fr.at1 F₁ hm
    clear F₁
    refine unpackN_ F₂ N₁ (items := #[.int p.1 t1, .int p.2 t2]) ⟨_, F₂.keep _ _ (X' _ _ hb), rfl, _, rfl⟩ (by rfl) (by rfl) (by rfl) ?_
    intro h₂ F₃ N₃
    clear F₂ N₁ F' N'
    have hlt := (List.getElem?_eq_some_iff.mp hp).1
    have htk : ps.take (i + 1) = ps.take i ++ [p] := by rw [List.take_add_one, hp]; rfl
    have hmem : p ∈ ps := List.mem_of_getElem? hp
    k_steps
    · dsimp only [TurnPost]
      k_steps
      refine cb_retB (Q := Q) hret ?_ (by k_asm) (tail1 (by k_asm))
      exact (List.any_eq_true.mpr ⟨p, hmem, by simp [*]⟩).symm
    · dsimp only [TurnPost]
      refine ⟨_, _, _, rfl, by k_asm, by k_asm, rfl, ?_⟩
      rw [htk]
      simp [inTab] at hj ⊢
      exact ⟨fun a b h => hj a b h, by omega⟩
    · dsimp only [TurnPost]
      refine ⟨_, _, _, rfl, by k_asm, by k_asm, rfl, ?_⟩
      rw [htk]
      simp [inTab] at hj ⊢
      exact ⟨fun a b h => hj a b h, by omega⟩
  · intro h₂ tk m' F₂ N₂ hJ
    k_steps
    refine cb_retB (Q := Q) hret ?_ (by k_asm) (by k_asm)
    have := hJ.2
    rw [hP.1, List.take_length] at this
    exact this.symm
/-! C2 -/
def runs : List (Int × Int) := [(0, 1), (768, 0), (847, 1), (848, 0), (880, 1), (1155, 0), (1160, 1), (4352, 2), (4448, 1), (12272, 2), (12351, 1), (12353, 2), (12439, 1), (12441, 2), (12544, 1), (19968, 2), (40960, 1), (44032, 2), (55204, 1), (63744, 2), (64256, 1), (65281, 2), (65377, 1), (65504, 2), (65511, 1)]
def refsFrom (a n : Nat) : List Value := (List.range n).map fun i => Value.ref (a + i)
theorem runs_at (w : World) : (hd.heap_39 w.params).lookup 94 = some { cls := .type "tuple", data := .seq (refsFrom 69 25).toArray 0 } := by with_unfolding_all rfl
theorem runs_pairs (w : World) : PairsAt (hd.heap_39 w.params) (refsFrom 69 25) runs := by
  refine ⟨rfl, fun i v p hv hp => ?_⟩
  have hi : i < 25 := (List.getElem?_eq_some_iff.mp hp).1
  have h : ∀ i : Fin 25, ∃ (a : Addr) (t u : Tok) (n : Nat), (refsFrom 69 25)[i.1]? = some (Value.ref a) ∧ ∃ p, runs[i.1]? = some p ∧ (hd.heap_39 w.params).lookup a = some { cls := .type "tuple", data := .seq #[.int p.1 t, .int p.2 u] n } := by
    intro i
    refine ⟨69 + i.1, 266 + 2 * i.1, 267 + 2 * i.1, 0, ?_⟩
    match i with
    | ⟨0, _⟩ | ⟨1, _⟩ | ⟨2, _⟩ | ⟨3, _⟩ | ⟨4, _⟩ | ⟨5, _⟩ | ⟨6, _⟩ | ⟨7, _⟩ | ⟨8, _⟩ | ⟨9, _⟩ | ⟨10, _⟩ | ⟨11, _⟩ | ⟨12, _⟩ | ⟨13, _⟩ | ⟨14, _⟩ | ⟨15, _⟩ | ⟨16, _⟩ | ⟨17, _⟩ | ⟨18, _⟩ | ⟨19, _⟩ | ⟨20, _⟩ | ⟨21, _⟩ | ⟨22, _⟩ | ⟨23, _⟩ | ⟨24, _⟩ => exact ⟨rfl, _, rfl, by with_unfolding_all rfl⟩
    | ⟨k + 25, h⟩ => omega
  obtain ⟨a, t, u, n, h1, q, h2, h3⟩ := h ⟨i, hi⟩
  rw [hv] at h1
  rw [hp] at h2
  cases h1
  cases h2
  exact ⟨a, t, u, n, rfl, h3⟩
def placesF (ps : List (Int × Int)) (c : Int) : Int := ps.foldl (fun acc p => if p.1 ≤ c then p.2 else acc) 1
def places (c : Int) : Int := placesF runs c
theorem places_ct (w : World) (mean mg mb) (news) (c : Int) (t : Tok) :
    Ct w mean mg mb 1 101 news [.int c t] (fun u => .int (places c) u) := by
  dsimp only [Ct]
  k_fill
  intro dp un gd cn cs a ccd cl outer A₀ base h₀ L m s Q E hB hF hK hN hTop hk hdp hun hret
  refine wpAny_call ?_
  k_dflt cell_enter
  rename_i g' L' h' FG' F' N' B' X' T'
  iterate 8 walk1
  rename_i h₁ F₁ N₁
  refine iter_tab (ax := 94) (vs := refsFrom 69 25) (n := 0) (by rfl) F₁ N₁ (X' _ _ (runs_at w)) rfl rfl
    (fun i m₁ => m₁ (Str.ofString "code") = some (.int c t) ∧ ∃ u, m₁ (Str.ofString "places") = some (.int (placesF (runs.take i) c) u)) ⟨rfl, _, rfl⟩ ?_ ?_
  · intro I i x m₁ h₁ tk₁ oI hx hJ F₁ N₁
    obtain ⟨hm, u, hj⟩ := hJ
    have hP := runs_pairs w
    obtain ⟨p, hp⟩ : ∃ p, runs[i]? = some p := by
      have : i < (refsFrom 69 25).length := (List.getElem?_eq_some_iff.mp hx).1
      exact ⟨_, List.getElem?_eq_getElem (hP.1 ▸ this)⟩
    obtain ⟨b, t1, t2, n1, rfl, hb⟩ := hP.2 i x p hx hp
    have F₂ := Fr.at1 (Fr.at1 F₁ hj) (x := Str.ofString "code") (v := some (.int c t)) hm
    clear F₁
    refine unpackN_ F₂ N₁ (items := #[.int p.1 t1, .int p.2 t2]) ⟨_, F₂.keep _ _ (X' _ _ hb), rfl, _, rfl⟩ (by rfl) (by rfl) (by rfl) ?_
    intro h₂ F₃ N₃
    clear F₂ N₁
    have hlt := (List.getElem?_eq_some_iff.mp hp).1
    have htk : runs.take (i + 1) = runs.take i ++ [p] := by rw [List.take_add_one, hp]; rfl
    have hpl : placesF (runs.take (i + 1)) c = if p.1 ≤ c then p.2 else placesF (runs.take i) c := by
      rw [htk, placesF, List.foldl_append]; rfl
    k_steps
    · dsimp only [TurnPost]
      exact ⟨_, _, _, rfl, by k_asm, by k_asm, rfl, t2, by rw [hpl, if_pos (show p.1 ≤ c by assumption)]; rfl⟩
    · dsimp only [TurnPost]
      exact ⟨_, _, _, rfl, by k_asm, by k_asm, rfl, u, by rw [hpl, if_neg (show ¬ p.1 ≤ c by assumption)]; rfl⟩
  · intro h₂ tk m' F₂ N₂ hJ
    obtain ⟨hm, u, hj⟩ := hJ
    have F₃ := Fr.at1 F₂ hj
    clear F₂
    k_steps
    refine cb_retI (Q := Q) hret ?_ (by k_asm) (by k_asm)
    rw [show (refsFrom 69 25).length = runs.length from rfl, List.take_length]
    rfl
/-! C3 -/
def sgnCode (n : Int) : Int :=
  if Int.fmod (Int.fdiv n 25) 4 = 3 then Int.fmod (if n < 0 then -n else n) 1114112
  else max ((runs.getD (Int.fmod n 25).toNat (0, 0)).1 + Int.fmod (Int.fdiv n 25) 4 - 1) 0
def sgn (n : Int) : Int := if 55296 ≤ sgnCode n ∧ sgnCode n ≤ 57343 then 65533 else sgnCode n
theorem sign_ct (w : World) (mean mg mb) (news) (n : Int) (t : Tok) :
    Ct w mean mg mb 1 122 news [.int n t] (fun u => .int (sgn n) u) := by
  dsimp only [Ct]
  k_fill
  intro dp un gd cn cs a ccd cl outer A₀ base h₀ L m s Q E hB hF hK hN hTop hk hdp hun hret
  refine wpAny_call ?_
  k_dflt cell_enter
  rename_i g' L' h' FG' F' N' B' X' T'
  k_steps
  have h0 : 0 ≤ Int.fmod n 25 := by rw [Int.fmod_eq_emod_of_nonneg _ (by omega)]; omega
  have h1 : Int.fmod n 25 < 25 := by rw [Int.fmod_eq_emod_of_nonneg _ (by omega)]; omega
  have hP := runs_pairs w
  have hi : (Int.fmod n 25).toNat < runs.length := by show _ < 25; omega
  have hx := List.getElem?_eq_getElem (l := refsFrom 69 25) (i := (Int.fmod n 25).toNat) (hP.1 ▸ hi)
  have hp := List.getElem?_eq_getElem hi
  have hd : runs.getD (Int.fmod n 25).toNat (0, 0) = runs[(Int.fmod n 25).toNat] := by rw [List.getD_eq_getElem?_getD, hp]; rfl
  obtain ⟨b, t1, t2, n1, hv, hb⟩ := hP.2 _ _ _ hx hp
  rw [hv] at hx
  refine item_tupleT (t := 94) (l := refsFrom 69 25) (j := (Int.fmod n 25).toNat) ⟨_, F'.keep _ _ (X' _ _ (runs_at w)), rfl, _, rfl⟩ (by omega) (by omega) ?_ hx ?_
  · show seqIndex? _ 25 = _
    have h2 : ¬ Int.fmod n 25 < 0 := by omega
    unfold seqIndex?
    simp [h2]
    omega
  dsimp only
  walk1
  refine item_tupleT (t := b) (l := [.int (runs[(Int.fmod n 25).toNat]).1 t1, .int (runs[(Int.fmod n 25).toNat]).2 t2]) (k := 0) (j := 0) ⟨_, F'.keep _ _ (X' _ _ hb), rfl, _, rfl⟩ (by omega) (by omega) rfl rfl ?_
  rw [← hd]
  generalize hq : (runs.getD (Int.fmod n 25).toNat (0, 0)).1 = q
  k_steps
  all_goals refine cb_retI (Q := Q) hret ?_ (by k_asm) (by k_asm)
  all_goals unfold sgn sgnCode
  all_goals rw [hq]
  all_goals clear hret hB hF hK hN hTop hb hx hv hP hi hp hd
  all_goals first | omega | (simp only [*, if_true, if_false]; omega)
/-! C4 -/
def raw (ns : List Int) (k : Int) : Int := if k < ns.length then ns.getD k.toNat 0 else 7919 * k + 3
theorem raw_ct0 (w : World) (mean mg mb) (news) (l : Addr) (e : Nat) (vs : List Value) (ns : List Int) (k : Int) (t : Tok) (hi : IntsAre vs ns) (hk0 : 0 ≤ k) (hk9 : k < 9) (hn : ns.length ≤ 9) :
    Ct w mean mg mb 1 115 ((l, W.listOf vs.toArray e) :: news) [.ref l, .int k t] (fun u => .int (raw ns k) u) := by
  dsimp only [Ct]
  k_fill
  intro dp un gd cn cs a ccd cl outer A₀ base h₀ L m s Q E hB hF hK hN hTop hk hdp hun hret
  refine wpAny_call ?_
  k_dflt cell_enter
  rename_i g' L' h' FG' F' N' B' X' T'
  k_steps
  · exact cb_retI (Q := Q) hret (if_pos (by assumption)).symm (by k_asm) (by k_asm)
  · exact cb_retI (Q := Q) hret (if_neg (by assumption)).symm (by k_asm) (by k_asm)
theorem raw_ct (w : World) (mean mg mb) (news) (l : Addr) (e : Nat) (vs : List Value) (ns : List Int) (k : Int) (t : Tok) (hm : (l, W.listOf vs.toArray e) ∈ news) (hi : IntsAre vs ns) (hk0 : 0 ≤ k) (hk9 : k < 9) (hn : ns.length ≤ 9) :
    Ct w mean mg mb 1 115 news [.ref l, .int k t] (fun u => .int (raw ns k) u) :=
  ct_same (raw_ct0 w mean mg mb news l e vs ns k t hi hk0 hk9 hn) (fun _ hp => (List.mem_cons.mp hp).elim (fun q => q ▸ hm) id) (fun _ hp => List.mem_cons_of_mem _ hp)
/-! C5 -/
def wideT : List (Int × Int) := [(4352, 4447), (12272, 12350), (12353, 12438), (12441, 12543), (19968, 40959), (44032, 55203), (63744, 64255), (65281, 65376), (65504, 65510)]
def combT : List (Int × Int) := [(768, 846), (848, 879), (1155, 1159)]
theorem wide_at (w : World) : (hd.heap_39 w.params).lookup 24 = some { cls := .type "tuple", data := .seq (refsFrom 15 9).toArray 0 } := by with_unfolding_all rfl
theorem comb_at (w : World) : (hd.heap_39 w.params).lookup 28 = some { cls := .type "tuple", data := .seq (refsFrom 25 3).toArray 0 } := by with_unfolding_all rfl
theorem wide_pairs (w : World) : PairsAt (hd.heap_39 w.params) (refsFrom 15 9) wideT := by
  refine ⟨rfl, fun i v p hv hp => ?_⟩
  match i, hv, hp with
  | 0, hv, hp | 1, hv, hp | 2, hv, hp | 3, hv, hp | 4, hv, hp | 5, hv, hp | 6, hv, hp | 7, hv, hp | 8, hv, hp => cases hv; cases hp; exact ⟨_, _, _, _, rfl, by with_unfolding_all rfl⟩
  | k + 9, hv, hp => cases hp
theorem comb_pairs (w : World) : PairsAt (hd.heap_39 w.params) (refsFrom 25 3) combT := by
  refine ⟨rfl, fun i v p hv hp => ?_⟩
  match i, hv, hp with
  | 0, hv, hp | 1, hv, hp | 2, hv, hp => cases hv; cases hp; exact ⟨_, _, _, _, rfl, by with_unfolding_all rfl⟩
  | k + 3, hv, hp => cases hp
local macro_rules | `(tactic| walk_at "contract") => `(tactic| exact within _ _ _ _ _ _ _ 24 _ _ _ (wide_at _) (wide_pairs _))
local macro_rules | `(tactic| walk_at "contract") => `(tactic| exact within _ _ _ _ _ _ _ 28 _ _ _ (comb_at _) (comb_pairs _))
local macro_rules | `(tactic| walk_at "call ref") => `(tactic| (k_here; k_dflt (refine' ct_use ?C ?k1 ?k2 ?k3 ?k4 ?k5 ?kK ?kd ?ku ?_); (case k1 => k_asm); (case k2 => k_asm); (case k3 => k_asm); (case k4 => k_asm); (case k5 => k_asm); (case kK => first | exact rfl | assumption); (case C => walk_at "contract"); (case kd => ktr_room); (case ku => ktr_units); intro t9 h9 tk9 F9 N9; (try dsimp only); (try k_fold)))
def isWide (n : Int) : Bool := decide (4352 ≤ n) && inTab wideT n
def isComb (n : Int) : Bool := decide (768 ≤ n) && inTab combT n
theorem east_ct (w : World) (mean mg mb) (news) (n : Nat) (t : Tok) (_hn : n < 1114112) :
    Ct w mean mg mb 2 42 news [.str ⟨#[n]⟩ t] (fun u => .str (if isWide n then Str.ofString "W" else Str.ofString "N") u) := by
  dsimp only [Ct]
  k_fill
  intro dp un gd cn cs a ccd cl outer A₀ base h₀ L m s Q E hB hF hK hN hTop hk hdp hun hret
  refine wpAny_call ?_
  k_dflt cell_enter
  rename_i g' L' h' FG' F' N' B' X' T'
  k_steps
  all_goals refine cb_retS (Q := Q) hret ?_ (by k_asm) (by k_asm)
  all_goals simp [isWide, *]
theorem comb_ct (w : World) (mean mg mb) (news) (n : Nat) (t : Tok) (_hn : n < 1114112) :
    Ct w mean mg mb 2 49 news [.str ⟨#[n]⟩ t] (fun u => .int (if isComb n then 230 else 0) u) := by
  dsimp only [Ct]
  k_fill
  intro dp un gd cn cs a ccd cl outer A₀ base h₀ L m s Q E hB hF hK hN hTop hk hdp hun hret
  refine wpAny_call ?_
  k_dflt cell_enter
  rename_i g' L' h' FG' F' N' B' X' T'
  k_steps
  all_goals refine cb_retI (Q := Q) hret ?_ (by k_asm) (by k_asm)
  all_goals simp [isComb, *]
theorem east_W (w : World) (mean mg mb) (news) (n : Nat) (t : Tok) (hn : n < 1114112) (hw : isWide n = true) : Ct w mean mg mb 2 42 news [.str ⟨#[n]⟩ t] (fun u => .str (Str.ofString "W") u) := by
  have h := east_ct w mean mg mb news n t hn
  rw [hw] at h
  exact h
theorem east_N (w : World) (mean mg mb) (news) (n : Nat) (t : Tok) (hn : n < 1114112) (hw : isWide n = false) : Ct w mean mg mb 2 42 news [.str ⟨#[n]⟩ t] (fun u => .str (Str.ofString "N") u) := by
  have h := east_ct w mean mg mb news n t hn
  rw [hw] at h
  exact h
theorem comb_Y (w : World) (mean mg mb) (news) (n : Nat) (t : Tok) (hn : n < 1114112) (hw : isComb n = true) : Ct w mean mg mb 2 49 news [.str ⟨#[n]⟩ t] (fun u => .int 230 u) := by
  have h := comb_ct w mean mg mb news n t hn
  rw [hw] at h
  exact h
theorem comb_N (w : World) (mean mg mb) (news) (n : Nat) (t : Tok) (hn : n < 1114112) (hw : isComb n = false) : Ct w mean mg mb 2 49 news [.str ⟨#[n]⟩ t] (fun u => .int 0 u) := by
  have h := comb_ct w mean mg mb news n t hn
  rw [hw] at h
  exact h
local macro_rules | `(tactic| walk_at "contract") => `(tactic| (refine' east_W _ _ _ _ _ _ _ ?ha ?hb; (case ha => assumption); (case hb => assumption)))
local macro_rules | `(tactic| walk_at "contract") => `(tactic| (refine' east_N _ _ _ _ _ _ _ ?ha ?hb; (case ha => assumption); (case hb => assumption)))
local macro_rules | `(tactic| walk_at "contract") => `(tactic| (refine' comb_Y _ _ _ _ _ _ _ ?ha ?hb; (case ha => assumption); (case hb => assumption)))
local macro_rules | `(tactic| walk_at "contract") => `(tactic| (refine' comb_N _ _ _ _ _ _ _ ?ha ?hb; (case ha => assumption); (case hb => assumption)))
theorem wf_N : (Builtin.Str.occurrences (Str.ofString "WF") (Str.ofString "N") 0 (Str.ofString "WF").length 1).isEmpty = true := by decide +kernel
theorem wf_W : (Builtin.Str.occurrences (Str.ofString "WF") (Str.ofString "W") 0 (Str.ofString "WF").length 1).isEmpty = false := by decide +kernel
theorem no_N (h : (Builtin.Str.occurrences (Str.ofString "WF") (Str.ofString "N") 0 (Str.ofString "WF").length 1).isEmpty = false) : False := by rw [wf_N] at h; cases h
theorem no_W (h : (Builtin.Str.occurrences (Str.ofString "WF") (Str.ofString "W") 0 (Str.ofString "WF").length 1).isEmpty = true) : False := by rw [wf_W] at h; cases h
def uch (n : Int) : Int := if isWide n then 2 else if isComb n then 0 else 1
theorem uchar_ct (w : World) (mean mg mb) (news) (n : Nat) (t : Tok) (hn : n < 1114112) :
    Ct w mean mg mb 3 56 news [.str ⟨#[n]⟩ t] (fun u => .int (uch n) u) := by
  cases hw : isWide n <;> cases hc : isComb n
  all_goals
    dsimp only [Ct]
    k_fill
    intro dp un gd cn cs a ccd cl outer A₀ base h₀ L m s Q E hB hF hK hN hTop hk hdp hun hret
    refine wpAny_call ?_
    k_dflt cell_enter
    k_steps
  all_goals first
    | (exfalso; refine no_N ?_; assumption)
    | (exfalso; refine no_W ?_; assumption)
    | (refine cb_retI (Q := Q) hret ?_ (by k_asm) (by k_asm); simp [uch, hw, hc]; done)
/-! C6 -/
def enc (c : Int) : List Int :=
  if c < 128 then [c]
  else if c < 2048 then [192 + Int.fdiv c 64, 128 + Int.fmod c 64]
  else if c < 65536 then [224 + Int.fdiv c 4096, 128 + Int.fmod (Int.fdiv c 64) 64, 128 + Int.fmod c 64]
  else [240 + Int.fdiv c 262144, 128 + Int.fmod (Int.fdiv c 4096) 64, 128 + Int.fmod (Int.fdiv c 64) 64, 128 + Int.fmod c 64]
theorem ints_cast {vs : List Value} {ns ms : List Int} (e : ns = ms) (h : IntsAre vs ms) : IntsAre vs ns := e ▸ h
theorem enc_1 {c : Int} (h : c < 128) : enc c = [c] := by
  unfold enc
  rw [if_pos h]
theorem enc_2 {c : Int} (h : ¬ c < 128) (h2 : c < 2048) : enc c = [192 + Int.fdiv c 64, 128 + Int.fmod c 64] := by
  unfold enc
  rw [if_neg h, if_pos h2]
theorem enc_3 {c : Int} (h : ¬ c < 128) (h2 : ¬ c < 2048) (h3 : c < 65536) : enc c = [224 + Int.fdiv c 4096, 128 + Int.fmod (Int.fdiv c 64) 64, 128 + Int.fmod c 64] := by
  unfold enc
  rw [if_neg h, if_neg h2, if_pos h3]
theorem enc_4 {c : Int} (h : ¬ c < 128) (h2 : ¬ c < 2048) (h3 : ¬ c < 65536) : enc c = [240 + Int.fdiv c 262144, 128 + Int.fmod (Int.fdiv c 4096) 64, 128 + Int.fmod (Int.fdiv c 64) 64, 128 + Int.fmod c 64] := by
  unfold enc
  rw [if_neg h, if_neg h2, if_neg h3]
theorem enc_ct (w : World) (mean mg mb) (news) (c : Int) (t : Tok)
  (dp un : Nat) (gd : Option (List Code)) (cn : Str) (cs : Scope) (a : Addr) (ccd : Value) (cl : List (Str × Addr)) (outer : List Env) (A₀ : Around) (base h₀ : Heap) (L : Addr) (m : Str → Option Value) (s : Shared) (Q E : Value → Shared → Prop)
    (hB : Below A₀ base outer h₀) (hF : Fr h₀ L s.heap m) (hK : (hd.heap_39 w.params).In h₀) (hN : News h₀ L s.heap news)
    (hTop : Top hd.view_39 (PySem.W.looseW hd.view_39 [PySem.Str.ofString "unicode_type", PySem.Str.ofString "bytes_type"]) mean mg mb h₀) (hk : cs.kind = .function)
    (hdp : dp + 1 < recursionLimit) (hun : un + 8 < cLine)
    (hret : ∀ (l : Addr) (vs : List Value) (h' : Heap) (tk' : Nat), IntsAre vs (enc c) → Fr h₀ L h' m → News h₀ L h' ((l, W.listOf vs.toArray 0) :: news) → (∀ p ∈ news, p.1 < l) → Q (.ref l) { s with heap := h', toks := tk' }) :
    wpAny (model (PySem.W.RowW.prog (PySem.W.OpenRow.toRowW (PySem.W.OpenLaw.row PySem.Challenge.rw_ag6018_01))) w) (ktrTop dp un gd cn cs L a ccd cl outer) (call (.ref 108) [.int c t]) Q E s := by
  revert hK
  k_fill
  intro hK
  refine wpAny_call ?_
  k_dflt cell_enter
  rename_i g' L' h' FG' F' N' B' X' T'
  k_steps
  all_goals refine hret _ _ _ _ ?_ (by k_asm) (by k_asm) (by k_asm)
  all_goals clear hret hB hF hK hN hTop
  · exact ints_cast (enc_1 (by omega)) (.cons _ _ .nil)
  · exact ints_cast (enc_2 (by omega) (by omega)) (.cons _ _ (.cons _ _ .nil))
  · exact ints_cast (enc_3 (by omega) (by omega) (by omega)) (.cons _ _ (.cons _ _ (.cons _ _ .nil)))
  · exact ints_cast (enc_4 (by omega) (by omega) (by omega)) (.cons _ _ (.cons _ _ (.cons _ _ (.cons _ _ .nil))))
/-! D1 -/
section
open Builtin
theorem str_new_bytes (b : Array UInt8) (t t2 : Tok) : «str.__new__» ⟨[.type "str", .bytes b t, .str (PySem.Str.ofString "utf-8") t2], []⟩ =
    (mkStr (PySem.Str.ofString "utf-8") >>= fun e => rule "str.__new__.decode-bytes" >>= fun _ => call (.builtin "bytes.decode") [.bytes b t] [(PySem.Str.ofString "encoding", e)] >>= fun v => ret v) := by kernel_rfl
theorem bytes_dec (c : UInt8) (cs : List UInt8) (t t3 : Tok) : «bytes.decode» ⟨[.bytes (c :: cs).toArray t], [(PySem.Str.ofString "encoding", .str (PySem.Str.ofString "utf-8") t3)]⟩ =
    (mkStr (PySem.Str.ofString "utf-8") >>= fun _ => mkStr (PySem.Str.ofString "utf-8") >>= fun e => mkStr (PySem.Str.ofString "bytes.decode") >>= fun d =>
    call (.builtin "_codecs.decode.text") [.bytes (c :: cs).toArray t, e, .none, d] >>= fun v => ret v) := by kernel_rfl
theorem args_dec_kw (a e : Value) : argsOk "bytes.decode" ⟨[a], [(PySem.Str.ofString "encoding", e)]⟩ := by
  unfold argsOk; rw [signature?_of (id := "bytes.decode") (n := ['e', 'd', 'o', 'c', 'e', 'd']) (o := ['s', 'e', 't', 'y', 'b']) (by kernel_rfl) PySem.W.FB.owner_bytes]; kernel_rfl
theorem typeCall_str_2 (a b : Value) : checkTypeCall "str" ⟨[a, b], []⟩ = pure () := by kernel_rfl
theorem newCall_str_2 (a b : Value) : checkBuiltinCall "str.__new__" ⟨[.type "str", a, b], []⟩ = pure () := by kernel_rfl
section
variable {prog : Program} {w : World} {A : Around} {E : Value → Shared → Prop} {s : Shared} {c : UInt8} {cs : List UInt8} {t t2 t3 : Tok} {x : PySem.Str} {n : Nat}
theorem dec_kw {Q : Value → Shared → Prop} (hd : ∀ id, _codecs.runDecoder id _codecs.utf8Decoder none true (c :: cs).toArray 0 [] = pure (x.cps, n)) (hsz : x.length ≤ sizeLine) (h : ∀ t' k, Q (.str x t') { s with toks := k }) :
    wpAny (model prog w) A (call (.builtin "bytes.decode") [.bytes (c :: cs).toArray t] [(PySem.Str.ofString "encoding", .str (PySem.Str.ofString "utf-8") t3)]) Q E s := by
  refine wpAny_call (codeAny_call_builtin FB.slot_bytes_decode.plain FB.entry_bytes_decode (FB.slot_bytes_decode.check _ _ _ _ _ _ _ _ (typeIs_bytes _ _ _) (args_dec_kw _ _) ?_))
  rw [bytes_dec]
  refine wpAny_bind (wpAny_mkStr ?_ (by decide))
  refine wpAny_bind (wpAny_mkStr ?_ (by decide))
  refine wpAny_bind (wpAny_mkStr ?_ (by decide))
  exact wpAny_bind (call_function_meets KBd.kind_text KBd.plain_text KBd.entry_text (KBd.args_text _ _ _ _) (KBd.meets_text hd) ⟨hsz, wpAny_pure (h _ _)⟩)
theorem meets_str_bytes (hd : ∀ id, _codecs.runDecoder id _codecs.utf8Decoder none true (c :: cs).toArray 0 [] = pure (x.cps, n)) :
    Meets («str.__new__» ⟨[.type "str", .bytes (c :: cs).toArray t, .str (PySem.Str.ofString "utf-8") t2], []⟩) (fun _ R s => x.length ≤ sizeLine ∧ ∀ t' k, R (.ok (.ret (.str x t'))) { s with toks := k }) := by
  refine .of_wp fun prog w A R s hS => ?_
  obtain ⟨hsz, h⟩ := hS
  rw [str_new_bytes]
  refine wpAny_bind (wpAny_mkStr ?_ (by decide))
  refine wpAny_bind (wpAny_rule ?_)
  exact wpAny_bind (dec_kw hd hsz fun t' k => wpAny_pure ⟨_, rfl, h t' k⟩)
theorem str_of_bytes {Q : Value → Shared → Prop} (hd : ∀ id, _codecs.runDecoder id _codecs.utf8Decoder none true (c :: cs).toArray 0 [] = pure (x.cps, n)) (hsz : x.length ≤ sizeLine) (h : ∀ t' k, Q (.str x t') { s with toks := k }) :
    wpAny (model prog w) A (call (.type "str") [.bytes (c :: cs).toArray t, .str (PySem.Str.ofString "utf-8") t2]) Q E s :=
  callType_new F.called_str (by decide) (typeCall_str_2 _ _) (newCall_str_2 _ _) (fun obj => F.args_object_init_3 obj _ _) F.entry_str_new
    (meets_str_bytes hd) ⟨hsz, fun t' k => ⟨typeIs_str _ _ _, h t' k⟩⟩
end
end
/-! U1 -/
section
open Builtin
def encB (n : Nat) : List UInt8 :=
  if n < 128 then [n.toUInt8]
  else if n < 2048 then [(192 + n / 64).toUInt8, (128 + n % 64).toUInt8]
  else if n < 65536 then [(224 + n / 4096).toUInt8, (128 + n / 64 % 64).toUInt8, (128 + n % 64).toUInt8]
  else [(240 + n / 262144).toUInt8, (128 + n / 4096 % 64).toUInt8, (128 + n / 64 % 64).toUInt8, (128 + n % 64).toUInt8]
theorem r1 : List.map (fun x => x + 1) (List.range 1) = [1] := rfl
theorem r2 : List.map (fun x => x + 1) (List.range 2) = [1, 2] := rfl
theorem r3 : List.map (fun x => x + 1) (List.range 3) = [1, 2, 3] := rfl
theorem u8 {k : Nat} (h : k < 256) : (k.toUInt8).toNat = k := by
  show k % 256 = k
  omega
theorem dec1 {b : Array UInt8} {p n : Nat} (h : n < 128) (h0 : b.getD p 0 = n.toUInt8) : Bytes.utf8At b p = (.char n, p + 1) := by
  unfold Bytes.utf8At
  rw [h0, u8 (by omega)]
  simp [h]
theorem dec2 {b : Array UInt8} {p n : Nat} (h : 128 ≤ n) (h' : n < 2048) (h0 : b.getD p 0 = (192 + n / 64).toUInt8) (h1 : b[p + 1]? = some (128 + n % 64).toUInt8) : Bytes.utf8At b p = (.char n, p + 2) := by
  unfold Bytes.utf8At
  rw [h0, u8 (by omega)]
  have e1 : ¬ (192 + n / 64 < 128) := by omega
  have e2 : (decide (194 ≤ 192 + n / 64) && decide (192 + n / 64 ≤ 223)) = true := by simp; omega
  simp only [e1, e2, Bool.false_eq_true, if_true, if_false]
  simp only [r1, r2, r3, List.foldl, Except.bind, h1, u8 (show 128 + n % 64 < 256 by omega)]
  have e3 : (decide (128 ≤ 128 + n % 64) && decide (128 + n % 64 ≤ 191)) = true := by simp; omega
  simp
  rw [if_pos (by omega)]
  simp
  omega
/-- the shape of a lead byte of three -/
theorem dec3 {b : Array UInt8} {p n : Nat} (h : 2048 ≤ n) (h' : n < 65536) (hs : ¬ (55296 ≤ n ∧ n ≤ 57343)) (h0 : b.getD p 0 = (224 + n / 4096).toUInt8) (h1 : b[p + 1]? = some (128 + n / 64 % 64).toUInt8) (h2 : b[p + 2]? = some (128 + n % 64).toUInt8) : Bytes.utf8At b p = (.char n, p + 3) := by
  unfold Bytes.utf8At
  rw [h0, u8 (by omega)]
  have e1 : ¬ (224 + n / 4096 < 128) := by omega
  have e2 : (decide (194 ≤ 224 + n / 4096) && decide (224 + n / 4096 ≤ 223)) = false := by simp; omega
  by_cases c1 : n < 4096
  · have e3 : ((224 + n / 4096 : Nat) == 224) = true := by simp; omega
    simp only [e1, e2, e3, Bool.false_eq_true, if_true, if_false]
    simp only [r1, r2, r3, List.foldl, Except.bind, h1, h2, u8 (show 128 + n % 64 < 256 by omega), u8 (show 128 + n / 64 % 64 < 256 by omega)]
    simp
    rw [if_pos (by omega)]
    simp
    rw [if_pos (by omega)]
    simp
    omega
  · have e3 : ((224 + n / 4096 : Nat) == 224) = false := by simp; omega
    by_cases c2 : 53248 ≤ n ∧ n < 57344
    · have e4 : ((224 + n / 4096 : Nat) == 237) = true := by simp; omega
      simp only [e1, e2, e3, e4, Bool.false_eq_true, if_true, if_false]
      simp only [r1, r2, r3, List.foldl, Except.bind, h1, h2, u8 (show 128 + n % 64 < 256 by omega), u8 (show 128 + n / 64 % 64 < 256 by omega)]
      simp
      rw [if_pos (by omega)]
      simp
      rw [if_pos (by omega)]
      simp
      omega
    · have e4 : ((224 + n / 4096 : Nat) == 237) = false := by simp; omega
      have e5 : (decide (225 ≤ 224 + n / 4096) && decide (224 + n / 4096 ≤ 239)) = true := by simp; omega
      simp only [e1, e2, e3, e4, e5, Bool.false_eq_true, if_true, if_false]
      simp only [r1, r2, r3, List.foldl, Except.bind, h1, h2, u8 (show 128 + n % 64 < 256 by omega), u8 (show 128 + n / 64 % 64 < 256 by omega)]
      simp
      rw [if_pos (by omega)]
      simp
      rw [if_pos (by omega)]
      simp
      omega
theorem dec4 {b : Array UInt8} {p n : Nat} (h : 65536 ≤ n) (h' : n < 1114112) (h0 : b.getD p 0 = (240 + n / 262144).toUInt8) (h1 : b[p + 1]? = some (128 + n / 4096 % 64).toUInt8) (h2 : b[p + 2]? = some (128 + n / 64 % 64).toUInt8) (h3 : b[p + 3]? = some (128 + n % 64).toUInt8) : Bytes.utf8At b p = (.char n, p + 4) := by
  unfold Bytes.utf8At
  rw [h0, u8 (by omega)]
  have e1 : ¬ (240 + n / 262144 < 128) := by omega
  have e2 : (decide (194 ≤ 240 + n / 262144) && decide (240 + n / 262144 ≤ 223)) = false := by simp; omega
  have e3 : ((240 + n / 262144 : Nat) == 224) = false := by simp; omega
  have e4 : ((240 + n / 262144 : Nat) == 237) = false := by simp; omega
  have e5 : (decide (225 ≤ 240 + n / 262144) && decide (240 + n / 262144 ≤ 239)) = false := by simp; omega
  by_cases c1 : n < 262144
  · have e6 : ((240 + n / 262144 : Nat) == 240) = true := by simp; omega
    simp only [e1, e2, e3, e4, e5, e6, Bool.false_eq_true, if_true, if_false]
    simp only [r1, r2, r3, List.foldl, Except.bind, h1, h2, h3, u8 (show 128 + n % 64 < 256 by omega), u8 (show 128 + n / 64 % 64 < 256 by omega), u8 (show 128 + n / 4096 % 64 < 256 by omega)]
    simp
    rw [if_pos (by omega)]
    simp
    rw [if_pos (by omega)]
    simp
    rw [if_pos (by omega)]
    simp
    omega
  · have e6 : ((240 + n / 262144 : Nat) == 240) = false := by simp; omega
    by_cases c2 : n < 1048576
    · have e7 : (decide (241 ≤ 240 + n / 262144) && decide (240 + n / 262144 ≤ 243)) = true := by simp; omega
      simp only [e1, e2, e3, e4, e5, e6, e7, Bool.false_eq_true, if_true, if_false]
      simp only [r1, r2, r3, List.foldl, Except.bind, h1, h2, h3, u8 (show 128 + n % 64 < 256 by omega), u8 (show 128 + n / 64 % 64 < 256 by omega), u8 (show 128 + n / 4096 % 64 < 256 by omega)]
      simp
      rw [if_pos (by omega)]
      simp
      rw [if_pos (by omega)]
      simp
      rw [if_pos (by omega)]
      simp
      omega
    · have e7 : (decide (241 ≤ 240 + n / 262144) && decide (240 + n / 262144 ≤ 243)) = false := by simp; omega
      have e8 : ((240 + n / 262144 : Nat) == 244) = true := by simp; omega
      simp only [e1, e2, e3, e4, e5, e6, e7, e8, Bool.false_eq_true, if_true, if_false]
      simp only [r1, r2, r3, List.foldl, Except.bind, h1, h2, h3, u8 (show 128 + n % 64 < 256 by omega), u8 (show 128 + n / 64 % 64 < 256 by omega), u8 (show 128 + n / 4096 % 64 < 256 by omega)]
      simp
      rw [if_pos (by omega)]
      simp
      rw [if_pos (by omega)]
      simp
      rw [if_pos (by omega)]
      simp
      omega
theorem utf8At_enc (pre post : List UInt8) (n : Nat) (h : n < 1114112) (hs : ¬ (55296 ≤ n ∧ n ≤ 57343)) :
    Bytes.utf8At (pre ++ encB n ++ post).toArray pre.length = (.char n, pre.length + (encB n).length) := by
  unfold encB
  split
  · refine dec1 (by assumption) ?_
    simp [Array.getD]
  · split
    · refine dec2 (by omega) (by assumption) ?_ ?_
      · simp [Array.getD]
      · simp
    · split
      · refine dec3 (by omega) (by assumption) hs ?_ ?_ ?_
        · simp [Array.getD]
        · simp
        · simp
      · refine dec4 (by omega) h ?_ ?_ ?_ ?_
        · simp [Array.getD]
        · simp
        · simp
        · simp
end
/-! U2 -/
section
open Builtin
abbrev posK (ns : List Nat) (k : Nat) : Nat := ((ns.take k).flatMap encB).length
theorem encB_pos (n : Nat) : 0 < (encB n).length := by
  unfold encB
  repeat' split
  all_goals simp
theorem len_flat : ∀ ns : List Nat, ns.length ≤ (ns.flatMap encB).length
  | [] => Nat.le_refl _
  | n :: r => by
    have := len_flat r
    have := encB_pos n
    simp only [List.flatMap_cons, List.length_append, List.length_cons]
    omega
theorem posK_succ (ns : List Nat) (k n : Nat) (h : ns[k]? = some n) : posK ns (k + 1) = posK ns k + (encB n).length := by
  unfold posK
  rw [List.take_add_one, h]
  simp
theorem posK_lt (ns : List Nat) (k : Nat) (h : k < ns.length) : posK ns k < (ns.flatMap encB).length := by
  have h1 : (ns.flatMap encB) = (ns.take k).flatMap encB ++ (ns.drop k).flatMap encB := by rw [← List.flatMap_append, List.take_append_drop]
  rw [h1, List.length_append]
  have h2 := len_flat (ns.drop k)
  rw [List.length_drop] at h2
  unfold posK
  omega
theorem forIn_dec {σ : Type} (ns : List Nat) (st : σ) (f : Nat → (Nat × Array Nat × σ) → Sem (ForInStep (Nat × Array Nat × σ)))
    (hb : ∀ x, f x (posK ns ns.length, ns.toArray, st) = pure (.done (posK ns ns.length, ns.toArray, st)))
    (hs : ∀ x k n, ns[k]? = some n → f x (posK ns k, (ns.take k).toArray, st) = pure (.yield (posK ns (k + 1), (ns.take (k + 1)).toArray, st))) :
    ∀ (l : List Nat) (k : Nat), k ≤ ns.length → ns.length - k ≤ l.length → forIn l (posK ns k, (ns.take k).toArray, st) f = pure (posK ns ns.length, ns.toArray, st)
  | [], k, h1, h2 => by
    have e : k = ns.length := by simp at h2; omega
    subst e
    rw [List.take_length]
    rfl
  | x :: l, k, h1, h2 => by
    rw [List.forIn_cons]
    by_cases h : k < ns.length
    · rw [hs x k ns[k] (List.getElem?_eq_getElem h)]
      exact forIn_dec ns st f hb hs l (k + 1) h (by simp only [List.length_cons] at h2; omega)
    · have e : k = ns.length := by omega
      subst e
      rw [List.take_length, hb x]
      rfl
theorem run_dec (id : String) (ns : List Nat) (hns : ∀ n ∈ ns, n < 1114112 ∧ ¬ (55296 ≤ n ∧ n ≤ 57343)) (hlen : ns.length ≤ 16) :
    _codecs.runDecoder id _codecs.utf8Decoder none true (ns.flatMap encB).toArray 0 [] = pure (ns.toArray, (ns.flatMap encB).length) := by
  unfold _codecs.runDecoder
  dsimp only
  rw [Std.Legacy.Range.forIn_eq_forIn_range']
  have key := fun f hb hs => forIn_dec ns ({} : _codecs.Faults) f hb hs (List.range' [:(List.flatMap encB ns).toArray.size].start [:(List.flatMap encB ns).toArray.size].size [:(List.flatMap encB ns).toArray.size].step) 0 (Nat.zero_le _) (by
    rw [List.length_range']
    have := len_flat ns
    simp [Std.Legacy.Range.size]
    rw [← List.length_flatMap]
    exact this)
  have key' : ∀ (f : Nat → Nat × Array Nat × _codecs.Faults → Sem (ForInStep (Nat × Array Nat × _codecs.Faults))), _ → _ → forIn (List.range' [:(List.flatMap encB ns).toArray.size].start [:(List.flatMap encB ns).toArray.size].size [:(List.flatMap encB ns).toArray.size].step) ((0 : Nat), (#[] : Array Nat), ({} : _codecs.Faults)) f = _ := key
  have hz : posK ns ns.length = (ns.flatMap encB).toArray.size := by unfold posK; rw [List.take_length]; simp
  rw [key']
  · show (pure (ns.toArray, posK ns ns.length) : Sem (Array Nat × Nat)) = _
    unfold posK; rw [List.take_length]
  · intro x
    dsimp only
    rw [if_neg (by rw [sizeLine_eq]; simp; omega), if_pos (by rw [hz]; exact Nat.le_refl _)]
  · intro x k n hk
    have hkl : k < ns.length := (List.getElem?_eq_some_iff.mp hk).1
    dsimp only
    rw [if_neg (by rw [sizeLine_eq]; simp; omega), if_neg (by simpa using posK_lt ns k hkl)]
    have hn := hns n (List.mem_of_getElem? hk)
    have hsplit : (ns.flatMap encB) = (ns.take k).flatMap encB ++ encB n ++ (ns.drop (k + 1)).flatMap encB := by
      have h1 : ns = ns.take k ++ n :: ns.drop (k + 1) := by
        rw [← List.getElem_eq_iff hkl |>.mpr hk]
        simp
      conv => lhs; rw [h1]
      simp
    have hu := utf8At_enc ((ns.take k).flatMap encB) ((ns.drop (k + 1)).flatMap encB) n hn.1 hn.2
    rw [← hsplit] at hu
    have hf : _codecs.utf8Decoder.find true (ns.flatMap encB).toArray (posK ns k) = .text [n] (posK ns (k + 1)) := by
      rw [posK_succ ns k n hk]
      unfold _codecs.utf8Decoder
      dsimp only
      rw [show posK ns k = ((ns.take k).flatMap encB).length from rfl, hu]
      rfl
    rw [hf]
    dsimp only
    rw [List.take_add_one, hk]
    simp
end
/-! D2 -/
theorem o2u_str (w : World) (mean mg mb) (news) (x : PySem.Str) (t : Tok) :
    Ct w mean mg mb 1 63 news [.str x t] (fun _ => .str x t) := by
  dsimp only [Ct]
  k_fill
  intro dp un gd cn cs a ccd cl outer A₀ base h₀ L m s Q E hB hF hK hN hTop hk hdp hun hret
  refine wpAny_call ?_
  k_dflt cell_enter
  rename_i g' L' h' FG' F' N' B' X' T'
  k_steps
  exact hret 0 _ _ (by k_asm) (by k_asm)
theorem o2u_bytes (w : World) (mean mg mb) (news) (c : UInt8) (cs : List UInt8) (t : Tok) (x : PySem.Str) (n : Nat) (hd : ∀ id, Builtin._codecs.runDecoder id Builtin._codecs.utf8Decoder none true (c :: cs).toArray 0 [] = pure (x.cps, n)) (hsz : x.length ≤ sizeLine) :
    Ct w mean mg mb 1 63 news [.bytes (c :: cs).toArray t] (fun u => .str x u) := by
  dsimp only [Ct]
  k_fill
  intro dp un gd cn cs a ccd cl outer A₀ base h₀ L m s Q E hB hF hK hN hTop hk hdp hun hret
  refine wpAny_call ?_
  k_dflt cell_enter
  rename_i g' L' h' FG' F' N' B' X' T'
  k_steps
  refine str_of_bytes hd hsz ?_
  intro t' k'
  dsimp only
  k_steps
  exact hret _ _ _ (by k_asm) (by k_asm)
/-! Comp -/
/-- one item each -/
inductive Each {β : Type} (G : β → Value → Prop) : List β → List Value → Prop
  | nil : Each G [] []
  | cons {b : β} {v : Value} {bs : List β} {vs : List Value} : G b v → Each G bs vs → Each G (b :: bs) (v :: vs)
theorem Each.snoc {β : Type} {G : β → Value → Prop} {b : β} {v : Value} (h : G b v) : ∀ {bs : List β} {vs : List Value}, Each G bs vs → Each G (bs ++ [b]) (vs ++ [v])
  | _, _, .nil => .cons h .nil
  | _, _, .cons x r => .cons x (r.snoc h)
theorem Each.length {β : Type} {G : β → Value → Prop} : ∀ {bs : List β} {vs : List Value}, Each G bs vs → vs.length = bs.length
  | _, _, .nil => rfl
  | _, _, .cons _ r => by rw [List.length_cons, List.length_cons, r.length]
theorem Each.mono {β : Type} {G G' : β → Value → Prop} (k : ∀ b v, G b v → G' b v) : ∀ {bs : List β} {vs : List Value}, Each G bs vs → Each G' bs vs
  | _, _, .nil => .nil
  | _, _, .cons x r => .cons (k _ _ x) (r.mono k)
theorem Each.at {β : Type} {G : β → Value → Prop} : ∀ {bs : List β} {vs : List Value}, Each G bs vs → ∀ (i : Nat) (v : Value), vs[i]? = some v → ∃ b, bs[i]? = some b ∧ G b v
  | _, _, .nil, i, v, h => by simp at h
  | _, _, .cons x r, 0, v, h => by cases h; exact ⟨_, rfl, x⟩
  | _, _, .cons x r, i + 1, v, h => r.at i v h
theorem Each.ints {β : Type} {g : β → Int} : ∀ {bs : List β} {vs : List Value}, Each (fun b v => ∃ t, v = .int (g b) t) bs vs → IntsAre vs (bs.map g)
  | _, _, .nil => .nil
  | _, _, .cons ⟨t, e⟩ r => e ▸ .cons _ t r.ints
theorem Each.strs {β : Type} {g : β → PySem.Str} : ∀ {bs : List β} {vs : List Value}, Each (fun b v => ∃ t, v = .str (g b) t) bs vs → StrsAre vs (bs.map g)
  | _, _, .nil => .nil
  | _, _, .cons ⟨t, e⟩ r => e ▸ .cons _ t r.strs
theorem Each.ofInts : ∀ {vs : List Value} {ns : List Int}, IntsAre vs ns → Each (fun n v => ∃ t, v = .int n t) ns vs
  | _, _, .nil => .nil
  | _, _, .cons n t r => .cons ⟨t, rfl⟩ (Each.ofInts r)
theorem Each.ofStrs : ∀ {vs : List Value} {ns : List PySem.Str}, StrsAre vs ns → Each (fun n v => ∃ t, v = .str n t) ns vs
  | _, _, .nil => .nil
  | _, _, .cons n t r => .cons ⟨t, rfl⟩ (Each.ofStrs r)
section
variable {prog : Program} {w : World} {A : Around} {E : Value → Shared → Prop} {h₀ : Heap} {L : Addr} {m : Str → Option Value} {env : Env} {elt : PySem.Expr} {x : Str} {scope : Scope} {cl : List (Str × Addr)} {s : Shared} {S : List (Addr × Obj) → Prop} {P : Nat → Value → Prop} {Fin : List Value → List (Addr × Obj) → Prop} {news : List (Addr × Obj)}
/-- a comprehension, turn by turn, whatever its items and its element are -/
theorem rest_gen {β : Type} {n : Nat} (src : List β) (K G : β → Value → Prop) (hn : src.length = n) (hP : ∀ i v, i < n → P i v → ∃ b, src[i]? = some b ∧ K b v)
    (turn : ∀ b v I oI C oC D m₂ ys h tk (E' : Value → Shared → Prop), b ∈ src → K b v → LCg.NsObj oC m₂ → m₂ x = some v → Fr h₀ L h m → News h₀ L h ((I, oI) :: (C, oC) :: (D, LCg.lst ys) :: news) → LCg.Off3 I C D news →
      wpAny (model prog w) A (eval elt (compEnvC scope cl C env)) (LCg.CompEnd h₀ L m { s with heap := h, toks := tk } I oI C oC D (LCg.lst ys) S (fun y news' => news' = news ∧ G b y)) E' { s with heap := h, toks := tk })
    (fin : ∀ ys, Each G src ys → Fin ys news) : LCg.CompRest prog w A h₀ L m env elt x scope cl s S P Fin n 0 [] news := by
  have key : ∀ (j i : Nat) (ys : List Value), i + j = n → Each G (src.take i) ys → LCg.CompRest prog w A h₀ L m env elt x scope cl s S P Fin j i ys news := by
    intro j
    induction j with
    | zero =>
      intro i ys hi hy
      have e : i = src.length := by omega
      subst e
      rw [List.take_length] at hy
      exact LCg.CompRest.zero (fin ys hy)
    | succ j ih =>
      intro i ys hi hy
      refine LCg.CompRest.succ ?_
      intro v I oI C oC D m₂ h tk E' hv hC hx F N off ne
      obtain ⟨b, hb, hK⟩ := hP i v (by omega) hv
      refine wpAny_mono (turn b v I oI C oC D m₂ ys h tk E' (List.mem_of_getElem? hb) hK hC hx F N off) (fun y s₂ hq => ?_) fun _ _ e => e
      obtain ⟨h', tk', nw, e, F', N', off', hS, hn, hG⟩ := hq
      rw [hn] at N' off' hS
      refine ⟨h', tk', news, e, F', N', off', hS, ?_⟩
      refine ih (i + 1) _ (by omega) ?_
      rw [List.take_add_one, hb]
      exact hy.snoc hG
  exact key n 0 [] (by omega) .nil

def StrSrc (prog : Program) (w : World) (A : Around) (h₀ : Heap) (L : Addr) (m : Str → Option Value) (env : Env) (elt : PySem.Expr) (x : Str) (scope : Scope) (cl : List (Str × Addr)) (Fin : Shared → List Value → List (Addr × Obj) → Prop) (xv : Value) (s₁ : Shared) : Prop :=
  ∃ y t news, xv = .str y t ∧ A.handled = none ∧ Fr h₀ L s₁.heap m ∧ News h₀ L s₁.heap news ∧ y.cps.size ≤ sizeLine ∧
      ∀ s₂ : Shared, (∃ h, s₂ = { s₁ with heap := h }) → LCg.CompRest prog w A h₀ L m env elt x scope cl s₂ (fun _ => True) (SignAt y) (Fin s₂) y.cps.size 0 [] news
theorem StrSrc.intro {Fin : Shared → List Value → List (Addr × Obj) → Prop} {y : PySem.Str} {t : Tok} {s₁ : Shared} (hh : A.handled = none) (F : Fr h₀ L s₁.heap m) (N : News h₀ L s₁.heap news) (hz : y.cps.size ≤ sizeLine)
    (h : ∀ g, LCg.CompRest prog w A h₀ L m env elt x scope cl { s₁ with heap := g } (fun _ => True) (SignAt y) (Fin { s₁ with heap := g }) y.cps.size 0 [] news) :
    StrSrc prog w A h₀ L m env elt x scope cl Fin (.str y t) s₁ := ⟨y, t, news, rfl, hh, F, N, hz, fun _ ⟨g, e⟩ => e ▸ h g⟩
/-- a list comprehension over a text -/
theorem ListComp_S {iter : PySem.Expr} {px : Pos} {pos : Pos} {Q : Value → Shared → Prop} (_F₀ : Fr h₀ L s.heap m)
    (hclos : closureFor scope env = pure cl) (hcell : ∀ y ∈ scope.names, y.2 ≠ .cell) (hkind : scope.kind = .function)
    (hnames : ∀ y ∈ scope.names, y.2 = .local → scope.names.lookup y.1 = some .local) (hx : scope.names.lookup x = some .local)
    (h : wpAny (model prog w) A (eval iter env) (StrSrc prog w A h₀ L m env elt x scope cl (fun s₂ => LCg.FinE h₀ L m s₂ Q)) E s)
    (hs : ∀ x, foldedSetIterable iter env x = pure x := by intro _; rfl) :
    wpAny (model prog w) A (eval (.ListComp elt [⟨.Name x px, iter, [], 0⟩] scope pos) env) Q E s := by
  rw [eval_ListComp]
  refine wpAny_comprehension_free (use := none) rfl hs hclos hkind hnames (wpAny_mono h (fun xv s₁ h₁ => ?_) fun _ _ e => e)
  obtain ⟨y, t, news, rfl, hh, F, N, hsz, R⟩ := h₁
  have main : ∀ (T : String) (St : Nat → Heap → Prop) (W : Walks prog w A s₁.heap.objs.size [s₁.heap.objs.size] [s₁.heap.objs.size] y.cps.size (SignAt y) St)
      (_ : St 0 (s₁.heap.push { cls := .type T, data := .fields #[.str y t, .int 0 0] })) (_ : ∀ i h, St i h → ∃ o, h.get? s₁.heap.objs.size = some o),
      wpAny (model prog w) A (newList []) (fun acc s₃ => wpAny (model prog w) A (newFunctionEnv scope env.globals cl [] env.qual none .none (some env)) (fun cenv s₄ =>
        codeAny (model prog w) A (.compStart (.ListComp elt [⟨.Name x px, iter, [], 0⟩] scope pos) 0 (.ref s₁.heap.objs.size) acc { cenv with scope := relabel scope env }) (compPost (model prog w) A E none Q acc cenv.locals) s₄) E s₃) E
        { s₁ with heap := s₁.heap.push { cls := .type T, data := .fields #[.str y t, .int 0 0] } } := by
    intro T St W hst hIo
    refine LCg.block_U (RR := fun acc C => compPost (model prog w) A E none Q acc C) W hsz hIo (fun i h h' o nw st e e' _ _ _ => W.frame i h h' st fun b hb o' e₂ => ?_) hcell hkind hx hst (fun b hb => ?_)
      (F.keeps fun _ _ e => Heap.get?_push_of_some _ e) (N.grown fun _ _ e => Heap.get?_push_of_some _ e) (Nat.ne_of_lt F.ns.lt) (next_is_new F) (fun p hp => Nat.ne_of_lt (Heap.lt_size (N p hp).1)) trivial (R _ ⟨_, rfl⟩) ?_
    · rw [List.mem_singleton.mp hb] at e₂ ⊢
      rw [e] at e₂
      rw [e', e₂]
    · rw [List.mem_singleton.mp hb]
      show s₁.heap.objs.size < (s₁.heap.push _).objs.size
      rw [Heap.size_push]; exact Nat.lt_succ_self _
    · intro D C h tk m' ys news' F' N' o1 hn hC₀ hD₀ hCL hDL hCD offC fin
      refine ⟨m', hn, fun h'' hs'' => fin D h'' tk (F'.change hs'' hCL hC₀) (fun p hp => ?_) o1⟩
      refine ⟨hs''.extBut _ _ ?_ (N' p hp).1, (N' p hp).2⟩
      rcases List.mem_cons.mp hp with rfl | hp
      · exact Ne.symm hCD
      · exact offC p hp
  cases ha : y.cps.all (· < 128)
  · refine wpAny_pyIter_wide ha (main _ _ (Walks.strWide hh _ y t) ⟨_, Heap.get?_push_size _ rfl, rfl, rfl⟩ fun i h st => ?_)
    obtain ⟨o, e, _⟩ := st
    exact ⟨o, e⟩
  · refine wpAny_pyIter_ascii ha (main _ _ (Walks.strAscii hh _ y t) ⟨_, Heap.get?_push_size _ rfl, rfl, rfl⟩ fun i h st => ?_)
    obtain ⟨o, e, _⟩ := st
    exact ⟨o, e⟩
end
/-! D3 -/
def total (x : PySem.Str) : Int := (x.cps.toList.map fun c : Nat => uch (c : Int)).sum
local macro_rules | `(tactic| walk_at "eval ListComp") => `(tactic| (k_here; k_dflt (refine ListComp_S (by k_asm) (by with_unfolding_all rfl) (by decide) (by rfl) (by decide) (by rfl) ?_)))
local macro_rules | `(tactic| walk_at "contract") => `(tactic| exact o2u_str _ _ _ _ _ _ _)
local macro_rules | `(tactic| walk_at "contract") => `(tactic| (refine' uchar_ct _ _ _ _ _ _ _ ?ha; (case ha => assumption)))
local macro_rules | `(tactic| walk_at "call ref") => `(tactic| (k_here; k_dflt (refine' ct_use ?C ?k1 ?k2 ?k3 ?k4 ?k5 ?kK ?kd ?ku ?_); (case k1 => k_asm); (case k2 => k_asm); (case k3 => k_asm); (case k4 => k_asm); (case k5 => k_asm); (case kK => first | exact rfl | assumption); (case C => walk_at "contract"); (case kd => ktr_room); (case ku => ktr_units); intro t9 h9 tk9 F9 N9; (try dsimp only); (try k_fold)))
theorem tl_str (w : World) (mean mg mb) (news) (x : PySem.Str) (t : Tok) (hx : ∀ c ∈ x.cps.toList, c < 1114112) (hz : x.cps.size ≤ 16) :
    Ct w mean mg mb 5 68 news [.str x t] (fun u => .int (total x) u) := by
  dsimp only [Ct]
  k_fill
  intro dp un gd cn cs a ccd cl outer A₀ base h₀ L m s Q E hB hF hK hN hTop hk hdp hun hret
  refine wpAny_call ?_
  k_dflt cell_enter
  rename_i g' L' h' FG' F' N' B' X' T'
  k_steps
  refine StrSrc.intro (by rfl) (by k_asm) (by k_asm) (by rw [sizeLine_eq]; omega) ?_
  intro gg
  refine rest_gen x.cps.toList (fun c v => ∃ u, v = .str ⟨#[c]⟩ u) (fun c y => ∃ u, y = .int (uch (c : Int)) u) (by simp) ?_ ?_ ?_
  · intro i v hi hv
    obtain ⟨c, u, hc, e⟩ := hv
    exact ⟨c, by simpa using hc, u, e⟩
  · intro c v I oI C oC D m₂ ys h tk' E' hc hv hC hxm F₂ N₂ off
    obtain ⟨u, rfl⟩ := hv
    have hc' := hx c hc
    k_steps
    exact LCg.CompEnd.intro (by k_asm) (by k_asm) news (fun _ hp => hp) off trivial ⟨rfl, _, rfl⟩
  · intro ys hys
    have hi := hys.ints
    unfold LCg.FinE
    intro D h tk' F₂ N₂ off
    k_steps
    exact cb_retI (Q := Q) hret rfl (by k_asm) (tail1 (by k_asm))
/-! D4 -/
local macro_rules | `(tactic| walk_at "eval ListComp") => `(tactic| (k_here; k_dflt (refine ListComp_S (by k_asm) (by with_unfolding_all rfl) (by decide) (by rfl) (by decide) (by rfl) ?_)))
local macro_rules | `(tactic| walk_at "contract") => `(tactic| (refine' o2u_bytes _ _ _ _ _ _ _ _ _ _ ?ha ?hb; (case ha => assumption); (case hb => (show _ ≤ _; rw [sizeLine_eq]; exact Nat.le_trans (by assumption) (by decide)))))
local macro_rules | `(tactic| walk_at "contract") => `(tactic| (refine' uchar_ct _ _ _ _ _ _ _ ?ha; (case ha => assumption)))
local macro_rules | `(tactic| walk_at "call ref") => `(tactic| (k_here; k_dflt (refine' ct_use ?C ?k1 ?k2 ?k3 ?k4 ?k5 ?kK ?kd ?ku ?_); (case k1 => k_asm); (case k2 => k_asm); (case k3 => k_asm); (case k4 => k_asm); (case k5 => k_asm); (case kK => first | exact rfl | assumption); (case C => walk_at "contract"); (case kd => ktr_room); (case ku => ktr_units); intro t9 h9 tk9 F9 N9; (try dsimp only); (try k_fold)))
theorem tl_bytes (w : World) (mean mg mb) (news) (c₀ : UInt8) (cs₀ : List UInt8) (x : PySem.Str) (nd : Nat) (t : Tok) (hd : ∀ id, Builtin._codecs.runDecoder id Builtin._codecs.utf8Decoder none true (c₀ :: cs₀).toArray 0 [] = pure (x.cps, nd)) (hx : ∀ c ∈ x.cps.toList, c < 1114112) (hz : x.cps.size ≤ 16) :
    Ct w mean mg mb 5 68 news [.bytes (c₀ :: cs₀).toArray t] (fun u => .int (total x) u) := by
  dsimp only [Ct]
  k_fill
  intro dp un gd cn cs a ccd cl outer A₀ base h₀ L m s Q E hB hF hK hN hTop hk hdp hun hret
  refine wpAny_call ?_
  k_dflt cell_enter
  rename_i g' L' h' FG' F' N' B' X' T'
  k_steps
  refine StrSrc.intro (by rfl) (by k_asm) (by k_asm) (by rw [sizeLine_eq]; omega) ?_
  intro gg
  refine rest_gen x.cps.toList (fun c v => ∃ u, v = .str ⟨#[c]⟩ u) (fun c y => ∃ u, y = .int (uch (c : Int)) u) (by simp) ?_ ?_ ?_
  · intro i v hi hv
    obtain ⟨c, u, hc, e⟩ := hv
    exact ⟨c, by simpa using hc, u, e⟩
  · intro c v I oI C oC D m₂ ys h tk' E' hc hv hC hxm F₂ N₂ off
    obtain ⟨u, rfl⟩ := hv
    have hc' := hx c hc
    k_steps
    exact LCg.CompEnd.intro (by k_asm) (by k_asm) news (fun _ hp => hp) off trivial ⟨rfl, _, rfl⟩
  · intro ys hys
    have hi := hys.ints
    unfold LCg.FinE
    intro D h tk' F₂ N₂ off
    k_steps
    exact cb_retI (Q := Q) hret rfl (by k_asm) (tail1 (by k_asm))

theorem tl_list0 (w : World) (mean mg mb) (news) (l : Addr) (e : Nat) (vs : List Value) (hz : vs.length ≤ 16) :
    Ct w mean mg mb 5 68 ((l, W.listOf vs.toArray e) :: news) [.ref l] (fun u => .int (vs.length : Int) u) := by
  dsimp only [Ct]
  k_fill
  intro dp un gd cn cs a ccd cl outer A₀ base h₀ L m s Q E hB hF hK hN hTop hk hdp hun hret
  refine wpAny_call ?_
  k_dflt cell_enter
  rename_i g' L' h' FG' F' N' B' X' T'
  k_steps
  refine PyProof.Rows.len_list (l := l) (items := vs.toArray) ⟨_, N'.get (List.Mem.head _), rfl, _, rfl⟩ (by simp; omega) ?_
  dsimp only
  k_steps
  rw [List.size_toArray]
  exact hret _ _ _ (by k_asm) (by k_asm)
theorem tl_tup0 (w : World) (mean mg mb) (news) (l : Addr) (e : Nat) (vs : List Value) (hz : vs.length ≤ 16) :
    Ct w mean mg mb 5 68 ((l, { cls := .type "tuple", data := .seq vs.toArray e }) :: news) [.ref l] (fun u => .int (vs.length : Int) u) := by
  dsimp only [Ct]
  k_fill
  intro dp un gd cn cs a ccd cl outer A₀ base h₀ L m s Q E hB hF hK hN hTop hk hdp hun hret
  refine wpAny_call ?_
  k_dflt cell_enter
  rename_i g' L' h' FG' F' N' B' X' T'
  k_steps
  refine PyProof.Rows.len_tuple (t := l) (items := vs.toArray) ⟨_, N'.get (List.Mem.head _), rfl, _, rfl⟩ (by simp; omega) ?_
  dsimp only
  k_steps
  rw [List.size_toArray]
  exact hret _ _ _ (by k_asm) (by k_asm)
theorem tl_list (w : World) (mean mg mb) (news) (l : Addr) (e : Nat) (vs : List Value) (hm : (l, W.listOf vs.toArray e) ∈ news) (hz : vs.length ≤ 16) :
    Ct w mean mg mb 5 68 news [.ref l] (fun u => .int (vs.length : Int) u) :=
  ct_same (tl_list0 w mean mg mb news l e vs hz) (fun _ hp => (List.mem_cons.mp hp).elim (fun q => q ▸ hm) id) (fun _ hp => List.mem_cons_of_mem _ hp)
theorem tl_tup (w : World) (mean mg mb) (news) (l : Addr) (e : Nat) (vs : List Value) (hm : (l, ({ cls := .type "tuple", data := .seq vs.toArray e } : Obj)) ∈ news) (hz : vs.length ≤ 16) :
    Ct w mean mg mb 5 68 news [.ref l] (fun u => .int (vs.length : Int) u) :=
  ct_same (tl_tup0 w mean mg mb news l e vs hz) (fun _ hp => (List.mem_cons.mp hp).elim (fun q => q ▸ hm) id) (fun _ hp => List.mem_cons_of_mem _ hp)
/-! M1 -/
theorem fmod8 (n : Int) : 0 ≤ Int.fmod n 8 ∧ Int.fmod n 8 < 8 := by
  rw [Int.fmod_eq_emod_of_nonneg _ (by omega)]; omega
def srcOf (ns : List Int) : List Int := (List.range (2 + Int.fmod (raw ns 0) 8 - 1).toNat).map fun i : Nat => 1 + (i : Int)
theorem srcOf_mem {ns : List Int} {b : Int} (h : b ∈ srcOf ns) : 1 ≤ b ∧ b < 9 := by
  unfold srcOf at h
  obtain ⟨i, hi, rfl⟩ := List.mem_map.mp h
  have := List.mem_range.mp hi
  have := fmod8 (raw ns 0)
  omega
theorem srcOf_len (ns : List Int) : (srcOf ns).length = (2 + Int.fmod (raw ns 0) 8 - 1).toNat := by
  unfold srcOf
  rw [List.length_map, List.length_range]
theorem srcOf_at {ns : List Int} {i : Nat} (h : i < (2 + Int.fmod (raw ns 0) 8 - 1).toNat) : (srcOf ns)[i]? = some (1 + (i : Int)) := by
  unfold srcOf
  rw [List.getElem?_map, List.getElem?_range h]
  rfl
/-- what the signs' numbers are -/
def Good (c : Int) : Prop := 0 ≤ c ∧ c < 1114112 ∧ ¬ (55296 ≤ c ∧ c ≤ 57343)
theorem runs_bound (n : Int) : (runs.getD n.toNat (0, 0)).1 ≤ 65511 := by
  have h : ∀ p ∈ runs, p.1 ≤ 65511 := by decide
  rw [List.getD_eq_getElem?_getD]
  cases e : runs[n.toNat]? with
  | none => decide
  | some p => exact h p (List.mem_of_getElem? e)
theorem sgn_good (n : Int) : Good (sgn n) := by
  unfold Good sgn sgnCode
  have h1 := runs_bound (Int.fmod n 25)
  have h2 : Int.fmod (Int.fdiv n 25) 4 = Int.fdiv n 25 % 4 := Int.fmod_eq_emod_of_nonneg _ (by omega)
  have h3 : Int.fmod (if n < 0 then -n else n) 1114112 = (if n < 0 then -n else n) % 1114112 := Int.fmod_eq_emod_of_nonneg _ (by omega)
  rw [h2, h3]
  generalize (runs.getD (Int.fmod n 25).toNat (0, 0)).1 = q at *
  generalize (if n < 0 then -n else n) = r
  generalize Int.fdiv n 25 = f
  have h4 : 0 ≤ r % 1114112 ∧ r % 1114112 < 1114112 := by omega
  generalize r % 1114112 = r' at *
  split
  · split <;> omega
  · split <;> omega
def codesOf (ns : List Int) : List Int := (srcOf ns).map fun b => sgn (raw ns b)
theorem codes_good (ns : List Int) : ∀ c ∈ codesOf ns, Good c := by
  intro c hc
  obtain ⟨b, _, rfl⟩ := List.mem_map.mp hc
  exact sgn_good _
theorem codes_len (ns : List Int) : 1 ≤ (codesOf ns).length ∧ (codesOf ns).length ≤ 8 := by
  unfold codesOf
  rw [List.length_map, srcOf_len]
  have := fmod8 (raw ns 0)
  omega
/-- the tables agree -/
theorem placesF_snoc (ps : List (Int × Int)) (p : Int × Int) (c : Int) : placesF (ps ++ [p]) c = if p.1 ≤ c then p.2 else placesF ps c := by
  unfold placesF
  rw [List.foldl_append]
  rfl
/-! M2 -/
theorem wide_iff (c : Int) (h : 0 ≤ c) : isWide c = decide (places c = 2) := by
  unfold places placesF runs isWide inTab wideT
  simp only [List.foldl, List.any, Bool.or_false]
  rw [Bool.eq_iff_iff]
  simp only [Bool.and_eq_true, Bool.or_eq_true, decide_eq_true_eq]
  repeat' split
  all_goals omega
theorem comb_iff (c : Int) (h : 0 ≤ c) : isComb c = decide (places c = 0) := by
  unfold places placesF runs isComb inTab combT
  simp only [List.foldl, List.any, Bool.or_false]
  rw [Bool.eq_iff_iff]
  simp only [Bool.and_eq_true, Bool.or_eq_true, decide_eq_true_eq]
  repeat' split
  all_goals omega
theorem places_three (c : Int) (h : 0 ≤ c) : places c = 0 ∨ places c = 1 ∨ places c = 2 := by
  unfold places placesF runs
  simp only [List.foldl]
  repeat' split
  all_goals omega
theorem uch_places (c : Int) (h : 0 ≤ c) : uch c = places c := by
  unfold uch
  rw [wide_iff c h, comb_iff c h]
  rcases places_three c h with e | e | e <;> rw [e] <;> decide
/-! Loop2 -/
/-- what a turn of a loop over a made list hands on -/
def TurnPostL (h₀ : Heap) (L : Addr) (s : Shared) (I : Addr) (oI : Obj) (J : (Str → Option Value) → List (Addr × Obj) → Prop) (Q : Flow → Shared → Prop) (f : Flow) (s' : Shared) : Prop :=
  match f with
  | .ret v => Q (.ret v) s'
  | .brk => Q .next s'
  | _ => ∃ h' tk m' nw, s' = { s with heap := h', toks := tk } ∧ Fr h₀ L h' m' ∧ News h₀ L h' ((I, oI) :: nw) ∧ J m' nw
section
variable {prog : Program} {w : World} {A : Around} {E : Value → Shared → Prop} {s : Shared} {env : Env} {h₀ : Heap} {target : PySem.Expr} {body : List Stmt} {Q : Flow → Shared → Prop}

theorem items_invL {I : Addr} {keep : List (Addr × Obj)} (vs : List Value) (J : Nat → (Str → Option Value) → List (Addr × Obj) → Prop)
    (hJ : ∀ i m nw, J i m nw → SubL keep nw ∧ ∀ p ∈ nw, p.1 < I)
    (step : ∀ i v m₁ nw₁ h₁ tk₁ oI, vs[i]? = some v → J i m₁ nw₁ → Fr h₀ env.locals h₁ m₁ → News h₀ env.locals h₁ ((I, oI) :: nw₁) →
      wpAny (model prog w) A (assign target env v) (fun _ s₂ => wpAny (model prog w) A (execs body env) (TurnPostL h₀ env.locals { s with heap := h₁, toks := tk₁ } I oI (J (i + 1)) Q) E s₂) E { s with heap := h₁, toks := tk₁ })
    (fin : ∀ h' tk m' nw', Fr h₀ env.locals h' m' → News h₀ env.locals h' nw' → J vs.length m' nw' → Q .next { s with heap := h', toks := tk }) :
    ∀ (k i : Nat) (m : Str → Option Value) (nw : List (Addr × Obj)), i + k = vs.length → J i m nw → ItemsRest prog w A E h₀ env target body Q s [(I, "list_iterator")] keep ((vs.drop i).map .val) m nw := by
  intro k
  induction k with
  | zero =>
    intro i m nw hi hJi
    have e : vs.drop i = [] := List.drop_eq_nil_of_le (by omega)
    rw [e]
    refine ItemsRest.zero fun h tk F N => ?_
    exact fin h tk m nw F N ((show i = vs.length by omega) ▸ hJi)
  | succ k ih =>
    intro i m nw hi hJi
    have hlt : i < vs.length := by omega
    rw [List.drop_eq_getElem_cons hlt]
    refine ItemsRest.val fun h tk F => AllObj.cons fun oI hc => AllObj.nil fun N => ?_
    refine wpAny_mono (step i _ m nw h tk oI (List.getElem?_eq_getElem hlt) hJi F N) (fun _ s₂ h₂ => wpAny_mono h₂ (fun f s₃ p => ?_) fun _ _ e => e) fun _ _ e => e
    have fin' : (∃ h' tk' m' nw', s₃ = { ({ s with heap := h, toks := tk } : Shared) with heap := h', toks := tk' } ∧ Fr h₀ env.locals h' m' ∧ News h₀ env.locals h' ((I, oI) :: nw') ∧ J (i + 1) m' nw') →
        UnrEndW h₀ env.locals { s with heap := h, toks := tk } [(I, oI)] (fun m' n' => SubL keep n' ∧ ItemsRest prog w A E h₀ env target body Q s [(I, "list_iterator")] keep ((vs.drop (i + 1)).map .val) m' n') s₃ := by
      rintro ⟨h', tk', m', nw', e, F', N', J'⟩
      have hj := hJ _ _ _ J'
      refine ⟨h', tk', m', nw', e, F', N', fun p hp q hq => ?_, hj.1, ih (i + 1) m' nw' (by omega) J'⟩
      rw [List.mem_singleton.mp hq]
      exact Nat.ne_of_lt (hj.2 p hp)
    cases f with
    | ret v => exact p
    | brk => exact p
    | next => exact fin' p
    | cont => exact fin' p

theorem iter_listJ {ax : Addr} {lo : Obj} {vs : List Value} {n : Nat} {m₀ : Str → Option Value} {news : List (Addr × Obj)}
    (hh : A.handled = none) (F : Fr h₀ env.locals s.heap m₀) (N : News h₀ env.locals s.heap news) (hm : (ax, lo) ∈ news) (hc : lo.cls = .type "list") (hd : lo.data = .seq vs.toArray n)
    (J : Nat → (Str → Option Value) → List (Addr × Obj) → Prop) (h0 : J 0 m₀ news)
    (hJ : ∀ I, (∀ p ∈ news, p.1 < I) → ∀ i m nw, J i m nw → SubL [(ax, lo)] nw ∧ ∀ p ∈ nw, p.1 < I)
    (step : ∀ I i v m₁ nw₁ h₁ tk₁ oI, vs[i]? = some v → (∀ p ∈ news, p.1 < I) → J i m₁ nw₁ → Fr h₀ env.locals h₁ m₁ → News h₀ env.locals h₁ ((I, oI) :: nw₁) →
      wpAny (model prog w) A (assign target env v) (fun _ s₂ => wpAny (model prog w) A (execs body env) (TurnPostL h₀ env.locals { s with heap := h₁, toks := tk₁ } I oI (J (i + 1)) Q) E s₂) E { s with heap := h₁, toks := tk₁ })
    (fin : ∀ h' tk m' nw', Fr h₀ env.locals h' m' → News h₀ env.locals h' nw' → J vs.length m' nw' → Q .next { s with heap := h', toks := tk }) :
    wpAny (model prog w) A (pyIter (.ref ax)) (fun it s₂ => TurnsAt prog w A h₀ env target body Q E it s₂) E s := by
  refine iter_listTurns hh F N hm hc hd fun I hI => ?_
  have := items_invL (prog := prog) (w := w) (A := A) (E := E) (s := s) (target := target) (body := body) (Q := Q) (h₀ := h₀) (env := env) (I := I) (keep := [(ax, lo)]) vs J (hJ I hI)
    (fun i v m₁ nw₁ h₁ tk₁ oI a b c d => step I i v m₁ nw₁ h₁ tk₁ oI a hI b c d) fin vs.length 0 m₀ news (by omega) h0
  rw [List.drop_zero] at this
  exact this
end
/-- enc_ct with its arguments to be found -/
theorem enc_use {w : World} {mean mg mb} {news : List (Addr × Obj)} {c : Int} {t : Tok}
  {dp un : Nat} {gd : Option (List Code)} {cn : Str} {cs : Scope} {a : Addr} {ccd : Value} {cl : List (Str × Addr)} {outer : List Env} {A₀ : Around} {base h₀ : Heap} {L : Addr} {m : Str → Option Value} {s : Shared} {Q E : Value → Shared → Prop}
    (hB : Below A₀ base outer h₀) (hF : Fr h₀ L s.heap m) (hK : (hd.heap_39 w.params).In h₀) (hN : News h₀ L s.heap news)
    (hTop : Top hd.view_39 (PySem.W.looseW hd.view_39 [PySem.Str.ofString "unicode_type", PySem.Str.ofString "bytes_type"]) mean mg mb h₀) (hk : cs.kind = .function)
    (hdp : dp + 1 < recursionLimit) (hun : un + 8 < cLine)
    (hret : ∀ (l : Addr) (vs : List Value) (h' : Heap) (tk' : Nat), IntsAre vs (enc c) → Fr h₀ L h' m → News h₀ L h' ((l, W.listOf vs.toArray 0) :: news) → (∀ p ∈ news, p.1 < l) → Q (.ref l) { s with heap := h', toks := tk' }) :
    wpAny (model (PySem.W.RowW.prog (PySem.W.OpenRow.toRowW (PySem.W.OpenLaw.row PySem.Challenge.rw_ag6018_01))) w) (ktrTop dp un gd cn cs L a ccd cl outer) (call (.ref 108) [.int c t]) Q E s :=
  enc_ct w mean mg mb news c t dp un gd cn cs a ccd cl outer A₀ base h₀ L m s Q E hB hF hK hN hTop hk hdp hun hret
/-- the text of the signs -/
def txt (codes : List Int) : PySem.Str := ⟨(codes.map Int.toNat).toArray⟩
theorem join_txt : ∀ codes : List Int, PySem.Txt.join (PySem.Str.ofString "") (codes.map fun b => (⟨#[b.toNat]⟩ : PySem.Str)) = txt codes := by
  have key : ∀ codes : List Int, PySem.Str.join (PySem.Str.ofString "") (codes.map fun b => (⟨#[b.toNat]⟩ : PySem.Str)) = txt codes := by
    intro codes
    induction codes with
    | nil => rfl
    | cons a r ih =>
      cases r with
      | nil => rfl
      | cons b r =>
        show (⟨#[a.toNat]⟩ : PySem.Str) ++ PySem.Str.ofString "" ++ PySem.Str.join (PySem.Str.ofString "") ((b :: r).map fun b => (⟨#[b.toNat]⟩ : PySem.Str)) = _
        rw [ih]
        unfold txt
        apply PySem.Str.ext'
        rw [PySem.Str.cps_append, PySem.Str.cps_append]
        simp [show (PySem.Str.ofString "").cps = #[] from by decide +kernel]
  intro codes
  show Builtin.Str.glued (PySem.Str.ofString "") _ = _
  rw [StrLaws.glued_eq_join]
  exact key codes
/-! M3 -/
theorem enc_len (c : Int) : 1 ≤ (enc c).length ∧ (enc c).length ≤ 4 := by
  unfold enc
  repeat' split
  all_goals simp
theorem flat_len : ∀ l : List Int, (l.flatMap enc).length ≤ 4 * l.length
  | [] => Nat.le_refl _
  | c :: r => by
    have := flat_len r
    have := enc_len c
    simp only [List.flatMap_cons, List.length_append, List.length_cons]
    omega
theorem fd (c : Int) (k : Nat) (_h : 0 ≤ c) : Int.fdiv c k = c / k := Int.fdiv_eq_ediv_of_nonneg _ (by omega)
theorem fm (c : Int) (k : Nat) : Int.fmod c k = c % k := Int.fmod_eq_emod_of_nonneg _ (by omega)
theorem enc_byte (c : Int) (h : 0 ≤ c) (h' : c < 1114112) : ∀ n ∈ enc c, 0 ≤ n ∧ n < 256 := by
  unfold enc
  have e1 := fd c 64 h
  have e2 := fd c 4096 h
  have e3 := fd c 262144 h
  have e4 := fm c 64
  have e5 := fm (c / 64) 64
  have e6 := fm (c / 4096) 64
  simp only [Int.cast_ofNat_Int] at e1 e2 e3 e4 e5 e6
  rw [e1, e2, e3, e4, e5, e6]
  repeat' split
  all_goals
    intro n hn
    simp only [List.mem_cons, List.not_mem_nil, or_false] at hn
    omega
theorem enc_B (c : Int) (h : 0 ≤ c) (_h' : c < 1114112) : (enc c).map (fun n => n.toNat.toUInt8) = encB c.toNat := by
  obtain ⟨k, rfl⟩ := Int.eq_ofNat_of_zero_le h
  unfold enc encB
  have e1 := fd k 64 h
  have e2 := fd k 4096 h
  have e3 := fd k 262144 h
  have e4 := fm k 64
  have e5 := fm ((k : Int) / 64) 64
  have e6 := fm ((k : Int) / 4096) 64
  simp only [Int.cast_ofNat_Int] at e1 e2 e3 e4 e5 e6
  rw [e1, e2, e3, e4, e5, e6]
  simp only [Int.toNat_natCast]
  by_cases h1 : k < 128
  · rw [if_pos (by omega), if_pos h1]
    simp
  · rw [if_neg (by omega), if_neg h1]
    by_cases h2 : k < 2048
    · rw [if_pos (by omega), if_pos h2]
      simp only [List.map_cons, List.map_nil, List.cons.injEq, and_true]
      exact ⟨congrArg _ (by omega), congrArg _ (by omega)⟩
    · rw [if_neg (by omega), if_neg h2]
      by_cases h3 : k < 65536
      · rw [if_pos (by omega), if_pos h3]
        simp only [List.map_cons, List.map_nil, List.cons.injEq, and_true]
        exact ⟨congrArg _ (by omega), congrArg _ (by omega), congrArg _ (by omega)⟩
      · rw [if_neg (by omega), if_neg h3]
        simp only [List.map_cons, List.map_nil, List.cons.injEq, and_true]
        exact ⟨congrArg _ (by omega), congrArg _ (by omega), congrArg _ (by omega), congrArg _ (by omega)⟩
theorem flat_byte {codes : List Int} (hg : ∀ c ∈ codes, Good c) : ∀ n ∈ codes.flatMap enc, 0 ≤ n ∧ n < 256 := by
  intro n hn
  obtain ⟨c, hc, hn⟩ := List.mem_flatMap.mp hn
  exact enc_byte c (hg c hc).1 (hg c hc).2.1 n hn
theorem flat_B : ∀ {codes : List Int}, (∀ c ∈ codes, Good c) → (codes.flatMap enc).map (fun n => n.toNat.toUInt8) = (codes.map Int.toNat).flatMap encB
  | [], _ => rfl
  | c :: r, hg => by
    rw [List.flatMap_cons, List.map_append, List.map_cons, List.flatMap_cons, enc_B c (hg c (.head _)).1 (hg c (.head _)).2.1, flat_B fun x hx => hg x (.tail _ hx)]
theorem bytes_dec_ok {codes : List Int} (hg : ∀ c ∈ codes, Good c) (hl : codes.length ≤ 8) (id : String) :
    Builtin._codecs.runDecoder id Builtin._codecs.utf8Decoder none true (byteArr (codes.flatMap enc)) 0 [] = pure ((txt codes).cps, ((codes.map Int.toNat).flatMap encB).length) := by
  unfold byteArr
  rw [flat_B hg]
  refine run_dec id (codes.map Int.toNat) (fun n hn => ?_) (by rw [List.length_map]; omega)
  obtain ⟨c, hc, rfl⟩ := List.mem_map.mp hn
  obtain ⟨c0, c1, c2⟩ := hg c hc
  omega
theorem bytes_cons {codes : List Int} (h : 1 ≤ codes.length) : ∃ c cs, byteArr (codes.flatMap enc) = (c :: cs).toArray := by
  have hpos : 0 < (byteArr (codes.flatMap enc)).size := by
    rw [byteArr_size]
    cases codes with
    | nil => cases h
    | cons a r =>
      have := enc_len a
      simp only [List.flatMap_cons, List.length_append]
      omega
  cases e : (byteArr (codes.flatMap enc)).toList with
  | nil =>
    rw [← Array.length_toList, e] at hpos
    cases hpos
  | cons c cs => exact ⟨c, cs, by rw [← e, Array.toArray_toList]⟩
theorem txt_small {codes : List Int} (hg : ∀ c ∈ codes, Good c) : ∀ c ∈ (txt codes).cps.toList, c < 1114112 := by
  intro n hn
  unfold txt at hn
  simp only [List.mem_map] at hn
  obtain ⟨c, hc, rfl⟩ := hn
  obtain ⟨c0, c1, c2⟩ := hg c hc
  omega
theorem txt_size (codes : List Int) : (txt codes).cps.size = codes.length := by simp [txt]
theorem total_txt {codes : List Int} (hg : ∀ c ∈ codes, Good c) : total (txt codes) = (codes.map places).sum := by
  unfold total txt
  simp only [List.map_map]
  congr 1
  refine List.map_congr_left fun c hc => ?_
  obtain ⟨c0, c1, c2⟩ := hg c hc
  show uch ((c.toNat : Nat) : Int) = places c
  rw [Int.toNat_of_nonneg c0, uch_places c c0]
theorem tl_bytesG (w : World) (mean mg mb) (news) (codes : List Int) (t : Tok) (hg : ∀ c ∈ codes, Good c) (hl : 1 ≤ codes.length ∧ codes.length ≤ 8) :
    Ct w mean mg mb 5 68 news [.bytes (byteArr (codes.flatMap enc)) t] (fun u => .int (codes.map places).sum u) := by
  obtain ⟨c, cs, e⟩ := bytes_cons hl.1
  have hd := bytes_dec_ok hg hl.2
  rw [e] at hd ⊢
  rw [← total_txt hg]
  exact tl_bytes w mean mg mb news c cs (txt codes) _ t hd (txt_small hg) (by rw [txt_size]; omega)
theorem tl_txt (w : World) (mean mg mb) (news) (codes : List Int) (t : Tok) (hg : ∀ c ∈ codes, Good c) (hl : 1 ≤ codes.length ∧ codes.length ≤ 8) :
    Ct w mean mg mb 5 68 news [.str (txt codes) t] (fun u => .int (codes.map places).sum u) := by
  rw [← total_txt hg]
  exact tl_str w mean mg mb news (txt codes) t (txt_small hg) (by rw [txt_size]; omega)
theorem tl_none (w : World) (mean mg mb) (news) (t : Tok) : Ct w mean mg mb 5 68 news [.str (PySem.Str.ofString "") t] (fun u => .int 0 u) :=
  tl_str w mean mg mb news (PySem.Str.ofString "") t (by decide +kernel) (by decide +kernel)
/-! M4 -/
section
open PySem.SeqAt
theorem readsAll_strs {h : Heap} : ∀ {vs : List Value} {ns : List PySem.Str}, StrsAre vs ns → ReadsAll h vs (ns.map PyData.str) []
  | _, _, .nil => .nil
  | _, _, .cons k t r => by
    have := ReadsAll.cons (Reads.str (h := h) k t) (readsAll_strs (h := h) r)
    simpa using this
def mkD (na : List Int) (nb : List PySem.Str) (nc : List Int) (i1 i2 i3 i4 i5 i6 : Int) : PyData :=
  .list [.list (na.map .int), .list (nb.map .str), .list (nc.map .int), .int i1, .int i2, .int i3, .int i4, .int i5, .int i6]
theorem strs_lay : ∀ nb : List PySem.Str, (∀ x ∈ nb, PyData.strOk x = true) → PyData.canLayAll0 (nb.map PyData.str) = true
  | [], _ => by simp [PyData.canLayAll0]
  | x :: r, h => by
    simp only [List.map_cons, PyData.canLayAll0, PyData.canLay0, h x (.head _), strs_lay r fun y hy => h y (.tail _ hy), Bool.and_self]
theorem strs_depth : ∀ nb : List PySem.Str, PyData.depthAll (nb.map PyData.str) = 0
  | [] => by simp [PyData.depthAll]
  | x :: r => by simp [PyData.depthAll, PyData.depth, strs_depth r]
theorem mkD_lay {na : List Int} {nb : List PySem.Str} {nc : List Int} {i1 i2 i3 i4 i5 i6 : Int} (h : ∀ x ∈ nb, PyData.strOk x = true) : (mkD na nb nc i1 i2 i3 i4 i5 i6).canLay0 = true := by
  unfold mkD
  simp [PyData.canLay0, PyData.canLayAll0, ke_canLayAll0, strs_lay nb h]
theorem mkD_shaped {na : List Int} {nb : List PySem.Str} {nc : List Int} {i1 i2 i3 i4 i5 i6 : Int} (h : ∀ x ∈ nb, PyData.strOk x = true) : shaped (mkD na nb nc i1 i2 i3 i4 i5 i6) = true := by
  unfold shaped
  rw [mkD_lay h]
  unfold mkD
  simp [PyData.depth, PyData.depthAll, ke_depthAll, strs_depth]
theorem mkD_reads {h₀ h : Heap} {L : Addr} {news : List (Addr × Obj)} {T a b c : Addr} {as bs cs : List Value} {na : List Int} {nb : List PySem.Str} {nc : List Int} {i1 i2 i3 i4 i5 i6 : Int} {t1 t2 t3 t4 t5 t6 : Tok} {e ea eb ec : Nat}
    (N : News h₀ L h news) (hT : (T, W.listOf [Value.ref a, .ref b, .ref c, .int i1 t1, .int i2 t2, .int i3 t3, .int i4 t4, .int i5 t5, .int i6 t6].toArray e) ∈ news)
    (ha : (a, W.listOf as.toArray ea) ∈ news) (hb : (b, W.listOf bs.toArray eb) ∈ news) (hc : (c, W.listOf cs.toArray ec) ∈ news) (Ha : IntsAre as na) (Hb : StrsAre bs nb) (Hc : IntsAre cs nc) :
    ∃ xs, Reads h (.ref T) (mkD na nb nc i1 i2 i3 i4 i5 i6) xs := by
  have ra : Reads h (.ref a) (.list (na.map .int)) [a] := .list (N.get ha) rfl rfl (by simpa using readsAll_of_ints Ha)
  have rb : Reads h (.ref b) (.list (nb.map .str)) [b] := .list (N.get hb) rfl rfl (by simpa using readsAll_strs Hb)
  have rc : Reads h (.ref c) (.list (nc.map .int)) [c] := .list (N.get hc) rfl rfl (by simpa using readsAll_of_ints Hc)
  have inner := ReadsAll.cons ra (.cons rb (.cons rc (.cons (.int i1 t1) (.cons (.int i2 t2) (.cons (.int i3 t3) (.cons (.int i4 t4) (.cons (.int i5 t5) (.cons (.int i6 t6) .nil))))))))
  exact ⟨_, Reads.list (N.get hT) rfl rfl inner⟩
theorem cmp_told {prog : Program} {w : World} {A : Around} {E : Value → Shared → Prop} {s : Shared} {Q : Value → Shared → Prop} {h₀ : Heap} {L : Addr} {news : List (Addr × Obj)} {T a b c T' a' b' c' : Addr} {as bs cs as' bs' cs' : List Value} {na na' : List Int} {nb nb' : List PySem.Str} {nc nc' : List Int} {i1 i2 i3 i4 i5 i6 j1 j2 j3 j4 j5 j6 : Int} {t1 t2 t3 t4 t5 t6 u1 u2 u3 u4 u5 u6 : Tok} {e ea eb ec e' ea' eb' ec' : Nat}
    (N : News h₀ L s.heap news) (hT : (T, W.listOf [Value.ref a, .ref b, .ref c, .int i1 t1, .int i2 t2, .int i3 t3, .int i4 t4, .int i5 t5, .int i6 t6].toArray e) ∈ news)
    (hT' : (T', W.listOf [Value.ref a', .ref b', .ref c', .int j1 u1, .int j2 u2, .int j3 u3, .int j4 u4, .int j5 u5, .int j6 u6].toArray e') ∈ news)
    (ha : (a, W.listOf as.toArray ea) ∈ news) (hb : (b, W.listOf bs.toArray eb) ∈ news) (hc : (c, W.listOf cs.toArray ec) ∈ news) (Ha : IntsAre as na) (Hb : StrsAre bs nb) (Hc : IntsAre cs nc)
    (ha' : (a', W.listOf as'.toArray ea') ∈ news) (hb' : (b', W.listOf bs'.toArray eb') ∈ news) (hc' : (c', W.listOf cs'.toArray ec') ∈ news) (Ha' : IntsAre as' na') (Hb' : StrsAre bs' nb') (Hc' : IntsAre cs' nc')
    (ea : na = na') (eb : nb = nb') (ec : nc = nc') (e1 : i1 = j1) (e2 : i2 = j2) (e3 : i3 = j3) (e4 : i4 = j4) (e5 : i5 = j5) (e6 : i6 = j6) (ho : ∀ x ∈ nb, PyData.strOk x = true) (hu : A.units + 64 < cLine) (h : Q (.bool true) s) :
    wpAny (model prog w) A (compareOp .Eq (.ref T) (.ref T')) Q E s := by
  subst ea eb ec e1 e2 e3 e4 e5 e6
  obtain ⟨xs, r⟩ := mkD_reads N hT ha hb hc Ha Hb Hc
  obtain ⟨ys, r'⟩ := mkD_reads N hT' ha' hb' hc' Ha' Hb' Hc'
  refine compareEq_shaped r r' (mkD_shaped ho) (mkD_shaped ho) hu ?_
  rw [eqv_refl _ (mkD_lay ho)]
  exact h
theorem widths_eq {codes : List Int} (hg : ∀ c ∈ codes, Good c) : codes.map uch = codes.map places := List.map_congr_left fun c hc => uch_places c (hg c hc).1
theorem east_eq {codes : List Int} (hg : ∀ c ∈ codes, Good c) : (codes.map fun b => if isWide b then PySem.Str.ofString "W" else PySem.Str.ofString "N") = (codes.map places).map fun b => if b = 2 then PySem.Str.ofString "W" else PySem.Str.ofString "N" := by
  rw [List.map_map]
  refine List.map_congr_left fun c hc => ?_
  rw [wide_iff c (hg c hc).1]
  simp only [decide_eq_true_eq]
  rfl
theorem comb_eq {codes : List Int} (hg : ∀ c ∈ codes, Good c) : (codes.map fun b => if isComb b then (230 : Int) else 0) = (codes.map places).map fun b => if b = 0 then (230 : Int) else 0 := by
  rw [List.map_map]
  refine List.map_congr_left fun c hc => ?_
  rw [comb_iff c (hg c hc).1]
  simp only [decide_eq_true_eq]
  rfl
theorem east_ok (codes : List Int) : ∀ x ∈ (codes.map fun b => if isWide b then PySem.Str.ofString "W" else PySem.Str.ofString "N"), PyData.strOk x = true := by
  intro x hx
  obtain ⟨b, _, rfl⟩ := List.mem_map.mp hx
  cases isWide b <;> decide +kernel
end
/-! L1 -/
def Hold (P : Prop) : Prop := P
theorem Hold.of {P : Prop} (h : Hold P) : P := h
theorem Hold.mk {P : Prop} (h : P) : Hold P := h
local macro_rules | `(tactic| walk_at "CompSrc") => `(tactic| refine Hold.of ?_)
local macro_rules | `(tactic| walk_at "exec Assign cons ListComp") => `(tactic| (k_here; k_dflt (refine LCg.Assign_ListComp_U (F₀ := by k_asm) (by rfl) (by with_unfolding_all rfl) (by with_unfolding_all rfl) (by decide) (by rfl) (by decide) (by rfl) (by rfl) (by rfl) ?_)))
local macro_rules | `(tactic| walk_at "call ref") => `(tactic| (k_here; k_dflt (refine' ct_use ?C ?k1 ?k2 ?k3 ?k4 ?k5 ?kK ?kd ?ku ?_; (case k1 => k_asm); (case k2 => k_asm); (case k3 => k_asm); (case k4 => k_asm); (case k5 => k_asm); (case kK => first | exact rfl | assumption); (case C => walk_at "contract"); (case kd => ktr_room); (case ku => ktr_units)); intro t9 h9 tk9 F9 N9; (try dsimp only); (try k_fold)))
local macro_rules | `(tactic| walk_at "contract") => `(tactic| (refine' raw_ct _ _ _ _ _ _ _ _ _ _ _ ?hm ?hi ?h0 ?h9 ?hn; (case hm => k_mem); (case hi => assumption); (case h0 => omega); (case h9 => omega); (case hn => omega)))
local macro_rules | `(tactic| walk_at "contract") => `(tactic| exact sign_ct _ _ _ _ _ _ _)
local macro_rules | `(tactic| walk_at "contract") => `(tactic| exact places_ct _ _ _ _ _ _ _)
local macro_rules | `(tactic| walk_at "call builtin:str.join") => `(tactic| refine Hold.of ?_)
local macro_rules | `(tactic| walk_at "exec For Name Name cons nil") => `(tactic| refine Hold.of ?_)
local macro_rules | `(tactic| walk_at "call ref") => `(tactic| (k_here; k_dflt (refine' enc_use ?k1 ?k2 ?k3 ?k4 ?k5 ?kK ?kd ?ku ?_; (case k1 => k_asm); (case k2 => k_asm); (case k3 => k_asm); (case k4 => k_asm); (case k5 => k_asm); (case kK => first | exact rfl | assumption); (case kd => ktr_room); (case ku => ktr_units)); intro l9 vs9 h9 tk9 hi9 F9 N9 lt9; (try dsimp only); (try k_fold)))
/-- what holds between the turns of the loop that extends the values -/
def ExtJ (V : Addr) (m₀ : Str → Option Value) (rest : List (Addr × Obj)) (codes : List Int) (i : Nat) (m : Str → Option Value) (nw : List (Addr × Obj)) : Prop :=
  ∃ (u : Option Value) (acc : List Value) (e : Nat), m = (fun z => if z = Str.ofString "code" then u else m₀ z) ∧ nw = (V, W.listOf acc.toArray e) :: rest ∧ IntsAre acc ((codes.take i).flatMap enc)
theorem ExtJ.start {V : Addr} {m₀ : Str → Option Value} {rest : List (Addr × Obj)} {codes : List Int} : ExtJ V m₀ rest codes 0 m₀ ((V, W.listOf #[] 0) :: rest) :=
  ⟨m₀ (Str.ofString "code"), [], 0, upd_id rfl, rfl, .nil⟩
local macro_rules | `(tactic| walk_at "eval ListComp") => `(tactic| (k_here; k_dflt (refine LCg.ListComp_U (F₀ := by k_asm) (by with_unfolding_all rfl) (by decide) (by rfl) (by decide) (by rfl) ?_)))
local macro_rules | `(tactic| walk_at "contract") => `(tactic| (refine' uchar_ct _ _ _ _ _ _ _ ?ha; (case ha => assumption)))
local macro_rules | `(tactic| walk_at "contract") => `(tactic| (refine' east_ct _ _ _ _ _ _ _ ?ha; (case ha => assumption)))
local macro_rules | `(tactic| walk_at "contract") => `(tactic| (refine' comb_ct _ _ _ _ _ _ _ ?ha; (case ha => assumption)))
local macro_rules | `(tactic| walk_at "contract") => `(tactic| (refine' tl_txt _ _ _ _ _ _ _ ?ha ?hb; (case ha => assumption); (case hb => assumption)))
local macro_rules | `(tactic| walk_at "contract") => `(tactic| (refine' tl_bytesG _ _ _ _ _ _ _ ?ha ?hb; (case ha => assumption); (case hb => assumption)))
local macro_rules | `(tactic| walk_at "contract") => `(tactic| exact tl_none _ _ _ _ _ _)
local macro_rules | `(tactic| walk_at "contract") => `(tactic| (refine' tl_tup _ _ _ _ _ _ _ _ ?ha ?hb; (case ha => k_mem); (case hb => first | omega | decide | (simp; omega))))
local macro_rules | `(tactic| walk_at "contract") => `(tactic| (refine' tl_list _ _ _ _ _ _ _ _ ?ha ?hb; (case ha => k_mem); (case hb => first | omega | decide | (simp; omega))))
theorem tup_use {prog : Program} {w : World} {A : Around} {E : Value → Shared → Prop} {s : Shared} {h₀ : Heap} {L l : Addr} {m : Str → Option Value} {news : List (Addr × Obj)} {vs : List Value} {Q : Value → Shared → Prop}
    (F : Fr h₀ L s.heap m) (N : News h₀ L s.heap news) (e : Nat) (hm : (l, W.listOf vs.toArray e) ∈ news) (hz : vs.length ≤ 16)
    (h : ∀ (t : Addr) (h' : Heap), Fr h₀ L h' m → News h₀ L h' ((t, ({ cls := .type "tuple", data := .seq vs.toArray 0 } : Obj)) :: news) → (∀ p ∈ news, p.1 < t) → Q (.ref t) { s with heap := h' }) :
    wpAny (model prog w) A (call (.type "tuple") [.ref l]) Q E s := by
  have hl : s.heap.IsList l vs.toArray := ⟨_, N.get hm, rfl, _, rfl⟩
  refine call_tuple_list hl (fun h' hk => ?_) (by rw [sizeLine_eq]; simp; omega)
  have F' := F.keeps hk
  have N' := N.grown hk
  refine h _ _ (F'.push _) (fun p hp => ?_) (fun p hp => Heap.lt_size (N' p hp).1)
  rcases List.mem_cons.mp hp with rfl | hp
  · exact ⟨Heap.get?_push_size _ rfl, Ne.symm (Nat.ne_of_lt F'.ns.lt), next_is_new F'⟩
  · exact ⟨Heap.get?_push_of_some _ (N' p hp).1, (N' p hp).2⟩
local macro_rules | `(tactic| walk_at "call type:tuple") => `(tactic| (k_here; k_dflt (refine' tup_use ?F ?N _ ?l ?z ?_; (case F => k_asm); (case N => k_asm); (case l => k_mem); (case z => omega)); intro t9 h9 F9 N9 lt9; (try k_lt lt9); (try dsimp only)))
local macro_rules | `(tactic| walk_at "compareOp Eq ref ref") => `(tactic| refine Hold.of ?_)
theorem strs_at {vs : List Value} {codes : List Int} (hi : StrsAre vs (codes.map fun b => (⟨#[b.toNat]⟩ : PySem.Str))) : ∀ (i : Nat) (v : Value), i < vs.toArray.size → vs.toArray[i]? = some v → ∃ b, codes[i]? = some b ∧ ∃ t, v = .str (⟨#[b.toNat]⟩ : PySem.Str) t := by
  intro i v _ hv
  obtain ⟨k, hk, t, e⟩ := (Each.ofStrs hi).at i v (by simpa using hv)
  rw [List.getElem?_map] at hk
  cases hc : codes[i]? with
  | none => rw [hc] at hk; cases hk
  | some c =>
    rw [hc] at hk
    cases hk
    exact ⟨c, rfl, t, e⟩
theorem ints_at {vs : List Value} {ns : List Int} (hi : IntsAre vs ns) : ∀ (i : Nat) (v : Value), i < vs.toArray.size → vs.toArray[i]? = some v → ∃ b, ns[i]? = some b ∧ ∃ t, v = .int b t := by
  intro i v _ hv
  obtain ⟨k, t, e, hk⟩ := IntsAre.at hi i v (by simpa using hv)
  exact ⟨k, hk, t, e⟩
theorem lw : PySem.Challenge.rw_ag6018_01.Holds := hd (by
  k_go0
  rename_i ns _ _ _ _ _ _ _ _ _ _ _ _ _ _ _ _ _ _ _ _ _ _ _ _ _ _ _
  k_fold
  k_steps
  refine Hold.mk ?_
  rename_i h₁ tk₁ t₁ u₁ v₁ hr F₁ N₁ k₁
  have h8 := fmod8 (raw (List.take 9 ns) 0)
  refine LCg.CompSrc.range (by rfl) (by k_asm) (by k_asm) (by assumption) (small_one (by omega) (by omega) (by omega) (by omega)) (rangeSize_nat _ _) (by rw [sizeLine_eq]; omega) ?_
  intro gg
  refine rest_gen (srcOf (List.take 9 ns)) (fun b v => ∃ t, v = .int b t) (fun b y => ∃ t, y = .int (sgn (raw (List.take 9 ns) b)) t) (srcOf_len _) (fun i v hi hv => ⟨_, srcOf_at hi, hv⟩) ?_ ?_
  · intro b v I oI C oC D m₂ ys h tk' E' hb hv hC hxm F₂ N₂ off
    obtain ⟨u, rfl⟩ := hv
    have hb' := srcOf_mem hb
    k_steps
    exact LCg.CompEnd.intro (by k_asm) (by k_asm) _ (fun _ hp => hp) off trivial ⟨rfl, _, rfl⟩
  · intro ys hys
    have hi := hys.ints
    have hg := codes_good (List.take 9 ns)
    have hlen := codes_len (List.take 9 ns)
    change IntsAre ys (codesOf (List.take 9 ns)) at hi
    generalize codesOf (List.take 9 ns) = codes at hi hg hlen
    have hyl := hi.length
    clear hys h8
    unfold LCg.FinA
    intro D h tk' F₂ N₂ off
    k_steps
    refine Hold.mk ?_
    simp only [LCg.Off1] at off
    refine LCg.CompSrc.ledger (its := ys.toArray) (k := ys.length) (by rfl) (by k_asm) (by k_asm) (by k_mem) (by rw [sizeLine_eq]; simp; omega) ?_
    intro gg
    refine rest_gen codes (fun b v => ∃ t, v = .int b t) (fun b y => ∃ t, y = .int (places b) t) (by simp [hyl]) (ints_at hi) ?_ ?_
    · intro b v I oI C oC D m₂ zs h tk' E' hb hv hC hxm F₂ N₂ off
      obtain ⟨u, rfl⟩ := hv
      k_steps
      exact LCg.CompEnd.intro (by k_asm) (by k_asm) _ (fun _ hp => hp) off (.inr ⟨_, by k_mem, rfl, _, rfl⟩) ⟨rfl, _, rfl⟩
    intro ws hws
    have hw := hws.ints
    have hwl := hw.length
    rw [List.length_map] at hwl
    clear hws
    unfold LCg.FinA
    intro D₂ h₃ tk₃ F₃ N₃ off₃
    clear F₂ N₂
    simp only [LCg.Off1] at off₃
    k_steps
    refine Hold.mk ?_
    refine LCg.CompSrc.ledger (its := ys.toArray) (k := ys.length) (by rfl) (by k_asm) (by k_asm) (by k_mem) (by rw [sizeLine_eq]; simp; omega) ?_
    intro gg
    refine rest_gen codes (fun b v => ∃ t, v = .int b t) (fun b y => ∃ t, y = .str ⟨#[b.toNat]⟩ t) (by simp [hyl]) (ints_at hi) ?_ ?_
    · intro b v I oI C oC D m₂ zs h tk' E' hb hv hC hxm F₂ N₂ off
      obtain ⟨u, rfl⟩ := hv
      obtain ⟨c0, c1, c2⟩ := hg b hb
      k_steps
      exact LCg.CompEnd.intro (by k_asm) (by k_asm) _ (fun _ hp => hp) off (.inr ⟨_, by k_mem, rfl, _, rfl⟩) ⟨rfl, _, rfl⟩
    intro xs hxs
    have hx := hxs.strs
    clear hxs
    unfold LCg.FinA
    intro D₃ h₄ tk₄ F₄ N₄ off₄
    clear F₃ N₃
    simp only [LCg.Off1] at off₄
    k_steps
    refine Hold.mk ?_
    have hxc := hx.carried
    rw [List.map_map] at hxc
    have hxl : xs.length = codes.length := by have := hxc.length_eq; rw [List.length_map] at this; exact this
    refine KT.join_1 (l := codes) (g := fun b => (⟨#[b.toNat]⟩ : PySem.Str)) (News.isList (by k_asm) (by k_mem)) hxc (fun _ _ => rfl) (by omega) ?_
    intro t5 k5 _
    rw [join_txt]
    dsimp only
    k_steps
    refine Hold.mk ?_
    rename_i ej _ V _ lV hV FV NV
    with_unfolding_all refine For_turns FV ?_
    walk1
    refine iter_listJ (ax := D) (vs := ys) (n := ys.length) (by rfl) FV NV (by k_mem) rfl rfl (ExtJ V _ _ codes) ExtJ.start ?_ ?_ ?_
    · rintro I hI i m nw ⟨u, acc, e, rfl, rfl, _⟩
      refine ⟨⟨by k_mem, trivial⟩, fun p hp => ?_⟩
      rcases List.mem_cons.mp hp with rfl | hp
      · exact hI (V, W.listOf #[] 0) (List.Mem.head _)
      · exact hI p (List.mem_cons_of_mem _ hp)
    · rintro I i v m₁ nw₁ h₁ tk₁ oI hv hI ⟨u, acc, e, rfl, rfl, hacc⟩ F₁ N₁
      obtain ⟨k, t, rfl, hk⟩ := IntsAre.at hi i v hv
      k_steps
      rename_i h₂ F₂ N₂ tk₂ l₉ vs₉ h₉ tk₉ hi₉ F₉ N₉ lt₉
      have lt₉ := allLt_of lt₉
      have hI := allLt_of hI
      simp only [AllLt, and_true] at lt₉ hI
      have hl9 := hi₉.length
      have he9 := enc_len k
      have hla := hacc.length
      have hfl := flat_len (codes.take i)
      have htl : (codes.take i).length ≤ codes.length := by rw [List.length_take]; omega
      refine kl_extend (D := V) (b := l₉) (its := acc.toArray) (its2 := vs₉.toArray) (n := e) (n2 := 0) (l := acc ++ vs₉) F₉ N₉ (by k_mem) (by simp) (show vs₉.length ≠ 0 by omega) (by k_upd) (extend_door (by rw [sizeLine_eq]; simp; omega)) (by rw [sizeLine_eq]; simp; omega) (by rw [sizeLine_eq]; simp; omega) ?_
      intro h₆ F₆ N₆
      dsimp only
      k_steps
      dsimp only [TurnPostL]
      refine ⟨_, _, _, _, rfl, F₆, tail1 N₆, some (.int k t), acc ++ vs₉, e + 1, ?_, rfl, ?_⟩
      · funext z
        by_cases hz : z = Str.ofString "code" <;> simp [hz]
      · rw [List.take_add_one, hk, List.flatMap_append]
        simpa using IntsAre.append hacc hi₉
    rintro h₅ tk₅ m₅ nw₅ F₅ N₅ ⟨u₅, acc, e₅, rfl, rfl, hacc⟩
    rw [hyl, List.take_length] at hacc
    k_steps
    refine Hold.mk ?_
    refine LCg.CompSrc.ledger (its := ws.toArray) (k := ws.length) (by rfl) (by k_asm) (by k_asm) (by k_mem) (by rw [sizeLine_eq]; simp; omega) ?_
    intro gg
    refine rest_gen (codes.map places) (fun b v => ∃ t, v = .int b t) (fun b y => ∃ t, y = .str (if b = 2 then PySem.Str.ofString "W" else PySem.Str.ofString "N") t) (by simp [hwl]) (ints_at hw) ?_ ?_
    · intro b v I oI C oC D m₂ zs h tk' E' hb hv hC hxm F₂ N₂ off
      obtain ⟨u, rfl⟩ := hv
      k_steps
      · exact LCg.CompEnd.intro (by k_asm) (by k_asm) _ (fun _ hp => hp) off (.inr ⟨_, by k_mem, rfl, _, rfl⟩) ⟨rfl, _, by rw [if_pos (show b = 2 by assumption)]⟩
      · exact LCg.CompEnd.intro (by k_asm) (by k_asm) _ (fun _ hp => hp) off (.inr ⟨_, by k_mem, rfl, _, rfl⟩) ⟨rfl, _, by rw [if_neg (show ¬ b = 2 by assumption)]⟩
    intro ps hps
    have hp := hps.strs
    clear hps
    unfold LCg.FinE
    intro D₄ h₇ tk₇ F₇ N₇ off₇
    simp only [LCg.Off1] at off₇
    k_steps
    refine Hold.mk ?_
    refine LCg.CompSrc.ledger (its := ws.toArray) (k := ws.length) (by rfl) (by k_asm) (by k_asm) (by k_mem) (by rw [sizeLine_eq]; simp; omega) ?_
    intro gg
    refine rest_gen (codes.map places) (fun b v => ∃ t, v = .int b t) (fun b y => ∃ t, y = .int (if b = 0 then 230 else 0) t) (by simp [hwl]) (ints_at hw) ?_ ?_
    · intro b v I oI C oC D m₂ zs h tk' E' hb hv hC hxm F₂ N₂ off
      obtain ⟨u, rfl⟩ := hv
      k_steps
      · exact LCg.CompEnd.intro (by k_asm) (by k_asm) _ (fun _ hp => hp) off (.inr ⟨_, by k_mem, rfl, _, rfl⟩) ⟨rfl, _, by rw [if_pos (show b = 0 by assumption)]⟩
      · exact LCg.CompEnd.intro (by k_asm) (by k_asm) _ (fun _ hp => hp) off (.inr ⟨_, by k_mem, rfl, _, rfl⟩) ⟨rfl, _, by rw [if_neg (show ¬ b = 0 by assumption)]⟩
    intro qs hqs
    have hq := hqs.ints
    clear hqs
    unfold LCg.FinE
    intro D₅ h₈ tk₈ F₈ N₈ off₈
    clear F₇ N₇ F₅ N₅
    simp only [LCg.Off1] at off₈
    k_steps
    refine Hold.mk ?_
    refine LCg.CompSrc.ledger (its := xs.toArray) (k := xs.length) (by rfl) (by k_asm) (by k_asm) (by k_mem) (by rw [sizeLine_eq]; simp; omega) ?_
    intro gg
    refine rest_gen codes (fun b v => ∃ t, v = .str (⟨#[b.toNat]⟩ : PySem.Str) t) (fun b y => ∃ t, y = .int (uch b) t) (by simp [hxl]) (strs_at hx) ?_ ?_
    · intro b v I oI C oC D m₂ zs h tk' E' hb hv hC hxm F₂ N₂ off
      obtain ⟨u, rfl⟩ := hv
      obtain ⟨c0, c1, c2⟩ := hg b hb
      have hbn : b.toNat < 1114112 := by omega
      have hbi : ((b.toNat : Nat) : Int) = b := Int.toNat_of_nonneg c0
      k_steps
      exact LCg.CompEnd.intro (by k_asm) (by k_asm) _ (fun _ hp => hp) off (.inr ⟨_, by k_mem, rfl, _, rfl⟩) ⟨rfl, _, by rw [hbi]⟩
    intro as has
    have ha := has.ints
    clear has
    unfold LCg.FinE
    intro D₆ h₆ tk₆ F₆ N₆ off₆
    simp only [LCg.Off1] at off₆
    k_steps
    refine Hold.mk ?_
    refine LCg.CompSrc.ledger (its := xs.toArray) (k := xs.length) (by rfl) (by k_asm) (by k_asm) (by k_mem) (by rw [sizeLine_eq]; simp; omega) ?_
    intro gg
    refine rest_gen codes (fun b v => ∃ t, v = .str (⟨#[b.toNat]⟩ : PySem.Str) t) (fun b y => ∃ t, y = .str (if isWide b then PySem.Str.ofString "W" else PySem.Str.ofString "N") t) (by simp [hxl]) (strs_at hx) ?_ ?_
    · intro b v I oI C oC D m₂ zs h tk' E' hb hv hC hxm F₂ N₂ off
      obtain ⟨u, rfl⟩ := hv
      obtain ⟨c0, c1, c2⟩ := hg b hb
      have hbn : b.toNat < 1114112 := by omega
      have hbi : ((b.toNat : Nat) : Int) = b := Int.toNat_of_nonneg c0
      k_steps
      exact LCg.CompEnd.intro (by k_asm) (by k_asm) _ (fun _ hp => hp) off (.inr ⟨_, by k_mem, rfl, _, rfl⟩) ⟨rfl, _, by rw [hbi]⟩
    intro bs hbs
    have hb := hbs.strs
    clear hbs
    unfold LCg.FinE
    intro D₇ h₇ tk₇ F₇ N₇ off₇
    clear F₆ N₆
    simp only [LCg.Off1] at off₇
    k_steps
    refine Hold.mk ?_
    refine LCg.CompSrc.ledger (its := xs.toArray) (k := xs.length) (by rfl) (by k_asm) (by k_asm) (by k_mem) (by rw [sizeLine_eq]; simp; omega) ?_
    intro gg
    refine rest_gen codes (fun b v => ∃ t, v = .str (⟨#[b.toNat]⟩ : PySem.Str) t) (fun b y => ∃ t, y = .int (if isComb b then 230 else 0) t) (by simp [hxl]) (strs_at hx) ?_ ?_
    · intro b v I oI C oC D m₂ zs h tk' E' hb hv hC hxm F₂ N₂ off
      obtain ⟨u, rfl⟩ := hv
      obtain ⟨c0, c1, c2⟩ := hg b hb
      have hbn : b.toNat < 1114112 := by omega
      have hbi : ((b.toNat : Nat) : Int) = b := Int.toNat_of_nonneg c0
      k_steps
      exact LCg.CompEnd.intro (by k_asm) (by k_asm) _ (fun _ hp => hp) off (.inr ⟨_, by k_mem, rfl, _, rfl⟩) ⟨rfl, _, by rw [hbi]⟩
    intro cs hcs
    have hc := hcs.ints
    clear hcs
    unfold LCg.FinE
    intro D₈ h₈ tk₈ F₈ N₈ off₈
    clear F₇ N₇
    simp only [LCg.Off1] at off₈
    k_steps
    rename_i tA hA tkA FA NA
    have hal := hacc.length
    have hfl := flat_len codes
    refine call_bytes_ints (l := V) (vs := acc) (ns := codes.flatMap enc) (News.isList NA (by k_mem)) hacc (flat_byte hg) (by rw [sizeLine_eq]; omega) (by rfl) ?_
    intro hB tB kB keepB
    have FB := FA.keeps keepB
    have NB := NA.grown keepB
    clear FA NA
    dsimp only
    k_steps
    refine Hold.mk ?_
    rename_i hZ FZ NZ
    refine cmp_told NZ (by k_mem) (by k_mem) (by k_mem) (by k_mem) (by k_mem) ha hb hc (by k_mem) (by k_mem) (by k_mem) hw hp hq (widths_eq hg) (east_eq hg) (comb_eq hg) rfl rfl (by first | omega | (simp; omega)) (by first | omega | (simp; omega)) rfl rfl (east_ok codes) (by ke_room) ?_
    dsimp only
    k_steps)
end Mine
theorem PySem.Challenge.cw_ag6018_01_holds : PySem.Challenge.rw_ag6018_01.Holds := by
  exact Mine.lw
