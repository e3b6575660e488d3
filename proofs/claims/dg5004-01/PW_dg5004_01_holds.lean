import PyProof.Rows.All
import Wide.All
import OpenK.AllK
import Wide.FinOn
import PySem.Challenge.RW_dg5004_01
open PySem PySem.W PyProof.Rows
set_option Elab.async false
set_option maxRecDepth 100000
set_option maxHeartbeats 8000000
namespace Mine
open_top hd for PySem.Challenge.rw_dg5004_01
end Mine
section PartW1
open PySem PySem.W PyProof.Rows
namespace Mine
section
variable {prog : Program} {w : World} {A : Around} {E : Value → Shared → Prop} {s : Shared} {env : Env} {h₀ : Heap} {x : Str} {body : List Stmt} {Q : Flow → Shared → Prop}

/-- a for over a list of the ledger, of whatever values; the turns leave the ledger as it is (they may add) -/
theorem iterVals {l : Addr} {vs : List Value} {nn : Nat} {m₀ : Str → Option Value} {news : List (Addr × Obj)} (J : Nat → (Str → Option Value) → Prop)
    (hh : A.handled = none) (hl : (l, listOf vs.toArray nn) ∈ news) (F : Fr h₀ env.locals s.heap m₀) (N : News h₀ env.locals s.heap news) (hj : J 0 m₀)
    (turn : ∀ i v m₁ h tk own, vs[i]? = some v → J i m₁ → Fr h₀ env.locals h (fun y => if y = x then some v else m₁ y) → News h₀ env.locals h (own ++ news) →
      wpAny (model prog w) A (execs body env) (InvPost h₀ env.locals (J (i + 1)) (own ++ news) { s with heap := h, toks := tk } Q) E { s with heap := h, toks := tk })
    (done : ∀ m₁ h tk, J vs.length m₁ → Fr h₀ env.locals h m₁ → News h₀ env.locals h news → Q .next { s with heap := h, toks := tk }) :
    wpAny (model prog w) A (pyIter (.ref l)) (fun it s₂ => LoopAtV prog w A h₀ env x body Q E it s₂) E s := by
  have hll := (N _ hl).1
  have hls : s.heap.IsList l vs.toArray := ⟨_, hll, rfl, nn, rfl⟩
  have hne : l ≠ s.heap.objs.size := Nat.ne_of_lt (Heap.lt_size hll)
  refine wpAny_pyIter_list hls ?_
  have W := Walks.list (prog := prog) (w := w) hh s.heap.objs.size l hne vs.toArray
  have off : ∀ p ∈ news, p.1 ∉ [s.heap.objs.size] := fun p hp hI => by
    have e := List.mem_singleton.mp hI
    exact absurd (Heap.lt_size (N p hp).1) (by rw [e]; exact Nat.lt_irrefl _)
  refine ⟨_, _, _, _, _, _, m₀, news, (fun i m₁ n₁ => n₁ = news ∧ J i m₁), rfl, W, ?_, ?_, off, ⟨⟨_, Heap.get?_push_size _ rfl, rfl, rfl⟩, hls.at fun o e => Heap.get?_push_of_some _ e⟩, F.push _,
    (fun p hp => ⟨Heap.get?_push_of_some _ (N p hp).1, (N p hp).2⟩), ⟨rfl, hj⟩, ?_, ?_⟩
  · intro hm
    rcases List.mem_cons.mp hm with e | hm
    · exact absurd F.ns.lt (by rw [e]; exact Nat.lt_irrefl _)
    · exact (N _ hl).2.1 (List.mem_singleton.mp hm).symm
  · intro b hb
    rw [List.mem_singleton.mp hb]
    exact next_is_new F
  · rintro i v m₁ news₁ s₁ own ⟨hh', tk', rfl⟩ hin hP ⟨rfl, hJ⟩ hoff _ _ _ _ F₁ N₁
    have hv : vs[i]? = some v := by simpa using hP
    refine wpAny_mono (turn i v m₁ hh' tk' own hv hJ F₁ N₁) (fun f s₂ p => ?_) fun _ _ e => e
    have fin : InvEnd h₀ env.locals (J (i + 1)) (own ++ news₁) { s with heap := hh', toks := tk' } s₂ →
        LoopStepU h₀ env.locals [s.heap.objs.size] own (fun m₁ n₁ => n₁ = news₁ ∧ J (i + 1) m₁) { s with heap := hh', toks := tk' } .next s₂ := by
      rintro ⟨h', tk, m', news', e, F', N', hn, hm⟩
      exact ⟨rfl, h', tk, m', news₁, e, F', fun p hp => N' p (hn p hp), hoff, rfl, hm⟩
    cases f with
    | ret v => exact .ret p
    | brk => exact .brk p
    | next => exact .next (fin p)
    | cont => exact .cont (fin p)
  · rintro h' tk m' news' F' N' _ ⟨rfl, hJ⟩
    exact done m' h' tk (by simpa using hJ) F' N'

/-- the turns store no name but the loop's own -/
theorem iterVals0 {l : Addr} {vs : List Value} {nn : Nat} {m₀ : Str → Option Value} {news : List (Addr × Obj)} (P : Nat → Prop)
    (hh : A.handled = none) (hl : (l, listOf vs.toArray nn) ∈ news) (F : Fr h₀ env.locals s.heap m₀) (N : News h₀ env.locals s.heap news) (hj : P 0)
    (turn : ∀ i v h tk own, vs[i]? = some v → P i → Fr h₀ env.locals h (fun y => if y = x then some v else m₀ y) → News h₀ env.locals h (own ++ news) →
      wpAny (model prog w) A (execs body env) (InvPost h₀ env.locals (fun m' => P (i + 1) ∧ ∀ z, z ≠ x → m' z = m₀ z) (own ++ news) { s with heap := h, toks := tk } Q) E { s with heap := h, toks := tk })
    (done : ∀ (u : Str → Option Value) h tk, P vs.length → Fr h₀ env.locals h (fun z => if z = x then u z else m₀ z) → News h₀ env.locals h news → Q .next { s with heap := h, toks := tk }) :
    wpAny (model prog w) A (pyIter (.ref l)) (fun it s₂ => LoopAtV prog w A h₀ env x body Q E it s₂) E s := by
  refine iterVals (fun i m => P i ∧ ∀ z, z ≠ x → m z = m₀ z) hh hl F N ⟨hj, fun _ _ => rfl⟩ ?_ ?_
  · rintro i v m₁ h tk own hv ⟨hp, hm⟩ F₁ N₁
    have e : (fun y => if y = x then some v else m₁ y) = fun y => if y = x then some v else m₀ y := by
      funext z
      by_cases h1 : z = x
      · simp [h1]
      · simp only [if_neg h1]; exact hm z h1
    rw [e] at F₁
    exact turn i v h tk own hv hp F₁ N₁
  · rintro m₁ h tk ⟨hp, hm⟩ F₁ N₁
    have e : (fun z => if z = x then m₁ z else m₀ z) = m₁ := by
      funext z
      by_cases h1 : z = x
      · simp [h1]
      · simp only [if_neg h1]; exact (hm z h1).symm
    exact done m₁ h tk hp (by rw [e]; exact F₁) N₁

/-- the turns store one name more -/
theorem iterAcc {l : Addr} {vs : List Value} {nn : Nat} {m₀ : Str → Option Value} {news : List (Addr × Obj)} (y : Str) (a₀ : Value) (P : Nat → Value → Prop)
    (hh : A.handled = none) (hl : (l, listOf vs.toArray nn) ∈ news) (F : Fr h₀ env.locals s.heap m₀) (N : News h₀ env.locals s.heap news) (hy : m₀ y = some a₀) (hyx : y ≠ x) (hj : P 0 a₀)
    (turn : ∀ i v a h tk own, vs[i]? = some v → P i a → Fr h₀ env.locals h (fun z => if z = x then some v else if z = y then some a else m₀ z) → News h₀ env.locals h (own ++ news) →
      wpAny (model prog w) A (execs body env) (InvPost h₀ env.locals (fun m' => (∃ a', m' y = some a' ∧ P (i + 1) a') ∧ ∀ z, z ≠ x → z ≠ y → m' z = m₀ z) (own ++ news) { s with heap := h, toks := tk } Q) E { s with heap := h, toks := tk })
    (done : ∀ (u : Str → Option Value) a h tk, P vs.length a → Fr h₀ env.locals h (fun z => if z = x then u z else if z = y then some a else m₀ z) → News h₀ env.locals h news → Q .next { s with heap := h, toks := tk }) :
    wpAny (model prog w) A (pyIter (.ref l)) (fun it s₂ => LoopAtV prog w A h₀ env x body Q E it s₂) E s := by
  refine iterVals (fun i m => (∃ a, m y = some a ∧ P i a) ∧ ∀ z, z ≠ x → z ≠ y → m z = m₀ z) hh hl F N ⟨⟨a₀, hy, hj⟩, fun _ _ _ => rfl⟩ ?_ ?_
  · rintro i v m₁ h tk own hv ⟨⟨a, ha, hp⟩, hm⟩ F₁ N₁
    have e : (fun z => if z = x then some v else m₁ z) = fun z => if z = x then some v else if z = y then some a else m₀ z := by
      funext z
      by_cases h1 : z = x
      · simp [h1]
      · simp only [if_neg h1]
        by_cases h2 : z = y
        · subst h2; simp [ha]
        · simp only [if_neg h2]; exact hm z h1 h2
    rw [e] at F₁
    exact turn i v a h tk own hv hp F₁ N₁
  · rintro m₁ h tk ⟨⟨a, ha, hp⟩, hm⟩ F₁ N₁
    have e : (fun z => if z = x then m₁ z else if z = y then some a else m₀ z) = m₁ := by
      funext z
      by_cases h1 : z = x
      · simp [h1]
      · simp only [if_neg h1]
        by_cases h2 : z = y
        · subst h2; simp [ha]
        · simp only [if_neg h2]; exact (hm z h1 h2).symm
    exact done m₁ a h tk hp (by rw [e]; exact F₁) N₁
end

inductive PV where
  | int (i : Int)
  | str (x : Str)
def PV.Is : PV → Value → Prop
  | .int i, v => ∃ t, v = .int i t
  | .str x, v => ∃ t, v = .str x t

def RowAt (news : List (Addr × Obj)) (r : Addr) (it : Str × PV) : Prop := ∃ t v n, it.2.Is v ∧ (r, listOf #[.str it.1 t, v] n) ∈ news
structure RowsAt (news : List (Addr × Obj)) (rs : List Addr) (its : List (Str × PV)) : Prop where
  len : rs.length = its.length
  row : ∀ (i : Nat) (r : Addr) (it : Str × PV), rs[i]? = some r → its[i]? = some it → RowAt news r it


theorem RowsAt.mono {n₁ n₂ : List (Addr × Obj)} {rs : List Addr} {its : List (Str × PV)} (h : RowsAt n₁ rs its) (hs : ∀ p ∈ n₁, p ∈ n₂) : RowsAt n₂ rs its :=
  ⟨h.len, fun i r it hr hi => let ⟨t, v, n, hv, hm⟩ := h.row i r it hr hi; ⟨t, v, n, hv, hs _ hm⟩⟩

section
variable {prog : Program} {w : World} {A : Around} {E : Value → Shared → Prop} {s : Shared} {env : Env} {h₀ : Heap} {x : Str} {body : List Stmt} {Q : Flow → Shared → Prop}
theorem iterRows0 {b : Addr} {rs : List Addr} {its : List (Str × PV)} {nb : Nat} {m₀ : Str → Option Value} {news : List (Addr × Obj)} (P : Nat → Prop)
    (hh : A.handled = none) (hb : (b, listOf (rs.map Value.ref).toArray nb) ∈ news) (hR : RowsAt news rs its) (F : Fr h₀ env.locals s.heap m₀) (N : News h₀ env.locals s.heap news) (hj : P 0)
    (turn : ∀ i nm pv r t v nr h tk nw, its[i]? = some (nm, pv) → rs[i]? = some r → PV.Is pv v → (r, listOf #[.str nm t, v] nr) ∈ nw → (∀ p ∈ news, p ∈ nw) → P i →
      Fr h₀ env.locals h (fun y => if y = x then some (.ref r) else m₀ y) → News h₀ env.locals h nw →
      wpAny (model prog w) A (execs body env) (InvPost h₀ env.locals (fun m' => P (i + 1) ∧ ∀ z, z ≠ x → m' z = m₀ z) nw { s with heap := h, toks := tk } Q) E { s with heap := h, toks := tk })
    (done : ∀ (u : Str → Option Value) h tk, P its.length → Fr h₀ env.locals h (fun z => if z = x then u z else m₀ z) → News h₀ env.locals h news → Q .next { s with heap := h, toks := tk }) :
    wpAny (model prog w) A (pyIter (.ref b)) (fun it s₂ => LoopAtV prog w A h₀ env x body Q E it s₂) E s := by
  refine iterVals0 P hh hb F N hj ?_ ?_
  · intro i v h tk own hv hp F₁ N₁
    rw [List.getElem?_map] at hv
    obtain ⟨r, hr, rfl⟩ := Option.map_eq_some_iff.mp hv
    obtain ⟨hlt, _⟩ := List.getElem?_eq_some_iff.mp hr
    obtain ⟨⟨nm, pv⟩, hi⟩ : ∃ it, its[i]? = some it := ⟨its[i]'(by have := hR.len; omega), List.getElem?_eq_getElem _⟩
    obtain ⟨t, u, n, hu, hm⟩ := hR.row i r _ hr hi
    exact turn i _ _ r t u n h tk (own ++ news) hi hr hu (List.mem_append_right _ hm) (fun p hp => List.mem_append_right _ hp) hp F₁ N₁
  · intro u h tk hp F₁ N₁
    exact done u h tk (by simpa [hR.len] using hp) F₁ N₁

theorem iterRowsAcc {b : Addr} {rs : List Addr} {its : List (Str × PV)} {nb : Nat} {m₀ : Str → Option Value} {news : List (Addr × Obj)} (y : Str) (a₀ : Value) (P : Nat → Value → Prop)
    (hh : A.handled = none) (hb : (b, listOf (rs.map Value.ref).toArray nb) ∈ news) (hR : RowsAt news rs its) (F : Fr h₀ env.locals s.heap m₀) (N : News h₀ env.locals s.heap news) (hy : m₀ y = some a₀) (hyx : y ≠ x) (hj : P 0 a₀)
    (turn : ∀ i nm pv r t v nr a h tk nw, its[i]? = some (nm, pv) → rs[i]? = some r → PV.Is pv v → (r, listOf #[.str nm t, v] nr) ∈ nw → (∀ p ∈ news, p ∈ nw) → P i a →
      Fr h₀ env.locals h (fun z => if z = x then some (.ref r) else if z = y then some a else m₀ z) → News h₀ env.locals h nw →
      wpAny (model prog w) A (execs body env) (InvPost h₀ env.locals (fun m' => (∃ a', m' y = some a' ∧ P (i + 1) a') ∧ ∀ z, z ≠ x → z ≠ y → m' z = m₀ z) nw { s with heap := h, toks := tk } Q) E { s with heap := h, toks := tk })
    (done : ∀ (u : Str → Option Value) a h tk, P its.length a → Fr h₀ env.locals h (fun z => if z = x then u z else if z = y then some a else m₀ z) → News h₀ env.locals h news → Q .next { s with heap := h, toks := tk }) :
    wpAny (model prog w) A (pyIter (.ref b)) (fun it s₂ => LoopAtV prog w A h₀ env x body Q E it s₂) E s := by
  refine iterAcc y a₀ P hh hb F N hy hyx hj ?_ ?_
  · intro i v a h tk own hv hp F₁ N₁
    rw [List.getElem?_map] at hv
    obtain ⟨r, hr, rfl⟩ := Option.map_eq_some_iff.mp hv
    obtain ⟨hlt, _⟩ := List.getElem?_eq_some_iff.mp hr
    obtain ⟨⟨nm, pv⟩, hi⟩ : ∃ it, its[i]? = some it := ⟨its[i]'(by have := hR.len; omega), List.getElem?_eq_getElem _⟩
    obtain ⟨t, u, n, hu, hm⟩ := hR.row i r _ hr hi
    exact turn i _ _ r t u n a h tk (own ++ news) hi hr hu (List.mem_append_right _ hm) (fun p hp => List.mem_append_right _ hp) hp F₁ N₁
  · intro u a h tk hp F₁ N₁
    exact done u a h tk (by simpa [hR.len] using hp) F₁ N₁
end

section
variable {prog : Program} {w : World} {A : Around} {E : Value → Shared → Prop} {s : Shared} {h₀ : Heap} {L : Addr}
/-- an item at a written place of a list of the ledger -/
theorem itemLed {value slice : PySem.Expr} {news : List (Addr × Obj)} {l : Addr} {vs : List Value} {n : Nat} {k : Int} {u : Tok} {v : Value} {Q : Value → Shared → Prop}
    (N : News h₀ L s.heap news) (hm : (l, listOf vs.toArray n) ∈ news) (h0 : 0 ≤ k) (hfit : k < 2 ^ 63) (hx : vs[k.toNat]? = some v) (h : Q v s)
    (hs : subscripted slice false (.ref l) (.int k u) = operate [.ref l, .int k u] (getItem (.ref l) (.int k u)) := by with_unfolding_all rfl) :
    wpAny (model prog w) A (subscriptTail value slice (.ref l) (.int k u)) Q E s := by
  have hl : s.heap.IsList l vs.toArray := ⟨_, (N _ hm).1, rfl, n, rfl⟩
  exact tail_any hl.typeIs slot_list_getitem.lookup (wpAny_getItem_list hl h0 hfit (by simpa using hx) h) hs
end

/-- what stands at a call: the caller's frame, the ledger, the text's own part, room -/
structure Here (w : World) (mean : ExcName → Option Value) (mg mb : Str → Option Value) (r c : Nat) (dp un : Nat) (cs : Scope) (A₀ : Around) (base : Heap) (outer : List Env) (h₀ : Heap) (L : Addr) (m : Str → Option Value) (news : List (Addr × Obj)) (s : Shared) : Prop where
  B : Below A₀ base outer h₀
  F : Fr h₀ L s.heap m
  X : (hd.heap_39 w.params).In h₀
  N : News h₀ L s.heap news
  T : Top hd.view_39 (looseW hd.view_39 [Str.ofString "Token", Str.ofString "MD_ASCII_PUNCT", Str.ofString "RendererHTML"]) mean mg mb h₀
  k : cs.kind = .function
  d : dp + r < recursionLimit
  u : un + c < cLine

abbrev topH (hv0 : Option Value) (dp un : Nat) (gd : Option (List Code)) (cn : Str) (cs : Scope) (L a : Addr) (ccd : Value) (cl : List (Str × Addr)) (outer : List Env) : Around := { handled := hv0, depth := dp, frames := some (envX cn cs L a ccd cl :: outer), guards := gd, units := un }


def Stop (p : Prop) : Prop := p
theorem stop {p : Prop} (h : Stop p) : p := h
end Mine
end PartW1
section PartW2
open PySem PySem.W PyProof.Rows
namespace Mine
local macro_rules | `(tactic| walk_at "exec For Name Name cons nil") => `(tactic| k_extra "myFor")
local macro_rules | `(tactic| walk_at "pyIter ref") => `(tactic| k_extra "myIter")
local macro_rules | `(tactic| walk_at "subscriptTail") => `(tactic| (k_here; (with_reducible show wpAny _ _ (subscriptTail _ _ (Value.ref _) (Value.int _ _)) _ _ _); (with_unfolding_all refine' itemLed ?k1 ?k2 ?k3 ?k4 ?k5 ?_ ?k6; (case k1 => k_asm); (case k2 => k_mem); (case k3 => decide); (case k4 => decide); (case k5 => rfl); (case k6 => with_unfolding_all rfl); k_whole)))

theorem row_c {w : World} {mean : ExcName → Option Value} {mg mb : Str → Option Value} {dp un : Nat} {gd : Option (List Code)} {cn : Str} {cs : Scope} {a : Addr} {ccd : Value} {cl : List (Str × Addr)} {outer : List Env} {A₀ : Around} {base h₀ : Heap} {L : Addr} {m : Str → Option Value} {news : List (Addr × Obj)} {s : Shared}
    {Q E : Value → Shared → Prop} {b : Addr} {rs : List Addr} {its : List (Str × PV)} {nb : Nat} {nm : Str} {t : Tok}
    (C : Here w mean mg mb 20 200 dp un cs A₀ base outer h₀ L m news s)
    (hb : (b, listOf (rs.map Value.ref).toArray nb) ∈ news) (hR : RowsAt news rs its)
    (retN : ∀ h' tk', Fr h₀ L h' m → News h₀ L h' news → (∀ it ∈ its, it.1 ≠ nm) → Q .none { s with heap := h', toks := tk' })
    (retS : ∀ (i : Nat) (r : Addr) (it : Str × PV) (h' : Heap) (tk' : Nat), Fr h₀ L h' m → News h₀ L h' news → rs[i]? = some r → its[i]? = some it → it.1 = nm → Q (.ref r) { s with heap := h', toks := tk' }) :
    wpAny (model PySem.Challenge.rw_dg5004_01.row.prog w) (topH none dp un gd cn cs L a ccd cl outer) (call (.ref 210) [.ref b, .str nm t]) Q E s := by
  obtain ⟨B, F, X, N, T, hk, hd9, hu⟩ := C
  revert X
  k_fill
  intro X
  refine wpAny_call ?_
  k_dflt ktr_enter
  k_with_none
  k_with "myFor" => (k_here; (rename Fr _ _ _ _ => lF'); (with_unfolding_all refine' For_invVF lF' ?k1 ?k2 ?_; (case k1 => exact rfl); (case k2 => exact rfl); k_whole))
  k_with "myIter" => ((rename Fr _ _ _ _ => lF'); (rename News _ _ _ _ => lN'); (with_unfolding_all refine' iterRows0 (fun i => ∀ j it, j < i → its[j]? = some it → it.1 ≠ nm) ?k1 hb hR lF' lN' ?k2 ?_ ?_; (case k1 => exact rfl); (case k2 => exact fun _ _ h => absurd h (Nat.not_lt_zero _)); k_whole); focus (intro i n9 pv r t9 v9 nr h9 tk9 nw hi hr hpv hmem hsub hp F9 N9))
  k_steps
  · rename (n9 == nm) = true => e9
    rename News h₀ L _ nw => kN
    exact retS i r _ _ _ (by assumption) (fun p hp => kN p (hsub p hp)) hr hi (by simpa using e9)
  · rename (n9 == nm) = false => e9
    refine InvEnd.intro (by assumption) (by assumption) (fun _ h => h) ⟨?_, fun z hz => if_neg hz⟩
    intro j it hj hit
    rcases Nat.lt_or_ge j i with h1 | h1
    · exact hp j it h1 hit
    · obtain rfl : j = i := by omega
      rw [hi] at hit
      cases hit
      simpa using e9
  · rename (∀ (j : Nat) (it : Str × PV), j < its.length → its[j]? = some it → it.1 ≠ nm) => hp9
    refine retN _ _ (by assumption) (by assumption) fun it hm => ?_
    obtain ⟨j, hj⟩ := List.mem_iff_getElem?.mp hm
    exact hp9 j it (List.getElem?_eq_some_iff.mp hj).1 hj
end Mine
end PartW2
section PartW3
open PySem PySem.W PyProof.Rows PySem.Calls
namespace Mine

/-- nothing is handled, or an exception that lies in the heap and has no context -/
def HOk (hd : Option Value) (h : Heap) : Prop := hd = none ∨ ∃ e oe vs, hd = some (.ref e) ∧ h.get? e = some oe ∧ oe.data = .fields vs ∧ vs[2]? = some .none
theorem HOk.keep {hd : Option Value} {h h' : Heap} (x : HOk hd h) (k : ∀ b o, h.get? b = some o → (∃ vs, o.data = .fields vs ∧ vs[2]? = some .none) → h'.get? b = some o) : HOk hd h' := by
  rcases x with x | ⟨e, oe, vs, h1, h2, h3, h4⟩
  · exact .inl x
  · exact .inr ⟨e, oe, vs, h1, k _ _ h2 ⟨vs, h3, h4⟩, h3, h4⟩
theorem HOk.all {hd : Option Value} {h h' : Heap} (x : HOk hd h) (k : ∀ b o, h.get? b = some o → h'.get? b = some o) : HOk hd h' := x.keep fun b o e _ => k b o e

theorem entry_unchain : entryFor table "proto.unchain" = some Builtin.«proto.unchain» := entryFor_of_tree (by kernel_rfl)
theorem plain_unchain : plainId "proto.unchain" = true := by decide +kernel

section
variable {prog : Program} {w : World} {A : Around} {E : Value → Shared → Prop} {s : Shared}

theorem unchain_none {v sl : Value} {e : Addr} {oe : Obj} {vs : Array Value} {Q : Value → Shared → Prop} (ho : s.heap.get? e = some oe) (hd : oe.data = .fields vs) (h2 : vs[2]? = some .none) (h : Q .none s) :
    wpAny (model prog w) A (runValue (.builtin "proto.unchain" ⟨[v, .ref e, sl, .bool false], []⟩)) Q E s := by
  refine wpAny_runValue (codeAny_builtin entry_unchain ?_)
  rw [Around.under_plainId plain_unchain _]
  show wpAny _ A.in1 (field (.ref e) 2 >>= _) _ _ s
  refine wpAny_bind (wpAny_field ho hd h2 ?_)
  show wpAny _ A.in1 (if (Value.none == Value.none) = true then _ else _) _ _ s
  rw [if_pos (show (Value.none == Value.none) = true by decide)]
  exact wpAny_pure h

theorem raiseNewOk {α : Type} {x : Addr} {ox : Obj} {vs : Array Value} {Q : α → Shared → Prop} (hh : HOk A.handled s.heap) (hx : s.heap.get? x = some ox) (hdx : ox.data = .fields vs) (hsz : 2 < vs.size)
    (h : ∀ h', (∀ b o, b ≠ x → s.heap.get? b = some o → h'.get? b = some o) → (∃ vs', h'.get? x = some { ox with data := .fields vs' }) → E (.ref x) { s with heap := h' }) :
    wpAny (model prog w) A (raiseNew (.ref x) : Sem α) Q E s := by
  have same : E (.ref x) s := h s.heap (fun _ _ _ e => e) ⟨vs, by rw [hx]; obtain ⟨c, d, dt, sl⟩ := ox; simp only at hdx; subst hdx; rfl⟩
  unfold raiseNew
  refine wpAny_bind (wpAny_handled ?_)
  rcases hh with hn | ⟨e, oe, ws, he, ho, hd, h2⟩
  · rw [hn]
    exact wpAny_bind (wpAny_pure (wpAny_throw same))
  · rw [he]
    show wpAny _ _ (if (Value.ref e != Value.ref x) = true then _ else _) _ _ s
    by_cases hex : e = x
    · subst hex
      rw [if_neg (by simp)]
      exact wpAny_throw same
    · rw [if_pos (by simp [hex])]
      refine wpAny_bind (wpAny_holding (unchain_none ho hd h2 ?_))
      have up : wpAny (model prog w) A (updateField x 2 (.ref e)) (fun _ s' => wpAny (model prog w) A (throw (.ref x) : Sem α) Q E s') E s := by
        unfold updateField
        refine wpAny_bind (wpAny_load hx ?_)
        rw [hdx]
        show wpAny _ _ (if 2 < vs.size then _ else _) _ _ s
        rw [if_pos hsz]
        refine wpAny_update hx (wpAny_throw (h _ (fun b o hb q => (Heap.get?_update_other _ _ (Ne.symm hb)).trans q) ⟨vs.setIfInBounds 2 (.ref e), ?_⟩))
        obtain ⟨c, d, dt, sl⟩ := ox
        simp only at hdx
        subst hdx
        exact Heap.get?_update_self (Obj.mapFields (·.setIfInBounds 2 (Value.ref e))) hx rfl
      exact wpAny_bind up

/-- StopIteration is made and raised -/
theorem raiseStop {α : Type} {Q : α → Shared → Prop} (hh : HOk A.handled s.heap)
    (h : ∀ h' x, (∀ b o, s.heap.get? b = some o → h'.get? b = some o) → (∃ ox, h'.get? x = some ox ∧ ox.cls = .type "StopIteration") → E (.ref x) { s with heap := h' }) :
    wpAny (model prog w) A (newExc (.type "StopIteration") [] >>= fun e => (raiseNew e : Sem α)) Q E s := by
  refine wpAny_bind ?_
  simp only [newExc, newTuple]
  refine wpAny_bind (wpAny_newObj_type ?_ (by size_fits))
  refine wpAny_bind (m := firstArgMember _ _) (wpAny_of_eq (a := Value.none) (by first | rfl | (simp only [firstArgMember]; rfl)) ?_)
  refine wpAny_newObj_type ?_ (by size_fits)
  refine raiseNewOk (hh.all fun b o e => Heap.get?_push_of_some _ (Heap.get?_push_of_some _ e)) (Heap.get?_push_size _ rfl) rfl (by simp; omega) fun h' hk ⟨vs', hx⟩ => ?_
  exact h h' _ (fun b o e => hk b o (Nat.ne_of_lt (Heap.lt_size (Heap.get?_push_of_some _ e))) (Heap.get?_push_of_some _ (Heap.get?_push_of_some _ e))) ⟨_, hx, rfl⟩


theorem listEnd {it l : Addr} {i : Nat} {items : Array Value} {Q : Option Value → Shared → Prop} (hh : HOk A.handled s.heap)
    (hit : s.heap.IsListIter it l i) (hl : s.heap.IsList l items) (hx : items[i]? = none)
    (hQ : ∀ h', Heap.ExtBut it s.heap h' → Q none { s with heap := h' }) : wpAny (model prog w) A (pyNext (.ref it)) Q E s := by
  obtain ⟨o, ho, hc, hd⟩ := id hit
  obtain ⟨ol, hol, _, nl, hdl⟩ := hl
  unfold pyNext
  refine wpAny_bind (wpAny_attempt (wpAny_callSpecial?_slot (name := Str.ofString "__next__") hit.typeIs slot_listiter_next
    (wpAny_call_entry slot_listiter_next hit.typeIs entry_listiter_next ?_ (args_listiter_next _))))
  show wpAny _ _ (field (.ref it) 0 >>= _) _ _ s
  refine wpAny_bind (wpAny_field ho hd (x := .ref l) rfl ?_)
  show wpAny _ _ (if (Value.ref l == Value.none) = true then _ else _) _ _ s
  rw [if_neg (show ¬ ((Value.ref l == Value.none) = true) from Bool.false_ne_true)]
  show wpAny _ _ (field (.ref it) 1 >>= _) _ _ s
  refine wpAny_bind (wpAny_field ho hd (x := .int i 0) rfl ?_)
  show wpAny _ _ (seqItems? (.ref l) >>= _) _ _ s
  refine wpAny_bind (wpAny_seqItems hol hdl ?_)
  simp only [Int.toNat_natCast, hx]
  refine wpAny_bind (wpAny_rule (wpAny_bind (wpAny_setField ho hd (by simp) ?_)))
  have hh' : HOk A.in1.handled (s.heap.update it (Obj.mapFields (·.setIfInBounds 0 Value.none))) := hh.keep fun b ob hb ⟨vs, hv, h2⟩ => by
    refine (Heap.get?_update_other _ _ fun e => ?_).trans hb
    subst e
    rw [ho] at hb
    cases hb
    rw [hd] at hv
    cases hv
    simp at h2
  show wpAny _ _ (newExc (.type "StopIteration") [] >>= fun e => raiseNew e) _ _ _
  refine raiseStop hh' fun h' x hk ⟨ox, hox, hcx⟩ => ?_
  refine wpAny_bind (wpAny_isInstance (T := "StopIteration") (b := true) ⟨_, hox, hcx⟩ isSubtype_stop ?_)
  exact wpAny_pure (hQ _ fun b o hb e => hk b o ((Heap.get?_update_other _ _ (Ne.symm hb)).trans e))

abbrev ItIt (h : Heap) (it d : Addr) (i n ep : Nat) (a b ok ov : Value) : Prop :=
  h.get? it = some { cls := .type "dict_itemiterator", dict := none, data := .fields #[a, b, .ref d, .int i 0, .int n 0, .int ep 0, ok, ov], slots := #[] }

theorem itemsEnd {K : Type} [DecidableEq K] {knd : KeyKind prog w K} {it d : Addr} {i ep : Nat} {kvs : List (K × Value)} {a b ok ov : Value} {Q : Option Value → Shared → Prop} (hh : HOk A.handled s.heap) (hit : ItIt s.heap it d i kvs.length ep a b ok ov)
    (hm : s.heap.DictAt knd d kvs ep) (hx : kvs[i]? = none)
    (hQ : ∀ h', Heap.ExtBut it s.heap h' → Q none { s with heap := h' }) : wpAny (model prog w) A (pyNext (.ref it)) Q E s := by
  obtain ⟨od, es, hod, hcd, hdd, hk, hpr, hn⟩ := id hm
  have hT : s.TypeIs (.ref it) "dict_itemiterator" := ⟨_, hit, rfl⟩
  unfold pyNext
  refine wpAny_bind (wpAny_attempt (wpAny_callSpecial?_slot (name := Str.ofString "__next__") hT PySem.F.slot_dict_itemiterator_next
    (wpAny_call_entry PySem.F.slot_dict_itemiterator_next hT PySem.F.entry_dict_itemiterator_next ?_ (PySem.F.args_dict_itemiterator_next_1 _))))
  refine wpAny_bind (wpAny_pure ?_)
  refine wpAny_bind ?_
  refine wpAny_bind ?_
  first | refine wpAny_bind (wpAny_typeNameOfWhole_itemiter hT (wpAny_pure ?_)) | refine wpAny_bind (wpAny_typeNameOf_itemiter hT (wpAny_pure ?_))
  refine wpAny_bind (wpAny_fieldsOf hit rfl ?_)
  have hown : Builtin.Dict_items.ownsTuple "dict_itemiterator" = true := by decide
  simp only [hown, if_true]
  show wpAny _ _ (if (Value.ref d == Value.none) = true then _ else _) _ _ s
  rw [if_neg (show ¬ ((Value.ref d == Value.none) = true) from Bool.false_ne_true)]
  refine wpAny_bind (wpAny_pure ?_)
  refine wpAny_bind (wpAny_dictEntries hod hdd ?_)
  have hsz : es.size = kvs.length := by rw [← hpr.length]; simp
  rw [if_neg (by rw [hsz]; simp)]
  refine wpAny_bind (wpAny_pure ?_)
  refine wpAny_bind (wpAny_dictEpoch hod hdd ?_)
  rw [if_neg (by simp)]
  refine wpAny_pure ?_
  have hge : es.size ≤ i := by rw [hsz]; simpa using hx
  simp only [show ¬ ((i : Int) < 0) from by omega, if_false, Int.toNat_natCast, Array.getElem?_eq_none hge]
  refine wpAny_bind ?_
  first | refine wpAny_bind (wpAny_typeNameOfWhole_itemiter hT (wpAny_pure ?_)) | refine wpAny_bind (wpAny_typeNameOf_itemiter hT (wpAny_pure ?_))
  show wpAny _ _ (setField (.ref it) 2 .none >>= _) _ _ s
  refine wpAny_bind (wpAny_setField hit rfl (by simp) ?_)
  have hh' : HOk A.in1.handled (s.heap.update it (Obj.mapFields (·.setIfInBounds 2 Value.none))) := hh.keep fun c oc hc ⟨vs, hv, h2⟩ => by
    refine (Heap.get?_update_other _ _ fun e => ?_).trans hc
    subst e
    rw [hit] at hc
    cases hc
    simp only [Data.fields.injEq] at hv
    subst hv
    simp at h2
  show wpAny _ _ (newExc (.type "StopIteration") [] >>= fun e => raiseNew e) _ _ _
  refine raiseStop hh' fun h' x hk ⟨ox, hox, hcx⟩ => ?_
  refine wpAny_bind (wpAny_isInstance (T := "StopIteration") (b := true) ⟨_, hox, hcx⟩ isSubtype_stop ?_)
  exact wpAny_pure (hQ _ fun c o hc e => hk c o ((Heap.get?_update_other _ _ (Ne.symm hc)).trans e))
end
end Mine
end PartW3
section PartW4
open PySem PySem.W PyProof.Rows PySem.Calls
namespace Mine
section
variable {prog : Program} {w : World} {K : Type} [DecidableEq K] {knd : KeyKind prog w K} {A : Around} {E : Value → Shared → Prop} {s : Shared} {R : Result → Shared → Prop} {kvs : List (K × Value)} {ep : Nat}

theorem itemsOver {S I d : Addr} {i : Nat} {Q : Option Value → Shared → Prop} (hh : HOk A.handled s.heap) (hst : KdxSt s.heap I d S i kvs.length ep) (hm : s.heap.DictAt knd d kvs ep) (hx : kvs[i]? = none)
    (hQ : ∀ h', Heap.ExtBut I s.heap h' → Q none { s with heap := h' }) : wpAny (model prog w) A (pyNext (.ref I)) Q E s := by
  rcases hst with ⟨rfl, ok, ov, hit⟩ | ⟨ok, ov, a, f, oa, hit, _, _, _⟩
  · exact itemsEnd hh hit hm hx hQ
  · exact itemsEnd hh hit hm hx hQ

/-- what stands behind i turns of list.extend over the items of a dict -/
structure Pulled (knd : KeyKind prog w K) (kvs : List (K × Value)) (ep : Nat) (S I d : Addr) (h₁ : Heap) (i : Nat) (h : Heap) (ts : List Addr) : Prop where
  le : i ≤ kvs.length
  iter : KdxSt h I d S i kvs.length ep
  dict : h.DictAt knd d kvs ep
  keep : ∀ b o, b ≠ S → b ≠ I → h₁.get? b = some o → h.get? b = some o
  list : ∃ c, h.get? S = some { cls := .type "list", dict := none, data := .seq (ts.map Value.ref).toArray c, slots := #[] }
  len : ts.length = i
  tups : KdxG knd kvs I h ts
  room : I < h.objs.size

theorem Pulled.turn {S I d : Addr} {h₁ h h' : Heap} {i : Nat} {ts : List Addr} {k : K} {x key : Value} (p : Pulled knd kvs ep S I d h₁ i h ts) (hSI : S < I) (hSd : d ≠ S) (hId : d ≠ I) (hx : kvs[i]? = some (k, x)) (hk : knd.is k key = true)
    (st : KdxSt h' I d S (i + 1) kvs.length ep) (ht : h'.get? h.objs.size = some { cls := .type "tuple", data := .seq #[key, x] }) (up : ∀ b o, b ≠ I → h.get? b = some o → h'.get? b = some o) :
    Pulled knd kvs ep S I d h₁ (i + 1) (h'.update S (Obj.mapSeq (·.push (Value.ref h.objs.size)))) (ts ++ [h.objs.size]) := by
  obtain ⟨c, hS⟩ := p.list
  have hSh : S < h.objs.size := Heap.lt_size hS
  have hS' := up S _ (Nat.ne_of_lt hSI) hS
  have off : ∀ b o, b ≠ S → h'.get? b = some o → (h'.update S (Obj.mapSeq (·.push (Value.ref h.objs.size)))).get? b = some o := fun b o hb e => (Heap.get?_update_other _ _ (Ne.symm hb)).trans e
  have far : ∀ b, I < b → b ≠ S := fun b hb => Nat.ne_of_gt (Nat.lt_trans hSI hb)
  have new : (h'.update S (Obj.mapSeq (·.push (Value.ref h.objs.size)))).get? h.objs.size = some { cls := .type "tuple", data := .seq #[key, x] } := off _ _ (Nat.ne_of_gt hSh) ht
  refine ⟨(List.getElem?_eq_some_iff.mp hx).1, st.keep off (Ne.symm (Nat.ne_of_lt hSI)), p.dict.at' fun o e => off d o hSd (up d o hId e), fun b o hb hb' e => off b o hb (up b o hb' (p.keep b o hb hb' e)), ?_, by rw [List.length_append, p.len]; rfl, ⟨?_, ?_, ?_⟩, Nat.lt_trans p.room (Heap.lt_size new)⟩
  · have q := Heap.get?_update_self (Obj.mapSeq (·.push (Value.ref h.objs.size))) hS' rfl
    exact ⟨_, q.trans (by simp only [Obj.mapSeq, List.map_append, List.map_cons, List.map_nil, List.push_toArray]; rfl)⟩
  · exact List.pairwise_append.mpr ⟨p.tups.rise, List.pairwise_singleton _ _, fun a ha b hb => by rw [List.mem_singleton.mp hb]; exact p.tups.there ha⟩
  · intro a ha
    rcases List.mem_append.mp ha with ha | ha
    · exact p.tups.above a ha
    · rw [List.mem_singleton.mp ha]; exact p.room
  · intro j a hj
    by_cases hji : j < ts.length
    · rw [List.getElem?_append_left hji] at hj
      obtain ⟨key', k', x', e1, e2, e3⟩ := p.tups.pairs j a hj
      have ha := p.tups.above a (List.mem_of_getElem? hj)
      exact ⟨key', k', x', e1, e2, off a _ (far a ha) (up a _ (Nat.ne_of_gt ha) e3)⟩
    · have hlt := (List.getElem?_eq_some_iff.mp hj).1
      rw [List.length_append, List.length_singleton] at hlt
      obtain rfl : j = ts.length := by omega
      have e : h.objs.size = a := by simpa using hj
      subst e
      exact ⟨key, k, x, by rw [p.len]; exact hx, hk, new⟩

theorem pullAll {S I d : Addr} {h₁ : Heap} (res : Value) (hH : ∀ h, (∀ b o, b ≠ S → b ≠ I → h₁.get? b = some o → h.get? b = some o) → HOk A.handled h) (hSI : S < I) (hSd : d ≠ S) (hId : d ≠ I) (hn : kvs.length ≤ sizeLine)
    (hR : ∀ h' tk ts c, (∀ b o, b ≠ S → b ≠ I → h₁.get? b = some o → h'.get? b = some o) → h'.get? S = some { cls := .type "list", dict := none, data := .seq (ts.map Value.ref).toArray c, slots := #[] } → ts.length = kvs.length → KdxG knd kvs I h' ts →
      R (.ok (.ret res)) { s with heap := h', toks := tk }) :
    ∀ (k i : Nat) (h : Heap) (tk : Nat) (ts : List Addr), kvs.length - i = k → Pulled knd kvs ep S I d h₁ i h ts →
      codeAny (model prog w) A (.builtin "list.extend.loop" ⟨[.ref S, .ref I, res], []⟩) R { s with heap := h, toks := tk } := by
  intro k
  induction k with
  | zero =>
    intro i h tk ts hk p
    obtain ⟨c, hS⟩ := p.list
    have hlen := p.len
    have hle := p.le
    have hii : i = kvs.length := by omega
    refine codeAny_builtin PySem.F.entry_extend_loop ?_
    rw [Around.under_plainId PySem.F.plain_extend_loop _]
    refine wpAny_bind (m := pyNext (.ref I)) (itemsOver (s := { s with heap := h, toks := tk }) (A := A.in1) (hH h p.keep) p.iter p.dict (List.getElem?_eq_none (by omega)) fun h' he => ?_)
    refine wpAny_pure (hR h' tk ts c (fun b o h1 h2 e => he b o h2 (p.keep b o h1 h2 e)) (he S _ (Nat.ne_of_lt hSI) hS) (by omega) ⟨p.tups.rise, p.tups.above, fun j a hj => ?_⟩)
    obtain ⟨key, kk, x, e1, e2, e3⟩ := p.tups.pairs j a hj
    exact ⟨key, kk, x, e1, e2, he a _ (Nat.ne_of_gt (p.tups.above a (List.mem_of_getElem? hj))) e3⟩
  | succ k ih =>
    intro i h tk ts hk p
    have hlt : i < kvs.length := by omega
    obtain ⟨⟨kk, x⟩, hx⟩ : ∃ q, kvs[i]? = some q := ⟨_, List.getElem?_eq_getElem hlt⟩
    obtain ⟨c, hS⟩ := p.list
    have hts : ((ts.map Value.ref).toArray).size = i := by rw [List.size_toArray, List.length_map, p.len]
    refine codeAny_builtin PySem.F.entry_extend_loop ?_
    rw [Around.under_plainId PySem.F.plain_extend_loop _]
    refine wpAny_bind (m := pyNext (.ref I)) (kdx_item (s := { s with heap := h, toks := tk }) (S := S) p.iter (Heap.lt_size hS) p.dict hx fun key h' hkey st ht _ up => ?_)
    show wpAny _ A.in1 (updateSeq S (·.push (Value.ref h.objs.size)) >>= _) _ _ _
    refine wpAny_bind (wpAny_updateSeq (up S _ (Nat.ne_of_lt hSI) hS) rfl (wpAny_pure ⟨plainId_quiet PySem.F.plain_extend_loop _, ih (i + 1) _ tk _ (by omega) (p.turn hSI hSd hId hx hkey st ht up)⟩) (by rw [hts]; omega) (by show ((ts.map Value.ref).toArray.push (Value.ref h.objs.size)).size ≤ sizeLine + 1; rw [Array.size_push, hts]; omega))

/-- the heap is as it was but for S, and what is new -/
def Beside (S : Addr) (h h' : Heap) : Prop := ∀ b o, b ≠ S → h.get? b = some o → h'.get? b = some o
theorem Beside.upd {S : Addr} {h h' : Heap} (x : Beside S h h') (f : Obj → Obj) : Beside S h (h'.update S f) := fun b o hb e => (Heap.get?_update_other _ _ (Ne.symm hb)).trans (x b o hb e)
theorem Beside.push {S : Addr} {h h' : Heap} (x : Beside S h h') (o : Obj) : Beside S h (h'.push o) := fun b q hb e => Heap.get?_push_of_some _ (x b q hb e)

def PulledAll (knd : KeyKind prog w K) (kvs : List (K × Value)) (S lo : Addr) (h : Heap) (R : List Addr → Heap → Nat → Prop) : Prop :=
  ∀ h' tk ts c, Beside S h h' → h'.get? S = some { cls := .type "list", dict := none, data := .seq (ts.map Value.ref).toArray c, slots := #[] } → ts.length = kvs.length → KdxG knd kvs lo h' ts → R ts h' tk

theorem extendItems {r d S : Addr} {res : Value} {c₀ : Nat} (hh : HOk A.handled s.heap) (hv : s.heap.IsItemsView r d) (hm : s.heap.DictAt knd d kvs ep) (hSr : S ≠ r) (hSd : d ≠ S) (hS : s.heap.get? S = some { cls := .type "list", data := .seq #[] c₀ }) (hn : kvs.length ≤ sizeLine)
    (hR : PulledAll knd kvs S s.heap.objs.size s.heap fun _ h' tk => R (.ok (.ret res)) { s with heap := h', toks := tk }) :
    wpAny (model prog w) A.in1 (Builtin.List.listExtendWith (.ref S) (.ref r) res)
      (fun fin s' => match fin with | .done f => R (.ok f) s' | .again c' => c'.quiet = true ∧ codeAny (model prog w) A c' R s') (fun e s' => R (.error e) s') s := by
  have lS : S < s.heap.objs.size := Heap.lt_size hS
  have ld : d < s.heap.objs.size := hm.lt_size
  have go : ∀ (h : Heap) (c tk : Nat), Beside S (s.heap.push { cls := .type "dict_itemiterator", data := .fields #[.none, .bool false, .ref d, .int 0 0, .int kvs.length 0, .int ep 0, .none, .none] }) h →
      h.get? S = some { cls := .type "list", data := .seq #[] c } → codeAny (model prog w) A (.builtin "list.extend.loop" ⟨[.ref S, .ref s.heap.objs.size, res], []⟩) R { s with heap := h, toks := tk } := by
    intro h c tk hb hl
    have it := hb s.heap.objs.size _ (Nat.ne_of_gt lS) (Heap.get?_push_size _ rfl)
    have old : ∀ b o, b ≠ S → b ≠ s.heap.objs.size → s.heap.get? b = some o → h.get? b = some o := fun b o h1 _ e => hb b o h1 (Heap.get?_push_of_some _ e)
    refine pullAll (knd := knd) (kvs := kvs) (ep := ep) (s := s) (h₁ := s.heap) res (fun h' k' => hh.keep fun b o e ⟨vs, hvs, _⟩ => k' b o (fun q => ?_) (Nat.ne_of_lt (Heap.lt_size e)) e) lS hSd (Nat.ne_of_lt ld) hn
      (fun h' tk' ts c' hk hl' hlen hG => hR h' tk' ts c' (fun b o h1 e => hk b o h1 (Nat.ne_of_lt (Heap.lt_size e)) e) hl' hlen hG) kvs.length 0 h tk [] (Nat.sub_zero _)
      ⟨Nat.zero_le _, .inl ⟨rfl, .none, .none, it⟩, hm.at' fun o e => hb d o hSd (Heap.get?_push_of_some _ e), old, ⟨c, hl⟩, rfl, ⟨List.Pairwise.nil, (fun _ ha => nomatch ha), (fun j a hj => by simp at hj)⟩, Heap.lt_size it⟩
    subst q
    rw [hS] at e
    cases e
    cases hvs
  have base : Beside S (s.heap.push { cls := .type "dict_itemiterator", data := .fields #[.none, .bool false, .ref d, .int 0 0, .int kvs.length 0, .int ep 0, .none, .none] }) (s.heap.push { cls := .type "dict_itemiterator", data := .fields #[.none, .bool false, .ref d, .int 0 0, .int kvs.length 0, .int ep 0, .none, .none] }) := fun _ _ _ e => e
  have hS₁ := Heap.get?_push_of_some { cls := .type "dict_itemiterator", data := .fields #[.none, .bool false, .ref d, .int 0 0, .int kvs.length 0, .int ep 0, .none, .none] } hS
  unfold Builtin.List.listExtendWith
  refine wpAny_bind (wpAny_typeOf (T := "dict_items") hv.typeIs ?_)
  simp only [show Builtin.List.listSameRef (.ref S) (.ref r) = false by simp [Builtin.List.listSameRef, hSr], show (Value.type "dict_items" == Value.type "list") = false by decide, show (Value.type "dict_items" == Value.type "tuple") = false by decide, Bool.or_false, Bool.false_eq_true, if_false]
  refine wpAny_bind (wpAny_pyIter_items hv hm (wpAny_bind (wpAny_holding (kdx_hint (let ⟨o, ho, hc, _⟩ := hv; ⟨o, Heap.get?_push_of_some _ ho, hc⟩) ?_))))
  refine wpAny_ite_split (fun _ => wpAny_bind (wpAny_rule (wpAny_bind ?_))) (fun _ => wpAny_pure ⟨plainId_quiet PySem.F.plain_extend_loop _, go _ c₀ _ base hS₁⟩)
  show wpAny _ _ (updateSeq S (·.push .none) >>= fun _ => updateSeq S (·.pop)) _ _ _
  have hS₂ := Heap.get?_update_self (Obj.mapSeq (·.push Value.none)) hS₁ rfl
  have hS₃ := Heap.get?_update_self (Obj.mapSeq (·.pop)) hS₂ rfl
  exact wpAny_bind (wpAny_updateSeq hS₁ rfl (wpAny_updateSeq (hz := by seq_fits) hS₂ rfl (wpAny_pure ⟨plainId_quiet PySem.F.plain_extend_loop _, go _ _ _ ((base.upd _).upd _) hS₃⟩)))

theorem listItems {r d : Addr} {Q : Value → Shared → Prop} (hh : HOk A.handled s.heap) (hv : s.heap.IsItemsView r d) (hm : s.heap.DictAt knd d kvs ep) (hn : kvs.length ≤ sizeLine)
    (hQ : PulledAll knd kvs s.heap.objs.size s.heap.objs.size s.heap fun _ h' tk => Q (.ref s.heap.objs.size) { s with heap := h', toks := tk }) :
    wpAny (model prog w) A (call (.type "list") [.ref r]) Q E s := by
  have lr : r < s.heap.objs.size := let ⟨_, ho, _⟩ := hv; Heap.lt_size ho
  have ld : d < s.heap.objs.size := hm.lt_size
  refine callType_codes (Q₁ := fun obj s₁ => obj = .ref s.heap.objs.size ∧ s₁ = { s with heap := s.heap.push { cls := .type "list", data := .seq #[] } }) PySem.F.called_list (PySem.F.typeCall_list_1 _) PySem.F.entry_list_init
    (code_list_new _ ⟨rfl, rfl⟩) fun obj s₁ h₁ => ?_
  obtain ⟨rfl, rfl⟩ := h₁
  have hS : (s.heap.push { cls := .type "list", data := .seq #[] }).get? s.heap.objs.size = some { cls := .type "list", data := .seq #[] } := Heap.get?_push_size _ rfl
  refine ⟨⟨_, hS, rfl⟩, PySem.F.args_list_init_2 _ _, ?_⟩
  have b0 : Beside s.heap.objs.size s.heap (s.heap.push { cls := .type "list", data := .seq #[] }) := fun _ _ _ e => Heap.get?_push_of_some _ e
  have hS₂ := Heap.get?_update_self (Obj.mapSeq (fun _ => (#[] : Array Value))) hS rfl
  have b1 := b0.upd (Obj.mapSeq (fun _ => (#[] : Array Value)))
  show wpAny _ _ (do let old ← Builtin.List.listItems (.ref s.heap.objs.size); Builtin.List.listUpdate (.ref s.heap.objs.size) (fun _ => #[]); letGo old.toList.reverse; Builtin.List.listExtendWith (.ref s.heap.objs.size) (.ref r) .none) _ _ _
  refine wpAny_bind ?_
  unfold Builtin.List.listItems
  refine wpAny_bind (wpAny_seqItems hS rfl (wpAny_pure ?_))
  show wpAny _ _ (updateSeq s.heap.objs.size (fun _ => #[]) >>= fun _ => letGo (#[] : Array Value).toList.reverse >>= fun _ => Builtin.List.listExtendWith (.ref s.heap.objs.size) (.ref r) .none) _ _ _
  refine wpAny_bind (wpAny_updateSeq hS rfl (wpAny_bind (wpAny_letGo ?_)))
  have up : ∀ b o, s.heap.get? b = some o → _ := fun b o e => b1 b o (Nat.ne_of_lt (Heap.lt_size e)) e
  refine extendItems (knd := knd) (kvs := kvs) (ep := ep) (A := A.in1) (hh.all up) (let ⟨o, ho, x⟩ := hv; ⟨o, up r o ho, x⟩) (hm.at' fun o e => up d o e) (Nat.ne_of_gt lr) (Nat.ne_of_lt ld) hS₂ hn fun h' tk ts c hk hl hlen hG => ?_
  refine ⟨rfl, hQ h' tk ts c (fun b o hb e => hk b o hb (b1 b o hb e)) hl hlen ⟨hG.rise, fun a ha => Nat.lt_of_le_of_lt (Nat.le_of_lt (Heap.lt_size hS₂)) (hG.above a ha), hG.pairs⟩⟩
end
end Mine
end PartW4
section PartW5
open PySem PySem.W PyProof.Rows PySem.Calls
namespace Mine

noncomputable def KvsAre : List (Str × Value) → List (Str × PV) → Prop
  | [], [] => True
  | (k, v) :: r, (n, p) :: q => k = n ∧ p.Is v ∧ KvsAre r q
  | _, _ => False
theorem KvsAre.len : ∀ {kvs : List (Str × Value)} {its : List (Str × PV)}, KvsAre kvs its → kvs.length = its.length
  | [], [], _ => rfl
  | _ :: _, _ :: _, ⟨_, _, h⟩ => congrArg Nat.succ h.len
theorem KvsAre.get : ∀ {kvs : List (Str × Value)} {its : List (Str × PV)}, KvsAre kvs its → ∀ {j : Nat} {k : Str} {v : Value} {it : Str × PV}, kvs[j]? = some (k, v) → its[j]? = some it → k = it.1 ∧ it.2.Is v
  | [], [], _, j, _, _, _, h, _ => by simp at h
  | (k, v) :: r, (n, p) :: q, ⟨h1, h2, h3⟩, 0, _, _, _, e1, e2 => by
    simp only [List.getElem?_cons_zero, Option.some.injEq] at e1 e2
    cases e1
    subst e2
    exact ⟨h1, h2⟩
  | _ :: _, _ :: _, ⟨_, _, h3⟩, j + 1, _, _, _, e1, e2 => h3.get (by simpa using e1) (by simpa using e2)

/-- a made tuple of a name and a value -/
def TupAt (news : List (Addr × Obj)) (a : Addr) (it : Str × PV) : Prop := ∃ t v n, it.2.Is v ∧ (a, ({ cls := .type "tuple", data := .seq #[.str it.1 t, v] n } : Obj)) ∈ news
structure TupsAt (news : List (Addr × Obj)) (ts : List Addr) (its : List (Str × PV)) : Prop where
  len : ts.length = its.length
  tup : ∀ (i : Nat) (a : Addr) (it : Str × PV), ts[i]? = some a → its[i]? = some it → TupAt news a it
theorem TupsAt.mono {n₁ n₂ : List (Addr × Obj)} {ts : List Addr} {its : List (Str × PV)} (h : TupsAt n₁ ts its) (hs : ∀ p ∈ n₁, p ∈ n₂) : TupsAt n₂ ts its :=
  ⟨h.len, fun i r it hr hi => let ⟨t, v, n, hv, hm⟩ := h.tup i r it hr hi; ⟨t, v, n, hv, hs _ hm⟩⟩

/-- nothing is handled, or an exception of the ledger without a context -/
def HOkL (hd : Option Value) (news : List (Addr × Obj)) : Prop := hd = none ∨ ∃ e oe vs, hd = some (.ref e) ∧ (e, oe) ∈ news ∧ oe.data = .fields vs ∧ vs[2]? = some .none
theorem HOkL.ok {hd : Option Value} {news : List (Addr × Obj)} {h₀ h : Heap} {L : Addr} (x : HOkL hd news) (N : News h₀ L h news) : HOk hd h := by
  rcases x with x | ⟨e, oe, vs, h1, h2, h3, h4⟩
  · exact .inl x
  · exact .inr ⟨e, oe, vs, h1, (N _ h2).1, h3, h4⟩
theorem HOkL.mono {hd : Option Value} {n₁ n₂ : List (Addr × Obj)} (x : HOkL hd n₁) (hs : ∀ p ∈ n₁, p ∈ n₂) : HOkL hd n₂ := by
  rcases x with x | ⟨e, oe, vs, h1, h2, h3, h4⟩
  · exact .inl x
  · exact .inr ⟨e, oe, vs, h1, hs _ h2, h3, h4⟩

/-- what the heap holds of some addresses -/
def holds (h : Heap) (as : List Addr) : List (Addr × Obj) := as.filterMap fun a => (h.get? a).map fun o => (a, o)
theorem mem_holds {h : Heap} {as : List Addr} {a : Addr} {o : Obj} (ha : a ∈ as) (ho : h.get? a = some o) : (a, o) ∈ holds h as :=
  List.mem_filterMap.mpr ⟨a, ha, by rw [ho]; rfl⟩
theorem of_holds {h : Heap} {as : List Addr} {p : Addr × Obj} (hp : p ∈ holds h as) : p.1 ∈ as ∧ h.get? p.1 = some p.2 := by
  obtain ⟨a, ha, e⟩ := List.mem_filterMap.mp hp
  obtain ⟨o, ho, rfl⟩ := Option.map_eq_some_iff.mp e
  exact ⟨ha, ho⟩

/-- what was not there is new -/
theorem newsAt {h₀ h h' : Heap} {L : Addr} {m : Str → Option Value} (F : Fr h₀ L h m) {p : Addr × Obj} (hp : h'.get? p.1 = some p.2) (hlo : h.objs.size ≤ p.1) : h'.get? p.1 = some p.2 ∧ p.1 ≠ L ∧ h₀.get? p.1 = none :=
  ⟨hp, fun e => absurd (Nat.lt_of_lt_of_le F.ns.lt hlo) (by rw [e]; exact Nat.lt_irrefl _), Heap.get?_none_of_le (Nat.le_trans (Nat.le_of_lt (Nat.lt_of_le_of_lt F.above F.ns.lt)) hlo)⟩

section
variable {prog : Program} {w : World} {A : Around} {E : Value → Shared → Prop} {s : Shared} {h₀ : Heap} {L : Addr} {m : Str → Option Value} {news : List (Addr × Obj)}
theorem listItemsLed {v e : Addr} {o : Obj} {kvs : List (Str × Value)} {its : List (Str × PV)} {Q : Value → Shared → Prop} (hh : HOkL A.handled news) (F : Fr h₀ L s.heap m) (N : News h₀ L s.heap news)
    (hv : (v, { cls := .type "dict_items", data := .fields #[.ref e] }) ∈ news) (he : (e, o) ∈ news) (hD : o.IsDictOf (PySem.strKind prog w) kvs) (hk : KvsAre kvs its) (hn : its.length ≤ 16777216)
    (h : ∀ D c ts h' tk nw, Fr h₀ L h' m → News h₀ L h' nw → (∀ p ∈ news, p ∈ nw) → (D, listOf (ts.map Value.ref).toArray c) ∈ nw → TupsAt nw ts its → (∀ p ∈ news, p.1 < D) → Q (.ref D) { s with heap := h', toks := tk }) :
    wpAny (model prog w) A (call (.type "list") [.ref v]) Q E s := by
  obtain ⟨ep, hat⟩ := (Heap.dictOf_iff.mpr ⟨o, (N _ he).1, hD⟩ : s.heap.DictOf _ e kvs).dictAt
  refine listItems (knd := PySem.strKind prog w) (kvs := kvs) (hh.ok N) ⟨_, (N _ hv).1, rfl, rfl⟩ hat (by rw [hk.len, sizeLine_eq]; exact hn) fun h' tk ts c hb hl hlen hG => ?_
  have up : ∀ b q, s.heap.get? b = some q → h'.get? b = some q := fun b q x => hb b q (Nat.ne_of_lt (Heap.lt_size x)) x
  refine h _ c ts h' tk ((s.heap.objs.size, listOf (ts.map Value.ref).toArray c) :: (holds h' ts ++ news)) (F.keeps up) (fun p hp => ?_) (fun p hp => .tail _ (List.mem_append_right _ hp)) (.head _) ⟨by rw [hlen, hk.len], fun i a it hi hit => ?_⟩ fun p hp => Heap.lt_size (N p hp).1
  · rcases List.mem_cons.mp hp with rfl | hp
    · exact newsAt F hl (Nat.le_refl _)
    · rcases List.mem_append.mp hp with hp | hp
      · obtain ⟨h1, h2⟩ := of_holds hp
        exact newsAt F h2 (Nat.le_of_lt (hG.above _ h1))
      · exact ⟨up _ _ (N p hp).1, (N p hp).2⟩
  · obtain ⟨key, k, x, h1, h2, h3⟩ := hG.pairs i a hi
    obtain ⟨e1, e2⟩ := hk.get h1 hit
    obtain ⟨t, rfl⟩ := Value.isStrOf_shape h2
    subst e1
    exact ⟨t, x, 0, e2, .tail _ (List.mem_append_left _ (mem_holds (List.mem_of_getElem? hi) h3))⟩
end

/-- the dict of a Token's own -/
abbrev tokD (w : World) (k1 k2 k3 k4 k5 : Tok) (v1 v2 v3 : Value) (e m : Addr) : Obj :=
  dictOf [⟨PyData.keyHash w.params (Str.ofString "type"), .str (Str.ofString "type") k1, v1⟩, ⟨PyData.keyHash w.params (Str.ofString "tag"), .str (Str.ofString "tag") k2, v2⟩,
    ⟨PyData.keyHash w.params (Str.ofString "nesting"), .str (Str.ofString "nesting") k3, v3⟩, ⟨PyData.keyHash w.params (Str.ofString "attrs"), .str (Str.ofString "attrs") k4, .ref e⟩,
    ⟨PyData.keyHash w.params (Str.ofString "meta"), .str (Str.ofString "meta") k5, .ref m⟩] 5
def TokAt (w : World) (news : List (Addr × Obj)) (a e : Addr) (v1 v2 v3 : Value) : Prop :=
  ∃ dx m k1 k2 k3 k4 k5, (a, instObj 66 dx) ∈ news ∧ (dx, tokD w k1 k2 k3 k4 k5 v1 v2 v3 e m) ∈ news

local macro_rules | `(tactic| k_mem) => `(tactic| first | with_reducible assumption | with_reducible exact List.mem_cons_self | (refine List.mem_cons_of_mem _ ?_; k_mem))
local macro_rules | `(tactic| walk_at "call type:list") => `(tactic| k_extra "myList")
local macro_rules | `(tactic| walk_at "getMethod ref") => `(tactic| (k_here; (with_reducible show wpAny _ _ (getMethod (Value.ref _) (Str.ofString "items") _) _ _ _); k_dflt (refine kdl_method (knd := PySem.strKind _ _) PySem.F.slot_dict_items PySem.F.type_dict_items (by k_asm) (by k_mem) (by k_asm) ?_)))

theorem items_c {w : World} {mean : ExcName → Option Value} {mg mb : Str → Option Value} {hv0 : Option Value} {dp un : Nat} {gd : Option (List Code)} {cn : Str} {cs : Scope} {a : Addr} {ccd : Value} {cl : List (Str × Addr)} {outer : List Env} {A₀ : Around} {base h₀ : Heap} {L : Addr} {m : Str → Option Value} {news : List (Addr × Obj)} {s : Shared}
    {Q E : Value → Shared → Prop} {tk e : Addr} {v1 v2 v3 : Value} {o : Obj} {kvs : List (Str × Value)} {its : List (Str × PV)}
    (C : Here w mean mg mb 20 200 dp un cs A₀ base outer h₀ L m news s) (hh : HOkL hv0 news)
    (hT : TokAt w news tk e v1 v2 v3) (he : (e, o) ∈ news) (hD : o.IsDictOf (PySem.strKind PySem.Challenge.rw_dg5004_01.row.prog w) kvs) (hlo : (e == sysModules) = false) (hK : KvsAre kvs its) (hn : its.length ≤ 16777216)
    (ret : ∀ D c ts h' tk nw, Fr h₀ L h' m → News h₀ L h' nw → (∀ p ∈ news, p ∈ nw) → (D, listOf (ts.map Value.ref).toArray c) ∈ nw → TupsAt nw ts its → (∀ p ∈ news, p.1 < D) → Q (.ref D) { s with heap := h', toks := tk }) :
    wpAny (model PySem.Challenge.rw_dg5004_01.row.prog w) (topH hv0 dp un gd cn cs L a ccd cl outer) (call (.ref 35) [.ref tk]) Q E s := by
  obtain ⟨B, F, X, N, T, hk, hd9, hu⟩ := C
  revert X
  k_fill
  intro X
  obtain ⟨dx, mt, k1, k2, k3, k4, k5, hT1, hT2⟩ := hT
  refine wpAny_call ?_
  k_dflt ktr_enter
  k_with_none
  k_with "myList" => ((rename Fr _ _ _ _ => lF'); (rename News _ _ _ _ => lN'); k_dflt (refine listItemsLed (hh.mono fun p hp => List.mem_cons_of_mem _ hp) lF' lN' (by k_mem) (by k_mem) hD hK hn ?_); intro D9 c9 ts9 h9 tk9 nw9 F9 N9 hs9 hD9 hT9 hl9)
  k_steps
  exact ret _ c9 ts9 _ _ nw9 (by assumption) (by assumption) (fun p hp => hs9 p (.tail _ hp)) hD9 hT9 (fun p hp => hl9 p (.tail _ hp))
end Mine
end PartW5
section PartW6
open PySem PySem.W PyProof.Rows PySem.Calls
namespace Mine

def put (its : List (Str × PV)) (nm : Str) (p : PV) : List (Str × PV) :=
  if its.any (fun it => it.1 = nm) then its.map (fun it => if it.1 = nm then (it.1, p) else it) else its ++ [(nm, p)]
def look (its : List (Str × PV)) (nm : Str) : Option PV := (its.find? fun it => it.1 = nm).map (·.2)

theorem KvsAre.look : ∀ {kvs : List (Str × Value)} {its : List (Str × PV)} (nm : Str), KvsAre kvs its →
    (Mine.look its nm = none ∧ valueAt kvs nm = none) ∨ ∃ p v, Mine.look its nm = some p ∧ valueAt kvs nm = some v ∧ p.Is v
  | [], [], _, _ => .inl ⟨rfl, rfl⟩
  | (k, v) :: r, (n, p) :: q, nm, ⟨h1, h2, h3⟩ => by
    subst h1
    unfold Mine.look valueAt
    simp only [List.find?_cons]
    by_cases e : k = nm
    · simp only [e, decide_true]
      exact .inr ⟨p, v, rfl, rfl, h2⟩
    · simp only [e, decide_false]
      exact h3.look nm
theorem KvsAre.append : ∀ {kvs : List (Str × Value)} {its : List (Str × PV)}, KvsAre kvs its → ∀ {n : Str} {v : Value} {p : PV}, p.Is v → KvsAre (kvs ++ [(n, v)]) (its ++ [(n, p)])
  | [], [], _, _, _, _, h => ⟨rfl, h, trivial⟩
  | (_, _) :: _, (_, _) :: _, ⟨h1, h2, h3⟩, _, _, _, h => ⟨h1, h2, h3.append h⟩
theorem KvsAre.change : ∀ {kvs : List (Str × Value)} {its : List (Str × PV)}, KvsAre kvs its → ∀ {n : Str} {v : Value} {p : PV}, p.Is v → KvsAre (kvs.map fun kv => if kv.1 = n then (kv.1, v) else kv) (its.map fun it => if it.1 = n then (it.1, p) else it)
  | [], [], _, _, _, _, _ => trivial
  | (k, u) :: r, (n', q) :: _, ⟨h1, h2, h3⟩, n, v, p, h => by
    subst h1
    have r := h3.change (n := n) h
    simp only [List.map_cons]
    by_cases e : k = n
    · simp only [e, if_true]; exact ⟨rfl, h, r⟩
    · simp only [e, if_false]; exact ⟨rfl, h2, r⟩
theorem KvsAre.any : ∀ {kvs : List (Str × Value)} {its : List (Str × PV)} (n : Str), KvsAre kvs its → kvs.any (fun kv => kv.1 = n) = its.any (fun it => it.1 = n)
  | [], [], _, _ => rfl
  | (k, v) :: r, (n', p) :: q, n, ⟨h1, h2, h3⟩ => by
    subst h1
    simp only [List.any_cons, h3.any n]
theorem KvsAre.put {kvs : List (Str × Value)} {its : List (Str × PV)} (h : KvsAre kvs its) {n : Str} {v : Value} {p : PV} (hv : p.Is v) : KvsAre (stored kvs n v) (Mine.put its n p) := by
  unfold stored Mine.put
  rw [h.any n]
  split
  · exact h.change hv
  · exact h.append hv

theorem PV.Is.flat {p : PV} {v : Value} (h : p.Is v) : (∃ i t, v = .int i t) ∨ ∃ x t, v = .str x t := by
  cases p with
  | int i => exact .inl ⟨i, h⟩
  | str x => exact .inr ⟨x, h⟩

theorem isKey {prog : Program} {w : World} (nm : Str) (t : Tok) : (PySem.strKind prog w).is nm (.str nm t) = true := by show Value.isStrOf nm (Value.str nm t) = true; simp [Value.isStrOf]
section
variable {prog : Program} {w : World} {A : Around} {E : Value → Shared → Prop} {s : Shared} {h₀ : Heap} {L : Addr} {m : Str → Option Value} {news : List (Addr × Obj)}
/-- a store into a dict of the ledger -/
theorem setLed {e : Addr} {o : Obj} {kvs : List (Str × Value)} {nm : Str} {t : Tok} {v : Value} {Q : Unit → Shared → Prop} (F : Fr h₀ L s.heap m) (N : News h₀ L s.heap news) (he : (e, o) ∈ news) (hD : o.IsDictOf (PySem.strKind prog w) kvs) (hn : kvs.length ≤ 16777216)
    (h : ∀ o' h' nw, Fr h₀ L h' m → News h₀ L h' nw → (∀ p ∈ news, p.1 ≠ e → p ∈ nw) → (e, o') ∈ nw → o'.IsDictOf (PySem.strKind prog w) (stored kvs nm v) → Q () { s with heap := h', toks := s.toks + 1 }) :
    wpAny (model prog w) A (setItem (.ref e) (.str nm t) v) Q E s := by
  have hm := N _ he
  refine wpAny_setItem_pairs (knd := PySem.strKind prog w) (k := nm) (hsz := by rw [sizeLine_eq]; exact hn) (isKey nm t) (Heap.dictOf_iff.mpr ⟨o, hm.1, hD⟩) fun h' hmm hs => ?_
  obtain ⟨o', ho', hd'⟩ := Heap.dictOf_iff.mp hmm
  refine h o' h' ((e, o') :: news.filter fun p => decide (p.1 ≠ e)) (F.change hs hm.2.1 hm.2.2) (fun p hp => ?_) (fun p hp hne => .tail _ (List.mem_filter.mpr ⟨hp, decide_eq_true hne⟩)) (.head _) hd'
  rcases List.mem_cons.mp hp with rfl | hp
  · exact ⟨ho', hm.2⟩
  · obtain ⟨hp, hne⟩ := List.mem_filter.mp hp
    have q := N p hp
    exact ⟨(hs.2 p.1 (of_decide_eq_true hne)).trans q.1, q.2⟩
end

local macro_rules | `(tactic| k_mem) => `(tactic| first | with_reducible assumption | with_reducible exact List.mem_cons_self | (refine List.mem_cons_of_mem _ ?_; k_mem))
local macro_rules | `(tactic| walk_at "setItem ref str") => `(tactic| k_extra "mySet")

theorem set_c {w : World} {mean : ExcName → Option Value} {mg mb : Str → Option Value} {dp un : Nat} {gd : Option (List Code)} {cn : Str} {cs : Scope} {a : Addr} {ccd : Value} {cl : List (Str × Addr)} {outer : List Env} {A₀ : Around} {base h₀ : Heap} {L : Addr} {m : Str → Option Value} {news : List (Addr × Obj)} {s : Shared}
    {Q E : Value → Shared → Prop} {tk e : Addr} {v1 v2 v3 : Value} {o : Obj} {kvs : List (Str × Value)} {nm : Str} {t : Tok} {v : Value}
    (C : Here w mean mg mb 20 200 dp un cs A₀ base outer h₀ L m news s)
    (hT : TokAt w news tk e v1 v2 v3) (he : (e, o) ∈ news) (hD : o.IsDictOf (PySem.strKind PySem.Challenge.rw_dg5004_01.row.prog w) kvs) (hlo : (e == sysModules) = false) (hn : kvs.length ≤ 16777216)
    (ret : ∀ o' h' tk nw, Fr h₀ L h' m → News h₀ L h' nw → (∀ p ∈ news, p.1 ≠ e → p ∈ nw) → (e, o') ∈ nw → o'.IsDictOf (PySem.strKind PySem.Challenge.rw_dg5004_01.row.prog w) (stored kvs nm v) → Q .none { s with heap := h', toks := tk }) :
    wpAny (model PySem.Challenge.rw_dg5004_01.row.prog w) (topH none dp un gd cn cs L a ccd cl outer) (call (.ref 49) [.ref tk, .str nm t, v]) Q E s := by
  obtain ⟨B, F, X, N, T, hk, hd9, hu⟩ := C
  revert X
  k_fill
  intro X
  obtain ⟨dx, mt, k1, k2, k3, k4, k5, hT1, hT2⟩ := hT
  refine wpAny_call ?_
  k_dflt ktr_enter
  k_with_none
  k_with "mySet" => ((rename Fr _ _ _ _ => lF'); (rename News _ _ _ _ => lN'); k_dflt (refine setLed lF' lN' (by k_mem) hD hn ?_); intro o9 h9 nw9 F9 N9 hs9 he9 hD9)
  k_steps
  exact ret o9 _ _ nw9 (by assumption) (by assumption) hs9 he9 hD9

local macro_rules | `(tactic| walk_at "call ref") => `(tactic| k_extra "myCall")

theorem push_c {w : World} {mean : ExcName → Option Value} {mg mb : Str → Option Value} {dp un : Nat} {gd : Option (List Code)} {cn : Str} {cs : Scope} {a : Addr} {ccd : Value} {cl : List (Str × Addr)} {outer : List Env} {A₀ : Around} {base h₀ : Heap} {L : Addr} {m : Str → Option Value} {news : List (Addr × Obj)} {s : Shared}
    {Q E : Value → Shared → Prop} {tk e ta : Addr} {v1 v2 v3 : Value} {o : Obj} {kvs : List (Str × Value)} {nm : Str} {t : Tok} {v : Value} {tn : Nat}
    (C : Here w mean mg mb 40 300 dp un cs A₀ base outer h₀ L m news s)
    (hT : TokAt w news tk e v1 v2 v3) (he : (e, o) ∈ news) (hD : o.IsDictOf (PySem.strKind PySem.Challenge.rw_dg5004_01.row.prog w) kvs) (hlo : (e == sysModules) = false) (hn : kvs.length ≤ 16777216)
    (ht : (ta, ({ cls := .type "tuple", data := .seq #[.str nm t, v] tn } : Obj)) ∈ news)
    (ret : ∀ o' h' tk nw, Fr h₀ L h' m → News h₀ L h' nw → (∀ p ∈ news, p.1 ≠ e → p ∈ nw) → (e, o') ∈ nw → o'.IsDictOf (PySem.strKind PySem.Challenge.rw_dg5004_01.row.prog w) (stored kvs nm v) → Q .none { s with heap := h', toks := tk }) :
    wpAny (model PySem.Challenge.rw_dg5004_01.row.prog w) (topH none dp un gd cn cs L a ccd cl outer) (call (.ref 42) [.ref tk, .ref ta]) Q E s := by
  obtain ⟨B, F, X, N, T, hk, hd9, hu⟩ := C
  revert X
  k_fill
  intro X
  obtain ⟨dx, mt, k1, k2, k3, k4, k5, hT1, hT2⟩ := id hT
  refine wpAny_call ?_
  k_dflt ktr_enter
  k_with_none
  k_with "myCall" => (k_dflt (refine' set_c ⟨by k_asm, by k_asm, by k_asm, by k_asm, by k_asm, rfl, by dsimp only; omega, by dsimp only; omega⟩ hT he hD hlo hn ?_); intro o9 h9 tk9 nw9 F9 N9 hs9 he9 hD9)
  k_steps
  exact ret o9 _ _ nw9 (by assumption) (by assumption) hs9 he9 hD9

local macro_rules | `(tactic| walk_at "getMethod ref") => `(tactic| (k_here; (with_reducible show wpAny _ _ (getMethod (Value.ref _) (Str.ofString "get") _) _ _ _); k_dflt (refine kdg_method (knd := PySem.strKind _ _) (by k_asm) (by k_mem) (by k_asm) ?_)))
local macro_rules | `(tactic| walk_at "call builtin:dict.get") => `(tactic| k_extra "myGet")
theorem get_c {w : World} {mean : ExcName → Option Value} {mg mb : Str → Option Value} {dp un : Nat} {gd : Option (List Code)} {cn : Str} {cs : Scope} {a : Addr} {ccd : Value} {cl : List (Str × Addr)} {outer : List Env} {A₀ : Around} {base h₀ : Heap} {L : Addr} {m : Str → Option Value} {news : List (Addr × Obj)} {s : Shared}
    {Q E : Value → Shared → Prop} {tk e : Addr} {v1 v2 v3 : Value} {o : Obj} {kvs : List (Str × Value)} {nm : Str} {t : Tok}
    (C : Here w mean mg mb 20 200 dp un cs A₀ base outer h₀ L m news s)
    (hT : TokAt w news tk e v1 v2 v3) (he : (e, o) ∈ news) (hD : o.IsDictOf (PySem.strKind PySem.Challenge.rw_dg5004_01.row.prog w) kvs) (hlo : (e == sysModules) = false)
    (ret : ∀ h' tk, Fr h₀ L h' m → News h₀ L h' news → Q ((valueAt kvs nm).getD .none) { s with heap := h', toks := tk }) :
    wpAny (model PySem.Challenge.rw_dg5004_01.row.prog w) (topH none dp un gd cn cs L a ccd cl outer) (call (.ref 56) [.ref tk, .str nm t]) Q E s := by
  obtain ⟨B, F, X, N, T, hk, hd9, hu⟩ := C
  revert X
  k_fill
  intro X
  obtain ⟨dx, mt, k1, k2, k3, k4, k5, hT1, hT2⟩ := hT
  refine wpAny_call ?_
  k_dflt ktr_enter
  k_with_none
  k_with "myGet" => ((rename News _ _ _ _ => lN'); k_dflt (refine' kdg_get2 (knd := PySem.strKind _ _) (k := nm) lN' he hD hlo (isKey nm _) _ rfl ?_))
  k_steps
  exact ret _ _ (by assumption) (by assumption)
end Mine
end PartW6
section PartW7
open PySem PySem.W PyProof.Rows PySem.Calls
namespace Mine
local macro_rules | `(tactic| k_mem) => `(tactic| first | with_reducible assumption | with_reducible exact List.mem_cons_self | (refine List.mem_cons_of_mem _ ?_; k_mem))
local macro_rules | `(tactic| walk_at "setItem ref str") => `(tactic| k_extra "mySet")
local macro_rules | `(tactic| walk_at "compareOp In") => `(tactic| k_extra "myIn")
local macro_rules | `(tactic| walk_at "subscriptTail") => `(tactic| k_extra "myItem")

theorem joinNew_c {w : World} {mean : ExcName → Option Value} {mg mb : Str → Option Value} {dp un : Nat} {gd : Option (List Code)} {cn : Str} {cs : Scope} {a : Addr} {ccd : Value} {cl : List (Str × Addr)} {outer : List Env} {A₀ : Around} {base h₀ : Heap} {L : Addr} {m : Str → Option Value} {news : List (Addr × Obj)} {s : Shared}
    {Q E : Value → Shared → Prop} {tk e : Addr} {v1 v2 v3 : Value} {o : Obj} {kvs : List (Str × Value)} {nm : Str} {t : Tok} {v : Value}
    (C : Here w mean mg mb 20 200 dp un cs A₀ base outer h₀ L m news s)
    (hT : TokAt w news tk e v1 v2 v3) (he : (e, o) ∈ news) (hD : o.IsDictOf (PySem.strKind PySem.Challenge.rw_dg5004_01.row.prog w) kvs) (hlo : (e == sysModules) = false) (hn : kvs.length ≤ 16777216) (hl : valueAt kvs nm = none)
    (ret : ∀ o' h' tk nw, Fr h₀ L h' m → News h₀ L h' nw → (∀ p ∈ news, p.1 ≠ e → p ∈ nw) → (e, o') ∈ nw → o'.IsDictOf (PySem.strKind PySem.Challenge.rw_dg5004_01.row.prog w) (stored kvs nm v) → Q .none { s with heap := h', toks := tk }) :
    wpAny (model PySem.Challenge.rw_dg5004_01.row.prog w) (topH none dp un gd cn cs L a ccd cl outer) (call (.ref 63) [.ref tk, .str nm t, v]) Q E s := by
  obtain ⟨B, F, X, N, T, hk, hd9, hu⟩ := C
  revert X
  k_fill
  intro X
  obtain ⟨dx, mt, k1, k2, k3, k4, k5, hT1, hT2⟩ := hT
  refine wpAny_call ?_
  k_dflt ktr_enter
  k_with_none
  k_with "myIn" => ((rename News _ _ _ _ => lN'); k_dflt (refine' kda_in (knd := PySem.strKind _ _) (k := nm) lN' he hD hlo (isKey nm _) false (by rw [hl]; rfl) ?_))
  k_with "mySet" => ((rename Fr _ _ _ _ => lF'); (rename News _ _ _ _ => lN'); k_dflt (refine setLed lF' lN' (by k_mem) hD hn ?_); intro o9 h9 nw9 F9 N9 hs9 he9 hD9)
  k_steps
  exact ret o9 _ _ nw9 (by assumption) (by assumption) hs9 he9 hD9

theorem joinStr_c {w : World} {mean : ExcName → Option Value} {mg mb : Str → Option Value} {dp un : Nat} {gd : Option (List Code)} {cn : Str} {cs : Scope} {a : Addr} {ccd : Value} {cl : List (Str × Addr)} {outer : List Env} {A₀ : Around} {base h₀ : Heap} {L : Addr} {m : Str → Option Value} {news : List (Addr × Obj)} {s : Shared}
    {Q E : Value → Shared → Prop} {tk e : Addr} {v1 v2 v3 : Value} {o : Obj} {kvs : List (Str × Value)} {nm x y : Str} {t tx ty : Tok}
    (C : Here w mean mg mb 20 200 dp un cs A₀ base outer h₀ L m news s)
    (hT : TokAt w news tk e v1 v2 v3) (he : (e, o) ∈ news) (hD : o.IsDictOf (PySem.strKind PySem.Challenge.rw_dg5004_01.row.prog w) kvs) (hlo : (e == sysModules) = false) (hn : kvs.length ≤ 16777216) (hl : valueAt kvs nm = some (.str x tx))
    (hx : x.length ≤ 100000) (hy : y.length ≤ 100000)
    (ret : ∀ o' h' tk nw t', Fr h₀ L h' m → News h₀ L h' nw → (∀ p ∈ news, p.1 ≠ e → p ∈ nw) → (e, o') ∈ nw → o'.IsDictOf (PySem.strKind PySem.Challenge.rw_dg5004_01.row.prog w) (stored kvs nm (.str (x ++ Str.ofString " " ++ y) t')) → Q .none { s with heap := h', toks := tk }) :
    wpAny (model PySem.Challenge.rw_dg5004_01.row.prog w) (topH none dp un gd cn cs L a ccd cl outer) (call (.ref 63) [.ref tk, .str nm t, .str y ty]) Q E s := by
  obtain ⟨B, F, X, N, T, hk, hd9, hu⟩ := C
  revert X
  k_fill
  intro X
  obtain ⟨dx, mt, k1, k2, k3, k4, k5, hT1, hT2⟩ := hT
  refine wpAny_call ?_
  k_dflt ktr_enter
  k_with_none
  k_with "myIn" => ((rename News _ _ _ _ => lN'); k_dflt (refine' kda_in (knd := PySem.strKind _ _) (k := nm) lN' he hD hlo (isKey nm _) true (by rw [hl]; rfl) ?_))
  k_with "myItem" => ((rename News _ _ _ _ => lN'); k_dflt (refine' kda_item (knd := PySem.strKind _ _) (k := nm) lN' he hD (isKey nm _) hl ?_))
  k_with "mySet" => ((rename Fr _ _ _ _ => lF'); (rename News _ _ _ _ => lN'); k_dflt (refine setLed lF' lN' (by k_mem) hD hn ?_); intro o9 h9 nw9 F9 N9 hs9 he9 hD9)
  k_steps
  rw [Str.empty_append] at hD9
  exact ret o9 _ _ nw9 _ (by assumption) (by assumption) hs9 he9 hD9
end Mine
end PartW7
section PartW8
open PySem PySem.W PyProof.Rows PySem.Calls
namespace Mine

/-- the exception e has no context -/
def Ctx0 (e : Addr) (h : Heap) : Prop := ∃ oe vs, h.get? e = some oe ∧ oe.data = .fields vs ∧ vs[2]? = some .none
theorem Ctx0.keep {e : Addr} {h h' : Heap} (x : Ctx0 e h) (k : ∀ o, h.get? e = some o → h'.get? e = some o) : Ctx0 e h' := let ⟨oe, vs, a, b⟩ := x; ⟨oe, vs, k _ a, b⟩

/-- a tree that leaves it so, whatever is known of it besides -/
def Tame (e : Addr) {α : Type} (t : Sem α) : Prop := ∀ (M : Model) (Γ : Ctx) (Q : α → Pos → Shared → Prop) (E : Value → Pos → Shared → Prop) (p : Pos) (s : Shared), Ctx0 e s.heap → Sem.wp M Γ t Q E p s →
  Sem.wp M Γ t (fun a p' s' => Q a p' s' ∧ Ctx0 e s'.heap) (fun v p' s' => E v p' s' ∧ Ctx0 e s'.heap) p s

theorem Tame.use {e : Addr} {α : Type} {t : Sem α} {M : Model} {A : Around} {Q : α → Shared → Prop} {E : Value → Shared → Prop} {s : Shared} (ht : Tame e t) (c : Ctx0 e s.heap) (h : wpAny M A t Q E s) :
    wpAny M A t (fun a s' => Q a s' ∧ Ctx0 e s'.heap) (fun v s' => E v s' ∧ Ctx0 e s'.heap) s := fun Γ p hΓ => ht M Γ _ _ p s c (h Γ p hΓ)

section
variable {e : Addr} {α β : Type}
theorem Tame.pure (a : α) : Tame e (pure a : Sem α) := fun _ _ _ _ _ _ c h => ⟨h, c⟩
theorem Tame.throw (v : Value) : Tame e (throw v : Sem α) := fun _ _ _ _ _ _ c h => ⟨h, c⟩
theorem Tame.unsupported (x : String) : Tame e (unsupported x : Sem α) := fun _ _ _ _ _ _ _ h => False.elim h
theorem Tame.bind {m : Sem α} {f : α → Sem β} (hm : Tame e m) (hf : ∀ a, Tame e (f a)) : Tame e (m >>= f) := fun M Γ Q E p s c h => by
  rw [Sem.wp_bind'] at h ⊢
  exact Sem.wp_mono M Γ m (fun a p' s' q => hf a M Γ Q E p' s' q.2 q.1) (fun _ _ _ q => q) p s (hm M Γ _ _ p s c h)
theorem Tame.load (a : Addr) : Tame e (load a) := fun _ _ _ _ _ _ c h => let ⟨o, h1, h2⟩ := h; ⟨o, h1, h2, c⟩
theorem Tame.stack : Tame e stack := fun _ _ _ _ _ _ c h => ⟨h, c⟩
theorem Tame.alloc (o : Obj) : Tame e (alloc o) := fun _ _ _ _ _ _ c h => ⟨h, c.keep fun _ q => Heap.get?_push_of_some _ q⟩
theorem Tame.update {a : Addr} {f : Obj → Obj} (hf : ∀ (o : Obj) (vs : Array Value), o.data = .fields vs → vs[2]? = some .none → ∃ vs', (f o).data = .fields vs' ∧ vs'[2]? = some .none) : Tame e (update a f) := fun _ _ _ _ _ s c h => by
  refine ⟨h.1, h.2, ?_⟩
  obtain ⟨oe, vs, h1, h2, h3⟩ := c
  by_cases q : a = e
  · subst q
    obtain ⟨vs', d, x⟩ := hf oe vs h2 h3
    exact ⟨_, vs', Heap.get?_update_self f h1 (Obj.isFreed_of_fields d), d, x⟩
  · exact ⟨oe, vs, (Heap.get?_update_other _ _ q).trans h1, h2, h3⟩
theorem Tame.ite {c : Prop} [Decidable c] {x y : Sem α} (hx : Tame e x) (hy : Tame e y) : Tame e (if c then x else y) := by split <;> assumption

theorem Tame.fieldsOf (v : Value) : Tame e (fieldsOf v) := by
  unfold PySem.fieldsOf
  cases v with
  | ref a =>
    refine Tame.bind (Tame.load a) fun o => ?_
    split
    · exact Tame.pure _
    · exact Tame.unsupported _
  | _ => exact Tame.unsupported _
theorem Tame.field (v : Value) (i : Nat) : Tame e (field v i) := by
  unfold PySem.field
  refine Tame.bind (Tame.fieldsOf v) fun vs => ?_
  split
  · exact Tame.pure _
  · exact Tame.unsupported _
theorem Tame.setField (v : Value) (i : Nat) (x : Value) (hi : i ≠ 2) : Tame e (setField v i x) := by
  unfold PySem.setField
  cases v with
  | ref a =>
    show Tame e (updateField a i x)
    unfold updateField
    refine Tame.bind (Tame.load a) fun o => ?_
    split
    · refine Tame.ite (Tame.update fun o vs hd h2 => ⟨vs.setIfInBounds i x, ?_, ?_⟩) (Tame.unsupported _)
      · exact Obj.data_mapFields hd _
      · rw [Array.getElem?_setIfInBounds_ne hi]; exact h2
    · exact Tame.unsupported _
  | _ => exact Tame.unsupported _
theorem Tame.newFields (ty : String) (vs : List Value) : Tame e (newFields ty vs) := by
  show Tame e (if vs.toArray.size > sizeLine + 2 then PySem.unsupported "record:memory" else newObjAsIs (.type ty) (.fields vs.toArray) none)
  refine Tame.ite (Tame.unsupported _) ?_
  unfold newObjAsIs
  exact Tame.bind (Tame.alloc _) fun _ => Tame.pure _

theorem Tame.frameEnvs : Tame e frameEnvs := Tame.bind Tame.stack fun _ => Tame.pure _
theorem Tame.under : Tame e underTheClaimsCaller := Tame.bind Tame.stack fun _ => Tame.pure _
theorem Tame.keptBack (env : Env) (b : Bool) (outer : List Env) : Tame e (keptBack env b outer) := by
  cases outer with
  | nil =>
    unfold PySem.keptBack
    exact Tame.ite (Tame.pure _) (Tame.bind Tame.under fun _ => Tame.pure _)
  | cons c r => exact Tame.pure _
theorem Tame.behind (env : Env) (outer : List Env) : Tame e (behindIsImport env outer) := by
  unfold behindIsImport
  refine Tame.ite (Tame.pure _) (Tame.ite (Tame.pure _) (Tame.bind (Tame.field _ _) fun _ => Tame.pure _))
theorem Tame.readyFrames : ∀ l : List Env, Tame e (readyFrames l)
  | [] => Tame.pure _
  | env :: outer => by
    unfold PySem.readyFrames
    cases env.frame with
    | none => exact Tame.unsupported _
    | some f =>
      refine Tame.bind (Tame.load f) fun o => Tame.ite (Tame.pure _) (Tame.bind (Tame.behind env outer) fun b => Tame.bind (Tame.keptBack env b outer) fun back => Tame.bind (Tame.update fun o vs hd h2 => ⟨vs, hd, h2⟩) fun _ => Tame.readyFrames outer)
theorem Tame.frameOf (env : Env) : Tame e (frameOf env) := by
  unfold PySem.frameOf
  refine Tame.bind Tame.frameEnvs fun l => Tame.bind ?_ fun o => ?_
  · generalize l.dropWhile _ = l'
    cases l' with
    | nil => exact Tame.pure _
    | cons a r => exact Tame.bind (Tame.readyFrames _) fun _ => Tame.pure _
  · cases o with
    | none => exact Tame.unsupported _
    | some v => exact Tame.pure _
theorem Tame.setFlight (v : Value) (f : Option Addr) : Tame e (setFlight v f) := by
  unfold PySem.setFlight
  exact Tame.bind (Tame.field _ _) fun tb => Tame.ite (Tame.setField _ _ _ (by decide)) (Tame.pure _)
theorem Tame.entryPlaceOf (f : Addr) (b : Bool) : Tame e (entryPlaceOf f b) := by
  unfold PySem.entryPlaceOf
  refine Tame.bind Tame.stack fun acts => ?_
  split
  · exact Tame.pure _
  · exact Tame.pure _
theorem Tame.noteFrame (v : Value) (env : Env) : Tame e (noteFrame v env) := by
  unfold PySem.noteFrame
  cases env.frame with
  | none => exact Tame.unsupported _
  | some f =>
    have rest : ∀ head : Value, Tame e (do PySem.setField v 1 (← EntryCells.newEntry head (← PySem.frameOf env) .none (rawInt f) .none (← PySem.entryPlaceOf f (head != .none)))) := fun head =>
      Tame.bind (Tame.frameOf env) fun fr => Tame.bind (Tame.entryPlaceOf _ _) fun pl => Tame.bind (Tame.newFields _ _) fun x => Tame.setField _ _ _ (by decide)
    refine Tame.bind (Tame.field _ _) fun head => Tame.ite ?_ (rest head)
    exact Tame.bind (Tame.field _ _) fun x => Tame.ite (Tame.pure _) (Tame.bind (Tame.setField _ _ _ (by decide)) fun _ => rest head)
theorem Tame.leaving (env : Env) (v : Value) : Tame e (leaving env v) := Tame.bind (Tame.noteFrame v env) fun _ => Tame.setFlight _ _
end

section
variable {M : Model} {A : Around} {E : Value → Shared → Prop} {s' : Shared} {base g h : Heap} {outer : List Env} {L a e : Addr} {m : Str → Option Value} {name : Str} {scope : Scope} {cd : Value} {Q : Unit → Shared → Prop} {news : List (Addr × Obj)}
/-- a made exception leaves the frame that raised it; it has no context -/
theorem leaveRaiseS {cls : Value} {vs : List Value} (K : Below A base outer g) (hx : Heap.MadeExcOf h s'.heap e cls vs) (F : Fr g L h m) (N : News g L h news)
    (hQ : ∀ h' t, RaisedS base g outer e cls t vs news h' → g.UpToSlots h' → Ctx0 e h' → Q () { s' with heap := h' }) (hk : scope.kind = .function := by rfl) :
    wpAny M (A.deeper (envOf name scope L a cd)) (leaving (envOf name scope L a cd) (.ref e)) Q E s' := by
  have c : Ctx0 e s'.heap := let ⟨_, he, _⟩ := hx.there; ⟨_, _, he, rfl, rfl⟩
  have l : wpAny M (A.deeper (envOf name scope L a cd)) (leaving (envOf name scope L a cd) (.ref e)) (fun _ s₂ => ∃ h' t, s₂ = { s' with heap := h' } ∧ RaisedS base g outer e cls t vs news h' ∧ g.UpToSlots h') (fun _ _ => False) s' :=
    leave_raiseS K hx F N (fun h' t r _ u => ⟨h', t, rfl, r, u⟩) hk
  refine wpAny_mono ((Tame.leaving _ _).use c l) (fun _ s₂ q => ?_) fun _ _ x => x.1.elim
  obtain ⟨⟨h', t, rfl, r, u⟩, c'⟩ := q
  exact hQ h' t r u c'
end

section
variable {prog : Program} {w : World} {A₀ : Around} {E : Value → Shared → Prop} {s' : Shared} {h₀ h : Heap} {outer : List Env} {L a e t : Addr} {m : Str → Option Value} {name : Str} {scope : Scope} {cd : Value}
  {vs : List Value} {b₀ : Stmt} {suite : List Stmt} {pos np : Pos} {rest : List ExceptHandler} {Q : Flow → Shared → Prop} {news : List (Addr × Obj)} {p : Program} {loose : List Str} {mean : ExcName → Option Value} {mg mb : Str → Option Value}
/-- a TypeError without a context, out of a callee, is caught by the «except TypeError» of a frame that is itself called -/
theorem caughtSC {base g g₀ G : Heap} {KF : Frag} (R : RaisedS base G (envOf name scope L a cd :: outer) e (.type "TypeError") t vs news s'.heap) (F : Fr g L G m) (K : Below A₀ base outer g) (hsm : G.UpToSlots s'.heap) (hc : Ctx0 e s'.heap) (XB : KF.In base) (TB : Top p loose mean mg mb base)
    (D : KtsDicts (outer.filterMap (·.frame)) g) (T0 : KtsTurn (outer.filterMap (·.frame)) g₀ g) (ex : nsIn KF mainGlobals (Str.ofString "TypeError") = some none)
    (k : ∀ h' g' oe ws, KtsTurn (outer.filterMap (·.frame)) g₀ g' → Fr g' L h' m → News g' L h' ((e, oe) :: news) → oe.data = .fields ws → ws[2]? = some .none → Below A₀ base outer g' → KF.In g' → Top p loose mean mg mb g' → KtsDicts (outer.filterMap (·.frame)) g' →
      wpAny (model prog w) ((A₀.deeper (envOf name scope L a cd)).mark (some (.ref e))) (execs (b₀ :: suite) (envOf name scope L a cd)) Q E { s' with heap := h' })
    (hk : scope.kind = .function := by rfl) (hx : (envOf name scope L a cd).kindOf (Str.ofString "TypeError") = some .globalImplicit := by rfl)
    (hE : PassesOwnAt (model prog w) ((A₀.deeper (envOf name scope L a cd)).mark (some (.ref e))) (A₀.deeper (envOf name scope L a cd)) (envOf name scope L a cd) E := by passes_own) :
    wpAny (model prog w) (A₀.deeper (envOf name scope L a cd)) (noteFrame (.ref e) (envOf name scope L a cd))
      (fun _ s₂ => wpAny (model prog w) (A₀.deeper (envOf name scope L a cd)) (setFlight (.ref e) none) (fun _ s₃ =>
        wpAny (model prog w) (A₀.deeper (envOf name scope L a cd)) (handleBy (.ref e) (envOf name scope L a cd) (.ExceptHandler (some (.Name (Str.ofString "TypeError") np)) none (b₀ :: suite) pos :: rest)) Q E s₃) E s₂) E s' := by
  obtain ⟨⟨B, hB, hBG, hl, hfl, hnew⟩, htup⟩ := R
  have hL : B.get? L = none := by
    obtain ⟨_, ⟨L', _, hf, hn', _⟩, _⟩ := hfl.2.2.1
    obtain rfl : L = L' := Option.some.inj hf
    exact hn'
  have s1 : wpAny (model prog w) (A₀.deeper (envOf name scope L a cd)) (noteFrame (.ref e) (envOf name scope L a cd)) (fun _ s₂ => ∃ h₁, s₂ = { s' with heap := h₁ } ∧ Heap.HeldW B (envOf name scope L a cd :: outer) e (.type "TypeError") (.ref t) L h₁ ∧ s'.heap.UpToSlots h₁) (fun _ _ => False) s' :=
    wpAny_looks_onW (Around.frames_deeper K.stack) rfl hfl fun h₁ x y => ⟨h₁, rfl, x, y⟩
  refine wpAny_mono ((Tame.noteFrame _ _).use hc s1) (fun _ s₂ q => ?_) fun _ _ x => x.1.elim
  obtain ⟨⟨h₁, rfl, held, sm₁⟩, c₁⟩ := q
  have s2 : wpAny (model prog w) (A₀.deeper (envOf name scope L a cd)) (setFlight (.ref e) none) (fun _ s₃ => ∃ h₂, s₃ = { s' with heap := h₂ } ∧ Heap.FlyingW B (envOf name scope L a cd :: outer) e (.type "TypeError") (.ref t) h₂ ∧ h₁.UpToSlots h₂) (fun _ _ => False) { s' with heap := h₁ } :=
    wpAny_landsW held fun h₂ x y => ⟨h₂, rfl, x, y⟩
  refine wpAny_mono ((Tame.setFlight _ _).use c₁ s2) (fun _ s₃ q => ?_) fun _ _ x => x.1.elim
  obtain ⟨⟨h₂, rfl, fly, sm₂⟩, c₂⟩ := q
  have sm₃ := hsm.trans (sm₁.trans sm₂)
  obtain ⟨g₂, T₂, F₂, K₂⟩ := kts_ground K F hBG fly.1 sm₃
  obtain ⟨ob, hob, hobc⟩ := fly.there
  refine wpAny_handleBy_builtin (X := "TypeError") (T := "TypeError") (b := true) PySem.F.isExc_TypeError PySem.F.notTuple_TypeError (by rw [isSubtype_type]; kernel_rfl)
    (name_B F₂ (XB.keeps K₂.stays) (topRead_of (TB.keeps K₂.stays)) ex PyProof.Rows.Boot.«TypeError» (by decide) ⟨rfl, ⟨ob, hob, hobc⟩, ?_⟩ hk hx (by decide))
  have s3 : wpAny (model prog w) ((A₀.deeper (envOf name scope L a cd)).mark (some (.ref e))) (setFlight (.ref e) none) (fun _ s₄ => ∃ h₃, s₄ = { s' with heap := h₃ } ∧ Heap.FlyingW B (envOf name scope L a cd :: outer) e (.type "TypeError") (.ref t) h₃ ∧ h₂.UpToSlots h₃) (fun _ _ => False) { s' with heap := h₂ } :=
    lands_againW fly fun h₃ x y => ⟨h₃, rfl, x, y⟩
  refine wpAny_mono ((Tame.setFlight _ _).use c₂ s3) (fun _ s₄ q => ?_) fun _ _ x => x.1.elim
  obtain ⟨⟨h₃, rfl, fly₃, sm₄⟩, oe, ws, hoe, hdo, h2c⟩ := q
  obtain ⟨g₃, T₃, F₃, K₃⟩ := kts_ground K F hBG fly₃.1 (sm₃.trans sm₄)
  have ne : g₃.get? e = none := T₃.none_ _ (kts_fresh F hBG fly₃.2.1 fun o ho hm => by
    obtain ⟨_, o', ho', hd⟩ := K.frames.mem hm
    rw [ho] at ho'
    cases ho'
    obtain ⟨sl, hs⟩ := (sm₃.trans sm₄) _ _ (F.keep _ _ ho) hd
    rw [hoe] at hs
    cases hs
    exact hd _ hdo)
  have Ne := News.more F₃ News.nil hoe (fun es n q => by rw [hdo] at q; cases q) ne
  refine wpAny_passesOwnAt hE (k h₃ g₃ oe ws (T0.trans T₃) F₃ (fun q hq => ?_) hdo h2c K₃ (XB.keeps K₃.stays) (TB.keeps K₃.stays) (D.turn T₃))
  rcases List.mem_cons.mp hq with rfl | hq
  · exact Ne _ (.head _)
  · exact ⟨fly₃.1 _ _ (hl q hq).1, (fun z => by have := (hl q hq).1; rw [z, hL] at this; cases this), T₃.none_ _ (kts_none F.keep (hl q hq).2.1)⟩
end

local macro_rules | `(tactic| k_mem) => `(tactic| first | with_reducible assumption | with_reducible exact List.mem_cons_self | (refine List.mem_cons_of_mem _ ?_; k_mem))
local macro_rules | `(tactic| walk_at "compareOp In") => `(tactic| k_extra "myIn")
local macro_rules | `(tactic| walk_at "subscriptTail") => `(tactic| k_extra "myItem")
local macro_rules | `(tactic| walk_at "leaving ref") => `(tactic| k_extra "myLeave")
theorem joinRaise_c {w : World} {mean : ExcName → Option Value} {mg mb : Str → Option Value} {dp un : Nat} {gd : Option (List Code)} {cn : Str} {cs : Scope} {a : Addr} {ccd : Value} {cl : List (Str × Addr)} {outer : List Env} {A₀ : Around} {base h₀ : Heap} {L : Addr} {m : Str → Option Value} {news : List (Addr × Obj)} {s : Shared}
    {Q E : Value → Shared → Prop} {tk e : Addr} {v1 v2 v3 : Value} {o : Obj} {kvs : List (Str × Value)} {nm y : Str} {i : Int} {t tx ty : Tok}
    (C : Here w mean mg mb 20 200 dp un cs A₀ base outer h₀ L m news s)
    (hT : TokAt w news tk e v1 v2 v3) (he : (e, o) ∈ news) (hD : o.IsDictOf (PySem.strKind PySem.Challenge.rw_dg5004_01.row.prog w) kvs) (hlo : (e == sysModules) = false) (hl : valueAt kvs nm = some (.int i tx))
    (hi : i.natAbs < 1000)
    (hE : ∀ g x t vs h' tk, Fr h₀ L g m → RaisedS base g (envX cn cs L a ccd cl :: outer) x (.type "TypeError") t vs news h' → g.UpToSlots h' → Ctx0 x h' → E (.ref x) { s with heap := h', toks := tk }) :
    wpAny (model PySem.Challenge.rw_dg5004_01.row.prog w) (topH none dp un gd cn cs L a ccd cl outer) (call (.ref 63) [.ref tk, .str nm t, .str y ty]) Q E s := by
  obtain ⟨B, F, X, N, T, hk, hd9, hu⟩ := C
  revert X
  k_fill
  intro X
  obtain ⟨dx, mt, k1, k2, k3, k4, k5, hT1, hT2⟩ := hT
  refine wpAny_call ?_
  k_dflt ktr_enter
  k_with_none
  k_with "myIn" => ((rename News _ _ _ _ => lN'); k_dflt (refine' kda_in (knd := PySem.strKind _ _) (k := nm) lN' he hD hlo (isKey nm _) true (by rw [hl]; rfl) ?_))
  k_with "myItem" => ((rename News _ _ _ _ => lN'); k_dflt (refine' kda_item (knd := PySem.strKind _ _) (k := nm) lN' he hD (isKey nm _) hl ?_))
  k_with "myLeave" => (k_dflt (refine' leaveRaiseS ?k1 (Heap.MadeExc.of (by assumption)) ?k2 ?k3 ?_; (case k1 => assumption); (case k2 => assumption); (case k3 => k_asm)); intro h9 t9 R9 U9 c9)
  k_steps
  exact hE _ _ t9 _ h9 _ (by assumption) R9 U9 c9
end Mine
end PartW8
section PartW9
open PySem PySem.W PyProof.Rows PySem.Calls
namespace Mine
section
variable {prog : Program} {w : World} {A : Around} {E : Value → Shared → Prop} {s : Shared} {env : Env} {h₀ : Heap} {x : Str} {body : List Stmt} {Q : Flow → Shared → Prop}
/-- a for over a text's signs whose turns store one name more; the ledger stands -/
theorem iterSigns {xt : Str} {tx : Tok} {m₀ : Str → Option Value} {news : List (Addr × Obj)} (y : Str) (a₀ : Value) (P : Nat → Value → Prop)
    (hh : A.handled = none) (F : Fr h₀ env.locals s.heap m₀) (N : News h₀ env.locals s.heap news) (hy : m₀ y = some a₀) (hyx : y ≠ x) (hj : P 0 a₀)
    (turn : ∀ i c u a h tk own, xt.cps[i]? = some c → P i a → Fr h₀ env.locals h (fun z => if z = x then some (.str ⟨#[c]⟩ u) else if z = y then some a else m₀ z) → News h₀ env.locals h (own ++ news) →
      wpAny (model prog w) A (execs body env) (InvPost h₀ env.locals (fun m' => (∃ a', m' y = some a' ∧ P (i + 1) a') ∧ ∀ z, z ≠ x → z ≠ y → m' z = m₀ z) (own ++ news) { s with heap := h, toks := tk } Q) E { s with heap := h, toks := tk })
    (done : ∀ (u : Str → Option Value) a h tk, P xt.cps.size a → Fr h₀ env.locals h (fun z => if z = x then u z else if z = y then some a else m₀ z) → News h₀ env.locals h news → Q .next { s with heap := h, toks := tk }) :
    wpAny (model prog w) A (pyIter (.str xt tx)) (fun it s₂ => LoopAtV prog w A h₀ env x body Q E it s₂) E s := by
  refine wpAny_pyIter_str fun o St hW hst => ?_
  have off : ∀ p ∈ news, p.1 ∉ [s.heap.objs.size] := fun p hp hI => by
    have e := List.mem_singleton.mp hI
    exact absurd (Heap.lt_size (N p hp).1) (by rw [e]; exact Nat.lt_irrefl _)
  refine ⟨_, _, _, _, _, _, m₀, news, (fun i m₁ n₁ => n₁ = news ∧ (∃ a, m₁ y = some a ∧ P i a) ∧ ∀ z, z ≠ x → z ≠ y → m₁ z = m₀ z), rfl, hW A hh, ?_, ?_, off, hst, F.push _,
    (fun p hp => ⟨Heap.get?_push_of_some _ (N p hp).1, (N p hp).2⟩), ⟨rfl, ⟨a₀, hy, hj⟩, fun _ _ _ => rfl⟩, ?_, ?_⟩
  · intro hm
    exact absurd F.ns.lt (by rw [List.mem_singleton.mp hm]; exact Nat.lt_irrefl _)
  · intro b hb
    rw [List.mem_singleton.mp hb]
    exact next_is_new F
  · rintro i v m₁ news₁ s₁ own ⟨hh', tk', rfl⟩ hin ⟨c, u, hc, rfl⟩ ⟨rfl, ⟨a, ha, hp⟩, hm⟩ hoff _ _ _ _ F₁ N₁
    have e : (fun z => if z = x then some (Value.str ⟨#[c]⟩ u) else m₁ z) = fun z => if z = x then some (Value.str ⟨#[c]⟩ u) else if z = y then some a else m₀ z := by
      funext z
      by_cases h1 : z = x
      · simp [h1]
      · simp only [if_neg h1]
        by_cases h2 : z = y
        · subst h2; simp [ha]
        · simp only [if_neg h2]; exact hm z h1 h2
    rw [e] at F₁
    refine wpAny_mono (turn i c u a hh' tk' own hc hp F₁ N₁) (fun f s₂ p => ?_) fun _ _ e => e
    have fin : InvEnd h₀ env.locals (fun m' => (∃ a', m' y = some a' ∧ P (i + 1) a') ∧ ∀ z, z ≠ x → z ≠ y → m' z = m₀ z) (own ++ news₁) { s with heap := hh', toks := tk' } s₂ →
        LoopStepU h₀ env.locals [s.heap.objs.size] own (fun m₁ n₁ => n₁ = news₁ ∧ (∃ a, m₁ y = some a ∧ P (i + 1) a) ∧ ∀ z, z ≠ x → z ≠ y → m₁ z = m₀ z) { s with heap := hh', toks := tk' } .next s₂ := by
      rintro ⟨h', tk, m', news', e, F', N', hn, hm⟩
      exact ⟨rfl, h', tk, m', news₁, e, F', fun p hp => N' p (hn p hp), hoff, rfl, hm⟩
    cases f with
    | ret v => exact .ret p
    | brk => exact .brk p
    | next => exact .next (fin p)
    | cont => exact .cont (fin p)
  · rintro h' tk m' news' F' N' _ ⟨rfl, ⟨a, ha, hp⟩, hm⟩
    have e : (fun z => if z = x then m' z else if z = y then some a else m₀ z) = m' := by
      funext z
      by_cases h1 : z = x
      · simp [h1]
      · simp only [if_neg h1]
        by_cases h2 : z = y
        · subst h2; simp [ha]
        · simp only [if_neg h2]; exact (hm z h1 h2).symm
    exact done m' a h' tk hp (by rw [e]; exact F') N'
end

def escCp (c : Nat) : List Nat := if c = 38 then [38, 97, 109, 112, 59] else if c = 60 then [38, 108, 116, 59] else if c = 62 then [38, 103, 116, 59] else if c = 34 then [38, 113, 117, 111, 116, 59] else [c]
def esc (x : Str) : Str := ⟨(x.cps.toList.flatMap escCp).toArray⟩
theorem escCp_len (c : Nat) : (escCp c).length ≤ 6 := by unfold escCp; (repeat' split) <;> simp
theorem flat_len (l : List Nat) : (l.flatMap escCp).length ≤ 6 * l.length := by
  induction l with
  | nil => simp
  | cons c r ih => rw [List.flatMap_cons, List.length_append, List.length_cons]; have := escCp_len c; omega
theorem esc_len (x : Str) : (esc x).length ≤ 6 * x.length := by
  have := flat_len x.cps.toList
  simpa [esc, Str.length] using this
/-- the first i signs, told as HTML has them -/
def escTo (x : Str) (i : Nat) : Str := ⟨((x.cps.toList.take i).flatMap escCp).toArray⟩
theorem escTo_zero (x : Str) : escTo x 0 = Str.empty := rfl
theorem escTo_all (x : Str) : escTo x x.cps.size = esc x := by unfold escTo esc; rw [List.take_of_length_le (by simp)]
theorem escTo_len (x : Str) (i : Nat) : (escTo x i).length ≤ 6 * x.length := by
  have h1 := flat_len (x.cps.toList.take i)
  have h2 : (x.cps.toList.take i).length ≤ x.cps.toList.length := by rw [List.length_take]; exact Nat.min_le_right _ _
  have h3 : x.cps.toList.length = x.length := by simp [Str.length]
  have h4 : (escTo x i).length = ((x.cps.toList.take i).flatMap escCp).length := by simp [escTo, Str.length]
  omega
theorem escTo_succ {x : Str} {i c : Nat} (h : x.cps[i]? = some c) {y : Str} (hy : y.cps.toList = escCp c) : escTo x i ++ y = escTo x (i + 1) := by
  refine Str.ext' (Array.toList_inj.mp ?_)
  rw [Str.cps_append, Array.toList_append, hy]
  have hl : x.cps.toList[i]? = some c := by simpa using h
  simp [escTo, List.take_add_one, hl]

theorem sgn (c k : Nat) : ((⟨#[c]⟩ : Str) == ⟨#[k]⟩) = decide (c = k) := by
  by_cases h : c = k
  · subst h; simp
  · have : ¬ ((⟨#[c]⟩ : Str) = ⟨#[k]⟩) := fun e => h (by injection e with e; simpa using e)
    rw [decide_eq_false h]; exact beq_eq_false_iff_ne.mpr this
theorem s38 : Str.ofString "&" = ⟨#[38]⟩ := by decide +kernel
theorem s60 : Str.ofString "<" = ⟨#[60]⟩ := by decide +kernel
theorem s62 : Str.ofString ">" = ⟨#[62]⟩ := by decide +kernel
theorem s34 : Str.ofString "\"" = ⟨#[34]⟩ := by decide +kernel
section
variable {c : Nat}
theorem escA (h : ((⟨#[c]⟩ : Str) == Str.ofString "&") = true) : (Str.ofString "&amp;").cps.toList = escCp c := by
  rw [s38, sgn] at h
  rw [of_decide_eq_true h]
  decide +kernel
theorem escB (_ : ((⟨#[c]⟩ : Str) == Str.ofString "&") = false) (h : ((⟨#[c]⟩ : Str) == Str.ofString "<") = true) : (Str.ofString "&lt;").cps.toList = escCp c := by
  rw [s60, sgn] at h
  rw [of_decide_eq_true h]
  decide +kernel
theorem escC (_ : ((⟨#[c]⟩ : Str) == Str.ofString "<") = false) (h : ((⟨#[c]⟩ : Str) == Str.ofString ">") = true) : (Str.ofString "&gt;").cps.toList = escCp c := by
  rw [s62, sgn] at h
  rw [of_decide_eq_true h]
  decide +kernel
theorem escD (_ : ((⟨#[c]⟩ : Str) == Str.ofString ">") = false) (h : ((⟨#[c]⟩ : Str) == Str.ofString "\"") = true) : (Str.ofString "&quot;").cps.toList = escCp c := by
  rw [s34, sgn] at h
  rw [of_decide_eq_true h]
  decide +kernel
theorem escE (h1 : ((⟨#[c]⟩ : Str) == Str.ofString "&") = false) (h2 : ((⟨#[c]⟩ : Str) == Str.ofString "<") = false) (h3 : ((⟨#[c]⟩ : Str) == Str.ofString ">") = false) (h4 : ((⟨#[c]⟩ : Str) == Str.ofString "\"") = false) : (⟨#[c]⟩ : Str).cps.toList = escCp c := by
  rw [s38, sgn] at h1
  rw [s60, sgn] at h2
  rw [s62, sgn] at h3
  rw [s34, sgn] at h4
  simp only [decide_eq_false_iff_not] at h1 h2 h3 h4
  simp [escCp, h1, h2, h3, h4]
end
local macro_rules | `(tactic| walk_at "InvEnd") => `(tactic| k_extra "myEnd")
local macro_rules | `(tactic| walk_at "exec For Name Name cons nil") => `(tactic| k_extra "myFor")
theorem sizeAmp : (Str.ofString "&amp;").length = 5 := by decide +kernel
theorem sizeLt : (Str.ofString "&lt;").length = 4 := by decide +kernel
theorem sizeGt : (Str.ofString "&gt;").length = 4 := by decide +kernel
theorem sizeQuo : (Str.ofString "&quot;").length = 6 := by decide +kernel
theorem sizeSign (c : Nat) : (⟨#[c]⟩ : Str).length = 1 := rfl
local macro_rules | `(tactic| walk_at "binaryOp Add str str") => `(tactic| ((refine PyProof.Rows.add_str (hsz := ?hsz) ?_); (case hsz => ((simp only [sizeAmp, sizeLt, sizeGt, sizeQuo, sizeSign, sizeLine_eq]); omega)); intro _ _))
local macro_rules | `(tactic| walk_at "pyIter str") => `(tactic| k_extra "myIter")
theorem plain_c {w : World} {mean : ExcName → Option Value} {mg mb : Str → Option Value} {dp un : Nat} {gd : Option (List Code)} {cn : Str} {cs : Scope} {a : Addr} {ccd : Value} {cl : List (Str × Addr)} {outer : List Env} {A₀ : Around} {base h₀ : Heap} {L : Addr} {m : Str → Option Value} {news : List (Addr × Obj)} {s : Shared}
    {Q E : Value → Shared → Prop} {xt : Str} {tx : Tok}
    (C : Here w mean mg mb 20 200 dp un cs A₀ base outer h₀ L m news s) (hx : xt.length ≤ 100000)
    (ret : ∀ h' tk t, Fr h₀ L h' m → News h₀ L h' news → Q (.str (esc xt) t) { s with heap := h', toks := tk }) :
    wpAny (model PySem.Challenge.rw_dg5004_01.row.prog w) (topH none dp un gd cn cs L a ccd cl outer) (call (.ref 222) [.str xt tx]) Q E s := by
  obtain ⟨B, F, X, N, T, hk, hd9, hu⟩ := C
  revert X
  k_fill
  intro X
  refine wpAny_call ?_
  k_dflt ktr_enter
  k_with_none
  k_with "myFor" => (k_here; (rename Fr _ _ _ _ => lF'); (with_unfolding_all refine' For_invVF lF' ?k1 ?k2 ?_; (case k1 => exact rfl); (case k2 => exact rfl); k_whole))
  k_with "myIter" => ((rename Fr _ _ _ _ => lF'); (rename News _ _ _ _ => lN'); (with_unfolding_all refine' iterSigns (Str.ofString "out") _ (fun i a => ∃ acc t, a = Value.str acc t ∧ acc = escTo xt i) ?k1 lF' lN' ?k2 ?k3 ?k4 ?_ ?_; (case k1 => exact rfl); (case k2 => exact rfl); (case k3 => decide); (case k4 => exact ⟨_, _, rfl, rfl⟩); k_whole); focus (intro i c9 u9 a9 h9 tk9 own9 hc9 hp9 F9 N9; obtain ⟨acc, t9, rfl, hacc⟩ := hp9; have hl9 : acc.length ≤ 600000 := (by rw [hacc]; exact Nat.le_trans (escTo_len xt i) (by omega))))
  k_with "myEnd" => (k_dflt (refine InvEnd.intro (by assumption) (by assumption) (fun _ h => h) ⟨⟨_, if_pos rfl, _, _, rfl, (by rw [hacc]; exact escTo_succ hc9 (by first | exact escA (by assumption) | exact escB (by assumption) (by assumption) | exact escC (by assumption) (by assumption) | exact escD (by assumption) (by assumption) | exact escE (by assumption) (by assumption) (by assumption) (by assumption)))⟩, fun z h1 h2 => (if_neg h2).trans ((if_neg h1).trans (if_neg h2))⟩))
  k_steps
  rename (∃ acc t, _ = Value.str acc t ∧ acc = _) => hp
  obtain ⟨acc, t, rfl, rfl⟩ := hp
  rw [escTo_all]
  exact ret _ _ _ (by assumption) (by assumption)
end Mine
end PartW9
section PartW10
open PySem PySem.W PyProof.Rows PySem.Calls
namespace Mine
open PySem.Builtin PySem.Builtin.Str in
theorem replaceT {prog : Program} {w : World} {A : Around} {E : Value → Shared → Prop} {s : Shared} {x y z : Str} {t u v : Tok} {Q : Value → Shared → Prop} (hu : @Ne Nat u 0) (hv : @Ne Nat v 0) (huv : @Ne Nat u v) (hyz : (y == z) = false) (hb : x.length + (x.length + 1) * z.length ≤ 16777216)
    (hq : ∀ t' k, s.toks ≤ k → Q (.str (Txt.replace x y z) t') { s with toks := k }) : wpAny (model prog w) A (call (.builtin "str.replace") [.str x t, .str y u, .str z v]) Q E s := by
  have hl : tooLong (x.length + (occurrences x y 0 x.length (x.length + 1)).length * z.length) = false := by
    have h1 := StrLaws.occ_length_le x y 0 x.length (x.length + 1)
    have h2 := Nat.mul_le_mul_right z.length h1
    unfold tooLong
    rw [sizeLine_eq]
    exact decide_eq_false (by omega)
  refine call_gives F.slot_str_replace (typeIs_str _ _ _) F.entry_str_replace (F.args_str_replace_3 _ _ _) (gives_str_replace x y z t u v fun _ => ⟨by simp [show u ≠ 0 from hu, show v ≠ 0 from hv], by simp [show u ≠ v from huv], hyz, hl⟩) ?_
  unfold Txt.replace at hq
  by_cases hc : ((occurrences x y 0 x.length (x.length + 1)).isEmpty || (y.length == 0 && z.length == 0)) = true
  · rw [if_pos hc] at hq ⊢
    exact hq t s.toks (Nat.le_refl _)
  · rw [if_neg hc] at hq ⊢
    exact ⟨fits_replaced y hb, hq _ _ (Nat.le_succ _)⟩

/-- one sign told by others, over a list of codes -/
def swap (c : Nat) (z : List Nat) (k : Nat) : List Nat := if k = c then z else [k]
theorem swap_free (c : Nat) (z : List Nat) : ∀ l : List Nat, c ∉ l → l.flatMap (swap c z) = l
  | [], _ => rfl
  | k :: r, h => by
    rw [List.flatMap_cons, swap_free c z r fun m => h (List.mem_cons_of_mem _ m), swap, if_neg (fun e => h (by rw [e]; exact List.mem_cons_self))]
    rfl
theorem swap_join (c : Nat) (z : Str) : ∀ parts : List Str, (∀ p ∈ parts, c ∉ p.cps.toList) → (Str.join ⟨#[c]⟩ parts).cps.toList.flatMap (swap c z.cps.toList) = (Str.join z parts).cps.toList
  | [], _ => rfl
  | [p], h => swap_free c _ _ (h p (List.mem_singleton.mpr rfl))
  | p :: q :: r, h => by
    have ih := swap_join c z (q :: r) fun a ha => h a (List.mem_cons_of_mem _ ha)
    show (p ++ ⟨#[c]⟩ ++ Str.join ⟨#[c]⟩ (q :: r)).cps.toList.flatMap _ = (p ++ z ++ Str.join z (q :: r)).cps.toList
    simp only [Str.cps_append, Array.toList_append, List.flatMap_append]
    rw [ih, swap_free c _ _ (h p List.mem_cons_self)]
    simp [swap]
theorem replace_swap (x z : Str) (c : Nat) : (Txt.replace x ⟨#[c]⟩ z).cps.toList = x.cps.toList.flatMap (swap c z.cps.toList) := by
  rw [StrLaws.replace_one, ← swap_join c z _ (StrLaws.split_free x c), StrLaws.join_split]
theorem swap_len {c : Nat} {z : List Nat} (hz : z.length ≤ 6) (l : List Nat) : (l.flatMap (swap c z)).length ≤ 6 * l.length := by
  induction l with
  | nil => simp
  | cons k r ih =>
    rw [List.flatMap_cons, List.length_append, List.length_cons]
    have : (swap c z k).length ≤ 6 := by unfold swap; split <;> simp_all
    omega
theorem replace_len (x z : Str) (c : Nat) (hz : z.length ≤ 6) : (Txt.replace x ⟨#[c]⟩ z).length ≤ 6 * x.length := by
  have h := swap_len (c := c) (z := z.cps.toList) (by simpa [Str.length] using hz) x.cps.toList
  rw [← replace_swap] at h
  simpa [Str.length] using h

theorem leN {a b : Nat} (h : @LE.le Nat _ a b) : @LE.le Nat _ a b := h
theorem zAmp : (Str.ofString "&amp;").cps.toList = [38, 97, 109, 112, 59] := by decide +kernel
theorem zLt : (Str.ofString "&lt;").cps.toList = [38, 108, 116, 59] := by decide +kernel
theorem zGt : (Str.ofString "&gt;").cps.toList = [38, 103, 116, 59] := by decide +kernel
theorem zQuot : (Str.ofString "&quot;").cps.toList = [38, 113, 117, 111, 116, 59] := by decide +kernel
theorem lAmp : (Str.ofString "&amp;").length = 5 := by decide +kernel
theorem lLt : (Str.ofString "&lt;").length = 4 := by decide +kernel
theorem lGt : (Str.ofString "&gt;").length = 4 := by decide +kernel
theorem lQuot : (Str.ofString "&quot;").length = 6 := by decide +kernel

abbrev r1 (x : Str) : Str := Txt.replace x (Str.ofString "&") (Str.ofString "&amp;")
abbrev r2 (x : Str) : Str := Txt.replace (r1 x) (Str.ofString "<") (Str.ofString "&lt;")
abbrev r3 (x : Str) : Str := Txt.replace (r2 x) (Str.ofString ">") (Str.ofString "&gt;")
abbrev r4 (x : Str) : Str := Txt.replace (r3 x) (Str.ofString "\"") (Str.ofString "&quot;")
theorem r1_len (x : Str) : (r1 x).length ≤ 6 * x.length := by rw [r1, s38]; exact replace_len _ _ _ (by rw [lAmp]; decide)
theorem r2_len (x : Str) : (r2 x).length ≤ 36 * x.length := by have h := r1_len x; rw [r2, s60]; have := replace_len (r1 x) (Str.ofString "&lt;") 60 (by rw [lLt]; decide); omega
theorem r3_len (x : Str) : (r3 x).length ≤ 216 * x.length := by have h := r2_len x; rw [r3, s62]; have := replace_len (r2 x) (Str.ofString "&gt;") 62 (by rw [lGt]; decide); omega
theorem r4_esc (x : Str) : r4 x = esc x := by
  refine Str.ext' (Array.toList_inj.mp ?_)
  rw [r4, r3, r2, r1, s34, s62, s60, s38, replace_swap, replace_swap, replace_swap, replace_swap, zAmp, zLt, zGt, zQuot, List.flatMap_assoc, List.flatMap_assoc, List.flatMap_assoc]
  show _ = (x.cps.toList.flatMap escCp).toArray.toList
  rw [List.toList_toArray]
  congr 1
  funext c
  by_cases h1 : c = 38
  · subst h1; decide
  by_cases h2 : c = 60
  · subst h2; decide
  by_cases h3 : c = 62
  · subst h3; decide
  by_cases h4 : c = 34
  · subst h4; decide
  simp [swap, escCp, h1, h2, h3, h4]

local macro_rules | `(tactic| walk_at "execs cons") => `(tactic| ((with_reducible refine wpAny_execs_cons ?_); (try dsimp only)))
local macro_rules | `(tactic| walk_at "call builtin:str.replace") => `(tactic| k_extra "myRep")
theorem escape_c {w : World} {mean : ExcName → Option Value} {mg mb : Str → Option Value} {dp un : Nat} {gd : Option (List Code)} {cn : Str} {cs : Scope} {a : Addr} {ccd : Value} {cl : List (Str × Addr)} {outer : List Env} {A₀ : Around} {base h₀ : Heap} {L : Addr} {m : Str → Option Value} {news : List (Addr × Obj)} {s : Shared}
    {Q E : Value → Shared → Prop} {xt : Str} {tx : Tok}
    (C : Here w mean mg mb 20 200 dp un cs A₀ base outer h₀ L m news s) (hx : xt.length ≤ 5000)
    (ret : ∀ h' tk t, Fr h₀ L h' m → News h₀ L h' news → Q (.str (esc xt) t) { s with heap := h', toks := tk }) :
    wpAny (model PySem.Challenge.rw_dg5004_01.row.prog w) (topH none dp un gd cn cs L a ccd cl outer) (call (.ref 84) [.str xt tx]) Q E s := by
  obtain ⟨B, F, X, N, T, hk, hd9, hu⟩ := C
  have l1 := r1_len xt
  have l2 := r2_len xt
  have l3 := r3_len xt
  dsimp only [r1, r2, r3] at l1 l2 l3
  rw [← r4_esc] at ret
  revert X
  k_fill
  intro X
  refine wpAny_call ?_
  k_dflt ktr_enter
  show wpAny _ _ _ _ _ { heap := _, gens := s.gens, drawn := s.drawn, toks := s.toks + 1, os := s.os }
  k_with_none
  k_with "myRep" => (k_dflt (refine' replaceT ?k1 ?k2 ?k3 ?k4 ?k5 ?_; (case k1 => ((try dsimp only); omega)); (case k2 => ((try dsimp only); omega)); (case k3 => ((try dsimp only); omega)); (case k4 => decide +kernel); (case k5 => (first | rw [lAmp] | rw [lLt] | rw [lGt] | rw [lQuot]); omega)); intro t9 k9 hk9; (try dsimp only at hk9); (replace hk9 := leN hk9))
  k_steps
  exact ret _ _ _ (by assumption) (by assumption)
end Mine
end PartW10
section PartW11
open PySem PySem.W PyProof.Rows PySem.Calls
namespace Mine
def pvText : PV → Str
  | .int i => Str.ofString (toString i)
  | .str x => x
def rowOnto (acc : Str) (it : Str × PV) : Str := acc ++ Str.ofString " " ++ esc it.1 ++ Str.ofString "=\"" ++ esc (pvText it.2) ++ Str.ofString "\""
def page (its : List (Str × PV)) : Str := its.foldl rowOnto Str.empty
structure SmallIt (it : Str × PV) : Prop where
  name : it.1.length ≤ 100
  text : (pvText it.2).length ≤ 1000
  int : ∀ i, it.2 = .int i → i.natAbs < 1000
theorem lBlank : (Str.ofString " ").length = 1 := by decide +kernel
theorem lEq : (Str.ofString "=\"").length = 2 := by decide +kernel
theorem lQ : (Str.ofString "\"").length = 1 := by decide +kernel
theorem rowOnto_len (acc : Str) (it : Str × PV) (h : SmallIt it) : (rowOnto acc it).length ≤ acc.length + 7000 := by
  unfold rowOnto
  simp only [Str.length_append, lBlank, lEq, lQ]
  have h1 := esc_len it.1
  have h2 := esc_len (pvText it.2)
  have h3 := h.name
  have h4 := h.text
  omega
theorem page_len : ∀ (its : List (Str × PV)) (acc : Str), (∀ it ∈ its, SmallIt it) → (its.foldl rowOnto acc).length ≤ acc.length + 7000 * its.length
  | [], acc, _ => by simp
  | it :: r, acc, h => by
    have h1 := page_len r (rowOnto acc it) fun x hx => h x (.tail _ hx)
    have h2 := rowOnto_len acc it (h it (.head _))
    rw [List.foldl_cons, List.length_cons]
    omega

theorem log2_small {n : Nat} (h : n < 1000) : n.log2 < 1920 := Nat.lt_of_le_of_lt (Nat.log2_le_self n) (by omega)
theorem page_snoc {its : List (Str × PV)} {i : Nat} {it : Str × PV} (h : its[i]? = some it) : rowOnto (page (its.take i)) it = page (its.take (i + 1)) := by
  unfold page
  rw [List.take_add_one, h]
  simp [List.foldl_append]
theorem page_all (its : List (Str × PV)) : page (its.take its.length) = page its := by rw [List.take_length]

local macro_rules | `(tactic| k_mem) => `(tactic| first | with_reducible assumption | with_reducible exact List.mem_cons_self | (refine List.mem_cons_of_mem _ ?_; k_mem))
local macro_rules | `(tactic| walk_at "exec For Name Name cons nil") => `(tactic| k_extra "myFor")
local macro_rules | `(tactic| walk_at "pyIter ref") => `(tactic| k_extra "myIter")
local macro_rules | `(tactic| walk_at "call ref") => `(tactic| k_extra "myCall")
local macro_rules | `(tactic| walk_at "binaryOp Add str str") => `(tactic| ((refine PyProof.Rows.add_str (hsz := ?hsz) ?_); (case hsz => ((simp only [Str.length_append, lBlank, lEq, lQ, sizeLine_eq]); omega)); intro _ _))
local macro_rules | `(tactic| walk_at "call type:str") => `(tactic| k_extra "myStr")
local macro_rules | `(tactic| walk_at "InvEnd") => `(tactic| k_extra "myEnd")
local macro_rules | `(tactic| walk_at "subscriptTail") => `(tactic| (k_here; (with_reducible show wpAny _ _ (subscriptTail _ _ (Value.ref _) (Value.int _ _)) _ _ _); (with_unfolding_all refine' itemLed ?k1 ?k2 ?k3 ?k4 ?k5 ?_ ?k6; (case k1 => k_asm); (case k2 => k_mem); (case k3 => decide); (case k4 => decide); (case k5 => rfl); (case k6 => with_unfolding_all rfl); k_whole)))

theorem page_c {w : World} {mean : ExcName → Option Value} {mg mb : Str → Option Value} {dp un : Nat} {gd : Option (List Code)} {cn : Str} {cs : Scope} {a : Addr} {ccd : Value} {cl : List (Str × Addr)} {outer : List Env} {A₀ : Around} {base h₀ : Heap} {L : Addr} {m : Str → Option Value} {news : List (Addr × Obj)} {s : Shared}
    {Q E : Value → Shared → Prop} {b : Addr} {rs : List Addr} {its : List (Str × PV)} {nb : Nat}
    (C : Here w mean mg mb 40 300 dp un cs A₀ base outer h₀ L m news s)
    (hb : (b, listOf (rs.map Value.ref).toArray nb) ∈ news) (hR : RowsAt news rs its) (hS : ∀ it ∈ its, SmallIt it) (hn : its.length ≤ 100)
    (ret : ∀ h' tk t, Fr h₀ L h' m → News h₀ L h' news → Q (.str (page its) t) { s with heap := h', toks := tk }) :
    wpAny (model PySem.Challenge.rw_dg5004_01.row.prog w) (topH none dp un gd cn cs L a ccd cl outer) (call (.ref 229) [.ref b]) Q E s := by
  obtain ⟨B, F, X, N, T, hk, hd9, hu⟩ := C
  revert X
  k_fill
  intro X
  refine wpAny_call ?_
  k_dflt ktr_enter
  k_with_none
  k_with "myFor" => (k_here; (rename Fr _ _ _ _ => lF'); (with_unfolding_all refine' For_invVF lF' ?k1 ?k2 ?_; (case k1 => exact rfl); (case k2 => exact rfl); k_whole))
  k_with "myIter" => ((rename Fr _ _ _ _ => lF'); (rename News _ _ _ _ => lN'); (with_unfolding_all refine' iterRowsAcc (Str.ofString "out") _ (fun i a => ∃ acc t, a = Value.str acc t ∧ acc = page (its.take i)) ?k1 hb hR lF' lN' ?k2 ?k3 ?k4 ?_ ?_; (case k1 => exact rfl); (case k2 => exact rfl); (case k3 => decide); (case k4 => exact ⟨_, _, rfl, rfl⟩); k_whole); focus (intro i nm pv r t9 v9 nr a9 h9 tk9 nw hi hr hpv hmem hsub hp F9 N9; obtain ⟨acc, t8, rfl, hacc⟩ := hp; have hs9 := hS _ (List.mem_of_getElem? hi); obtain ⟨hs1, hs2, hs3⟩ := hs9; dsimp only at hs1 hs2 hs3; have he1 := esc_len nm; have he2 := esc_len (pvText pv); have hl9 : acc.length ≤ 800000 := (by rw [hacc]; have hq := page_len (its.take i) Str.empty (fun it hm => hS it (List.mem_of_mem_take hm)); have hz := List.length_take_le i its; have hz2 : (its.take i).length ≤ its.length := (by rw [List.length_take]; exact Nat.min_le_right _ _); have he : Str.empty.length = 0 := rfl; unfold page; omega); rcases pv with n9 | x9; all_goals (obtain ⟨tv, rfl⟩ := hpv); all_goals (dsimp only [pvText] at hs2 he2)))
  k_with "myCall" => (k_dflt (refine' plain_c ⟨by k_asm, by k_asm, by k_asm, by k_asm, by k_asm, rfl, by dsimp only; omega, by dsimp only; omega⟩ (by first | omega | (dsimp only [pvText] at hs2; omega)) ?_); intro h8 tk8 t7 F8 N8)
  k_with "myStr" => (first | k_dflt (refine P.str_of_int (log2_small (hs3 _ rfl)) ?_) | k_dflt (refine P.str_of_str ?_))
  k_with "myEnd" => (k_dflt (refine InvEnd.intro (by assumption) (by assumption) (fun _ h => h) ⟨⟨_, if_pos rfl, _, _, rfl, (by have hq := page_snoc hi; (dsimp only [rowOnto, pvText] at hq); (rw [← hacc] at hq); with_reducible exact hq)⟩, fun z h1 h2 => (if_neg h2).trans ((if_neg h1).trans (if_neg h2))⟩))
  k_steps
  rename (∃ acc t, _ = Value.str acc t ∧ acc = _) => hp
  obtain ⟨acc, t, rfl, rfl⟩ := hp
  rw [page_all]
  exact ret _ _ _ (by assumption) (by assumption)
end Mine
end PartW11
section PartW12
open PySem PySem.W PyProof.Rows PySem.Calls
namespace Mine
def NextEnd (h₀ : Heap) (L : Addr) (J : (Str → Option Value) → Prop) (need : List (Addr × Obj)) (s₁ : Shared) (f : Flow) (s₂ : Shared) : Prop := match f with
  | .next => InvEnd h₀ L J need s₁ s₂
  | _ => False
section
variable {prog : Program} {w : World} {A : Around} {E : Value → Shared → Prop} {s : Shared} {env : Env} {h₀ : Heap} {x : Str} {body : List Stmt} {Q : Flow → Shared → Prop}
/-- a for that unpacks made tuples of a list of the ledger; its turns store one name more -/
theorem iterTups {l : Addr} {ts : List Addr} {its : List (Str × PV)} {nn : Nat} {m₀ : Str → Option Value} {news : List (Addr × Obj)} {elts : List Expr} {tk : Nat} {pos : Pos} (k1 k2 y : Str) (a₀ : Value) (P : Nat → Value → Prop)
    (hh : A.handled = none) (hl : (l, listOf (ts.map Value.ref).toArray nn) ∈ news) (hT : TupsAt news ts its) (F : Fr h₀ env.locals s.heap m₀) (N : News h₀ env.locals s.heap news) (hy : m₀ y = some a₀) (hj : P 0 a₀)
    (turn : ∀ i nm pv r t v n a (u : Str → Option Value) h g d tk' os nw, its[i]? = some (nm, pv) → PV.Is pv v → (r, ({ cls := .type "tuple", data := .seq #[.str nm t, v] n } : Obj)) ∈ nw → (∀ p ∈ news, p ∈ nw) → P i a →
      Fr h₀ env.locals h (fun z => if z = y then some a else if z = k1 ∨ z = k2 then u z else m₀ z) → News h₀ env.locals h nw →
      wpAny (model prog w) A (assign (.Tuple elts tk pos) env (.ref r)) (fun _ s₃ => wpAny (model prog w) A (execs body env)
        (NextEnd h₀ env.locals (fun m' => (∃ a', m' y = some a' ∧ P (i + 1) a') ∧ ∀ z, z ≠ y → z ≠ k1 → z ≠ k2 → m' z = m₀ z) nw ⟨h, g, d, tk', os⟩) E s₃) E ⟨h, g, d, tk', os⟩)
    (done : ∀ (u : Str → Option Value) a h tk', P its.length a → Fr h₀ env.locals h (fun z => if z = y then some a else if z = k1 ∨ z = k2 then u z else m₀ z) → News h₀ env.locals h news → Q .next { s with heap := h, toks := tk' }) :
    wpAny (model prog w) A (pyIter (.ref l)) (fun it s₂ => LoopAtT prog w A h₀ env (.Tuple elts tk pos) body Q E it s₂) E s := by
  have hll := (N _ hl).1
  have hls : s.heap.IsList l (ts.map Value.ref).toArray := ⟨_, hll, rfl, nn, rfl⟩
  have hne : l ≠ s.heap.objs.size := Nat.ne_of_lt (Heap.lt_size hll)
  have form : ∀ {m₁ : Str → Option Value} {a : Value}, m₁ y = some a → (∀ z, z ≠ y → z ≠ k1 → z ≠ k2 → m₁ z = m₀ z) → (fun z => if z = y then some a else if z = k1 ∨ z = k2 then m₁ z else m₀ z) = m₁ := by
    intro m₁ a ha hm
    funext z
    by_cases h0 : z = y
    · rw [if_pos h0, h0, ha]
    · rw [if_neg h0]
      by_cases h1 : z = k1 ∨ z = k2
      · rw [if_pos h1]
      · rw [if_neg h1]; exact (hm z h0 (fun e => h1 (.inl e)) (fun e => h1 (.inr e))).symm
  refine wpAny_pyIter_list hls ?_
  have W := Walks.list (prog := prog) (w := w) hh s.heap.objs.size l hne (ts.map Value.ref).toArray
  have off : ∀ p ∈ news, p.1 ∉ [s.heap.objs.size] := fun p hp hI => by
    have e := List.mem_singleton.mp hI
    exact absurd (Heap.lt_size (N p hp).1) (by rw [e]; exact Nat.lt_irrefl _)
  refine ⟨_, _, _, _, _, _, m₀, news, (fun i m₁ n₁ => n₁ = news ∧ (∃ a, m₁ y = some a ∧ P i a) ∧ ∀ z, z ≠ y → z ≠ k1 → z ≠ k2 → m₁ z = m₀ z), rfl, W, ?_, ?_, off, ⟨⟨_, Heap.get?_push_size _ rfl, rfl, rfl⟩, hls.at fun o e => Heap.get?_push_of_some _ e⟩, F.push _,
    (fun p hp => ⟨Heap.get?_push_of_some _ (N p hp).1, (N p hp).2⟩), (fun i s' v Q' st hQ' => letGo_listiter st.1 hQ'), ⟨rfl, ⟨a₀, hy, hj⟩, fun _ _ _ _ => rfl⟩, ?_, ?_⟩
  · intro hm
    rcases List.mem_cons.mp hm with e | hm
    · exact absurd F.ns.lt (by rw [e]; exact Nat.lt_irrefl _)
    · exact (N _ hl).2.1 (List.mem_singleton.mp hm).symm
  · intro b hb
    rw [List.mem_singleton.mp hb]
    exact next_is_new F
  · rintro i v m₁ news₁ ⟨h, g, d, tk', os⟩ own hin hP ⟨rfl, ⟨a, ha, hp⟩, hm⟩ hoff _ _ _ _ F₁ N₁
    have hv : (ts.map Value.ref)[i]? = some v := by simpa using hP
    rw [List.getElem?_map] at hv
    obtain ⟨r, hr, rfl⟩ := Option.map_eq_some_iff.mp hv
    obtain ⟨hlt, _⟩ := List.getElem?_eq_some_iff.mp hr
    obtain ⟨⟨nm, pv⟩, hi⟩ : ∃ it, its[i]? = some it := ⟨its[i]'(by have := hT.len; omega), List.getElem?_eq_getElem _⟩
    obtain ⟨t, u, n, hu, hmem⟩ := hT.tup i r _ hr hi
    rw [← form ha hm] at F₁
    refine wpAny_mono (turn i nm pv r t u n a m₁ h g d tk' os (own ++ news₁) hi hu (List.mem_append_right _ hmem) (fun p hp => List.mem_append_right _ hp) hp F₁ N₁) (fun _ s₃ q => wpAny_mono q (fun f s₂ p => ?_) fun _ _ e => e) fun _ _ e => e
    cases f with
    | next =>
      obtain ⟨h', tk, m', news', e, F', N', hn, hm⟩ := p
      exact ⟨rfl, h', tk, m', news₁, e, F', fun p hp => N' p (hn p hp), hoff, rfl, hm⟩
    | _ => exact p.elim
  · rintro h' tk' m' news' F' N' _ ⟨rfl, ⟨a, ha, hp⟩, hm⟩
    exact done m' a h' tk' (by simpa [hT.len] using hp) (by rw [form ha hm]; exact F') N'

theorem forT {m : Str → Option Value} {target iter : Expr} {pos : Pos} (_F : Fr h₀ env.locals s.heap m)
    (h : wpAny (model prog w) A (eval iter env) (fun xv s₁ => wpAny (model prog w) A (pyIter xv) (fun it s₂ => LoopAtT prog w A h₀ env target body Q E it s₂) E s₁) E s)
    (hs : ∀ x, foldedSetIterable iter env x = pure x) (hE : PassesOwn (model prog w) A env E := by passes_own) :
    wpAny (model prog w) A (exec (.For target iter body [] pos) env) Q E s := For_invT h₀ h hs hE
end

theorem rowOnto' (acc : Str) (it : Str × PV) : acc ++ (Str.ofString " " ++ esc it.1 ++ Str.ofString "=\"" ++ esc (pvText it.2) ++ Str.ofString "\"") = rowOnto acc it := by
  unfold rowOnto
  simp only [Str.append_assoc]

local macro_rules | `(tactic| k_mem) => `(tactic| first | with_reducible assumption | with_reducible exact List.mem_cons_self | (refine List.mem_cons_of_mem _ ?_; k_mem))
local macro_rules | `(tactic| walk_at "exec For Tuple Call cons nil") => `(tactic| k_extra "myFor")
local macro_rules | `(tactic| walk_at "pyIter ref") => `(tactic| k_extra "myIter")
local macro_rules | `(tactic| walk_at "call ref") => `(tactic| k_extra "myCall")
local macro_rules | `(tactic| walk_at "call type:str") => `(tactic| k_extra "myStr")
local macro_rules | `(tactic| walk_at "NextEnd") => `(tactic| (with_reducible refine stop ?_))
local macro_rules | `(tactic| walk_at "binaryOp Add str str") => `(tactic| ((refine PyProof.Rows.add_str (hsz := ?hsz) ?_); (case hsz => ((simp only [Str.length_append, lBlank, lEq, lQ, sizeLine_eq]); omega)); intro _ _))
local macro_rules | `(tactic| walk_at "inplaceOp Add str str") => `(tactic| ((refine PyProof.Rows.iadd_str (hsz := ?hsz) ?_); (case hsz => ((simp only [Str.length_append, lBlank, lEq, lQ, sizeLine_eq]); omega)); intro _ _))
theorem render_c {w : World} {mean : ExcName → Option Value} {mg mb : Str → Option Value} {dp un : Nat} {gd : Option (List Code)} {cn : Str} {cs : Scope} {a : Addr} {ccd : Value} {cl : List (Str × Addr)} {outer : List Env} {A₀ : Around} {base h₀ : Heap} {L : Addr} {m : Str → Option Value} {news : List (Addr × Obj)} {s : Shared}
    {Q E : Value → Shared → Prop} {tk e : Addr} {v1 v2 v3 : Value} {o : Obj} {kvs : List (Str × Value)} {its : List (Str × PV)}
    (C : Here w mean mg mb 40 300 dp un cs A₀ base outer h₀ L m news s)
    (hT : TokAt w news tk e v1 v2 v3) (he : (e, o) ∈ news) (hD : o.IsDictOf (PySem.strKind PySem.Challenge.rw_dg5004_01.row.prog w) kvs) (hlo : (e == sysModules) = false) (hK : KvsAre kvs its)
    (hS : ∀ it ∈ its, SmallIt it) (hn : its.length ≤ 100)
    (ret : ∀ h' tk t nw, Fr h₀ L h' m → News h₀ L h' nw → (∀ p ∈ news, p ∈ nw) → Q (.str (page its) t) { s with heap := h', toks := tk }) :
    wpAny (model PySem.Challenge.rw_dg5004_01.row.prog w) (topH none dp un gd cn cs L a ccd cl outer) (call (.ref 135) [.ref tk]) Q E s := by
  obtain ⟨B, F, X, N, T, hk, hd9, hu⟩ := C
  revert X
  k_fill
  intro X
  obtain ⟨dx, mt, k1, k2, k3, k4, k5, hT1, hT2⟩ := id hT
  refine wpAny_call ?_
  k_dflt ktr_enter
  k_with_none
  k_with "myFor" => (k_here; (rename Fr _ _ _ _ => lF'); k_dflt (refine' forT lF' ?_ ?hs; (case hs => (intro _; rfl))))
  k_with "myIter" => ((rename Fr _ _ _ _ => lF'); (rename News _ _ _ _ => lN'); (with_unfolding_all refine' iterTups (Str.ofString "key") (Str.ofString "value") (Str.ofString "result") _ (fun i a => ∃ acc t, a = Value.str acc t ∧ acc = page (its.take i)) ?k1 ?k5 ?k6 lF' lN' ?k2 ?k4 ?_ ?_; (case k1 => exact rfl); (case k5 => assumption); (case k6 => assumption); (case k2 => exact rfl); (case k4 => exact ⟨_, _, rfl, rfl⟩); k_whole); focus (intro i nm pv r t9 v9 nr a9 u9 h9 g9 d9 tk9 os9 nw hi hpv hmem hsub hp F9 N9; obtain ⟨acc, t8, rfl, hacc⟩ := hp; have hs9 := hS _ (List.mem_of_getElem? hi); obtain ⟨hs1, hs2, hs3⟩ := hs9; dsimp only at hs1 hs2 hs3; have he1 := esc_len nm; have he2 := esc_len (pvText pv); have hl9 : acc.length ≤ 800000 := (by rw [hacc]; have hq := page_len (its.take i) Str.empty (fun it hm => hS it (List.mem_of_mem_take hm)); have hz := List.length_take_le i its; have hz2 : (its.take i).length ≤ its.length := (by rw [List.length_take]; exact Nat.min_le_right _ _); have he : Str.empty.length = 0 := rfl; unfold page; omega); rcases pv with n9 | x9; all_goals (obtain ⟨tv, rfl⟩ := hpv); all_goals (dsimp only [pvText] at hs2 he2)))
  k_with "myCall" => (first | (k_dflt (refine' items_c ⟨by k_asm, by k_asm, by k_asm, by k_asm, by k_asm, rfl, by dsimp only; omega, by dsimp only; omega⟩ (.inl rfl) hT he hD hlo hK (by omega) ?_); intro D7 c7 ts7 h7 tk7 nw7 F7 N7 hs7 hD7 hT7 hl7) | (k_dflt (refine' escape_c ⟨by k_asm, by k_asm, by k_asm, by k_asm, by k_asm, rfl, by dsimp only; omega, by dsimp only; omega⟩ (by omega) ?_); intro h8 tk8 t7 F8 N8))
  k_with "myStr" => (first | k_dflt (refine P.str_of_int (log2_small (hs3 _ rfl)) ?_) | k_dflt (refine P.str_of_str ?_))
  k_steps
  · unfold Stop NextEnd
    have hq := page_snoc hi
    rw [← rowOnto'] at hq
    dsimp only [pvText] at hq
    rw [← hacc] at hq
    exact InvEnd.intro (by assumption) (by assumption) (fun _ h => h) ⟨⟨_, if_pos rfl, _, _, rfl, hq⟩, fun z h1 h2 h3 => by simp only [h1, h2, h3, if_false, or_self]⟩
  · unfold Stop NextEnd
    have hq := page_snoc hi
    rw [← rowOnto'] at hq
    dsimp only [pvText] at hq
    rw [← hacc] at hq
    exact InvEnd.intro (by assumption) (by assumption) (fun _ h => h) ⟨⟨_, if_pos rfl, _, _, rfl, hq⟩, fun z h1 h2 h3 => by simp only [h1, h2, h3, if_false, or_self]⟩
  · rename (∃ acc t, _ = Value.str acc t ∧ acc = _) => hp
    obtain ⟨acc, t, rfl, rfl⟩ := hp
    rw [page_all]
    exact ret _ _ _ nw7 (by assumption) (by assumption) hs7
end Mine
end PartW12
section PartW13
open PySem PySem.W PyProof.Rows PySem.Calls PyProof.Rows.LCg
namespace Mine
theorem walksOk {prog : Program} {w : World} {A : Around} (exs : List (Addr × Obj)) (hok : ∀ h, (∀ p ∈ exs, h.get? p.1 = some p.2) → HOk A.handled h) (I ax : Addr) (hne : ax ≠ I) (hI : ∀ p ∈ exs, p.1 ≠ I) (items : Array Value) :
    Walks prog w A I (I :: ax :: exs.map (·.1)) [I] items.size (fun i v => items[i]? = some v) (fun i h => h.IsListIter I ax i ∧ h.IsList ax items ∧ ∀ p ∈ exs, h.get? p.1 = some p.2) where
  sub := fun b hb => by simp at hb; simp [hb]
  frame := fun _ _ _ st hk => ⟨st.1.at fun o e => hk I (by simp) o e, st.2.1.at fun o e => hk ax (by simp) o e, fun p hp => hk p.1 (List.mem_cons_of_mem _ (List.mem_cons_of_mem _ (List.mem_map_of_mem hp))) _ (st.2.2 p hp)⟩
  item := fun i s Q E hi st hQ => by
    refine wpAny_pyNext_list_item st.1 st.2.1 (x := items[i]) (by simp [hi]) fun h' hit' hs' => ?_
    exact hQ _ h' s.toks (by simp [hi]) ⟨hit', st.2.1.extBut hs'.extBut hne, fun p hp => hs'.extBut _ _ (hI p hp) (st.2.2 p hp)⟩ fun b o hb e => hs'.extBut b o (fun h => hb (by simp [h])) e
  done := fun s Q E st hQ => listEnd (hok _ st.2.2) st.1 st.2.1 (by simp) fun h' he' => hQ h' s.toks fun b o hb e => he' b o (fun h => hb (by simp [h])) e
  self := fun _ _ _ _ st hQ => wpAny_pyIter_listiter st.1 hQ

def CompHere (prog : Program) (w : World) (A : Around) (h₀ : Heap) (L : Addr) (m : Str → Option Value) (env : Env) (elt : Expr) (x : Str) (scope : Scope) (cl : List (Str × Addr)) (b : Addr) (items : Array Value) (nn : Nat) (exs news : List (Addr × Obj)) (Q : Value → Shared → Prop) (xv : Value) (s₁ : Shared) : Prop :=
  xv = .ref b ∧ Fr h₀ L s₁.heap m ∧ News h₀ L s₁.heap news ∧ (b, listOf items nn) ∈ news ∧ (∀ p ∈ exs, p ∈ news) ∧ items.size ≤ sizeLine ∧
    ∀ s₂ : Shared, (∃ h, s₂ = { s₁ with heap := h }) → CompRest prog w A h₀ L m env elt x scope cl s₂ (fun nw => (b, listOf items nn) ∈ nw ∧ ∀ p ∈ exs, p ∈ nw) (fun i v => items[i]? = some v) (FinE h₀ L m s₂ Q) items.size 0 [] news

section
variable {prog : Program} {w : World} {A : Around} {E : Value → Shared → Prop} {s : Shared} {h₀ : Heap} {L : Addr} {m : Str → Option Value} {env : Env}
/-- a comprehension over a list of the ledger, whatever is handled -/
theorem compOk {elt iter : Expr} {x : Str} {px : Pos} {scope : Scope} {cl : List (Str × Addr)} {pos : Pos} {Q : Value → Shared → Prop} {b : Addr} {items : Array Value} {nn : Nat} {exs news : List (Addr × Obj)}
    (_F₀ : Fr h₀ L s.heap m) (hok : ∀ h, (∀ p ∈ exs, h.get? p.1 = some p.2) → HOk A.handled h)
    (hclos : closureFor scope env = pure cl) (hcell : ∀ y ∈ scope.names, y.2 ≠ .cell) (hkind : scope.kind = .function)
    (hnames : ∀ y ∈ scope.names, y.2 = .local → scope.names.lookup y.1 = some .local) (hx : scope.names.lookup x = some .local)
    (h : wpAny (model prog w) A (eval iter env) (CompHere prog w A h₀ L m env elt x scope cl b items nn exs news Q) E s)
    (hs : ∀ x, foldedSetIterable iter env x = pure x := by intro _; rfl) :
    wpAny (model prog w) A (eval (.ListComp elt [⟨.Name x px, iter, [], 0⟩] scope pos) env) Q E s := by
  rw [eval_ListComp]
  refine wpAny_comprehension_free (use := none) rfl hs hclos hkind hnames (wpAny_mono h (fun xv s₁ h₁ => ?_) fun _ _ e => e)
  obtain ⟨rfl, F, N, hb, hex, hsz, R⟩ := h₁
  have hbb := (N _ hb).1
  have hl : s₁.heap.IsList b items := ⟨_, hbb, rfl, nn, rfl⟩
  have hlt : b < s₁.heap.objs.size := Heap.lt_size hbb
  refine wpAny_pyIter_list hl ?_
  have up : ∀ b o, s₁.heap.get? b = some o → (s₁.heap.push { cls := .type "list_iterator", data := .fields #[.ref b, .int 0 0] }).get? b = some o := fun b o e => Heap.get?_push_of_some _ e
  have up' : ∀ c o, s₁.heap.get? c = some o → (s₁.heap.push { cls := .type "list_iterator", data := .fields #[.ref b, .int 0 0] }).get? c = some o := fun c o e => Heap.get?_push_of_some _ e
  have W := walksOk (prog := prog) (w := w) (A := A) exs hok s₁.heap.objs.size b (Nat.ne_of_lt hlt) (fun p hp => Nat.ne_of_lt (Heap.lt_size (N p (hex p hp)).1)) items
  refine block_U (S := fun nw => (b, listOf items nn) ∈ nw ∧ ∀ p ∈ exs, p ∈ nw) W hsz (fun i h st => by obtain ⟨o, e, _⟩ := st.1; exact ⟨o, e⟩) (fun i h h' o nw st e e' k N' S' => ?_) hcell hkind hx
    ⟨⟨_, Heap.get?_push_size _ rfl, rfl, rfl⟩, hl.push _, fun p hp => up' _ _ (N p (hex p hp)).1⟩ (fun c hc => ?_) (F.keeps up') (N.grown up') (Nat.ne_of_lt F.ns.lt) (next_is_new F) (fun p hp => Nat.ne_of_lt (Heap.lt_size (N p hp).1)) ⟨hb, hex⟩ (R _ ⟨_, rfl⟩) ?_
  · refine ⟨by obtain ⟨o', q, r⟩ := st.1; rw [e] at q; cases q; exact ⟨o, e', r⟩, ⟨_, (N' _ S'.1).1, rfl, nn, rfl⟩, fun p hp => (N' _ (S'.2 p hp)).1⟩
  · show c < (s₁.heap.push _).objs.size
    rw [Heap.size_push]
    rcases List.mem_cons.mp hc with rfl | hc
    · exact Nat.lt_succ_self _
    · rcases List.mem_cons.mp hc with rfl | hc
      · exact Nat.lt_succ_of_lt hlt
      · obtain ⟨p, hp, rfl⟩ := List.mem_map.mp hc
        exact Nat.lt_succ_of_lt (Heap.lt_size (N p (hex p hp)).1)
  · intro D C h tk m' ys news' F' N' o1 hn hC₀ hD₀ hCL hDL hCD offC fin
    refine ⟨m', hn, fun h'' hs'' => fin D h'' tk (F'.change hs'' hCL hC₀) (fun p hp => ?_) o1⟩
    refine ⟨hs''.extBut _ _ ?_ (N' p hp).1, (N' p hp).2⟩
    rcases List.mem_cons.mp hp with rfl | hp
    · exact Ne.symm hCD
    · exact offC p hp
end

theorem TupsAt.snoc {nw : List (Addr × Obj)} {ts : List Addr} {its : List (Str × PV)} {i : Nat} {it : Str × PV} {a : Addr} (h : TupsAt nw ts (its.take i)) (hit : its[i]? = some it) (ha : TupAt nw a it) : TupsAt nw (ts ++ [a]) (its.take (i + 1)) := by
  have e : its.take (i + 1) = its.take i ++ [it] := by rw [List.take_add_one, hit]; rfl
  rw [e]
  refine ⟨by rw [List.length_append, List.length_append, h.len]; rfl, fun j b jt hb hj => ?_⟩
  by_cases hlt : j < ts.length
  · rw [List.getElem?_append_left hlt] at hb
    rw [List.getElem?_append_left (by rw [← h.len]; exact hlt)] at hj
    exact h.tup j b jt hb hj
  · have hl := (List.getElem?_eq_some_iff.mp hb).1
    rw [List.length_append, List.length_singleton] at hl
    obtain rfl : j = ts.length := by omega
    rw [List.getElem?_append_right (Nat.le_refl _), Nat.sub_self] at hb
    rw [h.len, List.getElem?_append_right (Nat.le_refl _), Nat.sub_self] at hj
    cases hb
    cases hj
    exact ha

theorem hokOf {hv0 : Option Value} {news : List (Addr × Obj)} (x : HOkL hv0 news) : ∃ exs : List (Addr × Obj), (∀ p ∈ exs, p ∈ news) ∧ ∀ h, (∀ p ∈ exs, h.get? p.1 = some p.2) → HOk hv0 h := by
  rcases x with x | ⟨e, oe, vs, h1, h2, h3, h4⟩
  · exact ⟨[], (fun _ h => nomatch h), fun _ _ => .inl x⟩
  · exact ⟨[(e, oe)], (fun p hp => by rw [List.mem_singleton.mp hp]; exact h2), fun h hp => .inr ⟨e, oe, vs, h1, hp (e, oe) (.head _), h3, h4⟩⟩

local macro_rules | `(tactic| k_mem) => `(tactic| first | with_reducible assumption | with_reducible exact List.mem_cons_self | (refine List.mem_cons_of_mem _ ?_; k_mem))
local macro_rules | `(tactic| walk_at "eval ListComp") => `(tactic| (with_reducible refine stop ?_))
local macro_rules | `(tactic| walk_at "CompEnd") => `(tactic| (with_reducible refine stop ?_))
local macro_rules | `(tactic| walk_at "subscriptTail") => `(tactic| (k_here; (with_reducible show wpAny _ _ (subscriptTail _ _ (Value.ref _) (Value.int _ _)) _ _ _); (with_unfolding_all refine' itemLed ?k1 ?k2 ?k3 ?k4 ?k5 ?_ ?k6; (case k1 => k_asm); (case k2 => k_mem); (case k3 => decide); (case k4 => decide); (case k5 => rfl); (case k6 => with_unfolding_all rfl); k_whole)))
theorem told_c {w : World} {mean : ExcName → Option Value} {mg mb : Str → Option Value} {hv0 : Option Value} {dp un : Nat} {gd : Option (List Code)} {cn : Str} {cs : Scope} {a : Addr} {ccd : Value} {cl : List (Str × Addr)} {outer : List Env} {A₀ : Around} {base h₀ : Heap} {L : Addr} {m : Str → Option Value} {news : List (Addr × Obj)} {s : Shared}
    {Q E : Value → Shared → Prop} {b : Addr} {rs : List Addr} {its : List (Str × PV)} {nb : Nat}
    (C : Here w mean mg mb 20 200 dp un cs A₀ base outer h₀ L m news s) (hh : HOkL hv0 news)
    (hb : (b, listOf (rs.map Value.ref).toArray nb) ∈ news) (hR : RowsAt news rs its) (hn : its.length ≤ 100)
    (ret : ∀ D c ts h' tk nw, Fr h₀ L h' m → News h₀ L h' nw → (∀ p ∈ news, p ∈ nw) → (D, listOf (ts.map Value.ref).toArray c) ∈ nw → TupsAt nw ts its → Q (.ref D) { s with heap := h', toks := tk }) :
    wpAny (model PySem.Challenge.rw_dg5004_01.row.prog w) (topH hv0 dp un gd cn cs L a ccd cl outer) (call (.ref 215) [.ref b]) Q E s := by
  obtain ⟨B, F, X, N, T, hk, hd9, hu⟩ := C
  revert X
  k_fill
  intro X
  obtain ⟨exs, hex, hok⟩ := hokOf hh
  refine wpAny_call ?_
  k_dflt ktr_enter
  k_with_none
  k_steps
  unfold Stop
  (rename Fr _ _ _ _ => lF'); (rename News _ _ _ _ => lN')
  k_dflt (refine' compOk (b := b) (items := (rs.map Value.ref).toArray) (nn := nb) (news := news) (exs := exs) lF' hok ?c1 ?c2 ?c3 ?c4 ?c5 ?_)
  case c1 => rfl
  case c2 => decide
  case c3 => rfl
  case c4 => decide
  case c5 => rfl
  walk1
  refine ⟨rfl, lF', lN', hb, hex, by rw [List.size_toArray, List.length_map, hR.len, sizeLine_eq]; omega, ?_⟩
  rintro s₂ ⟨h2, rfl⟩
  have hlen : (rs.map Value.ref).toArray.size = its.length := by rw [List.size_toArray, List.length_map, hR.len]
  rw [hlen]
  suffices key : ∀ k i (ts : List Addr) nw, i + k = its.length → (∀ p ∈ news, p ∈ nw) → TupsAt nw ts (its.take i) → CompRest _ _ _ _ _ _ _ _ _ _ _ _ _ _ _ k i (ts.map Value.ref) nw from key its.length 0 [] news (Nat.zero_add _) (fun _ h => h) ⟨rfl, fun i r it hr _ => by simp at hr⟩
  intro k
  induction k with
  | zero =>
    intro i ts nw hi hs hT
    refine CompRest.zero ?_
    intro D9 h9 tk9 F9 N9 o9
    k_steps
    obtain rfl : i = its.length := by omega
    rw [List.take_length] at hT
    exact ret D9 _ ts _ _ _ (by assumption) (by assumption) (fun p hp => .tail _ (hs p hp)) (.head _) (hT.mono fun p hp => .tail _ hp)
  | succ k ih =>
    intro i ts nw hi hs hT
    refine CompRest.succ ?_
    intro v9 I9 oI9 C9 oC9 D9 m9 h9 tk9 E9 hP hC hx F9 N9 o9 n9
    have hv : (rs.map Value.ref)[i]? = some v9 := by simpa using hP
    rw [List.getElem?_map] at hv
    obtain ⟨r, hr, rfl⟩ := Option.map_eq_some_iff.mp hv
    obtain ⟨⟨nm, pv⟩, hit⟩ : ∃ it, its[i]? = some it := ⟨its[i]'(by omega), List.getElem?_eq_getElem _⟩
    obtain ⟨t, u, n, hu', hm⟩ := hR.row i r _ hr hit
    have hmem := hs _ hm
    dsimp only at hmem hu'
    k_steps
    unfold Stop
    rename News _ _ _ _ => N8
    rename Addr => d8
    rename (_ ∧ _ ∧ _ ∧ AllLt _ nw) => l8
    rename Fr _ _ _ _ => F8
    obtain ⟨l8a, l8b, l8c, _⟩ := l8
    refine CompEnd.intro F8 N8 ((d8, { cls := .type "tuple", data := .seq #[.str nm t, u] }) :: nw) ?_ ⟨⟨Nat.ne_of_gt l8a, Nat.ne_of_gt l8b, Nat.ne_of_gt l8c⟩, o9⟩ ⟨.tail _ (hs _ hb), fun p hp => .tail _ (hs _ (hex p hp))⟩ ?_
    · intro p hp
      simp only [List.mem_cons] at hp ⊢
      rcases hp with h | h | h | h | h
      · exact .inr (.inl h)
      · exact .inr (.inr (.inl h))
      · exact .inr (.inr (.inr (.inl h)))
      · exact .inl h
      · exact .inr (.inr (.inr (.inr h)))
    · have q := ih (i + 1) (ts ++ [d8]) ((d8, { cls := .type "tuple", data := .seq #[.str nm t, u] }) :: nw) (by omega) (fun p hp => .tail _ (hs p hp)) (TupsAt.snoc (hT.mono fun p hp => .tail _ hp) hit ⟨t, u, 0, hu', .head _⟩)
      rw [List.map_append] at q
      exact q
end Mine
end PartW13
section PartW14
open PySem PySem.W PyProof.Rows PySem.Calls
namespace Mine
theorem newsUpd {h₀ h h' : Heap} {L d : Addr} {o o' : Obj} {news : List (Addr × Obj)} (N : News h₀ L h news) (hm : (d, o) ∈ news) (hs : Heap.SameBut d h h') (ho : h'.get? d = some o') : News h₀ L h' ((d, o') :: news.filter fun p => decide (p.1 ≠ d)) := by
  intro p hp
  rcases List.mem_cons.mp hp with rfl | hp
  · exact ⟨ho, (N _ hm).2⟩
  · obtain ⟨hp, hne⟩ := List.mem_filter.mp hp
    exact ⟨(hs.2 p.1 (of_decide_eq_true hne)).trans (N p hp).1, (N p hp).2⟩
theorem keptBut {d : Addr} {o' : Obj} {news : List (Addr × Obj)} : ∀ p ∈ news, p.1 ≠ d → p ∈ (d, o') :: news.filter fun p => decide (p.1 ≠ d) := fun _ hp hne => .tail _ (List.mem_filter.mpr ⟨hp, decide_eq_true hne⟩)
/-- one address bears one object -/
theorem oneAt {h₀ h : Heap} {L a : Addr} {o o' : Obj} {news : List (Addr × Obj)} (N : News h₀ L h news) (h1 : (a, o) ∈ news) (h2 : (a, o') ∈ news) : o = o' := Option.some.inj ((N _ h1).1.symm.trans (N _ h2).1)

section
variable {prog : Program} {w : World} {A : Around} {E : Value → Shared → Prop} {s : Shared} {h₀ : Heap} {L : Addr} {m : Str → Option Value} {news : List (Addr × Obj)}
theorem appendLed {b : Addr} {vs : List Value} {n : Nat} {x : Value} {Q : Value → Shared → Prop} (F : Fr h₀ L s.heap m) (N : News h₀ L s.heap news) (hb : (b, listOf vs.toArray n) ∈ news) (hsz : vs.length ≤ 16777216)
    (h : ∀ h' nw n', Fr h₀ L h' m → News h₀ L h' nw → (∀ p ∈ news, p.1 ≠ b → p ∈ nw) → (b, listOf (vs ++ [x]).toArray n') ∈ nw → Q .none { s with heap := h' }) :
    wpAny (model prog w) A (call (.builtin "list.append") [.ref b, x]) Q E s := by
  have z := N _ hb
  refine append_at (hsz := by rw [List.size_toArray, sizeLine_eq]; exact hsz) z.1 fun h' hs ho => ?_
  rw [List.push_toArray] at ho
  exact h h' _ _ (F.change hs z.2.1 z.2.2) (newsUpd N hb hs ho) keptBut (.head _)
theorem setRow {r : Addr} {a v₀ v : Value} {n : Nat} {t : Tok} {Q : Unit → Shared → Prop} (F : Fr h₀ L s.heap m) (N : News h₀ L s.heap news) (hr : (r, listOf #[a, v₀] n) ∈ news)
    (h : ∀ h' nw n', Fr h₀ L h' m → News h₀ L h' nw → (∀ p ∈ news, p.1 ≠ r → p ∈ nw) → (r, listOf #[a, v] n') ∈ nw → Q () { s with heap := h' }) :
    wpAny (model prog w) A (setItem (.ref r) (.int 1 t) v) Q E s := by
  have z := N _ hr
  refine ki_setAt (n := n) z.1 (by decide) (by decide) (by simp) ?_
  have hs : Heap.SameBut r s.heap (s.heap.update r (Obj.mapSeq (·.setIfInBounds (1 : Int).toNat v))) := Heap.SameBut.update ..
  have q := PySem.IsL.update z.1 (·.setIfInBounds (1 : Int).toNat v)
  exact h _ _ _ (F.change hs z.2.1 z.2.2) (newsUpd N hr hs q) keptBut (.head _)
end
end Mine
end PartW14
section PartW15
open PySem PySem.W PyProof.Rows PySem.Calls
namespace Mine
abbrev knd (w : World) := PySem.strKind PySem.Challenge.rw_dg5004_01.row.prog w

/-- a token and the plain list kept beside it tell the same pairs -/
structure Pair (w : World) (news : List (Addr × Obj)) (tk dx e b : Addr) (v1 v2 v3 : Value) (rs : List Addr) (its : List (Str × PV)) : Prop where
  inst : (tk, instObj 66 dx) ∈ news
  own : ∃ mt k1 k2 k3 k4 k5, (dx, tokD w k1 k2 k3 k4 k5 v1 v2 v3 e mt) ∈ news
  dict : ∃ o kvs, (e, o) ∈ news ∧ o.IsDictOf (knd w) kvs ∧ KvsAre kvs its
  lo : (e == sysModules) = false
  book : ∃ nb, (b, listOf (rs.map Value.ref).toArray nb) ∈ news
  rows : RowsAt news rs its
  names : (its.map (·.1)).Nodup
  ne : dx ≠ e

section
variable {w : World} {news nw : List (Addr × Obj)} {tk dx e b : Addr} {v1 v2 v3 : Value} {rs : List Addr} {its : List (Str × PV)} {h₀ h : Heap} {L : Addr}
theorem Pair.tokAt (P : Pair w news tk dx e b v1 v2 v3 rs its) : TokAt w news tk e v1 v2 v3 := let ⟨mt, k1, k2, k3, k4, k5, h⟩ := P.own; ⟨dx, mt, k1, k2, k3, k4, k5, P.inst, h⟩
theorem Pair.mono (P : Pair w news tk dx e b v1 v2 v3 rs its) (hs : ∀ p ∈ news, p ∈ nw) : Pair w nw tk dx e b v1 v2 v3 rs its where
  inst := hs _ P.inst
  own := let ⟨mt, k1, k2, k3, k4, k5, h⟩ := P.own; ⟨mt, k1, k2, k3, k4, k5, hs _ h⟩
  dict := let ⟨o, kvs, h1, h2⟩ := P.dict; ⟨o, kvs, hs _ h1, h2⟩
  lo := P.lo
  book := let ⟨nb, h⟩ := P.book; ⟨nb, hs _ h⟩
  rows := P.rows.mono hs
  names := P.names
  ne := P.ne

theorem dictCls {o : Obj} {kvs : List (Str × Value)} (h : o.IsDictOf (knd w) kvs) : o.cls = .type "dict" := let ⟨_, _, h1, _⟩ := h; h1.1
theorem Pair.e_row (P : Pair w news tk dx e b v1 v2 v3 rs its) (N : News h₀ L h news) {r : Addr} {xs : Array Value} {n : Nat} (hr : (r, listOf xs n) ∈ news) : e ≠ r := fun q => by
  obtain ⟨o, kvs, he, hD, _⟩ := P.dict
  subst q
  have := dictCls hD
  rw [oneAt N he hr] at this
  exact absurd (Value.type.inj this) (by decide)
theorem Pair.e_tk (P : Pair w news tk dx e b v1 v2 v3 rs its) (N : News h₀ L h news) : tk ≠ e := fun q => by
  obtain ⟨o, kvs, he, hD, _⟩ := P.dict
  subst q
  have := dictCls hD
  rw [oneAt N he P.inst] at this
  cases this
theorem Pair.tk_list (P : Pair w news tk dx e b v1 v2 v3 rs its) (N : News h₀ L h news) {r : Addr} {xs : Array Value} {n : Nat} (hr : (r, listOf xs n) ∈ news) : tk ≠ r := fun q => by
  subst q
  have := oneAt N P.inst hr
  cases this
theorem Pair.dx_list (P : Pair w news tk dx e b v1 v2 v3 rs its) (N : News h₀ L h news) {r : Addr} {xs : Array Value} {n : Nat} (hr : (r, listOf xs n) ∈ news) : dx ≠ r := fun q => by
  subst q
  obtain ⟨mt, k1, k2, k3, k4, k5, hd⟩ := P.own
  have := congrArg Obj.cls (oneAt N hd hr)
  exact absurd (Value.type.inj this) (by decide)
theorem row_book (N : News h₀ L h news) {rs : List Addr} {nb n : Nat} {r : Addr} {nm : Str} {t : Tok} {v : Value} (hb : (b, listOf (rs.map Value.ref).toArray nb) ∈ news) (hr : (r, listOf #[.str nm t, v] n) ∈ news) : r ≠ b := fun q => by
  subst q
  have e := oneAt N hb hr
  simp only [Obj.mk.injEq, Data.seq.injEq] at e
  obtain ⟨_, _, ⟨e, _⟩, _⟩ := e
  cases rs with
  | nil => simp at e
  | cons a r => simp at e
theorem rows_apart (N : News h₀ L h news) (hR : RowsAt news rs its) (hn : (its.map (·.1)).Nodup) {i j : Nat} {a : Addr} (hi : rs[i]? = some a) (hj : rs[j]? = some a) : i = j := by
  obtain ⟨li, _⟩ := List.getElem?_eq_some_iff.mp hi
  obtain ⟨lj, _⟩ := List.getElem?_eq_some_iff.mp hj
  rw [hR.len] at li lj
  obtain ⟨t1, u1, n1, _, m1⟩ := hR.row i a _ hi (List.getElem?_eq_getElem li)
  obtain ⟨t2, u2, n2, _, m2⟩ := hR.row j a _ hj (List.getElem?_eq_getElem lj)
  have e := oneAt N m1 m2
  simp only [Obj.mk.injEq, Data.seq.injEq] at e
  obtain ⟨_, _, ⟨e, _⟩, _⟩ := e
  have e1 : its[i].1 = its[j].1 := by
    have := congrArg (fun a : Array Value => a[0]?) e
    simp at this
    exact this.1
  have hi' : (its.map (·.1))[i]? = some its[i].1 := by simp [li]
  have hj' : (its.map (·.1))[j]? = some its[i].1 := by rw [e1]; simp [lj]
  exact (List.getElem?_inj (by simpa using li) hn).mp (hi'.trans hj'.symm)

theorem put_new {nm : Str} {pv : PV} (h : ∀ it ∈ its, it.1 ≠ nm) : put its nm pv = its ++ [(nm, pv)] := by
  unfold put
  rw [if_neg]
  intro q
  obtain ⟨it, hi, e⟩ := List.any_eq_true.mp q
  exact h it hi (by simpa using e)
theorem put_names {nm : Str} {pv : PV} {p₀ : PV} {i : Nat} (h : its[i]? = some (nm, p₀)) : (put its nm pv).map (·.1) = its.map (·.1) ∧ (put its nm pv).length = its.length := by
  unfold put
  rw [if_pos (by simpa using ⟨p₀, List.mem_of_getElem? h⟩)]
  refine ⟨?_, by simp⟩
  rw [List.map_map]
  refine List.map_congr_left fun it _ => ?_
  by_cases e : it.1 = nm
  · simp [e]
  · simp [e]
theorem put_get {nm : Str} {pv : PV} {p₀ : PV} {i j : Nat} (h : its[i]? = some (nm, p₀)) {it : Str × PV} (hj : (put its nm pv)[j]? = some it) : ∃ it₀, its[j]? = some it₀ ∧ it = if it₀.1 = nm then (it₀.1, pv) else it₀ := by
  unfold put at hj
  rw [if_pos (by simpa using ⟨p₀, List.mem_of_getElem? h⟩), List.getElem?_map] at hj
  obtain ⟨it₀, h1, h2⟩ := Option.map_eq_some_iff.mp hj
  exact ⟨it₀, h1, h2.symm⟩

/-- a new name: it is set at the dict's end, a row is put behind the list -/
theorem Pair.add (P : Pair w news tk dx e b v1 v2 v3 rs its) (N : News h₀ L h news) {nm : Str} {pv : PV} {t : Tok} {v v' : Value} {r : Addr} {n nb : Nat} {o' : Obj} {kvs : List (Str × Value)} (hK : KvsAre kvs its) (hnew : ∀ it ∈ its, it.1 ≠ nm) (hv : pv.Is v) (hv' : pv.Is v')
    (keep : ∀ p ∈ news, p.1 ≠ e → p.1 ≠ b → p ∈ nw) (he : (e, o') ∈ nw) (hD : o'.IsDictOf (knd w) (stored kvs nm v)) (hb : (b, listOf ((rs ++ [r]).map Value.ref).toArray nb) ∈ nw) (hr : (r, listOf #[.str nm t, v'] n) ∈ nw) :
    Pair w nw tk dx e b v1 v2 v3 (rs ++ [r]) (put its nm pv) where
  inst := let ⟨_, hb⟩ := P.book; keep _ P.inst (P.e_tk N) (P.tk_list N hb)
  own := let ⟨mt, k1, k2, k3, k4, k5, h⟩ := P.own; let ⟨_, hb⟩ := P.book; ⟨mt, k1, k2, k3, k4, k5, keep _ h P.ne (P.dx_list N hb)⟩
  dict := ⟨o', _, he, hD, hK.put hv⟩
  lo := P.lo
  book := ⟨nb, hb⟩
  rows := by
    rw [put_new hnew]
    refine ⟨by rw [List.length_append, List.length_append, P.rows.len]; rfl, fun j a it ha hj => ?_⟩
    by_cases hlt : j < rs.length
    · rw [List.getElem?_append_left hlt] at ha
      rw [List.getElem?_append_left (by rw [← P.rows.len]; exact hlt)] at hj
      obtain ⟨t, u, n, hu, hm⟩ := P.rows.row j a it ha hj
      obtain ⟨_, hbk⟩ := P.book
      exact ⟨t, u, n, hu, keep _ hm (Ne.symm (P.e_row N hm)) (row_book N hbk hm)⟩
    · have hl := (List.getElem?_eq_some_iff.mp ha).1
      rw [List.length_append, List.length_singleton] at hl
      obtain rfl : j = rs.length := by omega
      rw [List.getElem?_append_right (Nat.le_refl _), Nat.sub_self] at ha
      rw [P.rows.len, List.getElem?_append_right (Nat.le_refl _), Nat.sub_self] at hj
      cases ha
      cases hj
      exact ⟨t, v', n, hv', hr⟩
  names := by
    rw [put_new hnew, List.map_append]
    refine List.nodup_append.mpr ⟨P.names, by simp, fun a ha c hc => ?_⟩
    obtain ⟨it, hi, rfl⟩ := List.mem_map.mp ha
    simp at hc
    rw [hc]
    exact hnew it hi
  ne := P.ne

/-- a name that stands: its value is changed in its place -/
theorem Pair.turn (P : Pair w news tk dx e b v1 v2 v3 rs its) (N : News h₀ L h news) {nm : Str} {pv p₀ : PV} {i : Nat} {t : Tok} {v v' : Value} {r : Addr} {n : Nat} {o' : Obj} {kvs : List (Str × Value)} (hK : KvsAre kvs its) (hr : rs[i]? = some r) (hi : its[i]? = some (nm, p₀)) (hv : pv.Is v) (hv' : pv.Is v')
    (keep : ∀ p ∈ news, p.1 ≠ e → p.1 ≠ r → p ∈ nw) (he : (e, o') ∈ nw) (hD : o'.IsDictOf (knd w) (stored kvs nm v)) (hm : (r, listOf #[.str nm t, v'] n) ∈ nw) :
    Pair w nw tk dx e b v1 v2 v3 rs (put its nm pv) := by
  obtain ⟨t0, u0, n0, _, m0⟩ := P.rows.row i r _ hr hi
  refine ⟨keep _ P.inst (P.e_tk N) (P.tk_list N m0), ?_, ⟨o', _, he, hD, hK.put hv⟩, P.lo, ?_, ⟨by rw [(put_names hi).2]; exact P.rows.len, fun j a it ha hj => ?_⟩, by rw [(put_names hi).1]; exact P.names, P.ne⟩
  · obtain ⟨mt, k1, k2, k3, k4, k5, h⟩ := P.own
    exact ⟨mt, k1, k2, k3, k4, k5, keep _ h P.ne (P.dx_list N m0)⟩
  · obtain ⟨nb, hb⟩ := P.book
    exact ⟨nb, keep _ hb (Ne.symm (P.e_row N hb)) (Ne.symm (row_book N hb m0))⟩
  · obtain ⟨it₀, h1, rfl⟩ := put_get hi hj
    by_cases hji : j = i
    · subst hji
      rw [hi] at h1
      cases h1
      rw [hr] at ha
      cases ha
      simp only [if_true]
      exact ⟨t, v', n, hv', hm⟩
    · obtain ⟨t1, u1, n1, hu, m1⟩ := P.rows.row j a it₀ ha h1
      have hne : it₀.1 ≠ nm := fun q => hji (by
        have hi' : (its.map (·.1))[i]? = some nm := by simp [hi]
        have hj' : (its.map (·.1))[j]? = some nm := by simp [h1, q]
        exact ((List.getElem?_inj (List.getElem?_eq_some_iff.mp hj').1 P.names).mp (hj'.trans hi'.symm)))
      rw [if_neg hne]
      refine ⟨t1, u1, n1, hu, keep _ m1 (Ne.symm (P.e_row N m1)) fun q => hji ?_⟩
      have q' : a = r := q
      subst q'
      exact rows_apart N P.rows P.names ha hr
end
end Mine
end PartW15
section PartW16
open PySem PySem.W PyProof.Rows PySem.Calls
namespace Mine
def PvOk (c : Nat) : PV → Prop
  | .int i => i = 0 ∨ i = 7 ∨ i = -3
  | .str x => x.length ≤ c ∧ PyData.strOk x = true
def NmOk (x : Str) : Prop := x.length ≤ 10 ∧ PyData.strOk x = true
theorem PvOk.mono {c d : Nat} (h : c ≤ d) : ∀ {p : PV}, PvOk c p → PvOk d p
  | .int _, q => q
  | .str _, ⟨a, b⟩ => ⟨Nat.le_trans a h, b⟩
structure Fine (k : Nat) (its : List (Str × PV)) : Prop where
  len : its.length ≤ k
  all : ∀ it ∈ its, NmOk it.1 ∧ PvOk (10 * k) it.2
theorem Fine.nil : Fine 0 [] := ⟨Nat.le_refl _, fun _ h => nomatch h⟩
theorem Fine.succ {k : Nat} {its : List (Str × PV)} (h : Fine k its) : Fine (k + 1) its := ⟨Nat.le_succ_of_le h.len, fun it hi => ⟨(h.all it hi).1, (h.all it hi).2.mono (by omega)⟩⟩
theorem put_mem {its : List (Str × PV)} {nm : Str} {p : PV} {it : Str × PV} (h : it ∈ put its nm p) : it ∈ its ∨ it = (nm, p) := by
  unfold put at h
  split at h
  · obtain ⟨a, ha, rfl⟩ := List.mem_map.mp h
    split
    · next e => exact .inr (by rw [e])
    · exact .inl ha
  · rcases List.mem_append.mp h with h | h
    · exact .inl h
    · exact .inr (List.mem_singleton.mp h)
theorem put_len {its : List (Str × PV)} {nm : Str} {p : PV} : (put its nm p).length ≤ its.length + 1 := by
  unfold put
  split
  · simp
  · simp
theorem Fine.put {k : Nat} {its : List (Str × PV)} (h : Fine k its) {nm : Str} {p : PV} (hn : NmOk nm) (hp : PvOk (10 * (k + 1)) p) : Fine (k + 1) (Mine.put its nm p) :=
  ⟨Nat.le_trans put_len (Nat.succ_le_succ h.len), fun it hi => by
    rcases put_mem hi with hi | rfl
    · exact h.succ.all it hi
    · exact ⟨hn, hp⟩⟩
theorem int_text {i : Int} (h : i = 0 ∨ i = 7 ∨ i = -3) : (Str.ofString (toString i)).length ≤ 1000 := by
  rcases h with rfl | rfl | rfl <;> decide +kernel
theorem Fine.small {k : Nat} {its : List (Str × PV)} (h : Fine k its) (hk : k ≤ 100) : ∀ it ∈ its, SmallIt it := fun it hi => by
  obtain ⟨⟨h1, h2⟩, h3⟩ := h.all it hi
  obtain ⟨nm, pv⟩ := it
  refine ⟨by dsimp only at h1 ⊢; omega, ?_, ?_⟩
  · cases pv with
    | int i => exact int_text h3
    | str x => exact Nat.le_trans h3.1 (by omega)
  · rintro i rfl
    rcases h3 with rfl | rfl | rfl <;> decide

def pvDat : PV → Dat
  | .int i => .int i
  | .str x => .str x
def itDat (it : Str × PV) : Dat := .tuple [.str it.1, pvDat it.2]
theorem PV.Is.dat {news : List (Addr × Obj)} {p : PV} {v : Value} (h : p.Is v) : DatIn news v (pvDat p) := by
  cases p with
  | int i => obtain ⟨t, rfl⟩ := h; exact .int _ _
  | str x => obtain ⟨t, rfl⟩ := h; exact .str _ _
theorem TupAt.dat {news : List (Addr × Obj)} {a : Addr} {it : Str × PV} (h : TupAt news a it) : DatIn news (.ref a) (itDat it) := by
  obtain ⟨t, v, n, hv, hm⟩ := h
  exact DatIn.tuple (vs := [.str it.1 t, v]) hm (.cons (.str _ _) (.cons hv.dat .nil))
theorem tups_dat {news : List (Addr × Obj)} : ∀ {ts : List Addr} {its : List (Str × PV)}, TupsAt news ts its → DatAll news (ts.map Value.ref) (its.map itDat)
  | [], [], _ => .nil
  | [], _ :: _, h => by have := h.len; simp at this
  | _ :: _, [], h => by have := h.len; simp at this
  | a :: ts, it :: its, h => .cons (h.tup 0 a it rfl rfl).dat (tups_dat ⟨by simpa using h.len, fun i b jt hb hj => h.tup (i + 1) b jt (by simpa using hb) (by simpa using hj)⟩)
theorem Fine.dats {k : Nat} {its : List (Str × PV)} (h : Fine k its) : ∀ d ∈ its.map itDat, kqdOk 8 d = true := fun d hd => by
  obtain ⟨it, hi, rfl⟩ := List.mem_map.mp hd
  obtain ⟨⟨_, h2⟩, h3⟩ := h.all it hi
  obtain ⟨nm, pv⟩ := it
  cases pv with
  | int i => simpa [itDat, pvDat, kqdOk] using h2
  | str x => simpa [itDat, pvDat, kqdOk] using ⟨h2, h3.2⟩

section
variable {prog : Program} {w : World} {A : Around} {E : Value → Shared → Prop} {s : Shared} {h₀ : Heap} {L : Addr} {news : List (Addr × Obj)}
theorem toldSame {D₁ D₂ : Addr} {ts₁ ts₂ : List Addr} {c₁ c₂ k : Nat} {its : List (Str × PV)} {Q : Value → Shared → Prop} (N : News h₀ L s.heap news)
    (h1 : (D₁, listOf (ts₁.map Value.ref).toArray c₁) ∈ news) (t1 : TupsAt news ts₁ its) (h2 : (D₂, listOf (ts₂.map Value.ref).toArray c₂) ∈ news) (t2 : TupsAt news ts₂ its) (hF : Fine k its)
    (hu : A.units + 64 < cLine) (h : Q (.bool true) s) : wpAny (model prog w) A (compareOp .Eq (.ref D₁) (.ref D₂)) Q E s :=
  kqd_eq N h1 rfl rfl (tups_dat t1) (fun _ h => h) h2 rfl rfl (tups_dat t2) (fun _ h => h) hF.dats hF.dats hu (by simp only [decide_true]; exact h)
end

/-- what a deed leaves -/
def After (w : World) (news nw : List (Addr × Obj)) (tk dx e b : Addr) (v1 v2 v3 : Value) (rs : List Addr) (k : Nat) : Prop :=
  ∃ rs' its', Pair w nw tk dx e b v1 v2 v3 rs' its' ∧ Fine (k + 1) its' ∧ (∀ p ∈ news, p.1 ≠ e → p.1 ≠ b → p.1 ∉ rs → p ∈ nw) ∧ ∀ r ∈ rs', r ∈ rs ∨ ∀ p ∈ news, p.1 ≠ r
end Mine
end PartW16
section PartW17
open PySem PySem.W PyProof.Rows PySem.Calls
namespace Mine
local macro_rules | `(tactic| k_mem) => `(tactic| first | with_reducible assumption | with_reducible exact List.mem_cons_self | (refine List.mem_cons_of_mem _ ?_; k_mem))
local macro_rules | `(tactic| walk_at "call ref") => `(tactic| k_extra "myCall")
local macro_rules | `(tactic| walk_at "call builtin:list.append") => `(tactic| k_extra "myApp")
local macro_rules | `(tactic| walk_at "setItem ref int") => `(tactic| k_extra "mySet")
theorem deed0_c {w : World} {mean : ExcName → Option Value} {mg mb : Str → Option Value} {dp un : Nat} {gd : Option (List Code)} {cn : Str} {cs : Scope} {a : Addr} {ccd : Value} {cl : List (Str × Addr)} {A₀ : Around} {base h₀ : Heap} {L : Addr} {m : Str → Option Value} {news : List (Addr × Obj)} {s : Shared}
    {Q E : Value → Shared → Prop} {tk dx e b : Addr} {v1 v2 v3 : Value} {rs : List Addr} {its : List (Str × PV)} {k : Nat} {nm : Str} {t tz : Tok} {v : Value} {pv : PV}
    (C : Here w mean mg mb 80 500 dp un cs A₀ base [] h₀ L m news s)
    (P : Pair w news tk dx e b v1 v2 v3 rs its) (hF : Fine k its) (hk9 : k ≤ 60) (hnm : NmOk nm) (hv : pv.Is v) (hpv : PvOk 9 pv)
    (ret : ∀ h' tk' nw, Fr h₀ L h' m → News h₀ L h' nw → After w news nw tk dx e b v1 v2 v3 rs k → Q (.bool true) { s with heap := h', toks := tk' }) :
    wpAny (model PySem.Challenge.rw_dg5004_01.row.prog w) (topH none dp un gd cn cs L a ccd cl []) (call (.ref 236) [.ref tk, .ref b, .int 0 tz, .str nm t, v]) Q E s := by
  obtain ⟨B, F, X, N, T, hk, hd9, hu⟩ := C
  revert X
  k_fill
  intro X
  obtain ⟨nb, hb⟩ := P.book
  obtain ⟨o, kvs, he, hD, hK⟩ := P.dict
  have hT := P.tokAt
  obtain ⟨mt, k1, k2, k3, k4, k5, hT2⟩ := P.own
  have hT1 := P.inst
  have hlo := P.lo
  have hn : kvs.length ≤ 16777216 := by rw [hK.len]; have := hF.len; omega
  have hrl : (rs.map Value.ref).length ≤ 16777216 := by rw [List.length_map, P.rows.len]; have := hF.len; omega
  refine wpAny_call ?_
  k_dflt ktr_enter
  k_with_none
  k_with "myCall" => (first | (k_dflt (refine' row_c ⟨by k_asm, by k_asm, by k_asm, by k_asm, by k_asm, rfl, by dsimp only; omega, by dsimp only; omega⟩ hb P.rows ?cN ?cS); (case' cN => (intro h6 tk6 F6 N6 hno6; skip)); (case' cS => (intro i6 r6 it6 h6 tk6 F6 N6 hri6 hii6 hne6; obtain ⟨nm6, p06⟩ := it6; obtain rfl : nm6 = nm := hne6; obtain ⟨t6, u6, n6, hu6, hm6⟩ := P.rows.row i6 r6 _ hri6 hii6; skip))) | (k_dflt (refine' set_c ⟨by k_asm, by k_asm, by k_asm, by k_asm, by k_asm, rfl, by dsimp only; omega, by dsimp only; omega⟩ hT he hD hlo hn ?_); intro o9 h9 tk9 nw9 F9 N9 hs9 he9 hD9; have hb9 := hs9 _ hb (Ne.symm (P.e_row N hb)); (try have hm9 := hs9 _ hm6 (Ne.symm (P.e_row N hm6)))))
  k_with "myApp" => ((rename Fr _ _ _ _ => lF'); (rename News _ _ _ _ => lN'); k_dflt (refine appendLed lF' lN' (by k_mem) hrl ?_); intro h8 nw8 n8 F8 N8 hs8 hb8)
  k_with "mySet" => ((rename Fr _ _ _ _ => lF'); (rename News _ _ _ _ => lN'); k_dflt (refine setRow lF' lN' (by k_mem) ?_); intro h8 nw8 n8 F8 N8 hs8 hb8)
  k_steps
  · refine ret _ _ nw8 (by assumption) (by assumption) ⟨rs, _, P.turn  N hK hri6 hii6 hv hv (fun p hp h1 h2 => hs8 _ (hs9 _ hp h1) h2) (hs8 _ he9 (P.e_row N hm6)) hD9 hb8, hF.put hnm (hpv.mono (by omega)), fun p hp h1 h2 h3 => hs8 _ (hs9 _ hp h1) fun q => h3 (by rw [q]; exact List.mem_of_getElem? hri6), fun r hr => .inl hr⟩
  · rename (∀ p ∈ nw9, p.1 < _) => l9
    refine ret _ _ nw8 (by assumption) (by assumption) ⟨_, _, P.add  (nb := n8) N hK hno6 hv hv (fun p hp h1 h2 => hs8 _ (.tail _ (hs9 _ hp h1)) h2) (hs8 _ (.tail _ he9) (P.e_row N hb)) hD9 (by rw [List.map_append]; exact hb8) (hs8 _ (.head _) (Nat.ne_of_gt (l9 _ hb9))), hF.put hnm (hpv.mono (by omega)),
      fun p hp h1 h2 h3 => hs8 _ (.tail _ (hs9 _ hp h1)) h2, fun r hr => ?_⟩
    rcases List.mem_append.mp hr with hr | hr
    · exact .inl hr
    · refine .inr fun p hp q => ?_
      rw [List.mem_singleton.mp hr] at q
      by_cases h1 : p.1 = e
      · have := l9 _ he9
        rw [← q, h1] at this
        exact Nat.lt_irrefl _ this
      · have := l9 _ (hs9 _ hp h1)
        rw [q] at this
        exact Nat.lt_irrefl _ this

theorem deed1_c {w : World} {mean : ExcName → Option Value} {mg mb : Str → Option Value} {dp un : Nat} {gd : Option (List Code)} {cn : Str} {cs : Scope} {a : Addr} {ccd : Value} {cl : List (Str × Addr)} {A₀ : Around} {base h₀ : Heap} {L : Addr} {m : Str → Option Value} {news : List (Addr × Obj)} {s : Shared}
    {Q E : Value → Shared → Prop} {tk dx e b : Addr} {v1 v2 v3 : Value} {rs : List Addr} {its : List (Str × PV)} {k : Nat} {nm : Str} {t tz : Tok} {v : Value} {pv : PV}
    (C : Here w mean mg mb 80 500 dp un cs A₀ base [] h₀ L m news s)
    (P : Pair w news tk dx e b v1 v2 v3 rs its) (hF : Fine k its) (hk9 : k ≤ 60) (hnm : NmOk nm) (hv : pv.Is v) (hpv : PvOk 9 pv)
    (ret : ∀ h' tk' nw, Fr h₀ L h' m → News h₀ L h' nw → After w news nw tk dx e b v1 v2 v3 rs k → Q (.bool true) { s with heap := h', toks := tk' }) :
    wpAny (model PySem.Challenge.rw_dg5004_01.row.prog w) (topH none dp un gd cn cs L a ccd cl []) (call (.ref 236) [.ref tk, .ref b, .int 1 tz, .str nm t, v]) Q E s := by
  obtain ⟨B, F, X, N, T, hk, hd9, hu⟩ := C
  revert X
  k_fill
  intro X
  obtain ⟨nb, hb⟩ := P.book
  obtain ⟨o, kvs, he, hD, hK⟩ := P.dict
  have hT := P.tokAt
  obtain ⟨mt, k1, k2, k3, k4, k5, hT2⟩ := P.own
  have hT1 := P.inst
  have hlo := P.lo
  have hn : kvs.length ≤ 16777216 := by rw [hK.len]; have := hF.len; omega
  have hrl : (rs.map Value.ref).length ≤ 16777216 := by rw [List.length_map, P.rows.len]; have := hF.len; omega
  refine wpAny_call ?_
  k_dflt ktr_enter
  k_with_none
  k_with "myCall" => (first | (k_dflt (refine' row_c ⟨by k_asm, by k_asm, by k_asm, by k_asm, by k_asm, rfl, by dsimp only; omega, by dsimp only; omega⟩ hb P.rows ?cN ?cS); (case' cN => (intro h6 tk6 F6 N6 hno6; skip)); (case' cS => (intro i6 r6 it6 h6 tk6 F6 N6 hri6 hii6 hne6; obtain ⟨nm6, p06⟩ := it6; obtain rfl : nm6 = nm := hne6; obtain ⟨t6, u6, n6, hu6, hm6⟩ := P.rows.row i6 r6 _ hri6 hii6; skip))) | ((rename (∀ p ∈ news, p.1 < _) => l5); (rename News _ _ _ _ => lN'); k_dflt (refine' push_c ⟨by k_asm, by k_asm, by k_asm, lN', by k_asm, rfl, by dsimp only; omega, by dsimp only; omega⟩ (P.mono (fun _ h => List.mem_cons_of_mem _ h)).tokAt (List.mem_cons_of_mem _ he) hD hlo hn (List.mem_cons_self) ?_); intro o9 h9 tk9 nw9 F9 N9 hs9 he9 hD9; have hb9 := hs9 _ (List.mem_cons_of_mem _ hb) (Ne.symm (P.e_row N hb)); (try have hm9 := hs9 _ (List.mem_cons_of_mem _ hm6) (Ne.symm (P.e_row N hm6)))))
  k_with "myApp" => ((rename Fr _ _ _ _ => lF'); (rename News _ _ _ _ => lN'); k_dflt (refine appendLed lF' lN' (by k_mem) hrl ?_); intro h8 nw8 n8 F8 N8 hs8 hb8)
  k_with "mySet" => ((rename Fr _ _ _ _ => lF'); (rename News _ _ _ _ => lN'); k_dflt (refine setRow lF' lN' (by k_mem) ?_); intro h8 nw8 n8 F8 N8 hs8 hb8)
  k_steps
  · refine ret _ _ nw8 (by assumption) (by assumption) ⟨rs, _, P.turn  N hK hri6 hii6 hv hv (fun p hp h1 h2 => hs8 _ (hs9 _ (.tail _ hp) h1) h2) (hs8 _ he9 (P.e_row N hm6)) hD9 hb8, hF.put hnm (hpv.mono (by omega)), fun p hp h1 h2 h3 => hs8 _ (hs9 _ (.tail _ hp) h1) fun q => h3 (by rw [q]; exact List.mem_of_getElem? hri6), fun r hr => .inl hr⟩
  · rename (∀ p ∈ nw9, p.1 < _) => l9
    refine ret _ _ nw8 (by assumption) (by assumption) ⟨_, _, P.add  (nb := n8) N hK hno6 hv hv (fun p hp h1 h2 => hs8 _ (.tail _ (hs9 _ (.tail _ hp) h1)) h2) (hs8 _ (.tail _ he9) (P.e_row N hb)) hD9 (by rw [List.map_append]; exact hb8) (hs8 _ (.head _) (Nat.ne_of_gt (l9 _ hb9))), hF.put hnm (hpv.mono (by omega)),
      fun p hp h1 h2 h3 => hs8 _ (.tail _ (hs9 _ (.tail _ hp) h1)) h2, fun r hr => ?_⟩
    rcases List.mem_append.mp hr with hr | hr
    · exact .inl hr
    · refine .inr fun p hp q => ?_
      rw [List.mem_singleton.mp hr] at q
      by_cases h1 : p.1 = e
      · have := l9 _ he9
        rw [← q, h1] at this
        exact Nat.lt_irrefl _ this
      · have := l9 _ (hs9 _ (.tail _ hp) h1)
        rw [q] at this
        exact Nat.lt_irrefl _ this

end Mine
end PartW17
section PartW18
open PySem PySem.W PyProof.Rows PySem.Calls
namespace Mine
local macro_rules | `(tactic| k_mem) => `(tactic| first | with_reducible assumption | with_reducible exact List.mem_cons_self | (refine List.mem_cons_of_mem _ ?_; k_mem))
local macro_rules | `(tactic| walk_at "call ref") => `(tactic| k_extra "myCall")
local macro_rules | `(tactic| walk_at "call builtin:list.append") => `(tactic| k_extra "myApp")
local macro_rules | `(tactic| walk_at "setItem ref int") => `(tactic| k_extra "mySet")
local macro_rules | `(tactic| walk_at "subscriptTail") => `(tactic| (k_here; (with_reducible show wpAny _ _ (subscriptTail _ _ (Value.ref _) (Value.int _ _)) _ _ _); (with_unfolding_all refine' itemLed ?k1 ?k2 ?k3 ?k4 ?k5 ?_ ?k6; (case k1 => k_asm); (case k2 => k_mem); (case k3 => decide); (case k4 => decide); (case k5 => rfl); (case k6 => with_unfolding_all rfl); k_whole)))
local macro_rules | `(tactic| walk_at "binaryOp Add str str") => `(tactic| ((refine PyProof.Rows.add_str (hsz := ?hsz) ?_); (case hsz => ((simp only [Str.length_append, lBlank, sizeLine_eq]); omega)); intro _ _))
theorem look_none {its : List (Str × PV)} {nm : Str} (h : ∀ it ∈ its, it.1 ≠ nm) : look its nm = none := by
  unfold look
  rw [List.find?_eq_none.mpr fun it hi => by simpa using h it hi]
  rfl
theorem look_some {its : List (Str × PV)} {nm : Str} {p : PV} {i : Nat} (hn : (its.map (·.1)).Nodup) (h : its[i]? = some (nm, p)) : look its nm = some p := by
  unfold look
  have hs : (its.find? fun it => it.1 = nm).isSome := List.find?_isSome.mpr ⟨_, List.mem_of_getElem? h, by simp⟩
  obtain ⟨it, hit⟩ := Option.isSome_iff_exists.mp hs
  have e1 : it.1 = nm := by simpa using List.find?_some hit
  obtain ⟨j, hj⟩ := List.mem_iff_getElem?.mp (List.mem_of_find?_eq_some hit)
  have hi' : (its.map (·.1))[i]? = some nm := by simp [h]
  have hj' : (its.map (·.1))[j]? = some nm := by simp [hj, e1]
  obtain rfl := (List.getElem?_inj (List.getElem?_eq_some_iff.mp hi').1 hn).mp (hi'.trans hj'.symm)
  rw [hit]
  rw [h] at hj
  cases hj
  rfl
theorem KvsAre.at_none {kvs : List (Str × Value)} {its : List (Str × PV)} {nm : Str} (hK : KvsAre kvs its) (h : ∀ it ∈ its, it.1 ≠ nm) : valueAt kvs nm = none := by
  rcases hK.look nm with ⟨_, h2⟩ | ⟨p, v, h1, _, _⟩
  · exact h2
  · rw [look_none h] at h1; cases h1
theorem KvsAre.at_some {kvs : List (Str × Value)} {its : List (Str × PV)} {nm : Str} {p : PV} {i : Nat} (hK : KvsAre kvs its) (hn : (its.map (·.1)).Nodup) (h : its[i]? = some (nm, p)) : ∃ v, valueAt kvs nm = some v ∧ p.Is v := by
  rcases hK.look nm with ⟨h1, _⟩ | ⟨q, v, h1, h2, h3⟩
  · rw [look_some hn h] at h1; cases h1
  · rw [look_some hn h] at h1; cases h1; exact ⟨v, h2, h3⟩
theorem strOk_app {x y : Str} (hx : PyData.strOk x = true) (hy : PyData.strOk y = true) : PyData.strOk (x ++ Str.ofString " " ++ y) = true := by
  have hb : PyData.strOk (Str.ofString " ") = true := by decide +kernel
  unfold PyData.strOk at *
  have e : (x ++ Str.ofString " " ++ y).cps = x.cps ++ (Str.ofString " ").cps ++ y.cps := rfl
  rw [e, Array.all_append, Array.all_append, hx, hy, hb]
  rfl
/-- what a join says -/
def saidOf : PV → Str
  | .int _ => Str.ofString "x"
  | .str y => y
theorem saidOk : ∀ {pv : PV}, PvOk 9 pv → (saidOf pv).length ≤ 9 ∧ PyData.strOk (saidOf pv) = true
  | .int _, _ => ⟨(by decide +kernel : (Str.ofString "x").length ≤ 9), (by decide +kernel : PyData.strOk (Str.ofString "x") = true)⟩
  | .str _, h => h
theorem deed2Int_c {w : World} {mean : ExcName → Option Value} {mg mb : Str → Option Value} {dp un : Nat} {gd : Option (List Code)} {cn : Str} {cs : Scope} {a : Addr} {ccd : Value} {cl : List (Str × Addr)} {A₀ : Around} {base h₀ : Heap} {L : Addr} {m : Str → Option Value} {news : List (Addr × Obj)} {s : Shared}
    {Q E : Value → Shared → Prop} {tk dx e b : Addr} {v1 v2 v3 : Value} {rs : List Addr} {its : List (Str × PV)} {k : Nat} {nm : Str} {t tz : Tok} {v : Value} {pv : PV}
    (C : Here w mean mg mb 80 500 dp un cs A₀ base [] h₀ L m news s)
    (P : Pair w news tk dx e b v1 v2 v3 rs its) (hF : Fine k its) (hk9 : k ≤ 60) (hnm : NmOk nm) (hv : pv.Is v) (hpv : PvOk 9 pv)
    (hw : ∃ i, pv = PV.int i) (hrow : ∀ (i : Nat) (p : PV), its[i]? = some (nm, p) → ∃ x, p = PV.str x)
    (ret : ∀ h' tk' nw, Fr h₀ L h' m → News h₀ L h' nw → After w news nw tk dx e b v1 v2 v3 rs k → Q (.bool true) { s with heap := h', toks := tk' }) :
    wpAny (model PySem.Challenge.rw_dg5004_01.row.prog w) (topH none dp un gd cn cs L a ccd cl []) (call (.ref 236) [.ref tk, .ref b, .int 2 tz, .str nm t, v]) Q E s := by
  obtain ⟨i, rfl⟩ := hw
  obtain ⟨tv, rfl⟩ := hv
  obtain ⟨B, F, X, N, T, hk, hd9, hu⟩ := C
  revert X
  k_fill
  intro X
  obtain ⟨nb, hb⟩ := P.book
  obtain ⟨o, kvs, he, hD, hK⟩ := P.dict
  have hT := P.tokAt
  obtain ⟨mt, k1, k2, k3, k4, k5, hT2⟩ := P.own
  have hT1 := P.inst
  have hlo := P.lo
  have hn : kvs.length ≤ 16777216 := by rw [hK.len]; have := hF.len; omega
  have hrl : (rs.map Value.ref).length ≤ 16777216 := by rw [List.length_map, P.rows.len]; have := hF.len; omega
  obtain ⟨hs91, hs92⟩ := saidOk hpv
  dsimp only [saidOf] at hs91 hs92
  refine wpAny_call ?_
  k_dflt ktr_enter
  k_with_none
  k_with "myCall" => (first | (k_dflt (refine' row_c ⟨by k_asm, by k_asm, by k_asm, by k_asm, by k_asm, rfl, by dsimp only; omega, by dsimp only; omega⟩ hb P.rows ?cN ?cS); (case' cN => (intro h6 tk6 F6 N6 hno6; skip)); (case' cS => (intro i6 r6 it6 h6 tk6 F6 N6 hri6 hii6 hne6; obtain ⟨nm6, p06⟩ := it6; obtain rfl : nm6 = nm := hne6; obtain ⟨t6, u6, n6, hu6, hm6⟩ := P.rows.row i6 r6 _ hri6 hii6; obtain ⟨x6, rfl⟩ := hrow i6 p06 hii6; obtain ⟨l6, hl6, hu5⟩ := hK.at_some P.names hii6; obtain ⟨tl6, rfl⟩ := hu5; obtain ⟨tu6, rfl⟩ := hu6; have hx6 := (hF.all _ (List.mem_of_getElem? hii6)).2; (have hx61 := hx6.1); (have hx62 := hx6.2)))) | (k_dflt (refine' joinNew_c ⟨by k_asm, by k_asm, by k_asm, by k_asm, by k_asm, rfl, by dsimp only; omega, by dsimp only; omega⟩ hT he hD hlo hn (hK.at_none hno6) ?_); intro o9 h9 tk9 nw9 F9 N9 hs9 he9 hD9; have hb9 := hs9 _ hb (Ne.symm (P.e_row N hb)); (try have hm9 := hs9 _ hm6 (Ne.symm (P.e_row N hm6)))) | (k_dflt (refine' joinStr_c ⟨by k_asm, by k_asm, by k_asm, by k_asm, by k_asm, rfl, by dsimp only; omega, by dsimp only; omega⟩ hT he hD hlo hn hl6 (by omega) (by omega) ?_); intro o9 h9 tk9 nw9 t9 F9 N9 hs9 he9 hD9; have hb9 := hs9 _ hb (Ne.symm (P.e_row N hb)); (try have hm9 := hs9 _ hm6 (Ne.symm (P.e_row N hm6)))))
  k_with "myApp" => ((rename Fr _ _ _ _ => lF'); (rename News _ _ _ _ => lN'); k_dflt (refine appendLed lF' lN' (by k_mem) hrl ?_); intro h8 nw8 n8 F8 N8 hs8 hb8)
  k_with "mySet" => ((rename Fr _ _ _ _ => lF'); (rename News _ _ _ _ => lN'); k_dflt (refine setRow lF' lN' (by k_mem) ?_); intro h8 nw8 n8 F8 N8 hs8 hb8)
  k_steps
  · refine ret _ _ nw8 (by assumption) (by assumption) ⟨rs, _, P.turn (pv := .str (x6 ++ Str.ofString " " ++ Str.ofString "x")) N hK hri6 hii6 ⟨_, rfl⟩ ⟨_, rfl⟩ (fun p hp h1 h2 => hs8 _ (hs9 _ hp h1) h2) (hs8 _ he9 (P.e_row N hm6)) hD9 hb8, hF.put hnm (p := .str (x6 ++ Str.ofString " " ++ Str.ofString "x")) ⟨by simp only [Str.length_append, lBlank]; omega, strOk_app hx62 hs92⟩, fun p hp h1 h2 h3 => hs8 _ (hs9 _ hp h1) fun q => h3 (by rw [q]; exact List.mem_of_getElem? hri6), fun r hr => .inl hr⟩
  · rename (∀ p ∈ nw9, p.1 < _) => l9
    refine ret _ _ nw8 (by assumption) (by assumption) ⟨_, _, P.add (pv := .str (Str.ofString "x")) (nb := n8) N hK hno6 ⟨_, rfl⟩ ⟨_, rfl⟩ (fun p hp h1 h2 => hs8 _ (.tail _ (hs9 _ hp h1)) h2) (hs8 _ (.tail _ he9) (P.e_row N hb)) hD9 (by rw [List.map_append]; exact hb8) (hs8 _ (.head _) (Nat.ne_of_gt (l9 _ hb9))), hF.put hnm (p := .str (Str.ofString "x")) ⟨by omega, hs92⟩,
      fun p hp h1 h2 h3 => hs8 _ (.tail _ (hs9 _ hp h1)) h2, fun r hr => ?_⟩
    rcases List.mem_append.mp hr with hr | hr
    · exact .inl hr
    · refine .inr fun p hp q => ?_
      rw [List.mem_singleton.mp hr] at q
      by_cases h1 : p.1 = e
      · have := l9 _ he9
        rw [← q, h1] at this
        exact Nat.lt_irrefl _ this
      · have := l9 _ (hs9 _ hp h1)
        rw [q] at this
        exact Nat.lt_irrefl _ this

theorem deed2Str_c {w : World} {mean : ExcName → Option Value} {mg mb : Str → Option Value} {dp un : Nat} {gd : Option (List Code)} {cn : Str} {cs : Scope} {a : Addr} {ccd : Value} {cl : List (Str × Addr)} {A₀ : Around} {base h₀ : Heap} {L : Addr} {m : Str → Option Value} {news : List (Addr × Obj)} {s : Shared}
    {Q E : Value → Shared → Prop} {tk dx e b : Addr} {v1 v2 v3 : Value} {rs : List Addr} {its : List (Str × PV)} {k : Nat} {nm : Str} {t tz : Tok} {v : Value} {pv : PV}
    (C : Here w mean mg mb 80 500 dp un cs A₀ base [] h₀ L m news s)
    (P : Pair w news tk dx e b v1 v2 v3 rs its) (hF : Fine k its) (hk9 : k ≤ 60) (hnm : NmOk nm) (hv : pv.Is v) (hpv : PvOk 9 pv)
    (hw : ∃ y, pv = PV.str y) (hrow : ∀ (i : Nat) (p : PV), its[i]? = some (nm, p) → ∃ x, p = PV.str x)
    (ret : ∀ h' tk' nw, Fr h₀ L h' m → News h₀ L h' nw → After w news nw tk dx e b v1 v2 v3 rs k → Q (.bool true) { s with heap := h', toks := tk' }) :
    wpAny (model PySem.Challenge.rw_dg5004_01.row.prog w) (topH none dp un gd cn cs L a ccd cl []) (call (.ref 236) [.ref tk, .ref b, .int 2 tz, .str nm t, v]) Q E s := by
  obtain ⟨y, rfl⟩ := hw
  obtain ⟨tv, rfl⟩ := hv
  obtain ⟨B, F, X, N, T, hk, hd9, hu⟩ := C
  revert X
  k_fill
  intro X
  obtain ⟨nb, hb⟩ := P.book
  obtain ⟨o, kvs, he, hD, hK⟩ := P.dict
  have hT := P.tokAt
  obtain ⟨mt, k1, k2, k3, k4, k5, hT2⟩ := P.own
  have hT1 := P.inst
  have hlo := P.lo
  have hn : kvs.length ≤ 16777216 := by rw [hK.len]; have := hF.len; omega
  have hrl : (rs.map Value.ref).length ≤ 16777216 := by rw [List.length_map, P.rows.len]; have := hF.len; omega
  obtain ⟨hs91, hs92⟩ := saidOk hpv
  dsimp only [saidOf] at hs91 hs92
  refine wpAny_call ?_
  k_dflt ktr_enter
  k_with_none
  k_with "myCall" => (first | (k_dflt (refine' row_c ⟨by k_asm, by k_asm, by k_asm, by k_asm, by k_asm, rfl, by dsimp only; omega, by dsimp only; omega⟩ hb P.rows ?cN ?cS); (case' cN => (intro h6 tk6 F6 N6 hno6; skip)); (case' cS => (intro i6 r6 it6 h6 tk6 F6 N6 hri6 hii6 hne6; obtain ⟨nm6, p06⟩ := it6; obtain rfl : nm6 = nm := hne6; obtain ⟨t6, u6, n6, hu6, hm6⟩ := P.rows.row i6 r6 _ hri6 hii6; obtain ⟨x6, rfl⟩ := hrow i6 p06 hii6; obtain ⟨l6, hl6, hu5⟩ := hK.at_some P.names hii6; obtain ⟨tl6, rfl⟩ := hu5; obtain ⟨tu6, rfl⟩ := hu6; have hx6 := (hF.all _ (List.mem_of_getElem? hii6)).2; (have hx61 := hx6.1); (have hx62 := hx6.2)))) | (k_dflt (refine' joinNew_c ⟨by k_asm, by k_asm, by k_asm, by k_asm, by k_asm, rfl, by dsimp only; omega, by dsimp only; omega⟩ hT he hD hlo hn (hK.at_none hno6) ?_); intro o9 h9 tk9 nw9 F9 N9 hs9 he9 hD9; have hb9 := hs9 _ hb (Ne.symm (P.e_row N hb)); (try have hm9 := hs9 _ hm6 (Ne.symm (P.e_row N hm6)))) | (k_dflt (refine' joinStr_c ⟨by k_asm, by k_asm, by k_asm, by k_asm, by k_asm, rfl, by dsimp only; omega, by dsimp only; omega⟩ hT he hD hlo hn hl6 (by omega) (by omega) ?_); intro o9 h9 tk9 nw9 t9 F9 N9 hs9 he9 hD9; have hb9 := hs9 _ hb (Ne.symm (P.e_row N hb)); (try have hm9 := hs9 _ hm6 (Ne.symm (P.e_row N hm6)))))
  k_with "myApp" => ((rename Fr _ _ _ _ => lF'); (rename News _ _ _ _ => lN'); k_dflt (refine appendLed lF' lN' (by k_mem) hrl ?_); intro h8 nw8 n8 F8 N8 hs8 hb8)
  k_with "mySet" => ((rename Fr _ _ _ _ => lF'); (rename News _ _ _ _ => lN'); k_dflt (refine setRow lF' lN' (by k_mem) ?_); intro h8 nw8 n8 F8 N8 hs8 hb8)
  k_steps
  · refine ret _ _ nw8 (by assumption) (by assumption) ⟨rs, _, P.turn (pv := .str (x6 ++ Str.ofString " " ++ y)) N hK hri6 hii6 ⟨_, rfl⟩ ⟨_, rfl⟩ (fun p hp h1 h2 => hs8 _ (hs9 _ hp h1) h2) (hs8 _ he9 (P.e_row N hm6)) hD9 hb8, hF.put hnm (p := .str (x6 ++ Str.ofString " " ++ y)) ⟨by simp only [Str.length_append, lBlank]; omega, strOk_app hx62 hs92⟩, fun p hp h1 h2 h3 => hs8 _ (hs9 _ hp h1) fun q => h3 (by rw [q]; exact List.mem_of_getElem? hri6), fun r hr => .inl hr⟩
  · rename (∀ p ∈ nw9, p.1 < _) => l9
    refine ret _ _ nw8 (by assumption) (by assumption) ⟨_, _, P.add (pv := .str y) (nb := n8) N hK hno6 ⟨_, rfl⟩ ⟨_, rfl⟩ (fun p hp h1 h2 => hs8 _ (.tail _ (hs9 _ hp h1)) h2) (hs8 _ (.tail _ he9) (P.e_row N hb)) hD9 (by rw [List.map_append]; exact hb8) (hs8 _ (.head _) (Nat.ne_of_gt (l9 _ hb9))), hF.put hnm (p := .str y) ⟨by omega, hs92⟩,
      fun p hp h1 h2 h3 => hs8 _ (.tail _ (hs9 _ hp h1)) h2, fun r hr => ?_⟩
    rcases List.mem_append.mp hr with hr | hr
    · exact .inl hr
    · refine .inr fun p hp q => ?_
      rw [List.mem_singleton.mp hr] at q
      by_cases h1 : p.1 = e
      · have := l9 _ he9
        rw [← q, h1] at this
        exact Nat.lt_irrefl _ this
      · have := l9 _ (hs9 _ hp h1)
        rw [q] at this
        exact Nat.lt_irrefl _ this

theorem deed3Int_c {w : World} {mean : ExcName → Option Value} {mg mb : Str → Option Value} {dp un : Nat} {gd : Option (List Code)} {cn : Str} {cs : Scope} {a : Addr} {ccd : Value} {cl : List (Str × Addr)} {A₀ : Around} {base h₀ : Heap} {L : Addr} {m : Str → Option Value} {news : List (Addr × Obj)} {s : Shared}
    {Q E : Value → Shared → Prop} {tk dx e b : Addr} {v1 v2 v3 : Value} {rs : List Addr} {its : List (Str × PV)} {k : Nat} {nm : Str} {t tz : Tok} {v : Value} {pv : PV}
    (C : Here w mean mg mb 80 500 dp un cs A₀ base [] h₀ L m news s)
    (P : Pair w news tk dx e b v1 v2 v3 rs its) (hF : Fine k its) (hk9 : k ≤ 60) (hnm : NmOk nm) (hv : pv.Is v) (hpv : PvOk 9 pv)
    (hw : ∃ i, pv = PV.int i) (hrow : ∀ (i : Nat) (p : PV), its[i]? = some (nm, p) → ∃ x, p = PV.str x)
    (ret : ∀ h' tk' nw, Fr h₀ L h' m → News h₀ L h' nw → After w news nw tk dx e b v1 v2 v3 rs k → Q (.bool true) { s with heap := h', toks := tk' }) :
    wpAny (model PySem.Challenge.rw_dg5004_01.row.prog w) (topH none dp un gd cn cs L a ccd cl []) (call (.ref 236) [.ref tk, .ref b, .int 3 tz, .str nm t, v]) Q E s := by
  obtain ⟨i, rfl⟩ := hw
  obtain ⟨tv, rfl⟩ := hv
  obtain ⟨B, F, X, N, T, hk, hd9, hu⟩ := C
  revert X
  k_fill
  intro X
  obtain ⟨nb, hb⟩ := P.book
  obtain ⟨o, kvs, he, hD, hK⟩ := P.dict
  have hT := P.tokAt
  obtain ⟨mt, k1, k2, k3, k4, k5, hT2⟩ := P.own
  have hT1 := P.inst
  have hlo := P.lo
  have hn : kvs.length ≤ 16777216 := by rw [hK.len]; have := hF.len; omega
  have hrl : (rs.map Value.ref).length ≤ 16777216 := by rw [List.length_map, P.rows.len]; have := hF.len; omega
  obtain ⟨hs91, hs92⟩ := saidOk hpv
  dsimp only [saidOf] at hs91 hs92
  refine wpAny_call ?_
  k_dflt ktr_enter
  k_with_none
  k_with "myCall" => (first | (k_dflt (refine' row_c ⟨by k_asm, by k_asm, by k_asm, by k_asm, by k_asm, rfl, by dsimp only; omega, by dsimp only; omega⟩ hb P.rows ?cN ?cS); (case' cN => (intro h6 tk6 F6 N6 hno6; skip)); (case' cS => (intro i6 r6 it6 h6 tk6 F6 N6 hri6 hii6 hne6; obtain ⟨nm6, p06⟩ := it6; obtain rfl : nm6 = nm := hne6; obtain ⟨t6, u6, n6, hu6, hm6⟩ := P.rows.row i6 r6 _ hri6 hii6; obtain ⟨x6, rfl⟩ := hrow i6 p06 hii6; obtain ⟨l6, hl6, hu5⟩ := hK.at_some P.names hii6; obtain ⟨tl6, rfl⟩ := hu5; obtain ⟨tu6, rfl⟩ := hu6; have hx6 := (hF.all _ (List.mem_of_getElem? hii6)).2; (have hx61 := hx6.1); (have hx62 := hx6.2)))) | (k_dflt (refine' joinNew_c ⟨by k_asm, by k_asm, by k_asm, by k_asm, by k_asm, rfl, by dsimp only; omega, by dsimp only; omega⟩ hT he hD hlo hn (hK.at_none hno6) ?_); intro o9 h9 tk9 nw9 F9 N9 hs9 he9 hD9; have hb9 := hs9 _ hb (Ne.symm (P.e_row N hb)); (try have hm9 := hs9 _ hm6 (Ne.symm (P.e_row N hm6)))) | (k_dflt (refine' joinStr_c ⟨by k_asm, by k_asm, by k_asm, by k_asm, by k_asm, rfl, by dsimp only; omega, by dsimp only; omega⟩ hT he hD hlo hn hl6 (by omega) (by omega) ?_); intro o9 h9 tk9 nw9 t9 F9 N9 hs9 he9 hD9; have hb9 := hs9 _ hb (Ne.symm (P.e_row N hb)); (try have hm9 := hs9 _ hm6 (Ne.symm (P.e_row N hm6)))))
  k_with "myApp" => ((rename Fr _ _ _ _ => lF'); (rename News _ _ _ _ => lN'); k_dflt (refine appendLed lF' lN' (by k_mem) hrl ?_); intro h8 nw8 n8 F8 N8 hs8 hb8)
  k_with "mySet" => ((rename Fr _ _ _ _ => lF'); (rename News _ _ _ _ => lN'); k_dflt (refine setRow lF' lN' (by k_mem) ?_); intro h8 nw8 n8 F8 N8 hs8 hb8)
  k_steps
  · refine ret _ _ nw8 (by assumption) (by assumption) ⟨rs, _, P.turn (pv := .str (x6 ++ Str.ofString " " ++ Str.ofString "x")) N hK hri6 hii6 ⟨_, rfl⟩ ⟨_, rfl⟩ (fun p hp h1 h2 => hs8 _ (hs9 _ hp h1) h2) (hs8 _ he9 (P.e_row N hm6)) hD9 hb8, hF.put hnm (p := .str (x6 ++ Str.ofString " " ++ Str.ofString "x")) ⟨by simp only [Str.length_append, lBlank]; omega, strOk_app hx62 hs92⟩, fun p hp h1 h2 h3 => hs8 _ (hs9 _ hp h1) fun q => h3 (by rw [q]; exact List.mem_of_getElem? hri6), fun r hr => .inl hr⟩
  · rename (∀ p ∈ nw9, p.1 < _) => l9
    refine ret _ _ nw8 (by assumption) (by assumption) ⟨_, _, P.add (pv := .str (Str.ofString "x")) (nb := n8) N hK hno6 ⟨_, rfl⟩ ⟨_, rfl⟩ (fun p hp h1 h2 => hs8 _ (.tail _ (hs9 _ hp h1)) h2) (hs8 _ (.tail _ he9) (P.e_row N hb)) hD9 (by rw [List.map_append]; exact hb8) (hs8 _ (.head _) (Nat.ne_of_gt (l9 _ hb9))), hF.put hnm (p := .str (Str.ofString "x")) ⟨by omega, hs92⟩,
      fun p hp h1 h2 h3 => hs8 _ (.tail _ (hs9 _ hp h1)) h2, fun r hr => ?_⟩
    rcases List.mem_append.mp hr with hr | hr
    · exact .inl hr
    · refine .inr fun p hp q => ?_
      rw [List.mem_singleton.mp hr] at q
      by_cases h1 : p.1 = e
      · have := l9 _ he9
        rw [← q, h1] at this
        exact Nat.lt_irrefl _ this
      · have := l9 _ (hs9 _ hp h1)
        rw [q] at this
        exact Nat.lt_irrefl _ this

theorem deed3Str_c {w : World} {mean : ExcName → Option Value} {mg mb : Str → Option Value} {dp un : Nat} {gd : Option (List Code)} {cn : Str} {cs : Scope} {a : Addr} {ccd : Value} {cl : List (Str × Addr)} {A₀ : Around} {base h₀ : Heap} {L : Addr} {m : Str → Option Value} {news : List (Addr × Obj)} {s : Shared}
    {Q E : Value → Shared → Prop} {tk dx e b : Addr} {v1 v2 v3 : Value} {rs : List Addr} {its : List (Str × PV)} {k : Nat} {nm : Str} {t tz : Tok} {v : Value} {pv : PV}
    (C : Here w mean mg mb 80 500 dp un cs A₀ base [] h₀ L m news s)
    (P : Pair w news tk dx e b v1 v2 v3 rs its) (hF : Fine k its) (hk9 : k ≤ 60) (hnm : NmOk nm) (hv : pv.Is v) (hpv : PvOk 9 pv)
    (hw : ∃ y, pv = PV.str y) (hrow : ∀ (i : Nat) (p : PV), its[i]? = some (nm, p) → ∃ x, p = PV.str x)
    (ret : ∀ h' tk' nw, Fr h₀ L h' m → News h₀ L h' nw → After w news nw tk dx e b v1 v2 v3 rs k → Q (.bool true) { s with heap := h', toks := tk' }) :
    wpAny (model PySem.Challenge.rw_dg5004_01.row.prog w) (topH none dp un gd cn cs L a ccd cl []) (call (.ref 236) [.ref tk, .ref b, .int 3 tz, .str nm t, v]) Q E s := by
  obtain ⟨y, rfl⟩ := hw
  obtain ⟨tv, rfl⟩ := hv
  obtain ⟨B, F, X, N, T, hk, hd9, hu⟩ := C
  revert X
  k_fill
  intro X
  obtain ⟨nb, hb⟩ := P.book
  obtain ⟨o, kvs, he, hD, hK⟩ := P.dict
  have hT := P.tokAt
  obtain ⟨mt, k1, k2, k3, k4, k5, hT2⟩ := P.own
  have hT1 := P.inst
  have hlo := P.lo
  have hn : kvs.length ≤ 16777216 := by rw [hK.len]; have := hF.len; omega
  have hrl : (rs.map Value.ref).length ≤ 16777216 := by rw [List.length_map, P.rows.len]; have := hF.len; omega
  obtain ⟨hs91, hs92⟩ := saidOk hpv
  dsimp only [saidOf] at hs91 hs92
  refine wpAny_call ?_
  k_dflt ktr_enter
  k_with_none
  k_with "myCall" => (first | (k_dflt (refine' row_c ⟨by k_asm, by k_asm, by k_asm, by k_asm, by k_asm, rfl, by dsimp only; omega, by dsimp only; omega⟩ hb P.rows ?cN ?cS); (case' cN => (intro h6 tk6 F6 N6 hno6; skip)); (case' cS => (intro i6 r6 it6 h6 tk6 F6 N6 hri6 hii6 hne6; obtain ⟨nm6, p06⟩ := it6; obtain rfl : nm6 = nm := hne6; obtain ⟨t6, u6, n6, hu6, hm6⟩ := P.rows.row i6 r6 _ hri6 hii6; obtain ⟨x6, rfl⟩ := hrow i6 p06 hii6; obtain ⟨l6, hl6, hu5⟩ := hK.at_some P.names hii6; obtain ⟨tl6, rfl⟩ := hu5; obtain ⟨tu6, rfl⟩ := hu6; have hx6 := (hF.all _ (List.mem_of_getElem? hii6)).2; (have hx61 := hx6.1); (have hx62 := hx6.2)))) | (k_dflt (refine' joinNew_c ⟨by k_asm, by k_asm, by k_asm, by k_asm, by k_asm, rfl, by dsimp only; omega, by dsimp only; omega⟩ hT he hD hlo hn (hK.at_none hno6) ?_); intro o9 h9 tk9 nw9 F9 N9 hs9 he9 hD9; have hb9 := hs9 _ hb (Ne.symm (P.e_row N hb)); (try have hm9 := hs9 _ hm6 (Ne.symm (P.e_row N hm6)))) | (k_dflt (refine' joinStr_c ⟨by k_asm, by k_asm, by k_asm, by k_asm, by k_asm, rfl, by dsimp only; omega, by dsimp only; omega⟩ hT he hD hlo hn hl6 (by omega) (by omega) ?_); intro o9 h9 tk9 nw9 t9 F9 N9 hs9 he9 hD9; have hb9 := hs9 _ hb (Ne.symm (P.e_row N hb)); (try have hm9 := hs9 _ hm6 (Ne.symm (P.e_row N hm6)))))
  k_with "myApp" => ((rename Fr _ _ _ _ => lF'); (rename News _ _ _ _ => lN'); k_dflt (refine appendLed lF' lN' (by k_mem) hrl ?_); intro h8 nw8 n8 F8 N8 hs8 hb8)
  k_with "mySet" => ((rename Fr _ _ _ _ => lF'); (rename News _ _ _ _ => lN'); k_dflt (refine setRow lF' lN' (by k_mem) ?_); intro h8 nw8 n8 F8 N8 hs8 hb8)
  k_steps
  · refine ret _ _ nw8 (by assumption) (by assumption) ⟨rs, _, P.turn (pv := .str (x6 ++ Str.ofString " " ++ y)) N hK hri6 hii6 ⟨_, rfl⟩ ⟨_, rfl⟩ (fun p hp h1 h2 => hs8 _ (hs9 _ hp h1) h2) (hs8 _ he9 (P.e_row N hm6)) hD9 hb8, hF.put hnm (p := .str (x6 ++ Str.ofString " " ++ y)) ⟨by simp only [Str.length_append, lBlank]; omega, strOk_app hx62 hs92⟩, fun p hp h1 h2 h3 => hs8 _ (hs9 _ hp h1) fun q => h3 (by rw [q]; exact List.mem_of_getElem? hri6), fun r hr => .inl hr⟩
  · rename (∀ p ∈ nw9, p.1 < _) => l9
    refine ret _ _ nw8 (by assumption) (by assumption) ⟨_, _, P.add (pv := .str y) (nb := n8) N hK hno6 ⟨_, rfl⟩ ⟨_, rfl⟩ (fun p hp h1 h2 => hs8 _ (.tail _ (hs9 _ hp h1)) h2) (hs8 _ (.tail _ he9) (P.e_row N hb)) hD9 (by rw [List.map_append]; exact hb8) (hs8 _ (.head _) (Nat.ne_of_gt (l9 _ hb9))), hF.put hnm (p := .str y) ⟨by omega, hs92⟩,
      fun p hp h1 h2 h3 => hs8 _ (.tail _ (hs9 _ hp h1)) h2, fun r hr => ?_⟩
    rcases List.mem_append.mp hr with hr | hr
    · exact .inl hr
    · refine .inr fun p hp q => ?_
      rw [List.mem_singleton.mp hr] at q
      by_cases h1 : p.1 = e
      · have := l9 _ he9
        rw [← q, h1] at this
        exact Nat.lt_irrefl _ this
      · have := l9 _ (hs9 _ hp h1)
        rw [q] at this
        exact Nat.lt_irrefl _ this

end Mine
end PartW18
section PartW19
open PySem PySem.W PyProof.Rows PySem.Calls
namespace Mine
local macro_rules | `(tactic| k_mem) => `(tactic| first | with_reducible assumption | with_reducible exact List.mem_cons_self | (refine List.mem_cons_of_mem _ ?_; k_mem))
local macro_rules | `(tactic| walk_at "call ref") => `(tactic| k_extra "myCall")
local macro_rules | `(tactic| walk_at "call builtin:list.append") => `(tactic| k_extra "myApp")
local macro_rules | `(tactic| walk_at "setItem ref int") => `(tactic| k_extra "mySet")
local macro_rules | `(tactic| walk_at "subscriptTail") => `(tactic| (k_here; (with_reducible show wpAny _ _ (subscriptTail _ _ (Value.ref _) (Value.int _ _)) _ _ _); (with_unfolding_all refine' itemLed ?k1 ?k2 ?k3 ?k4 ?k5 ?_ ?k6; (case k1 => k_asm); (case k2 => k_mem); (case k3 => decide); (case k4 => decide); (case k5 => rfl); (case k6 => with_unfolding_all rfl); k_whole)))
theorem After.same {w : World} {news nw : List (Addr × Obj)} {tk dx e b : Addr} {v1 v2 v3 : Value} {rs : List Addr} {its : List (Str × PV)} {k : Nat} (P : Pair w news tk dx e b v1 v2 v3 rs its) (hF : Fine k its) (h : ∀ p ∈ news, p ∈ nw) : After w news nw tk dx e b v1 v2 v3 rs k :=
  ⟨rs, its, P.mono h, hF.succ, fun p hp _ _ _ => h p hp, fun _ hr => .inl hr⟩
local macro_rules | `(tactic| walk_at "compareOp Eq ref ref") => `(tactic| k_extra "myEq")
theorem deed4_c {w : World} {mean : ExcName → Option Value} {mg mb : Str → Option Value} {dp un : Nat} {gd : Option (List Code)} {cn : Str} {cs : Scope} {a : Addr} {ccd : Value} {cl : List (Str × Addr)} {A₀ : Around} {base h₀ : Heap} {L : Addr} {m : Str → Option Value} {news : List (Addr × Obj)} {s : Shared}
    {Q E : Value → Shared → Prop} {tk dx e b : Addr} {v1 v2 v3 : Value} {rs : List Addr} {its : List (Str × PV)} {k : Nat} {nm : Str} {t tz : Tok} {v : Value} {pv : PV}
    (C : Here w mean mg mb 80 500 dp un cs A₀ base [] h₀ L m news s)
    (P : Pair w news tk dx e b v1 v2 v3 rs its) (hF : Fine k its) (hk9 : k ≤ 60) (hnm : NmOk nm) (hv : pv.Is v) (hpv : PvOk 9 pv)
    (ret : ∀ h' tk' nw, Fr h₀ L h' m → News h₀ L h' nw → After w news nw tk dx e b v1 v2 v3 rs k → Q (.bool true) { s with heap := h', toks := tk' }) :
    wpAny (model PySem.Challenge.rw_dg5004_01.row.prog w) (topH none dp un gd cn cs L a ccd cl []) (call (.ref 236) [.ref tk, .ref b, .int 4 tz, .str nm t, v]) Q E s := by
  obtain ⟨B, F, X, N, T, hk, hd9, hu⟩ := C
  revert X
  k_fill
  intro X
  obtain ⟨nb, hb⟩ := P.book
  obtain ⟨o, kvs, he, hD, hK⟩ := P.dict
  have hT := P.tokAt
  obtain ⟨mt, k1, k2, k3, k4, k5, hT2⟩ := P.own
  have hT1 := P.inst
  have hlo := P.lo
  have hn : kvs.length ≤ 16777216 := by rw [hK.len]; have := hF.len; omega
  have hrl : (rs.map Value.ref).length ≤ 16777216 := by rw [List.length_map, P.rows.len]; have := hF.len; omega
  refine wpAny_call ?_
  k_dflt ktr_enter
  k_with_none
  k_with "myCall" => (first | (k_dflt (refine' row_c ⟨by k_asm, by k_asm, by k_asm, by k_asm, by k_asm, rfl, by dsimp only; omega, by dsimp only; omega⟩ hb P.rows ?cN ?cS); (case' cN => (intro h6 tk6 F6 N6 hno6; skip)); (case' cS => (intro i6 r6 it6 h6 tk6 F6 N6 hri6 hii6 hne6; obtain ⟨nm6, p06⟩ := it6; obtain rfl : nm6 = nm := hne6; obtain ⟨t6, u6, n6, hu6, hm6⟩ := P.rows.row i6 r6 _ hri6 hii6; (obtain ⟨l6, hl6, hu5⟩ := hK.at_some P.names hii6); rcases p06 with i6 | x6; all_goals (obtain ⟨tl6, rfl⟩ := hu5); all_goals (obtain ⟨tu6, rfl⟩ := hu6)))) | (k_dflt (refine' get_c ⟨by k_asm, by k_asm, by k_asm, by k_asm, by k_asm, rfl, by dsimp only; omega, by dsimp only; omega⟩ hT he hD hlo ?_); intro h9 tk9 F9 N9; first | (rw [hl6]; dsimp only [Option.getD]) | (rw [hK.at_none hno6]; dsimp only [Option.getD])))
  k_steps
  · rw [beq_self_eq_true]
    exact ret _ _ _ (by assumption) (by assumption) (.same P hF fun _ h => h)
  · rw [beq_self_eq_true]
    exact ret _ _ _ (by assumption) (by assumption) (.same P hF fun _ h => h)
  · exact ret _ _ _ (by assumption) (by assumption) (.same P hF fun _ h => h)
theorem deed6_c {w : World} {mean : ExcName → Option Value} {mg mb : Str → Option Value} {dp un : Nat} {gd : Option (List Code)} {cn : Str} {cs : Scope} {a : Addr} {ccd : Value} {cl : List (Str × Addr)} {A₀ : Around} {base h₀ : Heap} {L : Addr} {m : Str → Option Value} {news : List (Addr × Obj)} {s : Shared}
    {Q E : Value → Shared → Prop} {tk dx e b : Addr} {v1 v2 v3 : Value} {rs : List Addr} {its : List (Str × PV)} {k : Nat} {nm : Str} {t tz : Tok} {v : Value} {pv : PV}
    (C : Here w mean mg mb 80 500 dp un cs A₀ base [] h₀ L m news s)
    (P : Pair w news tk dx e b v1 v2 v3 rs its) (hF : Fine k its) (hk9 : k ≤ 60) (hnm : NmOk nm) (hv : pv.Is v) (hpv : PvOk 9 pv)
    (ret : ∀ h' tk' nw, Fr h₀ L h' m → News h₀ L h' nw → After w news nw tk dx e b v1 v2 v3 rs k → Q (.bool true) { s with heap := h', toks := tk' }) :
    wpAny (model PySem.Challenge.rw_dg5004_01.row.prog w) (topH none dp un gd cn cs L a ccd cl []) (call (.ref 236) [.ref tk, .ref b, .int 6 tz, .str nm t, v]) Q E s := by
  obtain ⟨B, F, X, N, T, hk, hd9, hu⟩ := C
  revert X
  k_fill
  intro X
  obtain ⟨nb, hb⟩ := P.book
  obtain ⟨o, kvs, he, hD, hK⟩ := P.dict
  have hT := P.tokAt
  obtain ⟨mt, k1, k2, k3, k4, k5, hT2⟩ := P.own
  have hT1 := P.inst
  have hlo := P.lo
  have hn : kvs.length ≤ 16777216 := by rw [hK.len]; have := hF.len; omega
  have hrl : (rs.map Value.ref).length ≤ 16777216 := by rw [List.length_map, P.rows.len]; have := hF.len; omega
  refine wpAny_call ?_
  k_dflt ktr_enter
  k_with_none
  k_with "myCall" => (first | (k_dflt (refine' row_c ⟨by k_asm, by k_asm, by k_asm, by k_asm, by k_asm, rfl, by dsimp only; omega, by dsimp only; omega⟩ hb P.rows ?cN ?cS); (case' cN => (intro h6 tk6 F6 N6 hno6; skip)); (case' cS => (intro i6 r6 it6 h6 tk6 F6 N6 hri6 hii6 hne6; obtain ⟨nm6, p06⟩ := it6; obtain rfl : nm6 = nm := hne6; obtain ⟨t6, u6, n6, hu6, hm6⟩ := P.rows.row i6 r6 _ hri6 hii6; skip))) | (k_dflt (refine' page_c ⟨by k_asm, by k_asm, by k_asm, by k_asm, by k_asm, rfl, by dsimp only; omega, by dsimp only; omega⟩ (hs7 _ hb) (P.rows.mono hs7) (hF.small (by omega)) (by have := hF.len; omega) ?_); intro h5 tk5 t5 F5 N5) | (k_dflt (refine' render_c ⟨by k_asm, by k_asm, by k_asm, by k_asm, by k_asm, rfl, by dsimp only; omega, by dsimp only; omega⟩ hT he hD hlo hK (hF.small (by omega)) (by have := hF.len; omega) ?_); intro h7 tk7 t7 nw7 F7 N7 hs7))
  k_steps
  · rw [beq_self_eq_true]
    exact ret _ _ nw7 (by assumption) (by assumption) (.same P hF hs7)
  · rw [beq_self_eq_true]
    exact ret _ _ nw7 (by assumption) (by assumption) (.same P hF hs7)
end Mine
end PartW19
section PartW20
open PySem PySem.W PyProof.Rows PySem.Calls
namespace Mine
local macro_rules | `(tactic| k_mem) => `(tactic| first | with_reducible assumption | with_reducible exact List.mem_cons_self | (refine List.mem_cons_of_mem _ ?_; k_mem))
local macro_rules | `(tactic| walk_at "call ref") => `(tactic| k_extra "myCall")
local macro_rules | `(tactic| walk_at "call builtin:list.append") => `(tactic| k_extra "myApp")
local macro_rules | `(tactic| walk_at "setItem ref int") => `(tactic| k_extra "mySet")
local macro_rules | `(tactic| walk_at "subscriptTail") => `(tactic| (k_here; (with_reducible show wpAny _ _ (subscriptTail _ _ (Value.ref _) (Value.int _ _)) _ _ _); (with_unfolding_all refine' itemLed ?k1 ?k2 ?k3 ?k4 ?k5 ?_ ?k6; (case k1 => k_asm); (case k2 => k_mem); (case k3 => decide); (case k4 => decide); (case k5 => rfl); (case k6 => with_unfolding_all rfl); k_whole)))
local macro_rules | `(tactic| walk_at "compareOp Eq ref ref") => `(tactic| k_extra "myEq")
theorem deed5_c {w : World} {mean : ExcName → Option Value} {mg mb : Str → Option Value} {dp un : Nat} {gd : Option (List Code)} {cn : Str} {cs : Scope} {a : Addr} {ccd : Value} {cl : List (Str × Addr)} {A₀ : Around} {base h₀ : Heap} {L : Addr} {m : Str → Option Value} {news : List (Addr × Obj)} {s : Shared}
    {Q E : Value → Shared → Prop} {tk dx e b : Addr} {v1 v2 v3 : Value} {rs : List Addr} {its : List (Str × PV)} {k : Nat} {nm : Str} {t tz : Tok} {v : Value} {pv : PV}
    (C : Here w mean mg mb 80 500 dp un cs A₀ base [] h₀ L m news s)
    (P : Pair w news tk dx e b v1 v2 v3 rs its) (hF : Fine k its) (hk9 : k ≤ 60) (hnm : NmOk nm) (hv : pv.Is v) (hpv : PvOk 9 pv)
    (ret : ∀ h' tk' nw, Fr h₀ L h' m → News h₀ L h' nw → After w news nw tk dx e b v1 v2 v3 rs k → Q (.bool true) { s with heap := h', toks := tk' }) :
    wpAny (model PySem.Challenge.rw_dg5004_01.row.prog w) (topH none dp un gd cn cs L a ccd cl []) (call (.ref 236) [.ref tk, .ref b, .int 5 tz, .str nm t, v]) Q E s := by
  obtain ⟨B, F, X, N, T, hk, hd9, hu⟩ := C
  revert X
  k_fill
  intro X
  obtain ⟨nb, hb⟩ := P.book
  obtain ⟨o, kvs, he, hD, hK⟩ := P.dict
  have hT := P.tokAt
  obtain ⟨mt, k1, k2, k3, k4, k5, hT2⟩ := P.own
  have hT1 := P.inst
  have hlo := P.lo
  have hn : kvs.length ≤ 16777216 := by rw [hK.len]; have := hF.len; omega
  have hrl : (rs.map Value.ref).length ≤ 16777216 := by rw [List.length_map, P.rows.len]; have := hF.len; omega
  refine wpAny_call ?_
  k_dflt ktr_enter
  k_with_none
  k_with "myCall" => (first | (k_dflt (refine' row_c ⟨by k_asm, by k_asm, by k_asm, by k_asm, by k_asm, rfl, by dsimp only; omega, by dsimp only; omega⟩ hb P.rows ?cN ?cS); (case' cN => (intro h6 tk6 F6 N6 hno6; skip)); (case' cS => (intro i6 r6 it6 h6 tk6 F6 N6 hri6 hii6 hne6; obtain ⟨nm6, p06⟩ := it6; obtain rfl : nm6 = nm := hne6; obtain ⟨t6, u6, n6, hu6, hm6⟩ := P.rows.row i6 r6 _ hri6 hii6; skip))) | (k_dflt (refine' told_c ⟨by k_asm, by k_asm, by k_asm, by k_asm, by k_asm, rfl, by dsimp only; omega, by dsimp only; omega⟩ (.inl rfl) (hs5 _ (up8 _ hb)) ((P.mono up8).rows.mono hs5) (by have := hF.len; omega) ?_); intro D4 c4 ts4 h4 tk4 nw4 F4 N4 hs4 hD4 hT4) | (k_dflt (refine' items_c ⟨by k_asm, by k_asm, by k_asm, by k_asm, by k_asm, rfl, by dsimp only; omega, by dsimp only; omega⟩ (.inl rfl) (P.mono up8).tokAt (up8 _ he) hD hlo hK (by have := hF.len; omega) ?_); intro D5 c5 ts5 h5 tk5 nw5 F5 N5 hs5 hD5 hT5 hl5) | (k_dflt (refine' told_c ⟨by k_asm, by k_asm, by k_asm, by k_asm, by k_asm, rfl, by dsimp only; omega, by dsimp only; omega⟩ (.inl rfl) (hs7 _ hb) (P.rows.mono hs7) (by have := hF.len; omega) ?_); intro D6 c6 ts6 h6 tk6 nw6 F6 N6 hs6 hD6 hT6; have hD76 := hs6 _ hD7) | (k_dflt (refine' items_c ⟨by k_asm, by k_asm, by k_asm, by k_asm, by k_asm, rfl, by dsimp only; omega, by dsimp only; omega⟩ (.inl rfl) hT he hD hlo hK (by have := hF.len; omega) ?_); intro D7 c7 ts7 h7 tk7 nw7 F7 N7 hs7 hD7 hT7 hl7))
  k_with "myEq" => ((rename News _ _ _ _ => lN'); first | k_dflt (refine' toldSame lN' (hs4 _ hD5) (hT5.mono hs4) hD4 hT4 hF (by ke_room) ?_) | k_dflt (refine' toldSame lN' (hs6 _ hD7) (hT7.mono hs6) hD6 hT6 hF (by ke_room) ?_) | (with_reducible refine stop ?_))
  k_with "myApp" => ((rename Fr _ _ _ _ => lF'); (rename News _ _ _ _ => lN'); k_dflt (refine appendLed lF' lN' (by k_mem) (by rw [List.length_map, hT7.len]; have := hF.len; omega) ?_); intro h8 nw8 n8 F8 N8 hs8 hb8; have up8 : ∀ p ∈ news, p ∈ nw8 := fun p hp => hs8 _ (by first | exact hs6 _ (hs7 _ hp) | exact List.mem_cons_of_mem _ (hs6 _ (hs7 _ hp))) (Nat.ne_of_lt (hl7 p hp)); have hT18 := up8 _ hT1; have hT28 := up8 _ hT2)
  k_steps
  all_goals exact ret _ _ nw4 (by assumption) (by assumption) (.same P hF fun p hp => hs4 _ (hs5 _ (up8 _ hp)))
end Mine
end PartW20
section PartW21
open PySem PySem.W PyProof.Rows PySem.Calls
namespace Mine
local macro_rules | `(tactic| k_mem) => `(tactic| first | with_reducible assumption | with_reducible exact List.mem_cons_self | (refine List.mem_cons_of_mem _ ?_; k_mem))
local macro_rules | `(tactic| walk_at "call ref") => `(tactic| k_extra "myCall")
local macro_rules | `(tactic| walk_at "call builtin:list.append") => `(tactic| k_extra "myApp")
local macro_rules | `(tactic| walk_at "setItem ref int") => `(tactic| k_extra "mySet")
local macro_rules | `(tactic| walk_at "subscriptTail") => `(tactic| (k_here; (with_reducible show wpAny _ _ (subscriptTail _ _ (Value.ref _) (Value.int _ _)) _ _ _); (with_unfolding_all refine' itemLed ?k1 ?k2 ?k3 ?k4 ?k5 ?_ ?k6; (case k1 => k_asm); (case k2 => k_mem); (case k3 => decide); (case k4 => decide); (case k5 => rfl); (case k6 => with_unfolding_all rfl); k_whole)))
local macro_rules | `(tactic| walk_at "compareOp Eq ref ref") => `(tactic| k_extra "myEq")
local macro_rules | `(tactic| walk_at "noteFrame ref") => `(tactic| (with_reducible refine stop ?_))
local macro_rules | `(tactic| walk_at "LeaveS0") => `(tactic| (with_reducible refine stop ?_))
theorem raise2Int_c {w : World} {mean : ExcName → Option Value} {mg mb : Str → Option Value} {dp un : Nat} {gd : Option (List Code)} {cn : Str} {cs : Scope} {a : Addr} {ccd : Value} {A₀ : Around} {base h₀ : Heap} {L : Addr} {m : Str → Option Value} {news : List (Addr × Obj)} {s : Shared}
    {Q E : Value → Shared → Prop} {tk dx e b : Addr} {v1 v2 v3 : Value} {rs : List Addr} {its : List (Str × PV)} {k : Nat} {nm : Str} {t tz : Tok} {v : Value} {pv : PV}
    (C : Here w mean mg mb 80 500 dp un cs A₀ base [] h₀ L m news s)
    (P : Pair w news tk dx e b v1 v2 v3 rs its) (hF : Fine k its) (hk9 : k ≤ 60) (hnm : NmOk nm) (hv : pv.Is v) (hpv : PvOk 9 pv)
    (hw : ∃ i, pv = PV.int i) (i0 : Nat) (z0 : Int) (hi0 : its[i0]? = some (nm, PV.int z0)) (hz0 : z0.natAbs < 1000)
    (XB : (hd.heap_39 w.params).In base) (TB : Top hd.view_39 (looseW hd.view_39 [Str.ofString "Token", Str.ofString "MD_ASCII_PUNCT", Str.ofString "RendererHTML"]) mean mg mb base)
    (ret : ∀ h' tk' nw, Fr h₀ L h' m → News h₀ L h' nw → After w news nw tk dx e b v1 v2 v3 rs k → Q (.bool true) { s with heap := h', toks := tk' }) :
    wpAny (model PySem.Challenge.rw_dg5004_01.row.prog w) (topH none dp un gd cn cs L a ccd [] []) (call (.ref 236) [.ref tk, .ref b, .int 2 tz, .str nm t, v]) Q E s := by
  obtain ⟨i, rfl⟩ := hw
  obtain ⟨tv, rfl⟩ := hv
  obtain ⟨B, F, X, N, T, hk, hd9, hu⟩ := C
  revert X
  k_fill
  intro X
  obtain ⟨nb, hb⟩ := P.book
  obtain ⟨o, kvs, he, hD, hK⟩ := P.dict
  have hT := P.tokAt
  obtain ⟨mt, k1, k2, k3, k4, k5, hT2⟩ := P.own
  have hT1 := P.inst
  have hlo := P.lo
  have hn : kvs.length ≤ 16777216 := by rw [hK.len]; have := hF.len; omega
  have hrl : (rs.map Value.ref).length ≤ 16777216 := by rw [List.length_map, P.rows.len]; have := hF.len; omega
  refine wpAny_call ?_
  k_dflt (refine' code_defS0 ?k1 ?k2 ?k3 ?k4 ?k5 ?kA ?k6 ?k7 ?k8 ?k9 ?kB ?_ ?cK ?c2 ?c3 ?c4 ?c5; (case kA => exact rfl); (case cK => assumption); (case k2 => k_asm); (case k1 => k_asm); (case k3 => k_asm); (case k4 => k_asm); (case k5 => k_asm); (case k6 => k_is); (case k7 => k_is); (case k8 => ktr_room); (case k9 => exact BindsTo.of_eq rfl); (case c5 => decide); (case kB => exact locs rfl); (case c2 => exact rfl); (case c3 => exact rfl); (case c4 => exact rfl); k_whole; intro g' L' h' FG' F' N' B' X' T' D'; (try dsimp only); (try k_fold))
  k_with_none
  k_with "myCall" => (first | (k_dflt (refine' row_c ⟨by k_asm, by k_asm, by k_asm, by k_asm, by k_asm, rfl, by (try dsimp only [Around.mark, Around.deeper]); omega, by (try dsimp only [Around.mark, Around.deeper]); omega⟩ hb P.rows ?cN ?cS); (case' cN => (intro h6 tk6 F6 N6 hno6; exact absurd rfl (hno6 _ (List.mem_of_getElem? hi0)))); (case' cS => (intro i6 r6 it6 h6 tk6 F6 N6 hri6 hii6 hne6; obtain ⟨nm6, p06⟩ := it6; obtain rfl : nm6 = nm := hne6; obtain ⟨t6, u6, n6, hu6, hm6⟩ := P.rows.row i6 r6 _ hri6 hii6; obtain rfl : i6 = i0 := (List.getElem?_inj (by rw [List.length_map]; exact (List.getElem?_eq_some_iff.mp hii6).1) P.names).mp (by simp only [List.getElem?_map, hii6, hi0, Option.map_some]); rw [hi0] at hii6; obtain rfl := (Prod.mk.inj (Option.some.inj hii6)).2; (obtain ⟨l6, hl6, hu5⟩ := hK.at_some P.names hi0); (obtain ⟨tl6, rfl⟩ := hu5); (obtain ⟨tu6, rfl⟩ := hu6)))) | (k_dflt (refine' told_c ⟨by k_asm, by k_asm, by k_asm, by k_asm, by k_asm, rfl, by (try dsimp only [Around.mark, Around.deeper]); omega, by (try dsimp only [Around.mark, Around.deeper]); omega⟩ (hH9.mono hs7) (hs7 _ (up9 _ hb)) ((P.mono up9).rows.mono hs7) (by have := hF.len; omega) ?_); intro D6 c6 ts6 h6 tk6 nw6 F6 N6 hs6 hD6 hT6) | (k_dflt (refine' items_c ⟨by k_asm, by k_asm, by k_asm, by k_asm, by k_asm, rfl, by (try dsimp only [Around.mark, Around.deeper]); omega, by (try dsimp only [Around.mark, Around.deeper]); omega⟩ hH9 (P.mono up9).tokAt (up9 _ he) hD hlo hK (by have := hF.len; omega) ?_); intro D7 c7 ts7 h7 tk7 nw7 F7 N7 hs7 hD7 hT7 hl7) | (k_dflt (refine' joinRaise_c ⟨by k_asm, by k_asm, by k_asm, by k_asm, by k_asm, rfl, by (try dsimp only [Around.mark, Around.deeper]); omega, by (try dsimp only [Around.mark, Around.deeper]); omega⟩ hT he hD hlo hl6 hz0 ?_); intro g9 x9 t9 vs9 h9 tk9 F9 R9 U9 c9))
  k_with "myEq" => ((rename News _ _ _ _ => lN'); first | k_dflt (refine' toldSame lN' (hs6 _ hD7) (hT7.mono hs6) hD6 hT6 hF (by ke_room) ?_) | (with_reducible refine stop ?_))
  k_steps
  unfold Stop
  refine' caughtSC ?R ?F ?K ?U ?cc ?XB ?TB ?D ?T0 ?ex ?_
  (case R => exact R9); (case F => assumption); (case K => assumption); (case U => exact U9); (case cc => exact c9); (case XB => assumption); (case TB => assumption); (case D => assumption); (case T0 => exact KtsTurn.refl); (case ex => k_is)
  intro h8 g8 oe8 ws8 T8 F8 N8 hdo8 hc8 K8 X8 P8 D8
  have hH9 : HOkL (some (.ref x9)) ((x9, oe8) :: news) := .inr ⟨x9, oe8, ws8, rfl, .head _, hdo8, hc8⟩
  have up9 : ∀ p ∈ news, p ∈ (x9, oe8) :: news := fun _ h => .tail _ h
  k_steps
  unfold Stop
  refine leaveS0_ (g' := g8) (by k_asm) (by k_asm) T8 fun kF kN => ?_
  exact ret _ _ nw6 kF kN (.same P hF fun p hp => hs6 _ (hs7 _ (up9 _ hp)))
theorem raise2Str_c {w : World} {mean : ExcName → Option Value} {mg mb : Str → Option Value} {dp un : Nat} {gd : Option (List Code)} {cn : Str} {cs : Scope} {a : Addr} {ccd : Value} {A₀ : Around} {base h₀ : Heap} {L : Addr} {m : Str → Option Value} {news : List (Addr × Obj)} {s : Shared}
    {Q E : Value → Shared → Prop} {tk dx e b : Addr} {v1 v2 v3 : Value} {rs : List Addr} {its : List (Str × PV)} {k : Nat} {nm : Str} {t tz : Tok} {v : Value} {pv : PV}
    (C : Here w mean mg mb 80 500 dp un cs A₀ base [] h₀ L m news s)
    (P : Pair w news tk dx e b v1 v2 v3 rs its) (hF : Fine k its) (hk9 : k ≤ 60) (hnm : NmOk nm) (hv : pv.Is v) (hpv : PvOk 9 pv)
    (hw : ∃ y, pv = PV.str y) (i0 : Nat) (z0 : Int) (hi0 : its[i0]? = some (nm, PV.int z0)) (hz0 : z0.natAbs < 1000)
    (XB : (hd.heap_39 w.params).In base) (TB : Top hd.view_39 (looseW hd.view_39 [Str.ofString "Token", Str.ofString "MD_ASCII_PUNCT", Str.ofString "RendererHTML"]) mean mg mb base)
    (ret : ∀ h' tk' nw, Fr h₀ L h' m → News h₀ L h' nw → After w news nw tk dx e b v1 v2 v3 rs k → Q (.bool true) { s with heap := h', toks := tk' }) :
    wpAny (model PySem.Challenge.rw_dg5004_01.row.prog w) (topH none dp un gd cn cs L a ccd [] []) (call (.ref 236) [.ref tk, .ref b, .int 2 tz, .str nm t, v]) Q E s := by
  obtain ⟨y, rfl⟩ := hw
  obtain ⟨tv, rfl⟩ := hv
  obtain ⟨B, F, X, N, T, hk, hd9, hu⟩ := C
  revert X
  k_fill
  intro X
  obtain ⟨nb, hb⟩ := P.book
  obtain ⟨o, kvs, he, hD, hK⟩ := P.dict
  have hT := P.tokAt
  obtain ⟨mt, k1, k2, k3, k4, k5, hT2⟩ := P.own
  have hT1 := P.inst
  have hlo := P.lo
  have hn : kvs.length ≤ 16777216 := by rw [hK.len]; have := hF.len; omega
  have hrl : (rs.map Value.ref).length ≤ 16777216 := by rw [List.length_map, P.rows.len]; have := hF.len; omega
  refine wpAny_call ?_
  k_dflt (refine' code_defS0 ?k1 ?k2 ?k3 ?k4 ?k5 ?kA ?k6 ?k7 ?k8 ?k9 ?kB ?_ ?cK ?c2 ?c3 ?c4 ?c5; (case kA => exact rfl); (case cK => assumption); (case k2 => k_asm); (case k1 => k_asm); (case k3 => k_asm); (case k4 => k_asm); (case k5 => k_asm); (case k6 => k_is); (case k7 => k_is); (case k8 => ktr_room); (case k9 => exact BindsTo.of_eq rfl); (case c5 => decide); (case kB => exact locs rfl); (case c2 => exact rfl); (case c3 => exact rfl); (case c4 => exact rfl); k_whole; intro g' L' h' FG' F' N' B' X' T' D'; (try dsimp only); (try k_fold))
  k_with_none
  k_with "myCall" => (first | (k_dflt (refine' row_c ⟨by k_asm, by k_asm, by k_asm, by k_asm, by k_asm, rfl, by (try dsimp only [Around.mark, Around.deeper]); omega, by (try dsimp only [Around.mark, Around.deeper]); omega⟩ hb P.rows ?cN ?cS); (case' cN => (intro h6 tk6 F6 N6 hno6; exact absurd rfl (hno6 _ (List.mem_of_getElem? hi0)))); (case' cS => (intro i6 r6 it6 h6 tk6 F6 N6 hri6 hii6 hne6; obtain ⟨nm6, p06⟩ := it6; obtain rfl : nm6 = nm := hne6; obtain ⟨t6, u6, n6, hu6, hm6⟩ := P.rows.row i6 r6 _ hri6 hii6; obtain rfl : i6 = i0 := (List.getElem?_inj (by rw [List.length_map]; exact (List.getElem?_eq_some_iff.mp hii6).1) P.names).mp (by simp only [List.getElem?_map, hii6, hi0, Option.map_some]); rw [hi0] at hii6; obtain rfl := (Prod.mk.inj (Option.some.inj hii6)).2; (obtain ⟨l6, hl6, hu5⟩ := hK.at_some P.names hi0); (obtain ⟨tl6, rfl⟩ := hu5); (obtain ⟨tu6, rfl⟩ := hu6)))) | (k_dflt (refine' told_c ⟨by k_asm, by k_asm, by k_asm, by k_asm, by k_asm, rfl, by (try dsimp only [Around.mark, Around.deeper]); omega, by (try dsimp only [Around.mark, Around.deeper]); omega⟩ (hH9.mono hs7) (hs7 _ (up9 _ hb)) ((P.mono up9).rows.mono hs7) (by have := hF.len; omega) ?_); intro D6 c6 ts6 h6 tk6 nw6 F6 N6 hs6 hD6 hT6) | (k_dflt (refine' items_c ⟨by k_asm, by k_asm, by k_asm, by k_asm, by k_asm, rfl, by (try dsimp only [Around.mark, Around.deeper]); omega, by (try dsimp only [Around.mark, Around.deeper]); omega⟩ hH9 (P.mono up9).tokAt (up9 _ he) hD hlo hK (by have := hF.len; omega) ?_); intro D7 c7 ts7 h7 tk7 nw7 F7 N7 hs7 hD7 hT7 hl7) | (k_dflt (refine' joinRaise_c ⟨by k_asm, by k_asm, by k_asm, by k_asm, by k_asm, rfl, by (try dsimp only [Around.mark, Around.deeper]); omega, by (try dsimp only [Around.mark, Around.deeper]); omega⟩ hT he hD hlo hl6 hz0 ?_); intro g9 x9 t9 vs9 h9 tk9 F9 R9 U9 c9))
  k_with "myEq" => ((rename News _ _ _ _ => lN'); first | k_dflt (refine' toldSame lN' (hs6 _ hD7) (hT7.mono hs6) hD6 hT6 hF (by ke_room) ?_) | (with_reducible refine stop ?_))
  k_steps
  unfold Stop
  refine' caughtSC ?R ?F ?K ?U ?cc ?XB ?TB ?D ?T0 ?ex ?_
  (case R => exact R9); (case F => assumption); (case K => assumption); (case U => exact U9); (case cc => exact c9); (case XB => assumption); (case TB => assumption); (case D => assumption); (case T0 => exact KtsTurn.refl); (case ex => k_is)
  intro h8 g8 oe8 ws8 T8 F8 N8 hdo8 hc8 K8 X8 P8 D8
  have hH9 : HOkL (some (.ref x9)) ((x9, oe8) :: news) := .inr ⟨x9, oe8, ws8, rfl, .head _, hdo8, hc8⟩
  have up9 : ∀ p ∈ news, p ∈ (x9, oe8) :: news := fun _ h => .tail _ h
  k_steps
  unfold Stop
  refine leaveS0_ (g' := g8) (by k_asm) (by k_asm) T8 fun kF kN => ?_
  exact ret _ _ nw6 kF kN (.same P hF fun p hp => hs6 _ (hs7 _ (up9 _ hp)))
theorem raise3Int_c {w : World} {mean : ExcName → Option Value} {mg mb : Str → Option Value} {dp un : Nat} {gd : Option (List Code)} {cn : Str} {cs : Scope} {a : Addr} {ccd : Value} {A₀ : Around} {base h₀ : Heap} {L : Addr} {m : Str → Option Value} {news : List (Addr × Obj)} {s : Shared}
    {Q E : Value → Shared → Prop} {tk dx e b : Addr} {v1 v2 v3 : Value} {rs : List Addr} {its : List (Str × PV)} {k : Nat} {nm : Str} {t tz : Tok} {v : Value} {pv : PV}
    (C : Here w mean mg mb 80 500 dp un cs A₀ base [] h₀ L m news s)
    (P : Pair w news tk dx e b v1 v2 v3 rs its) (hF : Fine k its) (hk9 : k ≤ 60) (hnm : NmOk nm) (hv : pv.Is v) (hpv : PvOk 9 pv)
    (hw : ∃ i, pv = PV.int i) (i0 : Nat) (z0 : Int) (hi0 : its[i0]? = some (nm, PV.int z0)) (hz0 : z0.natAbs < 1000)
    (XB : (hd.heap_39 w.params).In base) (TB : Top hd.view_39 (looseW hd.view_39 [Str.ofString "Token", Str.ofString "MD_ASCII_PUNCT", Str.ofString "RendererHTML"]) mean mg mb base)
    (ret : ∀ h' tk' nw, Fr h₀ L h' m → News h₀ L h' nw → After w news nw tk dx e b v1 v2 v3 rs k → Q (.bool true) { s with heap := h', toks := tk' }) :
    wpAny (model PySem.Challenge.rw_dg5004_01.row.prog w) (topH none dp un gd cn cs L a ccd [] []) (call (.ref 236) [.ref tk, .ref b, .int 3 tz, .str nm t, v]) Q E s := by
  obtain ⟨i, rfl⟩ := hw
  obtain ⟨tv, rfl⟩ := hv
  obtain ⟨B, F, X, N, T, hk, hd9, hu⟩ := C
  revert X
  k_fill
  intro X
  obtain ⟨nb, hb⟩ := P.book
  obtain ⟨o, kvs, he, hD, hK⟩ := P.dict
  have hT := P.tokAt
  obtain ⟨mt, k1, k2, k3, k4, k5, hT2⟩ := P.own
  have hT1 := P.inst
  have hlo := P.lo
  have hn : kvs.length ≤ 16777216 := by rw [hK.len]; have := hF.len; omega
  have hrl : (rs.map Value.ref).length ≤ 16777216 := by rw [List.length_map, P.rows.len]; have := hF.len; omega
  refine wpAny_call ?_
  k_dflt (refine' code_defS0 ?k1 ?k2 ?k3 ?k4 ?k5 ?kA ?k6 ?k7 ?k8 ?k9 ?kB ?_ ?cK ?c2 ?c3 ?c4 ?c5; (case kA => exact rfl); (case cK => assumption); (case k2 => k_asm); (case k1 => k_asm); (case k3 => k_asm); (case k4 => k_asm); (case k5 => k_asm); (case k6 => k_is); (case k7 => k_is); (case k8 => ktr_room); (case k9 => exact BindsTo.of_eq rfl); (case c5 => decide); (case kB => exact locs rfl); (case c2 => exact rfl); (case c3 => exact rfl); (case c4 => exact rfl); k_whole; intro g' L' h' FG' F' N' B' X' T' D'; (try dsimp only); (try k_fold))
  k_with_none
  k_with "myCall" => (first | (k_dflt (refine' row_c ⟨by k_asm, by k_asm, by k_asm, by k_asm, by k_asm, rfl, by (try dsimp only [Around.mark, Around.deeper]); omega, by (try dsimp only [Around.mark, Around.deeper]); omega⟩ hb P.rows ?cN ?cS); (case' cN => (intro h6 tk6 F6 N6 hno6; exact absurd rfl (hno6 _ (List.mem_of_getElem? hi0)))); (case' cS => (intro i6 r6 it6 h6 tk6 F6 N6 hri6 hii6 hne6; obtain ⟨nm6, p06⟩ := it6; obtain rfl : nm6 = nm := hne6; obtain ⟨t6, u6, n6, hu6, hm6⟩ := P.rows.row i6 r6 _ hri6 hii6; obtain rfl : i6 = i0 := (List.getElem?_inj (by rw [List.length_map]; exact (List.getElem?_eq_some_iff.mp hii6).1) P.names).mp (by simp only [List.getElem?_map, hii6, hi0, Option.map_some]); rw [hi0] at hii6; obtain rfl := (Prod.mk.inj (Option.some.inj hii6)).2; (obtain ⟨l6, hl6, hu5⟩ := hK.at_some P.names hi0); (obtain ⟨tl6, rfl⟩ := hu5); (obtain ⟨tu6, rfl⟩ := hu6)))) | (k_dflt (refine' told_c ⟨by k_asm, by k_asm, by k_asm, by k_asm, by k_asm, rfl, by (try dsimp only [Around.mark, Around.deeper]); omega, by (try dsimp only [Around.mark, Around.deeper]); omega⟩ (hH9.mono hs7) (hs7 _ (up9 _ hb)) ((P.mono up9).rows.mono hs7) (by have := hF.len; omega) ?_); intro D6 c6 ts6 h6 tk6 nw6 F6 N6 hs6 hD6 hT6) | (k_dflt (refine' items_c ⟨by k_asm, by k_asm, by k_asm, by k_asm, by k_asm, rfl, by (try dsimp only [Around.mark, Around.deeper]); omega, by (try dsimp only [Around.mark, Around.deeper]); omega⟩ hH9 (P.mono up9).tokAt (up9 _ he) hD hlo hK (by have := hF.len; omega) ?_); intro D7 c7 ts7 h7 tk7 nw7 F7 N7 hs7 hD7 hT7 hl7) | (k_dflt (refine' joinRaise_c ⟨by k_asm, by k_asm, by k_asm, by k_asm, by k_asm, rfl, by (try dsimp only [Around.mark, Around.deeper]); omega, by (try dsimp only [Around.mark, Around.deeper]); omega⟩ hT he hD hlo hl6 hz0 ?_); intro g9 x9 t9 vs9 h9 tk9 F9 R9 U9 c9))
  k_with "myEq" => ((rename News _ _ _ _ => lN'); first | k_dflt (refine' toldSame lN' (hs6 _ hD7) (hT7.mono hs6) hD6 hT6 hF (by ke_room) ?_) | (with_reducible refine stop ?_))
  k_steps
  unfold Stop
  refine' caughtSC ?R ?F ?K ?U ?cc ?XB ?TB ?D ?T0 ?ex ?_
  (case R => exact R9); (case F => assumption); (case K => assumption); (case U => exact U9); (case cc => exact c9); (case XB => assumption); (case TB => assumption); (case D => assumption); (case T0 => exact KtsTurn.refl); (case ex => k_is)
  intro h8 g8 oe8 ws8 T8 F8 N8 hdo8 hc8 K8 X8 P8 D8
  have hH9 : HOkL (some (.ref x9)) ((x9, oe8) :: news) := .inr ⟨x9, oe8, ws8, rfl, .head _, hdo8, hc8⟩
  have up9 : ∀ p ∈ news, p ∈ (x9, oe8) :: news := fun _ h => .tail _ h
  k_steps
  unfold Stop
  refine leaveS0_ (g' := g8) (by k_asm) (by k_asm) T8 fun kF kN => ?_
  exact ret _ _ nw6 kF kN (.same P hF fun p hp => hs6 _ (hs7 _ (up9 _ hp)))
theorem raise3Str_c {w : World} {mean : ExcName → Option Value} {mg mb : Str → Option Value} {dp un : Nat} {gd : Option (List Code)} {cn : Str} {cs : Scope} {a : Addr} {ccd : Value} {A₀ : Around} {base h₀ : Heap} {L : Addr} {m : Str → Option Value} {news : List (Addr × Obj)} {s : Shared}
    {Q E : Value → Shared → Prop} {tk dx e b : Addr} {v1 v2 v3 : Value} {rs : List Addr} {its : List (Str × PV)} {k : Nat} {nm : Str} {t tz : Tok} {v : Value} {pv : PV}
    (C : Here w mean mg mb 80 500 dp un cs A₀ base [] h₀ L m news s)
    (P : Pair w news tk dx e b v1 v2 v3 rs its) (hF : Fine k its) (hk9 : k ≤ 60) (hnm : NmOk nm) (hv : pv.Is v) (hpv : PvOk 9 pv)
    (hw : ∃ y, pv = PV.str y) (i0 : Nat) (z0 : Int) (hi0 : its[i0]? = some (nm, PV.int z0)) (hz0 : z0.natAbs < 1000)
    (XB : (hd.heap_39 w.params).In base) (TB : Top hd.view_39 (looseW hd.view_39 [Str.ofString "Token", Str.ofString "MD_ASCII_PUNCT", Str.ofString "RendererHTML"]) mean mg mb base)
    (ret : ∀ h' tk' nw, Fr h₀ L h' m → News h₀ L h' nw → After w news nw tk dx e b v1 v2 v3 rs k → Q (.bool true) { s with heap := h', toks := tk' }) :
    wpAny (model PySem.Challenge.rw_dg5004_01.row.prog w) (topH none dp un gd cn cs L a ccd [] []) (call (.ref 236) [.ref tk, .ref b, .int 3 tz, .str nm t, v]) Q E s := by
  obtain ⟨y, rfl⟩ := hw
  obtain ⟨tv, rfl⟩ := hv
  obtain ⟨B, F, X, N, T, hk, hd9, hu⟩ := C
  revert X
  k_fill
  intro X
  obtain ⟨nb, hb⟩ := P.book
  obtain ⟨o, kvs, he, hD, hK⟩ := P.dict
  have hT := P.tokAt
  obtain ⟨mt, k1, k2, k3, k4, k5, hT2⟩ := P.own
  have hT1 := P.inst
  have hlo := P.lo
  have hn : kvs.length ≤ 16777216 := by rw [hK.len]; have := hF.len; omega
  have hrl : (rs.map Value.ref).length ≤ 16777216 := by rw [List.length_map, P.rows.len]; have := hF.len; omega
  refine wpAny_call ?_
  k_dflt (refine' code_defS0 ?k1 ?k2 ?k3 ?k4 ?k5 ?kA ?k6 ?k7 ?k8 ?k9 ?kB ?_ ?cK ?c2 ?c3 ?c4 ?c5; (case kA => exact rfl); (case cK => assumption); (case k2 => k_asm); (case k1 => k_asm); (case k3 => k_asm); (case k4 => k_asm); (case k5 => k_asm); (case k6 => k_is); (case k7 => k_is); (case k8 => ktr_room); (case k9 => exact BindsTo.of_eq rfl); (case c5 => decide); (case kB => exact locs rfl); (case c2 => exact rfl); (case c3 => exact rfl); (case c4 => exact rfl); k_whole; intro g' L' h' FG' F' N' B' X' T' D'; (try dsimp only); (try k_fold))
  k_with_none
  k_with "myCall" => (first | (k_dflt (refine' row_c ⟨by k_asm, by k_asm, by k_asm, by k_asm, by k_asm, rfl, by (try dsimp only [Around.mark, Around.deeper]); omega, by (try dsimp only [Around.mark, Around.deeper]); omega⟩ hb P.rows ?cN ?cS); (case' cN => (intro h6 tk6 F6 N6 hno6; exact absurd rfl (hno6 _ (List.mem_of_getElem? hi0)))); (case' cS => (intro i6 r6 it6 h6 tk6 F6 N6 hri6 hii6 hne6; obtain ⟨nm6, p06⟩ := it6; obtain rfl : nm6 = nm := hne6; obtain ⟨t6, u6, n6, hu6, hm6⟩ := P.rows.row i6 r6 _ hri6 hii6; obtain rfl : i6 = i0 := (List.getElem?_inj (by rw [List.length_map]; exact (List.getElem?_eq_some_iff.mp hii6).1) P.names).mp (by simp only [List.getElem?_map, hii6, hi0, Option.map_some]); rw [hi0] at hii6; obtain rfl := (Prod.mk.inj (Option.some.inj hii6)).2; (obtain ⟨l6, hl6, hu5⟩ := hK.at_some P.names hi0); (obtain ⟨tl6, rfl⟩ := hu5); (obtain ⟨tu6, rfl⟩ := hu6)))) | (k_dflt (refine' told_c ⟨by k_asm, by k_asm, by k_asm, by k_asm, by k_asm, rfl, by (try dsimp only [Around.mark, Around.deeper]); omega, by (try dsimp only [Around.mark, Around.deeper]); omega⟩ (hH9.mono hs7) (hs7 _ (up9 _ hb)) ((P.mono up9).rows.mono hs7) (by have := hF.len; omega) ?_); intro D6 c6 ts6 h6 tk6 nw6 F6 N6 hs6 hD6 hT6) | (k_dflt (refine' items_c ⟨by k_asm, by k_asm, by k_asm, by k_asm, by k_asm, rfl, by (try dsimp only [Around.mark, Around.deeper]); omega, by (try dsimp only [Around.mark, Around.deeper]); omega⟩ hH9 (P.mono up9).tokAt (up9 _ he) hD hlo hK (by have := hF.len; omega) ?_); intro D7 c7 ts7 h7 tk7 nw7 F7 N7 hs7 hD7 hT7 hl7) | (k_dflt (refine' joinRaise_c ⟨by k_asm, by k_asm, by k_asm, by k_asm, by k_asm, rfl, by (try dsimp only [Around.mark, Around.deeper]); omega, by (try dsimp only [Around.mark, Around.deeper]); omega⟩ hT he hD hlo hl6 hz0 ?_); intro g9 x9 t9 vs9 h9 tk9 F9 R9 U9 c9))
  k_with "myEq" => ((rename News _ _ _ _ => lN'); first | k_dflt (refine' toldSame lN' (hs6 _ hD7) (hT7.mono hs6) hD6 hT6 hF (by ke_room) ?_) | (with_reducible refine stop ?_))
  k_steps
  unfold Stop
  refine' caughtSC ?R ?F ?K ?U ?cc ?XB ?TB ?D ?T0 ?ex ?_
  (case R => exact R9); (case F => assumption); (case K => assumption); (case U => exact U9); (case cc => exact c9); (case XB => assumption); (case TB => assumption); (case D => assumption); (case T0 => exact KtsTurn.refl); (case ex => k_is)
  intro h8 g8 oe8 ws8 T8 F8 N8 hdo8 hc8 K8 X8 P8 D8
  have hH9 : HOkL (some (.ref x9)) ((x9, oe8) :: news) := .inr ⟨x9, oe8, ws8, rfl, .head _, hdo8, hc8⟩
  have up9 : ∀ p ∈ news, p ∈ (x9, oe8) :: news := fun _ h => .tail _ h
  k_steps
  unfold Stop
  refine leaveS0_ (g' := g8) (by k_asm) (by k_asm) T8 fun kF kN => ?_
  exact ret _ _ nw6 kF kN (.same P hF fun p hp => hs6 _ (hs7 _ (up9 _ hp)))
end Mine
end PartW21
section PartW22
open PySem PySem.W PyProof.Rows PySem.Calls
namespace Mine
/-- a deed of whatever kind -/
theorem deed_c {w : World} {mean : ExcName → Option Value} {mg mb : Str → Option Value} {dp un : Nat} {gd : Option (List Code)} {cn : Str} {cs : Scope} {a : Addr} {ccd : Value} {A₀ : Around} {base h₀ : Heap} {L : Addr} {m : Str → Option Value} {news : List (Addr × Obj)} {s : Shared}
    {Q E : Value → Shared → Prop} {tk dx e b : Addr} {v1 v2 v3 : Value} {rs : List Addr} {its : List (Str × PV)} {k : Nat} {nm : Str} {t tz : Tok} {v : Value} {pv : PV} {kd : Int}
    (C : Here w mean mg mb 80 500 dp un cs A₀ base [] h₀ L m news s)
    (P : Pair w news tk dx e b v1 v2 v3 rs its) (hF : Fine k its) (hk9 : k ≤ 60) (hnm : NmOk nm) (hv : pv.Is v) (hpv : PvOk 9 pv) (hkd : 0 ≤ kd ∧ kd < 7)
    (XB : (hd.heap_39 w.params).In base) (TB : Top hd.view_39 (looseW hd.view_39 [Str.ofString "Token", Str.ofString "MD_ASCII_PUNCT", Str.ofString "RendererHTML"]) mean mg mb base)
    (ret : ∀ h' tk' nw, Fr h₀ L h' m → News h₀ L h' nw → After w news nw tk dx e b v1 v2 v3 rs k → Q (.bool true) { s with heap := h', toks := tk' }) :
    wpAny (model PySem.Challenge.rw_dg5004_01.row.prog w) (topH none dp un gd cn cs L a ccd [] []) (call (.ref 236) [.ref tk, .ref b, .int kd tz, .str nm t, v]) Q E s := by
  have hrow : (∀ (i : Nat) (p : PV), its[i]? = some (nm, p) → ∃ x, p = PV.str x) ∨ ∃ (i0 : Nat) (z0 : Int), its[i0]? = some (nm, PV.int z0) ∧ z0.natAbs < 1000 := by
    by_cases q : ∃ (i0 : Nat) (z0 : Int), its[i0]? = some (nm, PV.int z0)
    · obtain ⟨i0, z0, h⟩ := q
      refine .inr ⟨i0, z0, h, ?_⟩
      have := (hF.all _ (List.mem_of_getElem? h)).2
      rcases this with rfl | rfl | rfl <;> decide
    · refine .inl fun i p h => ?_
      cases p with
      | str x => exact ⟨x, rfl⟩
      | int z => exact absurd ⟨i, z, h⟩ q
  have hk : kd = 0 ∨ kd = 1 ∨ kd = 2 ∨ kd = 3 ∨ kd = 4 ∨ kd = 5 ∨ kd = 6 := by omega
  rcases hk with rfl | rfl | rfl | rfl | rfl | rfl | rfl
  · exact deed0_c C P hF hk9 hnm hv hpv ret
  · exact deed1_c C P hF hk9 hnm hv hpv ret
  · rcases hrow with hrow | ⟨i0, z0, hi0, hz0⟩
    · cases pv with
      | int i => exact deed2Int_c C P hF hk9 hnm hv hpv ⟨_, rfl⟩ hrow ret
      | str x => exact deed2Str_c C P hF hk9 hnm hv hpv ⟨_, rfl⟩ hrow ret
    · cases pv with
      | int i => exact raise2Int_c C P hF hk9 hnm hv hpv ⟨_, rfl⟩ i0 z0 hi0 hz0 XB TB ret
      | str x => exact raise2Str_c C P hF hk9 hnm hv hpv ⟨_, rfl⟩ i0 z0 hi0 hz0 XB TB ret
  · rcases hrow with hrow | ⟨i0, z0, hi0, hz0⟩
    · cases pv with
      | int i => exact deed3Int_c C P hF hk9 hnm hv hpv ⟨_, rfl⟩ hrow ret
      | str x => exact deed3Str_c C P hF hk9 hnm hv hpv ⟨_, rfl⟩ hrow ret
    · cases pv with
      | int i => exact raise3Int_c C P hF hk9 hnm hv hpv ⟨_, rfl⟩ i0 z0 hi0 hz0 XB TB ret
      | str x => exact raise3Str_c C P hF hk9 hnm hv hpv ⟨_, rfl⟩ i0 z0 hi0 hz0 XB TB ret
  · exact deed4_c C P hF hk9 hnm hv hpv ret
  · exact deed5_c C P hF hk9 hnm hv hpv ret
  · exact deed6_c C P hF hk9 hnm hv hpv ret

end Mine
end PartW22
section PartW23
open PySem PySem.W PyProof.Rows PySem.Calls
namespace Mine
structure Side where
  tk : Addr
  dx : Addr
  e : Addr
  b : Addr
  v1 : Value
  v2 : Value
  v3 : Value
def Side.P (S : Side) (w : World) (news : List (Addr × Obj)) (rs : List Addr) (its : List (Str × PV)) : Prop := Pair w news S.tk S.dx S.e S.b S.v1 S.v2 S.v3 rs its
def Side.adr (S : Side) (rs : List Addr) : List Addr := S.tk :: S.dx :: S.e :: S.b :: rs
def Side.mut (S : Side) (rs : List Addr) : List Addr := S.e :: S.b :: rs
theorem Side.mut_adr {S : Side} {rs : List Addr} {x : Addr} (h : x ∈ S.mut rs) : x ∈ S.adr rs := .tail _ (.tail _ h)

theorem Side.entry {S : Side} {w : World} {news : List (Addr × Obj)} {rs : List Addr} {its : List (Str × PV)} (P : S.P w news rs its) : ∀ x ∈ S.adr rs, ∃ o, (x, o) ∈ news := by
  intro x hx
  unfold Side.adr at hx
  simp only [List.mem_cons] at hx
  rcases hx with rfl | rfl | rfl | rfl | hx
  · exact ⟨_, P.inst⟩
  · obtain ⟨mt, k1, k2, k3, k4, k5, h⟩ := P.own; exact ⟨_, h⟩
  · obtain ⟨o, kvs, h, _⟩ := P.dict; exact ⟨_, h⟩
  · obtain ⟨nb, h⟩ := P.book; exact ⟨_, h⟩
  · obtain ⟨i, hi⟩ := List.mem_iff_getElem?.mp hx
    obtain ⟨hl, _⟩ := List.getElem?_eq_some_iff.mp hi
    obtain ⟨t, v, n, _, hm⟩ := P.rows.row i x _ hi (List.getElem?_eq_getElem (by rw [← P.rows.len]; exact hl))
    exact ⟨_, hm⟩
theorem Side.keep {S : Side} {w : World} {news nw : List (Addr × Obj)} {rs : List Addr} {its : List (Str × PV)} (P : S.P w news rs its) (h : ∀ p ∈ news, p.1 ∈ S.adr rs → p ∈ nw) : S.P w nw rs its where
  inst := h _ P.inst (by simp [Side.adr])
  own := let ⟨mt, k1, k2, k3, k4, k5, q⟩ := P.own; ⟨mt, k1, k2, k3, k4, k5, h _ q (by simp [Side.adr])⟩
  dict := let ⟨o, kvs, q, r⟩ := P.dict; ⟨o, kvs, h _ q (by simp [Side.adr]), r⟩
  lo := P.lo
  book := let ⟨nb, q⟩ := P.book; ⟨nb, h _ q (by simp [Side.adr])⟩
  rows := ⟨P.rows.len, fun i r it hi hit => let ⟨t, v, n, hv, hm⟩ := P.rows.row i r it hi hit; ⟨t, v, n, hv, h _ hm (by simp [Side.adr, List.mem_of_getElem? hi])⟩⟩
  names := P.names
  ne := P.ne

/-- both tokens and their lists; Z: what stands besides -/
structure Both (w : World) (news Z : List (Addr × Obj)) (S S' : Side) (rs : List Addr) (its : List (Str × PV)) (rs' : List Addr) (its' : List (Str × PV)) (k : Nat) : Prop where
  l : S.P w news rs its
  r : S'.P w news rs' its'
  fl : Fine k its
  fr : Fine k its'
  lr : ∀ x ∈ S'.adr rs', x ∉ S.mut rs
  rl : ∀ x ∈ S.adr rs, x ∉ S'.mut rs'
  zin : ∀ p ∈ Z, p ∈ news
  zl : ∀ p ∈ Z, p.1 ∉ S.adr rs
  zr : ∀ p ∈ Z, p.1 ∉ S'.adr rs'

section
variable {w : World} {news nw Z : List (Addr × Obj)} {S S' : Side} {rs rs' : List Addr} {its its' : List (Str × PV)} {k : Nat}
theorem Both.swap (B : Both w news Z S S' rs its rs' its' k) : Both w news Z S' S rs' its' rs its k := ⟨B.r, B.l, B.fr, B.fl, B.rl, B.lr, B.zin, B.zr, B.zl⟩
theorem Both.mono (B : Both w news Z S S' rs its rs' its' k) (h : ∀ p ∈ news, p ∈ nw) : Both w nw Z S S' rs its rs' its' k :=
  ⟨Pair.mono B.l h, Pair.mono B.r h, B.fl, B.fr, B.lr, B.rl, fun p hp => h p (B.zin p hp), B.zl, B.zr⟩
theorem Both.deed (B : Both w news Z S S' rs its rs' its' k) (A : After w news nw S.tk S.dx S.e S.b S.v1 S.v2 S.v3 rs k) : ∃ rs2 its2, Both w nw Z S S' rs2 its2 rs' its' (k + 1) := by
  obtain ⟨rs2, its2, P, hF, keep, fresh⟩ := A
  have keep' : ∀ p ∈ news, p.1 ∉ S.mut rs → p ∈ nw := fun p hp h => keep p hp (fun q => h (by rw [q]; exact .head _)) (fun q => h (by rw [q]; exact .tail _ (.head _))) (fun q => h (.tail _ (.tail _ q)))
  have mutOf : ∀ x, (∃ o, (x, o) ∈ news) → x ∉ S.mut rs → x ∉ S.mut rs2 := fun x ⟨o, ho⟩ h q => by
    unfold Side.mut at h q
    simp only [List.mem_cons, not_or] at h q
    rcases q with q | q | q
    · exact h.1 q
    · exact h.2.1 q
    · rcases fresh x q with q | q
      · exact h.2.2 q
      · exact q _ ho rfl
  have adrOf : ∀ x, (∃ o, (x, o) ∈ news) → x ∉ S.adr rs → x ∉ S.adr rs2 := fun x ⟨o, ho⟩ h q => by
    unfold Side.adr at h q
    simp only [List.mem_cons, not_or] at h q
    rcases q with q | q | q | q | q
    · exact h.1 q
    · exact h.2.1 q
    · exact h.2.2.1 q
    · exact h.2.2.2.1 q
    · rcases fresh x q with q | q
      · exact h.2.2.2.2 q
      · exact q _ ho rfl
  refine ⟨rs2, its2, P, Side.keep B.r fun p hp ha => keep' p hp (B.lr _ ha), hF, B.fr.succ, fun x hx => mutOf x (Side.entry B.r x hx) (B.lr x hx), fun x hx q => ?_, fun p hp => keep' p (B.zin p hp) fun q => B.zl p hp (Side.mut_adr q), fun p hp => adrOf _ ⟨_, B.zin p hp⟩ (B.zl p hp), B.zr⟩
  have old : x ∈ S.adr rs → False := fun hx => B.rl x hx q
  unfold Side.adr at hx old
  simp only [List.mem_cons] at hx old
  rcases hx with hx | hx | hx | hx | hx
  · exact old (.inl hx)
  · exact old (.inr (.inl hx))
  · exact old (.inr (.inr (.inl hx)))
  · exact old (.inr (.inr (.inr (.inl hx))))
  · rcases fresh x hx with hx | hx
    · exact old (.inr (.inr (.inr (.inr hx))))
    · obtain ⟨o, ho⟩ := Side.entry B.r x (Side.mut_adr q)
      exact hx _ ho rfl
theorem Both.addZ (B : Both w news Z S S' rs its rs' its' k) {I : Addr} {oI : Obj} (h : ∀ p ∈ news, p ∈ nw) (hI : (I, oI) ∈ nw) (off : ∀ p ∈ news, p.1 ≠ I) : Both w nw ((I, oI) :: Z) S S' rs its rs' its' k :=
  { B.mono h with
    zin := fun p hp => by
      rcases List.mem_cons.mp hp with rfl | hp
      · exact hI
      · exact h _ (B.zin p hp)
    zl := fun p hp => by
      rcases List.mem_cons.mp hp with rfl | hp
      · intro q; obtain ⟨o, ho⟩ := Side.entry B.l _ q; exact off _ ho rfl
      · exact B.zl p hp
    zr := fun p hp => by
      rcases List.mem_cons.mp hp with rfl | hp
      · intro q; obtain ⟨o, ho⟩ := Side.entry B.r _ q; exact off _ ho rfl
      · exact B.zr p hp }
theorem Both.dropZ {I : Addr} {oI : Obj} (B : Both w news ((I, oI) :: Z) S S' rs its rs' its' k) (off : ∀ p ∈ Z, p.1 ≠ I) : Both w (news.filter fun p => decide (p.1 ≠ I)) Z S S' rs its rs' its' k :=
  ⟨Side.keep B.l fun p hp ha => List.mem_filter.mpr ⟨hp, decide_eq_true fun q => B.zl _ (.head _) (by rw [← q]; exact ha)⟩, Side.keep B.r fun p hp ha => List.mem_filter.mpr ⟨hp, decide_eq_true fun q => B.zr _ (.head _) (by rw [← q]; exact ha)⟩,
    B.fl, B.fr, B.lr, B.rl, fun p hp => List.mem_filter.mpr ⟨B.zin p (.tail _ hp), decide_eq_true (off p hp)⟩, fun p hp => B.zl p (.tail _ hp), fun p hp => B.zr p (.tail _ hp)⟩
end

def TurnEnd (h₀ : Heap) (L : Addr) (m : Str → Option Value) (I : Addr) (oI : Obj) (Jn : List (Addr × Obj) → Prop) (s₁ s₂ : Shared) : Prop :=
  ∃ h' tk' n₂, s₂ = { s₁ with heap := h', toks := tk' } ∧ Fr h₀ L h' m ∧ News h₀ L h' n₂ ∧ (I, oI) ∈ n₂ ∧ Jn (n₂.filter fun p => decide (p.1 ≠ I))
def TurnPost (h₀ : Heap) (L : Addr) (m : Str → Option Value) (I : Addr) (oI : Obj) (Jn : List (Addr × Obj) → Prop) (s₁ : Shared) (f : Flow) (s₂ : Shared) : Prop := match f with
  | .next => TurnEnd h₀ L m I oI Jn s₁ s₂
  | _ => False
section
variable {prog : Program} {w : World} {A : Around} {E : Value → Shared → Prop} {s : Shared} {env : Env} {h₀ : Heap} {x : Str} {body : List Stmt} {Q : Flow → Shared → Prop}
/-- a for over a list of the ledger; its turns change the ledger -/
theorem iterLed {l : Addr} {vs : List Value} {nn : Nat} {m₀ : Str → Option Value} {news : List (Addr × Obj)} (J : Nat → List (Addr × Obj) → Prop)
    (hh : A.handled = none) (hl : (l, listOf vs.toArray nn) ∈ news) (hJl : ∀ i n, J i n → (l, listOf vs.toArray nn) ∈ n) (F : Fr h₀ env.locals s.heap m₀) (N : News h₀ env.locals s.heap news) (hj : J 0 news)
    (turn : ∀ i v n₁ I oI h tk N1, vs[i]? = some v → J i n₁ → (∀ p ∈ n₁, p.1 ≠ I) → (∀ p ∈ n₁, p ∈ N1) → (I, oI) ∈ N1 → Fr h₀ env.locals h (fun y => if y = x then some v else m₀ y) → News h₀ env.locals h N1 →
      wpAny (model prog w) A (execs body env) (TurnPost h₀ env.locals (fun y => if y = x then some v else m₀ y) I oI (J (i + 1)) { s with heap := h, toks := tk }) E { s with heap := h, toks := tk })
    (done : ∀ (u : Str → Option Value) h tk n, J vs.length n → Fr h₀ env.locals h (fun z => if z = x then u z else m₀ z) → News h₀ env.locals h n → Q .next { s with heap := h, toks := tk }) :
    wpAny (model prog w) A (pyIter (.ref l)) (fun it s₂ => LoopAtV prog w A h₀ env x body Q E it s₂) E s := by
  have hll := (N _ hl).1
  have hls : s.heap.IsList l vs.toArray := ⟨_, hll, rfl, nn, rfl⟩
  have hne : l ≠ s.heap.objs.size := Nat.ne_of_lt (Heap.lt_size hll)
  refine wpAny_pyIter_list hls ?_
  have W := Walks.list (prog := prog) (w := w) hh s.heap.objs.size l hne vs.toArray
  have off : ∀ p ∈ news, p.1 ∉ [s.heap.objs.size] := fun p hp hI => by
    have e := List.mem_singleton.mp hI
    exact absurd (Heap.lt_size (N p hp).1) (by rw [e]; exact Nat.lt_irrefl _)
  refine ⟨_, _, _, _, _, _, m₀, news, (fun i m₁ n₁ => J i n₁ ∧ ∀ z, z ≠ x → m₁ z = m₀ z), rfl, W, ?_, ?_, off, ⟨⟨_, Heap.get?_push_size _ rfl, rfl, rfl⟩, hls.at fun o e => Heap.get?_push_of_some _ e⟩, F.push _,
    (fun p hp => ⟨Heap.get?_push_of_some _ (N p hp).1, (N p hp).2⟩), ⟨hj, fun _ _ => rfl⟩, ?_, ?_⟩
  · intro hm
    rcases List.mem_cons.mp hm with e | hm
    · exact absurd F.ns.lt (by rw [e]; exact Nat.lt_irrefl _)
    · exact (N _ hl).2.1 (List.mem_singleton.mp hm).symm
  · intro b hb
    rw [List.mem_singleton.mp hb]
    exact next_is_new F
  · rintro i v m₁ news₁ s₁ own ⟨hh', tk', rfl⟩ hin hP ⟨hJ, hm⟩ hoff hown hown2 hown3 st F₁ N₁
    have hv : vs[i]? = some v := by simpa using hP
    obtain ⟨oI, hoI, _⟩ := st.1
    have hIown : (s.heap.objs.size, oI) ∈ own := hown3 _ (.head _) (next_is_new F) _ hoI
    have e : (fun y => if y = x then some v else m₁ y) = fun y => if y = x then some v else m₀ y := by
      funext z
      by_cases h1 : z = x
      · simp [h1]
      · simp only [if_neg h1]; exact hm z h1
    rw [e] at F₁
    refine wpAny_mono (turn i v news₁ _ oI hh' tk' (own ++ news₁) hv hJ (fun p hp q => hoff p hp (by rw [q]; exact .head _)) (fun p hp => List.mem_append_right _ hp) (List.mem_append_left _ hIown) F₁ N₁) (fun f s₂ p => ?_) fun _ _ e => e
    cases f with
    | next =>
      obtain ⟨h', tk, n₂, e, F', N', hI2, hJ2⟩ := p
      subst e
      have hJl2 := hJl _ _ hJ2
      refine .next ⟨rfl, h', tk, _, n₂.filter (fun p => decide (p.1 ≠ s.heap.objs.size)), rfl, F', fun p hp => ?_, fun p hp q => ?_, hJ2, fun z hz => if_neg hz⟩
      · rcases List.mem_append.mp hp with hp | hp
        · have hfp := hown p hp
          rcases List.mem_cons.mp hfp with q | q
          · have e1 : p.2 = oI := by
              have h1 := hown2 p hp
              rw [q, hoI] at h1
              exact (Option.some.inj h1).symm
            have e2 : p = (s.heap.objs.size, oI) := by rw [← e1, ← q]
            rw [e2]
            exact N' _ hI2
          · have q := List.mem_singleton.mp q
            have hl1 := N₁ _ (List.mem_append_right own (hJl _ _ hJ))
            have e1 : p.2 = listOf vs.toArray nn := by
              have h1 := hown2 p hp
              rw [q] at h1
              exact (Option.some.inj (hl1.1.symm.trans h1)).symm
            have e2 : p = (l, listOf vs.toArray nn) := by rw [← e1, ← q]
            rw [e2]
            exact N' _ (List.mem_filter.mp hJl2).1
        · exact N' _ (List.mem_filter.mp hp).1
      · exact of_decide_eq_true (List.mem_filter.mp hp).2 (List.mem_singleton.mp q)
    | _ => exact p.elim
  · rintro h' tk' m' news' F' N' _ ⟨hJ, hm⟩
    refine done m' h' tk' news' (by simpa using hJ) ?_ N'
    have e : (fun z => if z = x then m' z else m₀ z) = m' := by
      funext z
      by_cases h1 : z = x
      · simp [h1]
      · simp only [if_neg h1]; exact (hm z h1).symm
    rw [e]
    exact F'
end
end Mine
end PartW23
section PartW24
open PySem PySem.W PyProof.Rows PySem.Calls
namespace Mine
structure Start (w : World) (news : List (Addr × Obj)) (T Bk : Addr) (S S' : Side) : Prop where
  both : Both w news [(T, listOf [Value.ref S.tk, Value.ref S'.tk].toArray 0), (Bk, listOf [Value.ref S.b, Value.ref S'.b].toArray 0)] S S' [] [] [] [] 0
  a1 : ∃ t, S.v1 = .str (Str.ofString "a") t
  a2 : ∃ t, S.v2 = .str (Str.ofString "p") t
  a3 : ∃ t, S.v3 = .int 1 t
  b1 : ∃ t, S'.v1 = .str (Str.ofString "b") t
theorem start {w : World} {h₀ h : Heap} {L T Bk b1 b0 m1 e1 tk1 dx1 m0 e0 tk0 dx0 : Addr} {o o1 o2 o3 : Obj} {k1 k2 k3 k4 k5 j1 j2 j3 j4 j5 ta tp ti tb te tz : Tok}
    (N : News h₀ L h [(Bk, listOf #[.ref b0, .ref b1] 0), (b1, listOf #[] 0), (b0, listOf #[] 0), (T, listOf #[.ref tk0, .ref tk1] 0), (m1, o), (e1, o1), (tk1, instObj 66 dx1), (dx1, tokD w k1 k2 k3 k4 k5 (.str (Str.ofString "b") tb) (.str (Str.ofString "em") te) (.int 0 tz) e1 m1), (m0, o2), (e0, o3), (tk0, instObj 66 dx0), (dx0, tokD w j1 j2 j3 j4 j5 (.str (Str.ofString "a") ta) (.str (Str.ofString "p") tp) (.int 1 ti) e0 m0)])
    (d1 : o1.IsDictOf (knd w) []) (d0 : o3.IsDictOf (knd w) []) (lo1 : (e1 == sysModules) = false) (lo0 : (e0 == sysModules) = false)
    (c1 : dx0 < tk0 ∧ tk0 < e0 ∧ e0 < m0 ∧ m0 < dx1 ∧ dx1 < tk1 ∧ tk1 < e1 ∧ e1 < m1 ∧ m1 < T ∧ T < b0 ∧ b0 < b1 ∧ b1 < Bk) :
    ∃ nw, News h₀ L h nw ∧ ∃ S S', Start w nw T Bk S S' := by
  refine ⟨_, N, ⟨tk0, dx0, e0, b0, .str (Str.ofString "a") ta, .str (Str.ofString "p") tp, .int 1 ti⟩, ⟨tk1, dx1, e1, b1, .str (Str.ofString "b") tb, .str (Str.ofString "em") te, .int 0 tz⟩, ⟨⟨?_, ?_, .nil, .nil, ?_, ?_, ?_, ?_, ?_⟩, ⟨_, rfl⟩, ⟨_, rfl⟩, ⟨_, rfl⟩, ⟨_, rfl⟩⟩⟩
  · exact ⟨by simp, ⟨m0, j1, j2, j3, j4, j5, by simp⟩, ⟨o3, [], by simp, d0, trivial⟩, lo0, ⟨0, by simp⟩, ⟨rfl, fun i r it hi _ => by simp at hi⟩, .nil, Nat.ne_of_lt (Nat.lt_trans c1.1 c1.2.1)⟩
  · exact ⟨by simp, ⟨m1, k1, k2, k3, k4, k5, by simp⟩, ⟨o1, [], by simp, d1, trivial⟩, lo1, ⟨0, by simp⟩, ⟨rfl, fun i r it hi _ => by simp at hi⟩, .nil, Nat.ne_of_lt (Nat.lt_trans c1.2.2.2.2.1 c1.2.2.2.2.2.1)⟩
  · intro x hx q
    simp only [Side.adr, Side.mut, List.mem_cons, List.not_mem_nil, or_false] at hx q
    clear N d1 d0
    have : ∀ a b : Nat, a < b → a ≠ b := fun a b h => Nat.ne_of_lt h
    rcases hx with rfl | rfl | rfl | rfl <;> rcases q with rfl | rfl <;> (simp only [Addr] at c1; omega)
  · intro x hx q
    simp only [Side.adr, Side.mut, List.mem_cons, List.not_mem_nil, or_false] at hx q
    clear N d1 d0
    rcases hx with rfl | rfl | rfl | rfl <;> rcases q with rfl | rfl <;> (simp only [Addr] at c1; omega)
  · intro p hp
    simp only [List.mem_cons, List.not_mem_nil, or_false] at hp
    rcases hp with rfl | rfl
    · simp
    · simp
  · intro p hp q
    clear N d1 d0
    simp only [List.mem_cons, List.not_mem_nil, or_false] at hp
    rcases hp with rfl | rfl <;> simp only [Side.adr, List.mem_cons, List.not_mem_nil, or_false] at q <;> rcases q with rfl | rfl | rfl | rfl <;> (simp only [Addr] at c1; omega)
  · intro p hp q
    clear N d1 d0
    simp only [List.mem_cons, List.not_mem_nil, or_false] at hp
    rcases hp with rfl | rfl <;> simp only [Side.adr, List.mem_cons, List.not_mem_nil, or_false] at q <;> rcases q with rfl | rfl | rfl | rfl <;> (simp only [Addr] at c1; omega)
end Mine
end PartW24
section PartW25
open PySem PySem.W PyProof.Rows PySem.Calls
namespace Mine
theorem Start.pick {w : World} {nw : List (Addr × Obj)} {T Bk : Addr} {S S' : Side} (B : Start w nw T Bk S S') {i : Nat} {v : Value} (h : [Value.ref S.tk, Value.ref S'.tk][i]? = some v) : ∃ X : Side, v = .ref X.tk ∧ X.P w nw [] [] := by
  match i with
  | 0 => simp at h; exact ⟨S, h.symm, B.both.l⟩
  | 1 => simp at h; exact ⟨S', h.symm, B.both.r⟩
  | n + 2 => simp at h
theorem KvsAre.isNil {kvs : List (Str × Value)} (h : KvsAre kvs []) : kvs = [] := by
  cases kvs with
  | nil => rfl
  | cons a r => exact h.elim
section
variable {prog : Program} {w : World} {A : Around} {E : Value → Shared → Prop} {s : Shared} {h₀ : Heap} {L : Addr} {news : List (Addr × Obj)} {Q : Value → Shared → Prop}
theorem nilSame {D l : Addr} {ts : List Addr} {c n : Nat} (N : News h₀ L s.heap news) (h1 : (D, listOf (ts.map Value.ref).toArray c) ∈ news) (t1 : TupsAt news ts []) (h2 : (l, listOf #[] n) ∈ news) (hu : A.units + 64 < cLine) (h : Q (.bool false) s) :
    wpAny (model prog w) A (compareOp .NotEq (.ref D) (.ref l)) Q E s :=
  kqd_ne N h1 rfl rfl (tups_dat t1) (fun _ h => h) (xs := _) (ys := []) h2 rfl rfl .nil (fun _ h => h) (fun _ h => nomatch h) (fun _ h => nomatch h) hu (by simp only [List.map_nil, decide_true, Bool.not_true]; exact h)
theorem nilDict {a b : Addr} {oa ob : Obj} (N : News h₀ L s.heap news) (pa : (a, oa) ∈ news) (pb : (b, ob) ∈ news) (da : oa.IsDictOf (PySem.strKind prog w) []) (db : ob.IsDictOf (PySem.strKind prog w) []) (la : (a == sysModules) = false) (lb : (b == sysModules) = false) (hu : A.units < cLine) (h : Q (.bool false) s) :
    wpAny (model prog w) A (compareOp .NotEq (.ref a) (.ref b)) Q E s :=
  kne_pairs (r := true) N pa pb da db la lb rfl hu KeqHits.nil h
theorem PV.Is.same {p : PV} {v y : Value} (h : p.Is v) (g : p.Is y) : SeqAt.EqAt A s v y true := by
  cases p with
  | int i =>
    obtain ⟨t, rfl⟩ := h
    obtain ⟨u, rfl⟩ := g
    have q := keq_flat (A := A) (s := s) (v := .int i t) (y := .int i u) (d := .int i) (e := .int i) (fun _ => .int i t) (fun _ => .int i u)
    simpa [PyData.eqv] using q
  | str x =>
    obtain ⟨t, rfl⟩ := h
    obtain ⟨u, rfl⟩ := g
    have q := keq_flat (A := A) (s := s) (v := .str x t) (y := .str x u) (d := .str x) (e := .str x) (fun _ => .str x t) (fun _ => .str x u)
    simpa [PyData.eqv] using q
theorem hitsAll {kb : List (Str × Value)} : ∀ {ka : List (Str × Value)} {its₁ : List (Str × PV)}, KvsAre ka its₁ → (∀ it ∈ its₁, ∃ y, valueAt kb it.1 = some y ∧ it.2.Is y) → KeqHits A s kb ka true
  | [], [], _, _ => .nil
  | (k, v) :: r, (n, p) :: q, ⟨h1, h2, h3⟩, h => by
    subst h1
    obtain ⟨y, hy, hp⟩ := h (k, p) (.head _)
    exact KeqHits.hit (e := true) (b := true) hy (h2.same hp) (hitsAll h3 fun it hi => h it (.tail _ hi))
theorem dictSame {a b : Addr} {oa ob : Obj} {ka kb : List (Str × Value)} {its : List (Str × PV)} (N : News h₀ L s.heap news) (pa : (a, oa) ∈ news) (pb : (b, ob) ∈ news) (da : oa.IsDictOf (PySem.strKind prog w) ka) (db : ob.IsDictOf (PySem.strKind prog w) kb) (la : (a == sysModules) = false) (lb : (b == sysModules) = false)
    (ha : KvsAre ka its) (hb : KvsAre kb its) (hn : (its.map (·.1)).Nodup) (hu : A.units < cLine) (h : Q (.bool true) s) : wpAny (model prog w) A (compareOp .Eq (.ref a) (.ref b)) Q E s := by
  refine keq_pairs (r := true) N pa pb da db la lb (by rw [ha.len, hb.len]) hu (hitsAll ha fun it hi => ?_) h
  obtain ⟨i, hi⟩ := List.mem_iff_getElem?.mp hi
  exact hb.at_some hn (p := it.2) hi
end
theorem put_take {its : List (Str × PV)} (hn : (its.map (·.1)).Nodup) {i : Nat} {it : Str × PV} (h : its[i]? = some it) : put (its.take i) it.1 it.2 = its.take (i + 1) := by
  rw [put_new, List.take_add_one, h]
  · rfl
  · intro jt hj q
    obtain ⟨j, hj⟩ := List.mem_iff_getElem?.mp hj
    rw [List.getElem?_take] at hj
    split at hj
    · next hlt =>
      have hi' : (its.map (·.1))[i]? = some it.1 := by simp [h]
      have hj' : (its.map (·.1))[j]? = some it.1 := by simp [hj, q]
      have := (List.getElem?_inj (List.getElem?_eq_some_iff.mp hi').1 hn).mp (hi'.trans hj'.symm)
      omega
    · cases hj
end Mine
end PartW25
section PartW26
open PySem PySem.W PyProof.Rows PySem.Calls
namespace Mine
theorem intAt {vs : List Value} {ns : List Int} (h : IntsAre vs ns) {i : Nat} {v : Value} (hv : vs[i]? = some v) : ∃ z t, v = .int z t := by
  have hl := (List.getElem?_eq_some_iff.mp hv).1
  rw [h.length] at hl
  obtain ⟨t, ht⟩ := h.get i _ (List.getElem?_eq_getElem hl)
  rw [hv] at ht
  exact ⟨_, t, Option.some.inj ht⟩
theorem intLt {vs : List Value} {ns ms : List Int} (h : IntsAre vs ns) (hm : ns.length = min 40 ms.length) {i : Nat} {v : Value} (hv : vs[i]? = some v) : i < 40 := by
  have hl := (List.getElem?_eq_some_iff.mp hv).1
  rw [h.length, hm] at hl
  omega
theorem modAt (z : Int) : 0 ≤ z.fmod 2 ∧ z.fmod 2 < 2 ∧ z.fmod 2 < 2 ^ 63 := by
  have h1 := Int.fmod_nonneg_of_pos z (b := 2) (by decide)
  have h2 := Int.fmod_lt_of_pos z (b := 2) (by decide)
  exact ⟨h1, h2, by omega⟩
theorem Both.side {w : World} {n Z : List (Addr × Obj)} {S S' : Side} {rs rs' : List Addr} {its its' : List (Str × PV)} {k : Nat} (B : Both w n Z S S' rs its rs' its' k) (z : Int) :
    ∃ (X Y : Side) (rX : List Addr) (iX : List (Str × PV)) (rY : List Addr) (iY : List (Str × PV)), Both w n Z X Y rX iX rY iY k ∧ [Value.ref S.tk, Value.ref S'.tk][(z.fmod 2).toNat]? = some (.ref X.tk) ∧ [Value.ref S.b, Value.ref S'.b][(z.fmod 2).toNat]? = some (.ref X.b) ∧
      ∀ (m : List (Addr × Obj)) (Z' : List (Addr × Obj)) (r2 : List Addr) (i2 : List (Str × PV)) (j : Nat), Both w m Z' X Y r2 i2 rY iY j → ∃ rs its rs' its', Both w m Z' S S' rs its rs' its' j := by
  obtain ⟨h0, h1, _⟩ := modAt z
  have hz : z.fmod 2 = 0 ∨ z.fmod 2 = 1 := by omega
  rcases hz with e | e <;> rw [e]
  · exact ⟨S, S', _, _, _, _, B, rfl, rfl, fun m Z' r2 i2 j b => ⟨_, _, _, _, b⟩⟩
  · exact ⟨S', S, _, _, _, _, B.swap, rfl, rfl, fun m Z' r2 i2 j b => ⟨_, _, _, _, b.swap⟩⟩
theorem Both.push {w : World} {n Z : List (Addr × Obj)} {S S' : Side} {rs rs' : List Addr} {its its' : List (Str × PV)} {k : Nat} (B : Both w n Z S S' rs its rs' its' k) {h₀ h : Heap} {L D : Addr} {o : Obj} (_N : News h₀ L h ((D, o) :: n)) (lt : ∀ p ∈ n, p.1 < D) :
    Both w ((D, o) :: n) ((D, o) :: Z) S S' rs its rs' its' k := B.addZ (fun p hp => List.mem_cons_of_mem _ hp) List.mem_cons_self fun p hp => Nat.ne_of_lt (lt p hp)
def isName : Value → Bool
  | .str x _ => decide (x.length ≤ 10) && PyData.strOk x
  | _ => false
def isWord : Value → Bool
  | .str x _ => decide (x.length ≤ 9) && PyData.strOk x
  | .int i _ => decide (i = 0) || decide (i = 7) || decide (i = -3)
  | _ => false
section
variable {prog : Program} {w : World} {A : Around} {E : Value → Shared → Prop} {s : Shared} {Q : Value → Shared → Prop}
theorem tupItem {value slice : PySem.Expr} {t : Addr} {l : List Value} {z : Int} {u : Tok} (c : Nat) (hc : 0 < c) (hc2 : c < 1000) (ht : IsTup s.heap t l.toArray) (hl : l.length = c) (h : ∀ v, v ∈ l → Q v s)
    (hs : subscripted slice false (.ref t) (.int (z.fmod c) u) = operate [.ref t, .int (z.fmod c) u] (getItem (.ref t) (.int (z.fmod c) u)) := by with_unfolding_all rfl) :
    wpAny (model prog w) A (subscriptTail value slice (.ref t) (.int (z.fmod c) u)) Q E s := by
  have h0 := Int.fmod_nonneg_of_pos z (b := (c : Int)) (by omega)
  have h1 := Int.fmod_lt_of_pos z (b := (c : Int)) (by omega)
  have hj : seqIndex? (z.fmod c) l.length = some (z.fmod c).toNat := by
    unfold seqIndex?
    rw [hl]
    simp
    omega
  have hlt : (z.fmod c).toNat < l.length := by omega
  exact item_tupleT ht (by omega) (by omega) hj (List.getElem?_eq_getElem hlt) (h _ (List.getElem_mem hlt)) hs
theorem nameItem {value slice : PySem.Expr} {t : Addr} {l : List Value} {z : Int} {u : Tok} (ht : IsTup s.heap t l.toArray) (hl : l.length = 5) (ha : l.all isName = true) (h : ∀ nm t, NmOk nm → Q (.str nm t) s)
    (hs : subscripted slice false (.ref t) (.int (z.fmod 5) u) = operate [.ref t, .int (z.fmod 5) u] (getItem (.ref t) (.int (z.fmod 5) u)) := by with_unfolding_all rfl) :
    wpAny (model prog w) A (subscriptTail value slice (.ref t) (.int (z.fmod 5) u)) Q E s :=
  tupItem 5 (by decide) (by decide) ht hl (fun v hv => by
    have q := List.all_eq_true.mp ha v hv
    cases v with
    | str x t =>
      simp only [isName, Bool.and_eq_true, decide_eq_true_eq] at q
      exact h x t q
    | _ => simp [isName] at q) hs
theorem wordItem {value slice : PySem.Expr} {t : Addr} {l : List Value} {z : Int} {u : Tok} (ht : IsTup s.heap t l.toArray) (hl : l.length = 9) (ha : l.all isWord = true) (h : ∀ v pv, PV.Is pv v → PvOk 9 pv → Q v s)
    (hs : subscripted slice false (.ref t) (.int (z.fmod 9) u) = operate [.ref t, .int (z.fmod 9) u] (getItem (.ref t) (.int (z.fmod 9) u)) := by with_unfolding_all rfl) :
    wpAny (model prog w) A (subscriptTail value slice (.ref t) (.int (z.fmod 9) u)) Q E s :=
  tupItem 9 (by decide) (by decide) ht hl (fun v hv => by
    have q := List.all_eq_true.mp ha v hv
    cases v with
    | str x t =>
      simp only [isWord, Bool.and_eq_true, decide_eq_true_eq] at q
      exact h _ (.str x) ⟨t, rfl⟩ q
    | int i t =>
      simp only [isWord, Bool.or_eq_true, decide_eq_true_eq] at q
      exact h _ (.int i) ⟨t, rfl⟩ (by rcases q with (q | q) | q; exact .inl q; exact .inr (.inl q); exact .inr (.inr q))
    | _ => simp [isWord] at q) hs
end
theorem kindAt (z : Int) : 0 ≤ z.fmod 7 ∧ z.fmod 7 < 7 := ⟨Int.fmod_nonneg_of_pos z (by decide), Int.fmod_lt_of_pos z (by decide)⟩
end Mine
end PartW26
section PartW27
open PySem PySem.W PyProof.Rows PySem.Calls
namespace Mine
section
variable {prog : Program} {w : World} {A : Around} {E : Value → Shared → Prop} {s : Shared} {env : Env} {h₀ : Heap} {x : Str} {body : List Stmt} {Q : Flow → Shared → Prop}
/-- a for over a made tuple; the turns keep one name at True and may store two names more -/
theorem iterTup2 {t : Addr} {vs : List Value} {nn : Nat} {m₀ : Str → Option Value} {news : List (Addr × Obj)} (p r e : Str)
    (hh : A.handled = none) (hl : (t, ({ cls := .type "tuple", data := .seq vs.toArray nn } : Obj)) ∈ news) (F : Fr h₀ env.locals s.heap m₀) (N : News h₀ env.locals s.heap news) (he : m₀ e = some (.bool true)) (hex : e ≠ x)
    (turn : ∀ (i : Nat) (v : Value) (u : Str → Option Value) h tk own, vs[i]? = some v → Fr h₀ env.locals h (fun z => if z = x then some v else if z = e then some (.bool true) else if z = p ∨ z = r then u z else m₀ z) → News h₀ env.locals h (own ++ news) →
      wpAny (model prog w) A (execs body env) (InvPost h₀ env.locals (fun m' => m' e = some (.bool true) ∧ ∀ z, z ≠ x → z ≠ e → z ≠ p → z ≠ r → m' z = m₀ z) (own ++ news) { s with heap := h, toks := tk } Q) E { s with heap := h, toks := tk })
    (done : ∀ (u : Str → Option Value) h tk, Fr h₀ env.locals h (fun z => if z = e then some (.bool true) else if z = x ∨ z = p ∨ z = r then u z else m₀ z) → News h₀ env.locals h news → Q .next { s with heap := h, toks := tk }) :
    wpAny (model prog w) A (pyIter (.ref t)) (fun it s₂ => LoopAtV prog w A h₀ env x body Q E it s₂) E s := by
  have hll := (N _ hl).1
  have hls : s.heap.IsTuple t vs.toArray := ⟨_, hll, rfl, nn, rfl⟩
  have hne : t ≠ s.heap.objs.size := Nat.ne_of_lt (Heap.lt_size hll)
  refine wpAny_pyIter_tuple hls ?_
  have W := Walks.tuple (prog := prog) (w := w) hh s.heap.objs.size t hne vs.toArray
  have off : ∀ p ∈ news, p.1 ∉ [s.heap.objs.size] := fun p hp hI => by
    have e := List.mem_singleton.mp hI
    exact absurd (Heap.lt_size (N p hp).1) (by rw [e]; exact Nat.lt_irrefl _)
  refine ⟨_, _, _, _, _, _, m₀, news, (fun _ m₁ n₁ => n₁ = news ∧ m₁ e = some (.bool true) ∧ ∀ z, z ≠ x → z ≠ e → z ≠ p → z ≠ r → m₁ z = m₀ z), rfl, W, ?_, ?_, off, ⟨⟨_, Heap.get?_push_size _ rfl, rfl, rfl⟩, hls.at fun o e => Heap.get?_push_of_some _ e⟩, F.push _,
    (fun p hp => ⟨Heap.get?_push_of_some _ (N p hp).1, (N p hp).2⟩), ⟨rfl, he, fun _ _ _ _ _ => rfl⟩, ?_, ?_⟩
  · intro hm
    rcases List.mem_cons.mp hm with e | hm
    · exact absurd F.ns.lt (by rw [e]; exact Nat.lt_irrefl _)
    · exact (N _ hl).2.1 (List.mem_singleton.mp hm).symm
  · intro b hb
    rw [List.mem_singleton.mp hb]
    exact next_is_new F
  · rintro i v m₁ news₁ s₁ own ⟨hh', tk', rfl⟩ hin hP ⟨rfl, hJ, hm⟩ hoff _ _ _ _ F₁ N₁
    have hv : vs[i]? = some v := by simpa using hP
    have e' : (fun y => if y = x then some v else m₁ y) = fun z => if z = x then some v else if z = e then some (.bool true) else if z = p ∨ z = r then m₁ z else m₀ z := by
      funext z
      by_cases h1 : z = x
      · simp [h1]
      · simp only [if_neg h1]
        by_cases h2 : z = e
        · rw [if_pos h2, h2, hJ]
        · rw [if_neg h2]
          by_cases h3 : z = p ∨ z = r
          · rw [if_pos h3]
          · rw [if_neg h3]; exact hm z h1 h2 (fun q => h3 (.inl q)) (fun q => h3 (.inr q))
    rw [e'] at F₁
    refine wpAny_mono (turn i v m₁ hh' tk' own hv F₁ N₁) (fun f s₂ q => ?_) fun _ _ e => e
    have fin : InvEnd h₀ env.locals (fun m' => m' e = some (.bool true) ∧ ∀ z, z ≠ x → z ≠ e → z ≠ p → z ≠ r → m' z = m₀ z) (own ++ news₁) { s with heap := hh', toks := tk' } s₂ →
        LoopStepU h₀ env.locals [s.heap.objs.size] own (fun m₁ n₁ => n₁ = news₁ ∧ m₁ e = some (.bool true) ∧ ∀ z, z ≠ x → z ≠ e → z ≠ p → z ≠ r → m₁ z = m₀ z) { s with heap := hh', toks := tk' } .next s₂ := by
      rintro ⟨h', tk, m', news', e, F', N', hn, hm⟩
      exact ⟨rfl, h', tk, m', news₁, e, F', fun p hp => N' p (hn p hp), hoff, rfl, hm⟩
    cases f with
    | ret v => exact .ret q
    | brk => exact .brk q
    | next => exact .next (fin q)
    | cont => exact .cont (fin q)
  · rintro h' tk m' news' F' N' _ ⟨rfl, hJ, hm⟩
    refine done m' h' tk ?_ N'
    have e' : (fun z => if z = e then some (.bool true) else if z = x ∨ z = p ∨ z = r then m' z else m₀ z) = m' := by
      funext z
      by_cases h2 : z = e
      · rw [if_pos h2, h2, hJ]
      · rw [if_neg h2]
        by_cases h3 : z = x ∨ z = p ∨ z = r
        · rw [if_pos h3]
        · rw [if_neg h3]; exact (hm z (fun q => h3 (.inl q)) h2 (fun q => h3 (.inr (.inl q))) (fun q => h3 (.inr (.inr q)))).symm
    rw [e']
    exact F'
end

/-- a made object apart from both -/
structure Apart (Z : List (Addr × Obj)) (S S' : Side) (rs rs' : List Addr) (d : Addr) : Prop where
  l : d ∉ S.adr rs
  r : d ∉ S'.adr rs'
  z : ∀ p ∈ Z, p.1 ≠ d
section
variable {w : World} {news nw Z : List (Addr × Obj)} {S S' : Side} {rs rs' : List Addr} {its its' : List (Str × PV)} {k : Nat} {d : Addr}
theorem Both.apart (B : Both w news Z S S' rs its rs' its' k) (h : ∀ p ∈ news, p.1 < d) : Apart Z S S' rs rs' d :=
  ⟨fun q => by obtain ⟨o, ho⟩ := Side.entry B.l _ q; exact Nat.lt_irrefl _ (h _ ho), fun q => by obtain ⟨o, ho⟩ := Side.entry B.r _ q; exact Nat.lt_irrefl _ (h _ ho), fun p hp q => by have := h _ (B.zin p hp); rw [q] at this; exact Nat.lt_irrefl _ this⟩
theorem Both.keepBut (B : Both w news Z S S' rs its rs' its' k) (D : Apart Z S S' rs rs' d) (h : ∀ p ∈ news, p.1 ≠ d → p ∈ nw) : Both w nw Z S S' rs its rs' its' k :=
  ⟨Side.keep B.l fun p hp ha => h p hp fun q => D.l (by rw [← q]; exact ha), Side.keep B.r fun p hp ha => h p hp fun q => D.r (by rw [← q]; exact ha), B.fl, B.fr, B.lr, B.rl, fun p hp => h p (B.zin p hp) (D.z p hp), B.zl, B.zr⟩
/-- a token and its list by number -/
theorem Both.at (B : Both w news Z S S' rs its rs' its' k) {i : Nat} {v : Value} {t0 t1 : Tok} (hv : [Value.int 0 t0, Value.int 1 t1][i]? = some v) :
    ∃ (z : Int) (t : Tok) (X Y : Side) (rX : List Addr) (iX : List (Str × PV)) (rY : List Addr) (iY : List (Str × PV)), v = .int z t ∧ 0 ≤ z ∧ z < 2 ^ 63 ∧ Both w news Z X Y rX iX rY iY k ∧ [Value.ref S.tk, Value.ref S'.tk][z.toNat]? = some (.ref X.tk) ∧ [Value.ref S.b, Value.ref S'.b][z.toNat]? = some (.ref X.b) := by
  match i with
  | 0 => simp at hv; exact ⟨0, t0, S, S', _, _, _, _, hv.symm, by decide, by decide, B, rfl, rfl⟩
  | 1 => simp at hv; exact ⟨1, t1, S', S, _, _, _, _, hv.symm, by decide, by decide, B.swap, rfl, rfl⟩
  | n + 2 => simp at hv
end
theorem Both.under {w : World} {n Z : List (Addr × Obj)} {S S' : Side} {rs rs' : List Addr} {its its' : List (Str × PV)} {k : Nat} (B : Both w n Z S S' rs its rs' its' k) {h₀ h : Heap} {L : Addr} {own : List (Addr × Obj)} {a : Addr × Obj} (_N : News h₀ L h (own ++ a :: n)) : Both w (own ++ a :: n) Z S S' rs its rs' its' k :=
  B.mono fun _ hp => List.mem_append_right own (List.mem_cons_of_mem a hp)
/-- the plain dict after so many rows -/
def PlainAt (w : World) (n : List (Addr × Obj)) (d : Addr) (its : List (Str × PV)) (i : Nat) : Prop := ∃ o kvs, (d, o) ∈ n ∧ o.IsDictOf (knd w) kvs ∧ KvsAre kvs (its.take i)
def PlainJ {w : World} {n Z : List (Addr × Obj)} {S S' : Side} {rs rs' : List Addr} {its its' : List (Str × PV)} {k : Nat} (_C : Both w n Z S S' rs its rs' its' k) (d : Addr) : Nat → List (Addr × Obj) → Prop := fun i m => (∀ p ∈ n, p ∈ m) ∧ PlainAt w m d its i
theorem PlainJ.start {w : World} {n Z : List (Addr × Obj)} {S S' : Side} {rs rs' : List Addr} {its its' : List (Str × PV)} {k : Nat} (C : Both w n Z S S' rs its rs' its' k) {d : Addr} {o : Obj} (h : o.IsDictOf (knd w) []) : PlainJ C d 0 ((d, o) :: n) :=
  ⟨fun _ hp => .tail _ hp, o, [], .head _, h, by rw [List.take_zero]; trivial⟩
/-- one row more -/
theorem PlainJ.turn {w : World} {n Z : List (Addr × Obj)} {S S' : Side} {rs rs' : List Addr} {its its' : List (Str × PV)} {k : Nat} (C : Both w n Z S S' rs its rs' its' k) {d I : Addr} {o' : Obj} {n1 N1 nw : List (Addr × Obj)} {kvs : List (Str × Value)} {i : Nat} {it : Str × PV} {v : Value}
    (hJ : ∀ p ∈ n, p ∈ n1) (lt : ∀ p ∈ n, p.1 < d) (hdI : d ≠ I) (hoff : ∀ p ∈ n1, p.1 ≠ I) (hsub : ∀ p ∈ n1, p ∈ N1) (hs : ∀ p ∈ N1, p.1 ≠ d → p ∈ nw) (he : (d, o') ∈ nw) (hk : KvsAre kvs (its.take i)) (hi : its[i]? = some it) (hv : it.2.Is v)
    (hD : o'.IsDictOf (knd w) (stored kvs it.1 v)) : PlainJ C d (i + 1) (nw.filter fun p => decide (p.1 ≠ I)) := by
  refine ⟨fun p hp => List.mem_filter.mpr ⟨hs _ (hsub _ (hJ p hp)) (Nat.ne_of_lt (lt p hp)), decide_eq_true (hoff _ (hJ p hp))⟩, o', _, List.mem_filter.mpr ⟨he, decide_eq_true hdI⟩, hD, ?_⟩
  have q := hk.put (n := it.1) hv
  rw [put_take C.l.names hi] at q
  exact q
/-- the row of a turn -/
theorem PlainJ.row {w : World} {n Z : List (Addr × Obj)} {S S' : Side} {rs rs' : List Addr} {its its' : List (Str × PV)} {k : Nat} (C : Both w n Z S S' rs its rs' its' k) {i : Nat} {v : Value} (hv : (rs.map Value.ref)[i]? = some v) :
    ∃ (r : Addr) (nm : Str) (pv : PV) (t : Tok) (u : Value) (m : Nat), v = .ref r ∧ its[i]? = some (nm, pv) ∧ pv.Is u ∧ (r, listOf [.str nm t, u].toArray m) ∈ n := by
  rw [List.getElem?_map] at hv
  obtain ⟨r, hr, rfl⟩ := Option.map_eq_some_iff.mp hv
  have hl := (List.getElem?_eq_some_iff.mp hr).1
  rw [C.l.rows.len] at hl
  obtain ⟨t, u, m, hu, hm⟩ := C.l.rows.row i r _ hr (List.getElem?_eq_getElem hl)
  exact ⟨r, _, _, t, u, m, rfl, List.getElem?_eq_getElem hl, hu, hm⟩
end Mine
end PartW27
section PartL6
open PySem PySem.W PyProof.Rows PySem.Calls
namespace Mine
theorem TokAt.mono {w : World} {news nw : List (Addr × Obj)} {a e : Addr} {v1 v2 v3 : Value} (h : TokAt w news a e v1 v2 v3) (hs : ∀ p ∈ news, p ∈ nw) : TokAt w nw a e v1 v2 v3 :=
  let ⟨dx, m, k1, k2, k3, k4, k5, h1, h2⟩ := h; ⟨dx, m, k1, k2, k3, k4, k5, hs _ h1, hs _ h2⟩
theorem Both.over {w : World} {n Z : List (Addr × Obj)} {S S' : Side} {rs rs' : List Addr} {its its' : List (Str × PV)} {k : Nat} (B : Both w n Z S S' rs its rs' its' k) {h₀ h : Heap} {L : Addr} {a : Addr × Obj} (_N : News h₀ L h (a :: n)) : Both w (a :: n) Z S S' rs its rs' its' k :=
  B.mono fun _ hp => List.mem_cons_of_mem a hp
local macro_rules | `(tactic| k_mem) => `(tactic| first | with_reducible assumption | with_reducible exact List.mem_cons_self | (refine List.mem_cons_of_mem _ ?_; k_mem))
local macro_rules | `(tactic| walk_at "exec For Name Name cons nil") => `(tactic| first | k_extra "myFor" | (with_reducible refine stop ?_))
local macro_rules | `(tactic| walk_at "exec For Name Subscript cons nil") => `(tactic| first | k_extra "myFor2" | (with_reducible refine stop ?_))
local macro_rules | `(tactic| walk_at "exec For Name Tuple cons nil") => `(tactic| (with_reducible refine stop ?_))
local macro_rules | `(tactic| walk_at "setItem ref str") => `(tactic| k_extra "mySet")
local macro_rules | `(tactic| walk_at "compareOp Eq ref ref") => `(tactic| k_extra "myEq")
local macro_rules | `(tactic| walk_at "eval Dict nil nil") => `(tactic| k_extra "myDict")
local macro_rules | `(tactic| walk_at "subscriptTail") => `(tactic| k_extra "myItem")
local macro_rules | `(tactic| walk_at "pyIter ref") => `(tactic| k_extra "myIter")
local macro_rules | `(tactic| walk_at "call ref") => `(tactic| k_extra "myCall")
local macro_rules | `(tactic| walk_at "compareOp NotEq ref ref") => `(tactic| first | k_extra "myNe" | (with_reducible refine stop ?_))

set_option maxRecDepth 100000 in
set_option maxHeartbeats 8000000 in
theorem law_holds : PySem.Challenge.rw_dg5004_01.Holds := hd (by
  k_go0
  (all_goals try k_fold)
  k_steps
  unfold Stop
  rename News _ _ _ _ => lN
  rename Fr _ _ _ _ => lF
  obtain ⟨nw0, N0, S0, S1, B0⟩ := start lN (by assumption) (by assumption) (by assumption) (by assumption) (by simp only [Addr] at *; omega)
  clear lN
  k_with "myFor" => (k_here; (rename Fr _ _ _ _ => lF'); (with_unfolding_all refine' For_invVF lF' ?k1 ?k2 ?_; (case k1 => exact rfl); (case k2 => exact rfl); k_whole))
  k_with "myIter" => ((rename Fr _ _ _ _ => lF'); (with_unfolding_all refine' iterVals0 (fun _ => True) ?k1 (B0.both.zin _ (.head _)) lF' N0 ?k2 ?_ ?_; (case k1 => exact rfl); (case k2 => exact trivial); k_whole); focus (intro i9 v9 h9 tk9 own9 hv9 _ F9 N9; obtain ⟨X9, rfl, P9⟩ := B0.pick hv9; replace P9 : X9.P _ (own9 ++ nw0) [] [] := Pair.mono P9 (fun p hp => List.mem_append_right _ hp); obtain ⟨o9, kvs9, he9, hD9, hK9⟩ := P9.dict; have hT9 := P9.tokAt; obtain ⟨mt9, k19, k29, k39, k49, k59, hT29⟩ := P9.own; have hT19 := P9.inst; have hlo9 := P9.lo; have hD09 := hD9; rw [hK9.isNil] at hD09))
  k_with "myCall" => ((rename News _ _ _ _ => lN'); first | (k_dflt (refine' render_c ⟨by k_asm, by k_asm, by k_asm, (fun p hp => lN' p (by first | exact hp | (have q := hs77 p hp; k_mem))), by k_asm, rfl, by decide, by decide⟩ hT9 he9 hD9 hlo9 hK9 (fun _ h => nomatch h) (by decide) ?_); intro h8 tk8 t8 nw8 F8 N8 hs8) | (k_dflt (refine' get_c ⟨by k_asm, by k_asm, by k_asm, (fun p hp => lN' p (by have q := hs77 p hp; k_mem)), by k_asm, rfl, by decide, by decide⟩ hT9 he9 hD9 hlo9 ?_); intro h8 tk8 F8 N8; rw [hK9.at_none (fun _ h => nomatch h)]; dsimp only [Option.getD]) | (k_dflt (refine' items_c ⟨by k_asm, by k_asm, by k_asm, by k_asm, by k_asm, rfl, by decide, by decide⟩ (.inl rfl) hT9 he9 hD9 hlo9 hK9 (by decide) ?_); intro D7 c7 ts7 h7 tk7 nw7 F7 N7 hs7 hD7 hT7 hl7; have he7 := hs7 _ he9; have hs77 : ∀ p ∈ own9 ++ nw0, p ∈ nw7 := hs7; have hT17 := hs7 _ hT19; have hT27 := hs7 _ hT29) | (with_reducible refine stop ?_))
  k_with "myDict" => (k_here; k_dflt (refine' newDict_K ?k1 ?k2 ?k3 ?_; (case k1 => k_asm); (case k2 => k_asm); (case k3 => exact Top.nolimit (by k_asm))); intro d5 h5 o5 F5 N5 l5 lo5 hs5 fs5 hi5 fi5)
  k_with "myNe" => ((rename News _ _ _ _ => lN'); first | k_dflt (refine' nilSame lN' (List.mem_cons_of_mem _ hD7) (hT7.mono (fun p hp => List.mem_cons_of_mem _ hp)) (List.mem_cons_self) (by ke_room) ?_) | (k_dflt (refine' nilDict (oa := o9) (ob := o5) lN' (by k_mem) (by k_mem) hD09 hs5 hlo9 lo5 (by ke_room) ?_)) | (with_reducible refine stop ?_))
  k_steps
  · exact InvEnd.intro (by assumption) (by assumption) hs8 ⟨trivial, fun z hz => if_neg hz⟩
  unfold Stop
  rename Fr _ _ _ _ => lF
  rename News _ _ _ _ => lN
  k_with_none
  k_with "myIter" => (with_reducible refine stop ?_)
  refine For_invVF lF (by with_unfolding_all rfl) (by with_unfolding_all rfl) ?_
  k_steps
  unfold Stop
  rename Addr => D9
  rename List Value => ws9
  rename IntsAre _ _ => hI9
  rename (∀ p ∈ nw0, p.1 < D9) => lt9
  rename News _ _ _ _ => lN9
  rename Fr _ _ _ _ => lF9
  rename (_ = min 40 _) => h409
  have B1 := B0.both.push lN9 lt9
  k_with_none
  k_with "myItem" => ((rename News _ _ _ _ => lN'); k_dflt (first | (with_unfolding_all refine' itemLed lN' (B3.zin _ (.tail _ (.tail _ (.head _)))) hm0 hm2 hx1 ?_ ?k6; (case k6 => with_unfolding_all rfl)) | (with_unfolding_all refine' itemLed lN' (B3.zin _ (.tail _ (.tail _ (.tail _ (.head _))))) hm0 hm2 hx2 ?_ ?k6; (case k6 => with_unfolding_all rfl)) | (with_reducible refine stop ?_)))
  k_with "myCall" => (with_reducible refine stop ?_)
  (with_unfolding_all refine' iterLed (fun i n => ∃ rs its rs' its', Both _ n _ S0 S1 rs its rs' its' i) ?k1 (List.mem_cons_self) (fun i n h => let ⟨_, _, _, _, b⟩ := h; b.zin _ (List.mem_cons_self)) lF9 lN9 ⟨_, _, _, _, B1⟩ ?k2 ?k3)
  case k1 => rfl
  case k2 =>
    intro i9 v9 n9 I9 oI9 h9 tk9 N9 hv9 hJ9 hoff9 hsub9 hmI9 F9 NN9
    obtain ⟨rs9, its9, rt9, itt9, B2⟩ := hJ9
    obtain ⟨z9, t9, rfl⟩ := intAt hI9 hv9
    have hi9 : i9 < 40 := intLt hI9 h409 hv9
    obtain ⟨X9, Y9, rX, iX, rY, iY, B3, hx1, hx2, back⟩ := (B2.addZ hsub9 hmI9 hoff9).side z9
    have hz9 := B2.zin
    clear B2
    obtain ⟨hm0, hm1, hm2⟩ := modAt z9
    k_steps
    unfold Stop
    with_unfolding_all refine' nameItem ?kt ?ka ?kb ?_ ?k6
    (case kt => refine Fr.tup (by k_asm) (tupK (by k_asm) (by k_is)))
    (case ka => rfl)
    (case kb => decide +kernel)
    (case k6 => with_unfolding_all rfl)
    intro nm8 t8 hnm8
    k_with_none
    k_with "myItem" => (with_reducible refine stop ?_)
    k_with "myCall" => (with_reducible refine stop ?_)
    k_steps
    unfold Stop
    with_unfolding_all refine' wordItem ?kt ?ka ?kb ?_ ?k6
    (case kt => refine Fr.tup (by k_asm) (tupK (by k_asm) (by k_is)))
    (case ka => rfl)
    (case kb => decide +kernel)
    (case k6 => with_unfolding_all rfl)
    intro v8 pv8 hv8 hpv8
    k_steps
    unfold Stop
    with_unfolding_all refine' deed_c ⟨by k_asm, by k_asm, by k_asm, by k_asm, by k_asm, rfl, by decide, by decide⟩ B3.l B3.fl (by omega) hnm8 hv8 hpv8 (kindAt z9) (by k_asm) (by k_asm) ?_
    intro h7 tk7 nw7 F7 N7 hA7
    k_steps
    obtain ⟨rX2, iX2, B4⟩ := B3.deed hA7
    exact ⟨_, _, nw7, rfl, by assumption, by assumption, B4.zin _ (.head _), back _ _ _ _ _ (B4.dropZ fun p hp => hoff9 p (hz9 p hp))⟩
  case k3 =>
    intro u9 h9 tk9 n9 hJ9 F9 N9
    obtain ⟨r4, i4, r4', i4', B4⟩ := hJ9
    have hlen : ws9.length ≤ 40 := by rw [hI9.length, h409]; exact Nat.min_le_left _ _
    have hT4 := B4.zin _ (List.mem_cons_of_mem _ List.mem_cons_self)
    have hB4 := B4.zin _ (List.mem_cons_of_mem _ (List.mem_cons_of_mem _ List.mem_cons_self))
    k_with_none
    k_with "myItem" => ((rename News _ _ _ _ => lN'); k_dflt (first | (with_unfolding_all refine' itemLed lN' (by k_mem) ?ka ?kb ?kc ?_ ?k6; (case ka => decide); (case kb => decide); (case kc => rfl); (case k6 => with_unfolding_all rfl)) | (with_reducible refine stop ?_)))
    k_with "myCall" => (first | (k_dflt (refine' deed_c (pv := .str (Str.ofString "w")) ⟨by k_asm, by k_asm, by k_asm, by k_asm, by k_asm, rfl, by decide, by decide⟩ B7.r B7.fr (by omega) ⟨by decide +kernel, by decide +kernel⟩ ⟨_, rfl⟩ ⟨by decide +kernel, by decide +kernel⟩ ⟨by decide, by decide⟩ (by k_asm) (by k_asm) ?_); intro h7 tk7 nw7 F7 N7 hA7; obtain ⟨r8, i8, B8'⟩ := B7.swap.deed hA7; have B8 := B8'.swap; have hT8 := B8.zin _ (List.mem_cons_of_mem _ List.mem_cons_self); have hB8 := B8.zin _ (List.mem_cons_of_mem _ (List.mem_cons_of_mem _ List.mem_cons_self))) | (k_dflt (refine' deed_c (pv := .str (Str.ofString "v")) ⟨by k_asm, by k_asm, by k_asm, by k_asm, by k_asm, rfl, by decide, by decide⟩ B6.r B6.fr (by omega) ⟨by decide +kernel, by decide +kernel⟩ ⟨_, rfl⟩ ⟨by decide +kernel, by decide +kernel⟩ ⟨by decide, by decide⟩ (by k_asm) (by k_asm) ?_); intro h6 tk6 nw6 F6 N6 hA6; obtain ⟨r7, i7, B7'⟩ := B6.swap.deed hA6; have B7 := B7'.swap; have hT7 := B7.zin _ (List.mem_cons_of_mem _ List.mem_cons_self); have hB7 := B7.zin _ (List.mem_cons_of_mem _ (List.mem_cons_of_mem _ List.mem_cons_self))) | (k_dflt (refine' deed_c (pv := .str (Str.ofString "v")) ⟨by k_asm, by k_asm, by k_asm, by k_asm, by k_asm, rfl, by decide, by decide⟩ B5.l B5.fl (by omega) ⟨by decide +kernel, by decide +kernel⟩ ⟨_, rfl⟩ ⟨by decide +kernel, by decide +kernel⟩ ⟨by decide, by decide⟩ (by k_asm) (by k_asm) ?_); intro h5 tk5 nw5 F5 N5 hA5; obtain ⟨r6, i6, B6⟩ := B5.deed hA5; have hT6 := B6.zin _ (List.mem_cons_of_mem _ List.mem_cons_self); have hB6 := B6.zin _ (List.mem_cons_of_mem _ (List.mem_cons_of_mem _ List.mem_cons_self))) | (k_dflt (refine' deed_c (pv := .int 7) ⟨by k_asm, by k_asm, by k_asm, by k_asm, by k_asm, rfl, by decide, by decide⟩ B4.l B4.fl (by omega) ⟨by decide +kernel, by decide +kernel⟩ ⟨_, rfl⟩ (.inr (.inl rfl)) ⟨by decide, by decide⟩ (by k_asm) (by k_asm) ?_); intro h4 tk4 nw4 F4 N4 hA4; obtain ⟨r5, i5, B5⟩ := B4.deed hA4; have hT5 := B5.zin _ (List.mem_cons_of_mem _ List.mem_cons_self); have hB5 := B5.zin _ (List.mem_cons_of_mem _ (List.mem_cons_of_mem _ List.mem_cons_self))) | (with_reducible refine stop ?_))
    k_steps
    unfold Stop
    rename Fr _ _ _ _ => lF8
    rename News _ _ _ _ => lN8
    k_with_none
    k_with "myIter" => (with_reducible refine stop ?_)
    with_unfolding_all refine' For_invVF lF8 ?k1 ?k2 ?_
    case k1 => rfl
    case k2 => rfl
    k_steps
    unfold Stop
    rename Fr _ _ _ _ => lF8
    rename News _ _ _ _ => lN8
    with_unfolding_all refine' iterTup2 (Str.ofString "plain") (Str.ofString "row") (Str.ofString "ended") ?k1 List.mem_cons_self lF8 lN8 ?k2 ?k3 ?k4 ?k5
    case k1 => rfl
    case k2 => rfl
    case k3 => decide +kernel
    case k4 =>
      intro i8 v8 u8 h8 tk8 own8 hv8 F8 N8
      obtain ⟨z8, t8, X8, Y8, rX8, iX8, rY8, iY8, rfl, hz0, hz1, C0, hx1, hx2⟩ := B8.at hv8
      have C1 := C0.under N8
      clear C0
      obtain ⟨nb8, hb8⟩ := C1.l.book
      obtain ⟨oe8, kve8, hee8, hde8, hke8⟩ := C1.l.dict
      obtain ⟨mt8, ka8, kb8, kc8, kd8, ke8, hT28⟩ := C1.l.own
      have hT18 := C1.l.inst
      have hlo8 := C1.l.lo
      have hTT := C1.zin _ (.tail _ (.head _))
      have hBB := C1.zin _ (.tail _ (.tail _ (.head _)))
      k_with_none
      k_with "myFor2" => (with_reducible refine stop ?_)
      k_with "myDict" => (k_here; k_dflt (refine' newDict_K ?k1 ?k2 ?k3 ?_; (case k1 => k_asm); (case k2 => k_asm); (case k3 => exact Top.nolimit (by k_asm))); intro d5 h5 o5 F5 N5 l5 lo5 hs5 fs5 hi5 fi5)
      k_steps
      unfold Stop
      rename Fr _ _ _ _ => lF7
      k_with_none
      k_with "myItem" => ((rename News _ _ _ _ => lN'); k_dflt (first | (with_unfolding_all refine' itemLed lN' (by k_mem) hz0 hz1 hx1 ?_ ?k6; (case k6 => with_unfolding_all rfl)) | (with_unfolding_all refine' itemLed lN' (by k_mem) hz0 hz1 hx2 ?_ ?k6; (case k6 => with_unfolding_all rfl)) | (with_unfolding_all refine' itemLed lN' (by k_mem) ?ka ?kb ?kc ?_ ?k6; (case ka => decide); (case kb => decide); (case kc => rfl); (case k6 => with_unfolding_all rfl)) | (with_reducible refine stop ?_)))
      k_with "myIter" => (with_reducible refine stop ?_)
      with_unfolding_all refine' For_invVF lF7 ?k1 ?k2 ?_
      case k1 => rfl
      case k2 => rfl
      k_steps
      unfold Stop
      rename Fr _ _ _ _ => lF7
      rename News _ _ _ _ => lN7
      with_unfolding_all refine' iterLed (PlainJ C1 d5) ?k1 (List.mem_cons_of_mem _ hb8) (fun i n h => h.1 _ hb8) lF7 lN7 (PlainJ.start C1 hs5) ?k2 ?k3
      case k1 => rfl
      case k2 =>
        intro i7 v7 n7 I7 oI7 h7 tk7 N7 hv7 hJ7 hoff7 hsub7 hI7 F7 NN7
        obtain ⟨hJ71, o6, kvs6, ho6, hd6, hk6⟩ := hJ7
        obtain ⟨r6, nm6, pv6, t6, u6, m6, rfl, hit6, hpv6, hrow6⟩ := PlainJ.row C1 hv7
        have hrow7 := hsub7 _ (hJ71 _ hrow6)
        have hd7 := hsub7 _ ho6
        have hn7 : kvs6.length ≤ 16777216 := by rw [hk6.len, List.length_take]; have := C1.fl.len; omega
        k_with_none
        k_with "myItem" => ((rename News _ _ _ _ => lN'); k_dflt (first | (with_unfolding_all refine' itemLed lN' hrow7 ?ka ?kb ?kc ?_ ?k6; (case ka => decide); (case kb => decide); (case kc => rfl); (case k6 => with_unfolding_all rfl)) | (with_reducible refine stop ?_)))
        k_with "mySet" => ((rename Fr _ _ _ _ => lF'); (rename News _ _ _ _ => lN'); k_dflt (refine setLed lF' lN' hd7 hd6 hn7 ?_); intro o9 h9 nw9 F9 N9 hs9 he9 hD9)
        k_steps
        refine ⟨_, _, nw9, rfl, ?_, ?_, ?_, ?_⟩
        · k_asm
        · k_asm
        · exact hs9 _ hI7 (Ne.symm (hoff7 _ ho6))
        · exact PlainJ.turn C1 hJ71 l5 (hoff7 _ ho6) hoff7 hsub7 hs9 he9 hk6 hit6 hpv6 hD9
      case k3 =>
        intro u7 h7 tk7 n7 hJ7 F7 N7
        obtain ⟨hJ71, o6, kvs6, ho6, hd6, hk6⟩ := hJ7
        rw [List.length_map, C1.l.rows.len, List.take_length] at hk6
        have C4 := C1.mono hJ71
        have hb4 := hJ71 _ hb8
        have hee4 := hJ71 _ hee8
        have hT14 := hJ71 _ hT18
        have hT24 := hJ71 _ hT28
        have hTT4 := hJ71 _ hTT
        have hBB4 := hJ71 _ hBB
        k_with_none
        k_with "myItem" => ((rename News _ _ _ _ => lN'); k_dflt (first | (with_unfolding_all refine' itemLed lN' (by k_mem) hz0 hz1 hx1 ?_ ?k6; (case k6 => with_unfolding_all rfl)) | (with_unfolding_all refine' itemLed lN' (by k_mem) hz0 hz1 hx2 ?_ ?k6; (case k6 => with_unfolding_all rfl)) | (with_reducible refine stop ?_)))
        k_with "myCall" => (first | (k_dflt (refine' page_c ⟨by k_asm, by k_asm, by k_asm, by k_asm, by k_asm, rfl, by decide, by decide⟩ (hs1 _ (hs2 _ (hs3 _ hb4))) (C5.l.rows.mono hs1) (C1.fl.small (by omega)) (by have := C1.fl.len; omega) ?_); intro h0 tk0 t0 F0 N0) | (k_dflt (refine' render_c ⟨by k_asm, by k_asm, by k_asm, by k_asm, by k_asm, rfl, by decide, by decide⟩ C5.l.tokAt (hs2 _ (hs3 _ hee4)) hde8 hlo8 hke8 (C1.fl.small (by omega)) (by have := C1.fl.len; omega) ?_); intro h1 tk1 t1 nw1 F1 N1 hs1; have hTT1 := hs1 _ hTT2; have hBB1 := hs1 _ hBB2) | (k_dflt (refine' told_c ⟨by k_asm, by k_asm, by k_asm, by k_asm, by k_asm, rfl, by decide, by decide⟩ (.inl rfl) (hs3 _ hb4) (C4.l.rows.mono hs3) (by have := C1.fl.len; omega) ?_); intro D2 c2 ts2 h2 tk2 nw2 F2 N2 hs2 hD2 hT2; have hTT2 := hs2 _ hTT3; have hBB2 := hs2 _ hBB3; have C5 := C4.mono (fun p hp => hs2 _ (hs3 _ hp)); have hT12 := hs2 _ (hs3 _ hT14); have hT22 := hs2 _ (hs3 _ hT24)) | (k_dflt (refine' items_c ⟨by k_asm, by k_asm, by k_asm, by k_asm, by k_asm, rfl, by decide, by decide⟩ (.inl rfl) C4.l.tokAt hee4 hde8 hlo8 hke8 (by have := C1.fl.len; omega) ?_); intro D3 c3 ts3 h3 tk3 nw3 F3 N3 hs3 hD3 hT3 hl3; have hTT3 := hs3 _ hTT4; have hBB3 := hs3 _ hBB4) | (with_reducible refine stop ?_))
        k_with "myEq" => ((rename News _ _ _ _ => lN'); first | k_dflt (refine' toldSame lN' (hs2 _ hD3) (hT3.mono hs2) hD2 hT2 C1.fl (by ke_room) ?_) | k_dflt (refine' dictSame lN' (hs2 _ (hs3 _ hee4)) (hs2 _ (hs3 _ ho6)) hde8 hd6 hlo8 lo5 hke8 hk6 C1.l.names (by ke_room) ?_) | (with_reducible refine stop ?_))
        k_steps
        refine InvEnd.intro (by assumption) (by assumption) (fun p hp => hs1 _ (hs2 _ (hs3 _ (hJ71 _ hp)))) ⟨?_, fun z z1 z2 z3 z4 => ?_⟩
        · rw [if_pos rfl, beq_self_eq_true]
        · simp only [z1, z2, z3, z4, or_self, if_false]
    case k5 =>
      intro u8 h8 tk8 F8 N8
      have C9 := B8.over N8
      obtain ⟨ta9, ea9⟩ := B0.a1
      obtain ⟨tb9, eb9⟩ := B0.a2
      obtain ⟨tc9, ec9⟩ := B0.a3
      obtain ⟨td9, ed9⟩ := B0.b1
      have hI09 := C9.l.inst
      have hI19 := C9.r.inst
      obtain ⟨mt9, p19, p29, p39, p49, p59, hD09⟩ := C9.l.own
      obtain ⟨nt9, q19, q29, q39, q49, q59, hD19⟩ := C9.r.own
      rw [ea9, eb9, ec9] at hD09
      rw [ed9] at hD19
      have hT9 := C9.zin _ (List.mem_cons_of_mem _ List.mem_cons_self)
      k_with_none
      k_with "myItem" => ((rename News _ _ _ _ => lN'); k_dflt (first | (with_unfolding_all refine' itemLed lN' (by k_mem) ?ka ?kb ?kc ?_ ?k6; (case ka => decide); (case kb => decide); (case kc => rfl); (case k6 => with_unfolding_all rfl)) | (with_reducible refine stop ?_)))
      k_steps)
end Mine
end PartL6

theorem PySem.Challenge.cw_dg5004_01_holds : PySem.Challenge.rw_dg5004_01.Holds :=
  Mine.law_holds
