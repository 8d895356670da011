import PyProof.Rows.All
import Wide.All
import OpenK.AllK
import Wide.FinOn
import PySem.Challenge.RW_re0004_01
set_option Elab.async false
section -- Hd1
open PySem PySem.W PyProof.Rows
set_option maxRecDepth 100000
set_option maxHeartbeats 8000000
namespace Mine
open_top hd for PySem.Challenge.rw_re0004_01
end Mine
end
example : True := by
  w_top off
  trivial
section -- B0
open PySem PySem.W PyProof.Rows
namespace Mine
noncomputable abbrev KK (w : World) : Frag := Mine.hd.heap_39 w.params
/-- a call's surroundings, written out -/
abbrev At (dp un : Nat) (gd : Option (List Code)) (env : Env) (outer : List Env) : Around := { handled := none, depth := dp, frames := some (env :: outer), guards := gd, units := un }
end Mine
end
section -- G1
open PySem PySem.W PyProof.Rows
set_option maxRecDepth 100000
namespace Mine
/-- an end of a walk: the walk's own lines leave it alone -/
structure Stop (P : Prop) : Prop where
  out : P
theorem halt {P : Prop} (h : Stop P) : P := h.out
abbrev nl : Str := Str.ofString "\n"
/-- no raise -/
abbrev NE : Value → Shared → Prop := fun _ _ => False
theorem frMoved {h₀ h h' : Heap} {L : Addr} {m : Str → Option Value} (P : Addr → Prop) (F : Fr h₀ L h m) (hk : ∀ b o, P b → h.get? b = some o → h'.get? b = some o) (hL : P L) (h0 : ∀ b o, h₀.get? b = some o → P b) : Fr h₀ L h' m :=
  ⟨F.ns.at fun o e => hk L o hL e, fun b o e => hk b o (h0 b o e) (F.keep b o e), F.above⟩
theorem newsMoved {h₀ h h' : Heap} {L : Addr} {news : List (Addr × Obj)} (P : Addr → Prop) (N : News h₀ L h news) (hk : ∀ b o, P b → h.get? b = some o → h'.get? b = some o) (hn : ∀ p ∈ news, P p.1) : News h₀ L h' news :=
  fun p hp => ⟨hk p.1 p.2 (hn p hp) (N p hp).1, (N p hp).2.1, (N p hp).2.2⟩
theorem newsSub {h₀ h : Heap} {L : Addr} {news news' : List (Addr × Obj)} (N : News h₀ L h news) (hs : ∀ p ∈ news', p ∈ news) : News h₀ L h news' := fun p hp => N p (hs p hp)
theorem frNew {h₀ h : Heap} {L : Addr} {m : Str → Option Value} (F : Fr h₀ L h m) {b : Nat} (hb : h.objs.size ≤ b) : h₀.get? b = none := by
  cases hq : h₀.get? b with
  | none => rfl
  | some o =>
    have : b < h.objs.size := Heap.lt_size (F.keep _ _ hq)
    omega
/-- no raise: the surroundings' own raise does not matter -/
theorem ofNE {α : Type} {M : Model} {A : Around} {t : Sem α} {Q : α → Shared → Prop} {E : Value → Shared → Prop} {s : Shared} (h : wpAny M A t Q NE s) : wpAny M A t Q E s :=
  wpAny_mono h (fun _ _ x => x) fun _ _ x => x.elim
theorem treeId {α : Type} {M : Model} {A : Around} {t : Sem α} {Q : α → Shared → Prop} {E : Value → Shared → Prop} {s : Shared} (h : wpAny M A t Q E s) : wpAny M A t Q E s := h
abbrev enumObj (it : Addr) (i : Nat) (old : Value) : Obj := { cls := .type "enumerate", dict := none, data := .fields #[.none, .bool false, .ref it, rawInt i, .none, old], slots := #[] }
abbrev liObj (l : Addr) (i : Nat) : Obj := { cls := .type "list_iterator", data := .fields #[.ref l, .int i 0] }
section
variable {prog : Program} {w : World} {A : Around} {s : Shared} {env : Env} {h₀ : Heap}
/-- for xi, xv in enumerate(D): a turn may change the list's items (not its length) -/
theorem enum_loop {E : Value → Shared → Prop} {R : Result → Shared → Prop} {xi xv : Str} {pi pv pt : Pos} {x1 : Nat} {body : List Stmt} {D : Addr} {n : Nat} {vs : List Value} {m : Str → Option Value} {news : List (Addr × Obj)}
    (hh : A.handled = none) (hxi : env.kindOf xi = some .local) (hxv : env.kindOf xv = some .local)
    (hp : (env.scope.kind == .class || (env.scope.kind == .module && env.locals != env.globals)) = false)
    (F : Fr h₀ env.locals s.heap m) (N : News h₀ env.locals s.heap ((D, listOf vs.toArray n) :: news)) (hD : ∀ p ∈ news, p.1 ≠ D)
    (J : Nat → (Str → Option Value) → List Value → Prop) (h0 : J 0 m vs)
    (turn : ∀ i v t m₁ us h tk own, i < vs.length → us[i]? = some v → us.length = vs.length → J i m₁ us → (∀ p ∈ own ++ news, p.1 ≠ D) →
      Fr h₀ env.locals h (fun y => if y = xv then some v else if y = xi then some (.int i t) else m₁ y) → News h₀ env.locals h ((D, listOf us.toArray n) :: (own ++ news)) →
      wpAny (model prog w) A (execs body env) (fun f s₂ => Stop (f = .next ∧ ∃ h' tk' m₂ us', s₂ = { s with heap := h', toks := tk' } ∧ Fr h₀ env.locals h' m₂ ∧ News h₀ env.locals h' ((D, listOf us'.toArray n) :: (own ++ news)) ∧ us'.length = vs.length ∧ J (i + 1) m₂ us')) NE { s with heap := h, toks := tk })
    (done : ∀ m₁ us h tk, us.length = vs.length → J vs.length m₁ us → Fr h₀ env.locals h m₁ → News h₀ env.locals h ((D, listOf us.toArray n) :: news) → R (.ok .next) { s with heap := h, toks := tk }) :
    wpAny (model prog w) A (call (.type "enumerate") [.ref D]) (fun x s₁ => wpAny (model prog w) A (pyIter x) (fun it s₂ => codeAny (model prog w) A (.forLoop (.Tuple [.Name xi pi, .Name xv pv] x1 pt) it body [] env) R s₂) E s₁) E s := by
  have zD := N _ (.head _)
  have hDlt : @LT.lt Nat _ D s.heap.objs.size := Heap.lt_size zD.1
  have hLlt : @LT.lt Nat _ env.locals s.heap.objs.size := F.ns.lt
  have hls : s.heap.IsList D vs.toArray := ⟨_, zD.1, rfl, n, rfl⟩
  refine call_enumerate_list hls fun h₁ he hit hsz hk => ?_
  have F₁ : Fr h₀ env.locals h₁ m := frMoved (fun _ => True) F (fun b o _ => hk b o) trivial fun _ _ _ => trivial
  have N₁ : News h₀ env.locals h₁ ((D, listOf vs.toArray n) :: news) := newsMoved (fun _ => True) N (fun b o _ => hk b o) fun _ _ => trivial
  have hltN : ∀ p ∈ (D, listOf vs.toArray n) :: news, @LT.lt Nat _ p.1 s.heap.objs.size := fun p hp => Heap.lt_size (N p hp).1
  generalize hE1 : s.heap.objs.size + 1 = e at he
  generalize hI1 : s.heap.objs.size = it at he hit
  have hzi : h₀.get? it = none := frNew F (by omega)
  have hze : h₀.get? e = none := frNew F (by omega)
  have hei : e ≠ it := neN (by omega)
  have heL : e ≠ env.locals := neN (by omega)
  have hiL : it ≠ env.locals := neN (by omega)
  have hDe : D ≠ e := neN (by omega)
  have hDi : D ≠ it := neN (by omega)
  have hne : ∀ p ∈ (D, listOf vs.toArray n) :: news, p.1 ≠ e ∧ p.1 ≠ it := fun p hp => by
    have := hltN p hp
    exact ⟨neN (by omega), neN (by omega)⟩
  have hs0 : ∀ b o, h₀.get? b = some o → b ≠ e ∧ b ≠ it := fun b o hb => ⟨(fun q => by rw [q, hze] at hb; cases hb), (fun q => by rw [q, hzi] at hb; cases hb)⟩
  refine wpAny_pyIter_enum he ?_
  refine codeAny_forLoop_any
    (fun k s' => ∃ h' tk m' us i old, s' = { s with heap := h', toks := tk } ∧ h'.get? e = some (enumObj it i old) ∧ h'.IsListIter it D i ∧ Fr h₀ env.locals h' m' ∧ News h₀ env.locals h' ((D, listOf us.toArray n) :: news) ∧ us.length = vs.length ∧ J i m' us ∧ i ≤ vs.length ∧
      k = vs.length + 1 - i) ?_ (vs.length + 1) ⟨h₁, _, m, vs, 0, .none, rfl, he, hit, F₁, N₁, rfl, h0, Nat.zero_le _, rfl⟩
  · rintro k s' ⟨H, tk, m', us, i, old, rfl, he', hit', F', N', hl', hJ, hi, rfl⟩
    have zD' := N' _ (.head _)
    have hli' := hit'
    obtain ⟨oi', hoi', _⟩ := id hit'
    have hls' : H.IsList D us.toArray := ⟨_, zD'.1, rfl, n, rfl⟩
    cases hv : us[i]? with
    | none =>
      have hsz : i = vs.length := Nat.le_antisymm hi (by rw [← hl']; simpa using hv)
      refine wpAny_pyNext_enum_end hh he' hli' hls' (by simpa using hv) fun h₂ hx₂ => wpAny_execs_nil ?_
      have hk₂ : ∀ b o, (b ≠ it) → H.get? b = some o → h₂.get? b = some o := fun b o hb x => hx₂ b o hb x
      exact done m' us h₂ tk hl' (hsz ▸ hJ) (frMoved (fun b => b ≠ it) F' hk₂ (Ne.symm hiL) fun b o hb => (hs0 b o hb).2)
        (newsMoved (fun b => b ≠ it) N' hk₂ fun p hp => by
          rcases List.mem_cons.mp hp with rfl | hp
          · exact hDi
          · exact (hne p (.tail _ hp)).2)
    | some v =>
      have hlt : i < vs.length := by rw [← hl']; exact (List.getElem?_eq_some_iff.mp hv).1
      have heH : @LT.lt Nat _ e H.objs.size := Heap.lt_size he'
      have hLH : @LT.lt Nat _ env.locals H.objs.size := F'.ns.lt
      have hiH : @LT.lt Nat _ it H.objs.size := Heap.lt_size hoi'
      refine wpAny_pyNext_enum_item he' hli' hls' (by simpa using hv) hei fun h₂ heo hit₂ ht₂ hz₂ hk₂ => ?_
      refine wpAny_letOwnedTupleGo_enum heo fun h₃ he₃ hs₃ => ?_
      replace hs₃ : Heap.SameBut e h₂ h₃ := hs₃
      have hN' : ∀ p ∈ (D, listOf us.toArray n) :: news, p.1 ≠ e ∧ p.1 ≠ it := fun p hp => by
        rcases List.mem_cons.mp hp with rfl | hp
        · exact ⟨hDe, hDi⟩
        · exact hne p (.tail _ hp)
      have F₃ : Fr h₀ env.locals h₃ m' := frMoved (fun b => b ≠ e ∧ b ≠ it) F' (fun b o hb x => hs₃.extBut b o hb.1 (hk₂ b o hb.1 hb.2 x)) ⟨Ne.symm heL, Ne.symm hiL⟩ hs0
      have N₃ : News h₀ env.locals h₃ ((D, listOf us.toArray n) :: news) := newsMoved (fun b => b ≠ e ∧ b ≠ it) N' (fun b o hb x => hs₃.extBut b o hb.1 (hk₂ b o hb.1 hb.2 x)) hN'
      have ht₃ : h₃.IsTuple H.objs.size #[.int i tk, v] := ⟨_, (hs₃.2 _ (Nat.ne_of_gt heH)).trans ht₂, rfl, _, rfl⟩
      have hz₃ : h₃.objs.size = H.objs.size + 1 := hs₃.1.trans hz₂
      have hit₃ : h₃.IsListIter it D (i + 1) := hit₂.extBut hs₃.extBut (Ne.symm hei)
      refine wpAny_assign_Tuple hh ht₃ rfl rfl fun h₄ hx₄ => ?_
      replace hx₄ : Heap.ExtBut h₃.objs.size h₃ h₄ := hx₄
      have up₄ : ∀ b o, True → h₃.get? b = some o → h₄.get? b = some o := fun b o _ x => hx₄ b o (Nat.ne_of_lt (Heap.lt_size x)) x
      have F₄ : Fr h₀ env.locals h₄ m' := frMoved (fun _ => True) F₃ up₄ trivial fun _ _ _ => trivial
      have N₄ : News h₀ env.locals h₄ ((D, listOf us.toArray n) :: news) := newsMoved (fun _ => True) N₃ up₄ fun _ _ => trivial
      have he₄ : h₄.get? e = some (enumObj it (i + 1) v) := up₄ _ _ trivial he₃
      have hit₄ : h₄.IsListIter it D (i + 1) := hit₃.at fun o x => up₄ _ o trivial x
      obtain ⟨oi, hoi, hci, hdi⟩ := hit₄
      have NO : News h₀ env.locals h₄ ((D, listOf us.toArray n) :: ([(e, enumObj it (i + 1) v), (it, oi)] ++ news)) := fun p hp => by
        rcases List.mem_cons.mp hp with rfl | hp
        · exact N₄ _ (.head _)
        rcases List.mem_append.mp hp with hp | hp
        · rcases List.mem_cons.mp hp with rfl | hp
          · exact ⟨he₄, heL, hze⟩
          · rw [List.mem_singleton.mp hp]; exact ⟨hoi, hiL, hzi⟩
        · exact N₄ _ (.tail _ hp)
      show wpAny _ A (do holding [v] (assign (.Name xi pi) env (.int i tk)); do holding [] (assign (.Name xv pv) env v); pure ()) _ _ _
      refine wpAny_bind (wpAny_holding (wpAny_assign_Name (wpAny_storeName_local hxi F₄.ns (fun h₅ hn₅ hs₅ => ?_) hp)))
      replace hs₅ : Heap.SameBut env.locals h₄ h₅ := hs₅
      have F₅ := F₄.set hn₅ hs₅
      have N₅ := NO.set hs₅
      refine wpAny_bind (wpAny_holding (wpAny_assign_Name (wpAny_storeName_local hxv F₅.ns (fun h₆ hn₆ hs₆ => wpAny_pure ?_) hp)))
      replace hs₆ : Heap.SameBut env.locals h₅ h₆ := hs₆
      have F₆ := F₅.set hn₆ hs₆
      have N₆ := N₅.set hs₆
      refine ofNE (wpAny_mono (turn i v tk m' us h₆ _ _ hlt hv hl' hJ ?_ F₆ N₆) (fun f s₃ q => ?_) fun _ _ x => x)
      · intro p hp
        rcases List.mem_append.mp hp with hp | hp
        · rcases List.mem_cons.mp hp with rfl | hp
          · exact Ne.symm hDe
          · rw [List.mem_singleton.mp hp]; exact Ne.symm hDi
        · exact hD p hp
      · obtain ⟨rfl, h', tk', m₂, us', rfl, F', N', hl₂, hJ₂⟩ := q.out
        have he₇ := (N' (e, enumObj it (i + 1) v) (by simp)).1
        have hi₇ := (N' (it, oi) (by simp)).1
        refine ⟨vs.length + 1 - (i + 1), by omega, h', tk', m₂, us', i + 1, v, rfl, he₇, ⟨_, hi₇, hci, hdi⟩, F', newsSub N' ?_, hl₂, hJ₂, by omega, rfl⟩
        intro p hp
        rcases List.mem_cons.mp hp with rfl | hp
        · exact .head _
        · exact .tail _ (List.mem_append.mpr (.inr hp))
theorem frPut {h₀ h : Heap} {L : Addr} {m : Str → Option Value} (F : Fr h₀ L h m) {x : Str} {v : Value} (hx : m x = some v) : Fr h₀ L h (fun y => if y = x then some v else m y) := by
  have e : (fun y => if y = x then some v else m y) = m := by
    funext y
    by_cases q : y = x
    · rw [if_pos q, q, hx]
    · rw [if_neg q]
  rw [e]; exact F
theorem setAny {E : Value → Shared → Prop} {L D : Addr} {m : Str → Option Value} {news news' : List (Addr × Obj)} {vs : List Value} {n : Nat} {k : Int} {t : Tok} {v : Value} {Q : Unit → Shared → Prop}
    (F : Fr h₀ L s.heap m) (N : News h₀ L s.heap news) (U : Upd D (listOf vs.toArray n) (listOf (vs.set k.toNat v).toArray n) news news') (h0 : 0 ≤ k) (h1 : k < vs.length) (hfit : k < 2 ^ 63)
    (h : ∀ h', Fr h₀ L h' m → News h₀ L h' news' → Q () { s with heap := h' }) : wpAny (model prog w) A (setItem (.ref D) (.int k t) v) Q E s := by
  obtain ⟨pre, post, rfl, rfl, a, b⟩ := U.split
  have z := N (D, listOf vs.toArray n) (List.mem_append.mpr (.inr (.head _)))
  have hs : vs.toArray.size = vs.length := List.size_toArray ..
  refine ki_setAt z.1 h0 hfit (by omega) (h _ (F.change (Heap.SameBut.update ..) z.2.1 z.2.2) (ki_turn _ N a b ?_ ?_))
  · show vs.toArray.setIfInBounds k.toNat v = (vs.set k.toNat v).toArray
    apply Array.toList_inj.mp
    simp
  · simp
theorem strsSet {x : Str} {u : Tok} : ∀ {vs : List Value} {ns : List Str}, StrsAre vs ns → ∀ j : Nat, StrsAre (vs.set j (.str x u)) (ns.set j x)
  | _, _, .nil, _ => .nil
  | _, _, .cons _ _ h, 0 => .cons x u h
  | _, _, .cons i t h, j + 1 => .cons i t (strsSet h j)
end
end Mine
end
section -- G2
open PySem PySem.W PyProof.Rows
set_option maxRecDepth 100000
namespace Mine
section
variable {prog : Program} {w : World} {A : Around} {s : Shared} {env : Env} {h₀ : Heap}
/-- a turn's end: the map, the ledger (own of the loop kept) -/
def TurnEnd (h₀ : Heap) (L : Addr) (J : (Str → Option Value) → List (Addr × Obj) → Prop) (own : List (Addr × Obj)) (s : Shared) (f : Flow) (s₂ : Shared) : Prop :=
  f = .next ∧ ∃ h' tk' m₂ nx', s₂ = { s with heap := h', toks := tk' } ∧ Fr h₀ L h' m₂ ∧ News h₀ L h' (nx' ++ own) ∧ (∀ p ∈ nx', ∀ q ∈ own, p.1 ≠ q.1) ∧ J m₂ nx'
abbrev riObj (x left : Int) : Obj := { cls := .type "range_iterator", dict := none, data := .fields #[rawInt x, rawInt left, rawInt 1], slots := #[] }
theorem range_loop {E : Value → Shared → Prop} {R : Result → Shared → Prop} {x : Str} {px : Pos} {body : List Stmt} {r : Addr} {a b : Int} {t u v : Tok} {n : Nat} {m : Str → Option Value} {news : List (Addr × Obj)}
    (hh : A.handled = none) (hx : env.kindOf x = some .local)
    (hp : (env.scope.kind == .class || (env.scope.kind == .module && env.locals != env.globals)) = false)
    (hr : IsRange s.heap r a b 1 t u v) (hsmall : Builtin.Range.small a b 1 = true) (hn : Builtin.Range.rangeSize a b 1 = (n : Int))
    (F : Fr h₀ env.locals s.heap m) (N : News h₀ env.locals s.heap news)
    (J : Nat → (Str → Option Value) → List (Addr × Obj) → Prop) (h0 : J 0 m news)
    (turn : ∀ i t m₁ nx h tk own, i < n → J i m₁ nx → (∀ p ∈ nx, ∀ q ∈ own, p.1 ≠ q.1) →
      Fr h₀ env.locals h (fun y => if y = x then some (.int (a + (i : Int)) t) else m₁ y) → News h₀ env.locals h (nx ++ own) →
      wpAny (model prog w) A (execs body env) (fun f s₂ => Stop (TurnEnd h₀ env.locals (J (i + 1)) own s f s₂)) NE { s with heap := h, toks := tk })
    (done : ∀ m₁ nx h tk, J n m₁ nx → Fr h₀ env.locals h m₁ → News h₀ env.locals h nx → R (.ok .next) { s with heap := h, toks := tk }) :
    wpAny (model prog w) A (pyIter (.ref r)) (fun it s₂ => codeAny (model prog w) A (.forLoop (.Name x px) it body [] env) R s₂) E s := by
  have hLlt : @LT.lt Nat _ env.locals s.heap.objs.size := F.ns.lt
  have hltN : ∀ p ∈ news, @LT.lt Nat _ p.1 s.heap.objs.size := fun p hp => Heap.lt_size (N p hp).1
  refine wpAny_pyIter_range hr hsmall ?_
  rw [hn]
  have F₁ := F.push ({ cls := .type "range_iterator", data := .fields #[rawInt a, rawInt (n : Int), rawInt 1] } : Obj)
  have N₁ : News h₀ env.locals (s.heap.push { cls := .type "range_iterator", data := .fields #[rawInt a, rawInt (n : Int), rawInt 1] }) news := fun p hp => ⟨Heap.get?_push_of_some _ (N p hp).1, (N p hp).2⟩
  have hit : (s.heap.push ({ cls := .type "range_iterator", data := .fields #[rawInt a, rawInt (n : Int), rawInt 1] } : Obj)).get? s.heap.objs.size = some (riObj a n) := Heap.get?_push_size _ rfl
  generalize s.heap.push ({ cls := .type "range_iterator", data := .fields #[rawInt a, rawInt (n : Int), rawInt 1] } : Obj) = h₁ at F₁ N₁ hit
  have hzi : h₀.get? s.heap.objs.size = none := frNew F (Nat.le_refl _)
  generalize s.heap.objs.size = it at hLlt hltN hit hzi
  have hiL : it ≠ env.locals := neN (by omega)
  have hs0 : ∀ b o, h₀.get? b = some o → b ≠ it := fun b o hb q => by rw [q, hzi] at hb; cases hb
  refine codeAny_forLoop
    (fun k s' => ∃ h' tk m' nx i, s' = { s with heap := h', toks := tk } ∧ h'.get? it = some (riObj (a + ((i : Nat) : Int)) ((n : Int) - i)) ∧ Fr h₀ env.locals h' m' ∧ News h₀ env.locals h' nx ∧ (∀ p ∈ nx, p.1 ≠ it) ∧ J i m' nx ∧ i ≤ n ∧
      k = n + 1 - i) ?_ (n + 1) ⟨h₁, _, m, news, 0, rfl, by simpa using hit, F₁, N₁, (fun p hp => neN (by have := hltN p hp; omega)), h0, Nat.zero_le _, rfl⟩
  rintro k s' ⟨H, tk, m', nx, i, rfl, hit', F', N', hne, hJ, hi, rfl⟩
  by_cases hlt : i < n
  · refine wpAny_pyNext_range_item hit' (by omega) fun h₂ hit₂ hs₂ => ?_
    replace hs₂ : Heap.SameBut it H h₂ := hs₂
    have F₂ : Fr h₀ env.locals h₂ m' := frMoved (fun b => b ≠ it) F' (fun b o hb x => hs₂.extBut b o hb x) (Ne.symm hiL) hs0
    have N₂ : News h₀ env.locals h₂ nx := newsMoved (fun b => b ≠ it) N' (fun b o hb x => hs₂.extBut b o hb x) hne
    have NO : News h₀ env.locals h₂ (nx ++ [(it, riObj (a + (i : Int) + 1) ((n : Int) - i - 1))]) := fun p hp => by
      rcases List.mem_append.mp hp with hp | hp
      · exact N₂ p hp
      · rw [List.mem_singleton.mp hp]; exact ⟨hit₂, hiL, hzi⟩
    refine wpAny_assign_Name (wpAny_storeName_local hx F₂.ns (fun h₃ hn₃ hs₃ => ?_) hp)
    replace hs₃ : Heap.SameBut env.locals h₂ h₃ := hs₃
    refine ofNE (wpAny_mono (turn i _ m' nx h₃ _ _ hlt hJ ?_ (F₂.set hn₃ hs₃) (NO.set hs₃)) (fun f s₃ q => ?_) fun _ _ x => x)
    · intro p hp q hq
      rw [List.mem_singleton.mp hq]; exact hne p hp
    · obtain ⟨rfl, h', tk', m₂, nx', rfl, F₄, N₄, hsep, hJ₂⟩ := q.out
      refine ⟨n + 1 - (i + 1), by omega, h', tk', m₂, nx', i + 1, rfl, ?_, F₄, newsSub N₄ fun p hp => List.mem_append.mpr (.inl hp), fun p hp => hsep p hp _ (.head _), hJ₂, hlt, rfl⟩
      have e := (N₄ (it, riObj (a + (i : Int) + 1) ((n : Int) - i - 1)) (by simp)).1
      have e1 : a + ((i + 1 : Nat) : Int) = a + (i : Int) + 1 := by omega
      have e2 : (n : Int) - ((i + 1 : Nat) : Int) = (n : Int) - i - 1 := by omega
      rw [e1, e2]; exact e
  · have hin : i = n := by omega
    subst hin
    refine wpAny_pyNext_range_end hh hit' (by omega) fun h₂ hx₂ => wpAny_execs_nil ?_
    have up : ∀ b o, b ≠ it → H.get? b = some o → h₂.get? b = some o := fun b o hb x => hx₂ b o hb x
    exact done m' nx h₂ tk hJ (frMoved (fun b => b ≠ it) F' up (Ne.symm hiL) hs0) (newsMoved (fun b => b ≠ it) N' up hne)
/-- for x in D, D a list of the ledger that no turn changes -/
theorem list_loop {E : Value → Shared → Prop} {R : Result → Shared → Prop} {x : Str} {px : Pos} {body : List Stmt} {D : Addr} {k₀ : Nat} {vs : List Value} {m : Str → Option Value} {news : List (Addr × Obj)}
    (hh : A.handled = none) (hx : env.kindOf x = some .local)
    (hp : (env.scope.kind == .class || (env.scope.kind == .module && env.locals != env.globals)) = false)
    (F : Fr h₀ env.locals s.heap m) (N : News h₀ env.locals s.heap ((D, listOf vs.toArray k₀) :: news)) (hD : ∀ p ∈ news, p.1 ≠ D)
    (J : Nat → (Str → Option Value) → List (Addr × Obj) → Prop) (h0 : J 0 m news)
    (turn : ∀ i v m₁ nx h tk own, vs[i]? = some v → J i m₁ nx → (∀ p ∈ nx, ∀ q ∈ own, p.1 ≠ q.1) →
      Fr h₀ env.locals h (fun y => if y = x then some v else m₁ y) → News h₀ env.locals h (nx ++ own) →
      wpAny (model prog w) A (execs body env) (fun f s₂ => Stop (TurnEnd h₀ env.locals (J (i + 1)) own s f s₂)) NE { s with heap := h, toks := tk })
    (done : ∀ m₁ nx h tk, J vs.length m₁ nx → Fr h₀ env.locals h m₁ → News h₀ env.locals h ((D, listOf vs.toArray k₀) :: nx) → (∀ p ∈ nx, p.1 ≠ D) → R (.ok .next) { s with heap := h, toks := tk }) :
    wpAny (model prog w) A (pyIter (.ref D)) (fun it s₂ => codeAny (model prog w) A (.forLoop (.Name x px) it body [] env) R s₂) E s := by
  have zD := N _ (.head _)
  have hLlt : @LT.lt Nat _ env.locals s.heap.objs.size := F.ns.lt
  have hltN : ∀ p ∈ (D, listOf vs.toArray k₀) :: news, @LT.lt Nat _ p.1 s.heap.objs.size := fun p hp => Heap.lt_size (N p hp).1
  have hls : s.heap.IsList D vs.toArray := ⟨_, zD.1, rfl, k₀, rfl⟩
  refine wpAny_pyIter_list hls ?_
  have F₁ := F.push (liObj D 0)
  have N₁ : News h₀ env.locals (s.heap.push (liObj D 0)) ((D, listOf vs.toArray k₀) :: news) := fun p hp => ⟨Heap.get?_push_of_some _ (N p hp).1, (N p hp).2⟩
  have hit : (s.heap.push (liObj D 0)).IsListIter s.heap.objs.size D 0 := ⟨_, Heap.get?_push_size _ rfl, rfl, rfl⟩
  show codeAny _ _ _ _ { s with heap := s.heap.push (liObj D 0) }
  generalize s.heap.push (liObj D 0) = h₁ at F₁ N₁ hit
  have hzi : h₀.get? s.heap.objs.size = none := frNew F (Nat.le_refl _)
  generalize s.heap.objs.size = it at hLlt hltN hit hzi
  have hiL : it ≠ env.locals := neN (by omega)
  have hDi : D ≠ it := neN (by have := hltN _ (.head _); omega)
  have hs0 : ∀ b o, h₀.get? b = some o → b ≠ it := fun b o hb q => by rw [q, hzi] at hb; cases hb
  refine codeAny_forLoop
    (fun k s' => ∃ h' tk m' nx i, s' = { s with heap := h', toks := tk } ∧ h'.IsListIter it D i ∧ Fr h₀ env.locals h' m' ∧ News h₀ env.locals h' ((D, listOf vs.toArray k₀) :: nx) ∧ (∀ p ∈ nx, p.1 ≠ it ∧ p.1 ≠ D) ∧ J i m' nx ∧ i ≤ vs.length ∧
      k = vs.length + 1 - i) ?_ (vs.length + 1) ⟨h₁, _, m, news, 0, rfl, hit, F₁, N₁, (fun p hp => ⟨neN (by have := hltN p (.tail _ hp); omega), hD p hp⟩), h0, Nat.zero_le _, rfl⟩
  rintro k s' ⟨H, tk, m', nx, i, rfl, hit', F', N', hne, hJ, hi, rfl⟩
  have hls' : H.IsList D vs.toArray := ⟨_, (N' _ (.head _)).1, rfl, k₀, rfl⟩
  have hne' : ∀ p ∈ (D, listOf vs.toArray k₀) :: nx, p.1 ≠ it := fun p hp => by
    rcases List.mem_cons.mp hp with rfl | hp
    · exact hDi
    · exact (hne p hp).1
  cases hv : vs[i]? with
  | none =>
    have hin : i = vs.length := Nat.le_antisymm hi (by simpa using hv)
    subst hin
    refine wpAny_pyNext_list_end hh hit' hls' (by simpa using hv) fun h₂ hx₂ => wpAny_execs_nil ?_
    have up : ∀ b o, b ≠ it → H.get? b = some o → h₂.get? b = some o := fun b o hb x => hx₂ b o hb x
    exact done m' nx h₂ tk hJ (frMoved (fun b => b ≠ it) F' up (Ne.symm hiL) hs0) (newsMoved (fun b => b ≠ it) N' up hne') fun p hp => (hne p hp).2
  | some v =>
    have hlt : i < vs.length := (List.getElem?_eq_some_iff.mp hv).1
    refine wpAny_pyNext_list_item hit' hls' (by simpa using hv) fun h₂ hit₂ hs₂ => ?_
    replace hs₂ : Heap.SameBut it H h₂ := hs₂
    have F₂ : Fr h₀ env.locals h₂ m' := frMoved (fun b => b ≠ it) F' (fun b o hb x => hs₂.extBut b o hb x) (Ne.symm hiL) hs0
    have N₂ : News h₀ env.locals h₂ ((D, listOf vs.toArray k₀) :: nx) := newsMoved (fun b => b ≠ it) N' (fun b o hb x => hs₂.extBut b o hb x) hne'
    obtain ⟨oi, hoi, hci, hdi⟩ := hit₂
    have NO : News h₀ env.locals h₂ (nx ++ [(it, oi), (D, listOf vs.toArray k₀)]) := fun p hp => by
      rcases List.mem_append.mp hp with hp | hp
      · exact N₂ p (.tail _ hp)
      · rcases List.mem_cons.mp hp with rfl | hp
        · exact ⟨hoi, hiL, hzi⟩
        · rw [List.mem_singleton.mp hp]; exact N₂ _ (.head _)
    refine wpAny_assign_Name (wpAny_storeName_local hx F₂.ns (fun h₃ hn₃ hs₃ => ?_) hp)
    replace hs₃ : Heap.SameBut env.locals h₂ h₃ := hs₃
    refine ofNE (wpAny_mono (turn i v m' nx h₃ _ _ hv hJ ?_ (F₂.set hn₃ hs₃) (NO.set hs₃)) (fun f s₃ q => ?_) fun _ _ x => x)
    · intro p hp q hq
      rcases List.mem_cons.mp hq with rfl | hq
      · exact (hne p hp).1
      · rw [List.mem_singleton.mp hq]; exact (hne p hp).2
    · obtain ⟨rfl, h', tk', m₂, nx', rfl, F₄, N₄, hsep, hJ₂⟩ := q.out
      refine ⟨vs.length + 1 - (i + 1), by omega, h', tk', m₂, nx', i + 1, rfl, ⟨oi, (N₄ (it, oi) (by simp)).1, hci, hdi⟩, F₄, newsSub N₄ fun p hp => ?_, fun p hp => ⟨hsep p hp _ (.head _), hsep p hp _ (.tail _ (.head _))⟩, hJ₂, hlt, rfl⟩
      rcases List.mem_cons.mp hp with rfl | hp
      · simp
      · exact List.mem_append.mpr (.inl hp)
end
/-- what a frame holds -/
def Has (m : Str → Option Value) (ps : List (Str × Value)) : Prop := ∀ p ∈ ps, m p.1 = some p.2
theorem has_nil {m : Str → Option Value} : Has m [] := fun _ h => nomatch h
theorem has_cons {m : Str → Option Value} {x : Str} {v : Value} {ps : List (Str × Value)} (h : m x = some v) (r : Has m ps) : Has m ((x, v) :: ps) := fun p hp => by
  rcases List.mem_cons.mp hp with rfl | hp
  · exact h
  · exact r p hp
/-- a frame's map with what it holds written out -/
def put (m : Str → Option Value) : List (Str × Value) → Str → Option Value
  | [] => m
  | (x, v) :: r => fun z => if z = x then some v else put m r z
theorem put_has {m : Str → Option Value} : ∀ {ps : List (Str × Value)}, Has m ps → put m ps = m
  | [], _ => rfl
  | (x, v) :: r, h => by
    funext z
    show (if z = x then some v else put m r z) = m z
    rw [put_has fun q hq => h q (.tail _ hq)]
    by_cases e : z = x
    · rw [if_pos e, e]; exact (h (x, v) (.head _)).symm
    · rw [if_neg e]
theorem frPuts {h₀ h : Heap} {L : Addr} {m : Str → Option Value} {ps : List (Str × Value)} (F : Fr h₀ L h m) (H : Has m ps) : Fr h₀ L h (put m ps) := by rw [put_has H]; exact F
theorem frPutsX {h₀ h : Heap} {L : Addr} {m : Str → Option Value} {x : Str} {v : Value} {ps : List (Str × Value)} (F : Fr h₀ L h (fun y => if y = x then some v else m y)) (H : Has m ps) : Fr h₀ L h (fun y => if y = x then some v else put m ps y) := by
  rw [put_has H]; exact F
end Mine
end
section -- G3
open PySem PySem.W PyProof.Rows
set_option maxRecDepth 100000
namespace Mine
section
variable {prog : Program} {w : World} {A : Around} {E : Value → Shared → Prop} {s : Shared} {h₀ : Heap} {L D : Addr} {m : Str → Option Value} {news news' : List (Addr × Obj)}
theorem lenStrs {vs : List Value} {ys : List Str} {n : Nat} {Q : Value → Shared → Prop} (N : News h₀ L s.heap news) (hm : (D, listOf vs.toArray n) ∈ news) (hi : StrsAre vs ys) (hfit : (ys.length : Int) < 2 ^ 63)
    (h : Q (.int (ys.length : Int) (s.toks + 1)) { s with toks := s.toks + 1 + 1 }) : wpAny (model prog w) A (call (.builtin "len") [.ref D]) Q E s := by
  have hl : s.heap.IsList D vs.toArray := ⟨_, (N _ hm).1, rfl, n, rfl⟩
  have e : vs.toArray.size = ys.length := by rw [List.size_toArray, hi.length]
  exact len_list hl (by rw [e]; exact hfit) (by rw [e]; exact h)
theorem appendL {vs : List Value} {n : Nat} {x : Value} {Q : Value → Shared → Prop} (F : Fr h₀ L s.heap m) (N : News h₀ L s.heap news) (U : Upd D (listOf vs.toArray n) (listOf (vs ++ [x]).toArray (n + 1)) news news')
    (hsz : vs.length ≤ 16777216) (h : ∀ h', Fr h₀ L h' m → News h₀ L h' news' → Q .none { s with heap := h' }) : wpAny (model prog w) A (call (.builtin "list.append") [.ref D, x]) Q E s := by
  have e : vs.toArray.push x = (vs ++ [x]).toArray := by simp
  rw [← e] at U
  exact append_K F N U h (by rw [List.size_toArray, sizeLine_eq]; exact hsz)
theorem lastL {value slice : PySem.Expr} {vs : List Value} {n : Nat} {v : Value} {u : Tok} {Q : Value → Shared → Prop} (N : News h₀ L s.heap news) (hm : (D, listOf (vs ++ [v]).toArray n) ∈ news) (hsz : vs.length ≤ 16777216) (h : Q v s)
    (hs : subscripted slice false (.ref D) (.int (-1) u) = operate [.ref D, .int (-1) u] (getItem (.ref D) (.int (-1) u)) := by with_unfolding_all rfl) :
    wpAny (model prog w) A (subscriptTail value slice (.ref D) (.int (-1) u)) Q E s := by
  have hl : s.heap.IsList D (vs ++ [v]).toArray := ⟨_, (N _ hm).1, rfl, n, rfl⟩
  have hz : (vs ++ [v]).toArray.size = vs.length + 1 := by simp
  refine tail_any hl.typeIs slot_list_getitem.lookup (wpAny_getItem_list_neg hl (by decide) (by rw [hz]; omega) (by decide) ?_ h) hs
  rw [hz]
  have : ((-1 : Int) + ((vs.length + 1 : Nat) : Int)).toNat = vs.length := by omega
  rw [this]
  simp
theorem itemL {value slice : PySem.Expr} {vs : List Value} {ys : List Str} {n : Nat} {k : Int} {u : Tok} {Q : Value → Shared → Prop} (N : News h₀ L s.heap news) (hm : (D, listOf vs.toArray n) ∈ news) (hi : StrsAre vs ys)
    (h0 : 0 ≤ k) (h1 : k < ys.length) (hfit : k < 2 ^ 63) (h : ∀ t', Q (.str (ys.getD k.toNat Str.empty) t') s)
    (hs : subscripted slice false (.ref D) (.int k u) = operate [.ref D, .int k u] (getItem (.ref D) (.int k u)) := by with_unfolding_all rfl) :
    wpAny (model prog w) A (subscriptTail value slice (.ref D) (.int k u)) Q E s := by
  have hl : s.heap.IsList D vs.toArray := ⟨_, (N _ hm).1, rfl, n, rfl⟩
  have hlt : k.toNat < ys.length := by omega
  have e : ys[k.toNat]? = some (ys.getD k.toNat Str.empty) := by simp [List.getD, hlt]
  obtain ⟨t, ht⟩ := hi.at e
  exact tail_any hl.typeIs slot_list_getitem.lookup (wpAny_getItem_list hl h0 hfit (by simpa using ht) (h t)) hs
theorem mulOne {x : Str} {t u : Tok} {i : Int} {Q : Value → Shared → Prop} (hk : x.length = 1) (hlo : 0 ≤ i) (hhi : i ≤ 1000)
    (h : ∀ t' k, ((Txt.mul x i).length : Int) = i → Q (.str (Txt.mul x i) t') { s with toks := k }) : wpAny (model prog w) A (binaryOp .Mult (.str x t) (.int i u)) Q E s :=
  KXi.mul hk (by decide) (by omega) (by omega) fun t' k _ h2 => h t' k (by have := h2 hlo; omega)
end
theorem small_of {a b : Int} (h1 : 0 ≤ a ∧ a ≤ 1000000) (h2 : 0 ≤ b ∧ b ≤ 1000000) : Builtin.Range.small a b 1 = true := by
  have hs : Builtin.Range.rangeSize a b 1 = if a < b then b - a else 0 := by
    unfold Builtin.Range.rangeSize
    simp
    try (split <;> split <;> omega)
  unfold Builtin.Range.small
  rw [hs]
  have f : ∀ x : Int, -1000000 ≤ x → x ≤ 2000000 → Builtin.Range.rangeFitsLong x = true := by
    intro x h1 h2
    unfold Builtin.Range.rangeFitsLong
    simp
    omega
  rw [f a (by omega) (by omega), f b (by omega) (by omega), f 1 (by omega) (by omega), f (if a < b then b - a else 0) (by split <;> omega) (by split <;> omega)]
  simp
  right
  exact f _ (by omega) (by omega)
theorem size_of {a b : Int} {n : Nat} (h : a + (n : Int) = b) : Builtin.Range.rangeSize a b 1 = (n : Int) := by
  unfold Builtin.Range.rangeSize
  simp
  try (split <;> omega)
end Mine
end
section -- G4
open PySem PySem.W PyProof.Rows
set_option maxRecDepth 100000
namespace Mine
theorem paired_strs {α : Type} {g : α → Str} {R : α → Value → Prop} {F : Value → Value → Prop} (hF : ∀ a v y, R a v → F v y → ∃ t, y = .str (g a) t) : ∀ (as : List α) (vs ys : List Value), Paired F vs ys → vs.length = as.length →
    (∀ (j : Nat) v, vs[j]? = some v → ∃ a, as[j]? = some a ∧ R a v) → StrsAre ys (as.map g)
  | [], _, _, .nil, _, _ => .nil
  | [], _, _, .cons _ _, h, _ => by simp at h
  | a :: as, _, _, .nil, h, _ => by simp at h
  | a :: as, v :: vs, y :: ys, .cons h1 r, hl, hR => by
    obtain ⟨a', ha, hRa⟩ := hR 0 v rfl
    have : a = a' := by simpa using ha
    subst this
    obtain ⟨t, rfl⟩ := hF a v y hRa h1
    refine .cons (g a) t (paired_strs hF as vs ys r (by simpa using hl) fun j w hw => ?_)
    have := hR (j + 1) w (by simpa using hw)
    simpa using this
theorem filter_true {α : Type} (l : List α) : l.filter (fun _ => true) = l := by simp
section
variable {prog : Program} {w : World} {A : Around} {E : Value → Shared → Prop} {s : Shared} {h₀ : Heap} {L : Addr} {m : Str → Option Value} {news : List (Addr × Obj)} {env : Env}
def CompAt (prog : Program) (w : World) (A : Around) (env : Env) (scope : Scope) (cl : List (Str × Addr)) (x : Str) (elt : Expr) (F : Value → Value → Prop) (Q : Value → Shared → Prop) (it : Value) (s₂ : Shared) : Prop :=
  ∃ (I : Addr) (fp wr : List Addr) (n : Nat) (P : Nat → Value → Prop) (St : Nat → Heap → Prop), it = .ref I ∧ Walks prog w A I fp wr n P St ∧ n ≤ sizeLine ∧ St 0 s₂.heap ∧ (∀ b ∈ fp, b < s₂.heap.objs.size) ∧
      QuietOnC prog w A env scope cl x [] elt wr P (fun _ => true) F s₂ ∧
      (∀ D h' tk ys (vs : List Value), s₂.heap.get? D = none → h'.IsList D ys → h'.PlainList D ys → vs.length = n → (∀ j v, vs[j]? = some v → P j v) → Paired F (vs.filter fun _ => true) ys.toList →
        (∀ b o, b ∉ wr → s₂.heap.get? b = some o → h'.get? b = some o) → Q (.ref D) { s₂ with heap := h', toks := tk })
theorem comp_free {elt iter : Expr} {x : Str} {px : Pos} {scope : Scope} {cl : List (Str × Addr)} {pos : Pos} {Q : Value → Shared → Prop} (F : Value → Value → Prop)
    (hclos : closureFor scope env = pure cl) (hcell : ∀ y ∈ scope.names, y.2 ≠ .cell) (hkind : scope.kind = .function)
    (hnames : ∀ y ∈ scope.names, y.2 = .local → scope.names.lookup y.1 = some .local) (hx : scope.names.lookup x = some .local)
    (h : wpAny (model prog w) A (eval iter env) (fun xv s₁ => wpAny (model prog w) A (pyIter xv) (fun it s₂ => CompAt prog w A env scope cl x elt F Q it s₂) E s₁) E s)
    (hs : ∀ x, foldedSetIterable iter env x = pure x := by intro _; rfl) :
    wpAny (model prog w) A (eval (.ListComp elt [⟨.Name x px, iter, [], 0⟩] scope pos) env) Q E s :=
  wpAny_ListComp_free (fun _ => true) F hclos hcell hkind hnames hx h hs
/-- a comprehension's element, its source a text -/
theorem comp_str {elt : Expr} {x : Str} {scope : Scope} {cl : List (Str × Addr)} {wd : Str} {t : Tok} {Q : Value → Shared → Prop} (g : Nat → Str) (hh : A.handled = none) (F : Fr h₀ L s.heap m) (N : News h₀ L s.heap news) (hw : wd.length ≤ 1000000)
    (helt : ∀ C c t s₃ m₃ (E' : Value → Shared → Prop), c ∈ wd.cps.toList → s₃.heap.Ns C m₃ → m₃ x = some (.str ⟨#[c]⟩ t) → Fr h₀ L s₃.heap m → News h₀ L s₃.heap news →
      wpAny (model prog w) A (eval elt (compEnvC scope cl C env)) (fun y s₄ => (∃ t, y = .str (g c) t) ∧ Keeps s₃ s₄) E' s₃)
    (ret : ∀ D h' tk (vs : List Value) k, Fr h₀ L h' m → News h₀ L h' ((D, listOf vs.toArray k) :: news) → (∀ p ∈ news, p.1 ≠ D) → StrsAre vs (wd.cps.toList.map g) → Q (.ref D) { s with heap := h', toks := tk }) :
    wpAny (model prog w) A (pyIter (.str wd t)) (fun it s₂ => CompAt prog w A env scope cl x elt (fun v y => ∃ c u t, v = .str ⟨#[c]⟩ u ∧ y = .str (g c) t) Q it s₂) E s := by
  refine wpAny_pyIter_str fun o St W hst => ?_
  have hLlt : @LT.lt Nat _ L s.heap.objs.size := F.ns.lt
  have hzi : h₀.get? s.heap.objs.size = none := frNew F (Nat.le_refl _)
  have hltN : ∀ p ∈ news, @LT.lt Nat _ p.1 s.heap.objs.size := fun p hp => Heap.lt_size (N p hp).1
  have hs0 : ∀ b o, h₀.get? b = some o → b ∉ [s.heap.objs.size] := fun b o hb q => by rw [List.mem_singleton.mp q, hzi] at hb; cases hb
  have hL : L ∉ [s.heap.objs.size] := fun q => absurd (List.mem_singleton.mp q) (neN (by omega))
  have hn : ∀ p ∈ news, p.1 ∉ [s.heap.objs.size] := fun p hp q => absurd (List.mem_singleton.mp q) (neN (by have := hltN p hp; omega))
  have F₁ : Fr h₀ L (s.heap.push o) m := F.push o
  have N₁ : News h₀ L (s.heap.push o) news := fun p hp => ⟨Heap.get?_push_of_some _ (N p hp).1, (N p hp).2⟩
  refine ⟨_, _, _, _, _, St, rfl, W A hh, ?_, hst, ?_, ⟨?_, ?_⟩, ?_⟩
  · rw [sizeLine_eq]; exact Nat.le_trans hw (by decide)
  · intro b hb
    rw [List.mem_singleton.mp hb]
    show s.heap.objs.size < (s.heap.push o).objs.size
    rw [Heap.size_push]; exact Nat.lt_succ_self _
  · intro C i v s₃ m₃ E' _ _ _ _ _ _
    exact wpAny_tests_nil ⟨rfl, ⟨s₃.heap, s₃.toks, rfl, fun _ _ e => e⟩⟩
  · intro C i v s₃ m₃ E' hC hP _ hns hm hk _
    obtain ⟨c, u, hc, rfl⟩ := hP
    refine wpAny_mono (helt C c u s₃ m₃ E' (List.mem_of_getElem? (by simpa using hc)) hns hm (frMoved (fun b => b ∉ [s.heap.objs.size]) F₁ (fun b o hb e => hk b o hb e) hL hs0) (newsMoved (fun b => b ∉ [s.heap.objs.size]) N₁ (fun b o hb e => hk b o hb e) hn)) (fun y s₄ q => ?_) fun _ _ e => e
    obtain ⟨⟨t, rfl⟩, hK⟩ := q
    exact ⟨⟨c, u, t, rfl, rfl⟩, hK⟩
  · intro D h' tk ys vs hD _ hpl hlen hP hF hk
    rw [filter_true] at hF
    obtain ⟨k, hDk⟩ := hpl
    have e : ys = (ys.toList).toArray := by simp
    have F₂ : Fr h₀ L h' m := frMoved (fun b => b ∉ [s.heap.objs.size]) F₁ (fun b o hb e => hk b o hb e) hL hs0
    have N₂ : News h₀ L h' news := newsMoved (fun b => b ∉ [s.heap.objs.size]) N₁ (fun b o hb e => hk b o hb e) hn
    have hD0 : h₀.get? D = none := by
      cases q : h₀.get? D with
      | none => rfl
      | some o' => have := F₁.keep _ _ q; rw [hD] at this; cases this
    have hDL : D ≠ L := by
      intro q
      obtain ⟨oL, _, _, hoL, _⟩ := F₁.ns
      rw [← q, hD] at hoL; cases hoL
    refine ret D h' tk ys.toList k F₂ (fun p hp => ?_) (fun p hp q => ?_) (paired_strs (R := fun c v => ∃ u, v = .str ⟨#[c]⟩ u) ?_ wd.cps.toList vs ys.toList hF (by rw [hlen]; simp) fun j v hv => ?_)
    · rcases List.mem_cons.mp hp with rfl | hp
      · exact ⟨by rw [← e]; exact hDk, hDL, hD0⟩
      · exact N₂ p hp
    · have := (N₁ p hp).1
      rw [q, hD] at this; cases this
    · rintro c v y ⟨u, rfl⟩ ⟨c', u', t, h1, rfl⟩
      injection h1 with h1 _
      injection h1 with h1
      have : c = c' := by simpa using h1
      exact ⟨t, by rw [this]⟩
    · obtain ⟨c, u, hc, rfl⟩ := hP j v hv
      exact ⟨c, by simpa using hc, u, rfl⟩
/-- a comprehension's element, its source a range from nought -/
theorem comp_range {elt : Expr} {x : Str} {scope : Scope} {cl : List (Str × Addr)} {r : Addr} {b : Int} {t u v : Tok} {n : Nat} {Q : Value → Shared → Prop} (g : Nat → Str) (hh : A.handled = none)
    (hr : IsRange s.heap r 0 b 1 t u v) (hsmall : Builtin.Range.small 0 b 1 = true) (hn' : Builtin.Range.rangeSize 0 b 1 = (n : Int)) (F : Fr h₀ L s.heap m) (N : News h₀ L s.heap news) (hw : n ≤ 1000000)
    (helt : ∀ C (i : Nat) t s₃ m₃ (E' : Value → Shared → Prop), i < n → s₃.heap.Ns C m₃ → m₃ x = some (.int (i : Int) t) → Fr h₀ L s₃.heap m → News h₀ L s₃.heap news →
      wpAny (model prog w) A (eval elt (compEnvC scope cl C env)) (fun y s₄ => (∃ t, y = .str (g i) t) ∧ Keeps s₃ s₄) E' s₃)
    (ret : ∀ D h' tk (vs : List Value) k, Fr h₀ L h' m → News h₀ L h' ((D, listOf vs.toArray k) :: news) → (∀ p ∈ news, p.1 ≠ D) → StrsAre vs ((List.range n).map g) → Q (.ref D) { s with heap := h', toks := tk }) :
    wpAny (model prog w) A (pyIter (.ref r)) (fun it s₂ => CompAt prog w A env scope cl x elt (fun v y => ∃ (i : Nat) (u t : Tok), v = .int (i : Int) u ∧ y = .str (g i) t) Q it s₂) E s := by
  refine wpAny_pyIter_range hr hsmall ?_
  rw [hn']
  generalize ho : ({ cls := .type "range_iterator", data := .fields #[rawInt 0, rawInt (n : Int), rawInt 1] } : Obj) = o
  have hLlt : @LT.lt Nat _ L s.heap.objs.size := F.ns.lt
  have hzi : h₀.get? s.heap.objs.size = none := frNew F (Nat.le_refl _)
  have hltN : ∀ p ∈ news, @LT.lt Nat _ p.1 s.heap.objs.size := fun p hp => Heap.lt_size (N p hp).1
  have hs0 : ∀ b o, h₀.get? b = some o → b ∉ [s.heap.objs.size] := fun b o hb q => by rw [List.mem_singleton.mp q, hzi] at hb; cases hb
  have hL : L ∉ [s.heap.objs.size] := fun q => absurd (List.mem_singleton.mp q) (neN (by omega))
  have hn : ∀ p ∈ news, p.1 ∉ [s.heap.objs.size] := fun p hp q => absurd (List.mem_singleton.mp q) (neN (by have := hltN p hp; omega))
  have F₁ : Fr h₀ L (s.heap.push o) m := F.push o
  have N₁ : News h₀ L (s.heap.push o) news := fun p hp => ⟨Heap.get?_push_of_some _ (N p hp).1, (N p hp).2⟩
  refine ⟨_, _, _, n, (fun i v => i < n ∧ ∃ t, v = .int (0 + i * 1) t), _, rfl, (Walks.range hh s.heap.objs.size 0 1 n).bound, ?_, ?_, ?_, ⟨?_, ?_⟩, ?_⟩
  · rw [sizeLine_eq]; omega
  · show IsRangeIter _ _ _ _ _
    rw [← ho]
    simpa using Heap.get?_push_size _ rfl
  · intro b hb
    rw [List.mem_singleton.mp hb]
    show s.heap.objs.size < (s.heap.push o).objs.size
    rw [Heap.size_push]; exact Nat.lt_succ_self _
  · intro C i v s₃ m₃ E' _ _ _ _ _ _
    exact wpAny_tests_nil ⟨rfl, ⟨s₃.heap, s₃.toks, rfl, fun _ _ e => e⟩⟩
  · intro C i v s₃ m₃ E' hC hP _ hns hm hk _
    obtain ⟨hi, u, rfl⟩ := hP
    have e0 : (0 : Int) + (i : Int) * 1 = (i : Int) := by omega
    rw [e0] at hm ⊢
    refine wpAny_mono (helt C i u s₃ m₃ E' hi hns hm (frMoved (fun b => b ∉ [s.heap.objs.size]) F₁ (fun b o hb e => hk b o hb e) hL hs0) (newsMoved (fun b => b ∉ [s.heap.objs.size]) N₁ (fun b o hb e => hk b o hb e) hn)) (fun y s₄ q => ?_) fun _ _ e => e
    obtain ⟨⟨t, rfl⟩, hK⟩ := q
    exact ⟨⟨i, u, t, rfl, rfl⟩, hK⟩
  · intro D h' tk ys vs hD _ hpl hlen hP hF hk
    rw [filter_true] at hF
    obtain ⟨k, hDk⟩ := hpl
    have e : ys = (ys.toList).toArray := by simp
    have F₂ : Fr h₀ L h' m := frMoved (fun b => b ∉ [s.heap.objs.size]) F₁ (fun b o hb e => hk b o hb e) hL hs0
    have N₂ : News h₀ L h' news := newsMoved (fun b => b ∉ [s.heap.objs.size]) N₁ (fun b o hb e => hk b o hb e) hn
    have hD0 : h₀.get? D = none := by
      cases q : h₀.get? D with
      | none => rfl
      | some o' => have := F₁.keep _ _ q; rw [hD] at this; cases this
    have hDL : D ≠ L := by
      intro q
      obtain ⟨oL, _, _, hoL, _⟩ := F₁.ns
      rw [← q, hD] at hoL; cases hoL
    refine ret D h' tk ys.toList k F₂ (fun p hp => ?_) (fun p hp q => ?_) (paired_strs (R := fun (i : Nat) v => ∃ u, v = .int (i : Int) u) ?_ (List.range n) vs ys.toList hF (by rw [hlen]; simp) fun j v hv => ?_)
    · rcases List.mem_cons.mp hp with rfl | hp
      · exact ⟨by rw [← e]; exact hDk, hDL, hD0⟩
      · exact N₂ p hp
    · have := (N₁ p hp).1
      rw [q, hD] at this; cases this
    · rintro i v y ⟨u, rfl⟩ ⟨i', u', t, h1, rfl⟩
      injection h1 with h1 _
      have : i = i' := by omega
      exact ⟨t, by rw [this]⟩
    · obtain ⟨hj, u, rfl⟩ := hP j v hv
      exact ⟨j, by simp [hj], u, by simp⟩
end
end Mine
end
section -- P1
open PySem PySem.W PyProof.Rows
set_option maxRecDepth 100000
namespace Mine
theorem join_toList_cons (z p : Str) (r : List Str) (hr : r ≠ []) : (Str.join z (p :: r)).cps.toList = p.cps.toList ++ z.cps.toList ++ (Str.join z r).cps.toList := by
  cases r with
  | nil => exact absurd rfl hr
  | cons q r => show (p ++ z ++ Str.join z (q :: r)).cps.toList = _; simp [Str.cps_append]
/-- every c of the text turned into z -/
def sub1 (c : Nat) (z : List Nat) (l : List Nat) : List Nat := l.flatMap fun d => if d = c then z else [d]
theorem sub1_free {c : Nat} {z : List Nat} : ∀ {l : List Nat}, c ∉ l → sub1 c z l = l
  | [], _ => rfl
  | d :: r, h => by
    have h1 : d ≠ c := fun e => h (e ▸ .head _)
    have h2 := sub1_free (c := c) (z := z) (l := r) fun e => h (.tail _ e)
    unfold sub1 at h2 ⊢
    rw [List.flatMap_cons, if_neg h1, h2]
    rfl
theorem sub1_append {c : Nat} {z a b : List Nat} : sub1 c z (a ++ b) = sub1 c z a ++ sub1 c z b := by simp [sub1]
theorem sub1_join (c : Nat) (z : Str) : ∀ parts : List Str, (∀ p ∈ parts, c ∉ p.cps.toList) → (Str.join z parts).cps.toList = sub1 c z.cps.toList (Str.join ⟨#[c]⟩ parts).cps.toList
  | [], _ => rfl
  | [p], h => by
    show p.cps.toList = sub1 c _ p.cps.toList
    rw [sub1_free (h p (.head _))]
  | p :: q :: r, h => by
    have ih := sub1_join c z (q :: r) fun x hx => h x (.tail _ hx)
    rw [join_toList_cons z p (q :: r) (by simp), join_toList_cons ⟨#[c]⟩ p (q :: r) (by simp), ih, sub1_append, sub1_append, sub1_free (h p (.head _))]
    congr 2
    simp [sub1]
theorem replace_list (x z : Str) (c : Nat) : (Txt.replace x ⟨#[c]⟩ z).cps.toList = sub1 c z.cps.toList x.cps.toList := by
  rw [StrLaws.replace_one, sub1_join c z _ (StrLaws.split_free x c), StrLaws.join_split]
theorem sub1_len {c : Nat} {z : List Nat} (hz : z.length = 2) : ∀ l : List Nat, (sub1 c z l).length ≤ 2 * l.length
  | [] => Nat.le_refl _
  | d :: r => by
    have := sub1_len (c := c) hz r
    unfold sub1 at this ⊢
    rw [List.flatMap_cons, List.length_append, List.length_cons]
    split
    · omega
    · simp only [List.length_singleton]; omega
theorem len_toList (x : Str) : x.cps.toList.length = x.length := by simp [Str.length]
theorem replace_len {x z : Str} {c : Nat} (hz : z.length = 2) : (Txt.replace x ⟨#[c]⟩ z).length ≤ 2 * x.length := by
  rw [← len_toList, ← len_toList, replace_list]
  exact sub1_len (by rw [len_toList]; exact hz) _
theorem join_empty_list : ∀ l : List Str, (Str.join (Str.ofString "") l).cps.toList = l.flatMap (·.cps.toList)
  | [] => rfl
  | [p] => by simp [Str.join]
  | p :: q :: r => by
    rw [join_toList_cons _ p (q :: r) (by simp), join_empty_list (q :: r)]
    have : (Str.ofString "").cps.toList = [] := by decide
    rw [this, List.append_nil]
    rfl
/-- a backslash ahead of the sign -/
def escC (c : Nat) : Str := Str.ofString "\\" ++ ⟨#[c]⟩
def escS (x : Str) : Str := Txt.join (Str.ofString "") (x.cps.toList.map escC)
theorem escC_list (c : Nat) : (escC c).cps.toList = [92, c] := by
  have : (Str.ofString "\\").cps.toList = [92] := by decide
  show (Str.ofString "\\" ++ ⟨#[c]⟩).cps.toList = _
  rw [Str.cps_append, Array.toList_append, this]
  rfl
theorem escS_list (x : Str) : (escS x).cps.toList = x.cps.toList.flatMap fun c => [92, c] := by
  unfold escS
  rw [show Txt.join (Str.ofString "") (x.cps.toList.map escC) = Str.join (Str.ofString "") (x.cps.toList.map escC) from StrLaws.glued_eq_join _ _, join_empty_list, List.flatMap_map]
  have e : (fun c => (escC c).cps.toList) = fun c => [92, c] := funext escC_list
  rw [← e]
theorem escSum : ∀ l : List Nat, ((l.map escC).map (·.length)).sum = 2 * l.length
  | [] => rfl
  | c :: r => by
    have := escSum r
    simp only [List.map_cons, List.sum_cons, List.length_cons]
    rw [this]
    show 2 + _ = _
    omega
theorem escLen (x : Str) : (escS x).length = 2 * x.length := by
  rw [← len_toList, escS_list, ← len_toList]
  induction x.cps.toList with
  | nil => rfl
  | cons c r ih => rw [List.flatMap_cons, List.length_append, ih]; simp only [List.length_cons, List.length_nil]; omega
theorem ofAllLt {d : Nat} : ∀ {l : List (Addr × Obj)}, AllLt d l → ∀ p ∈ l, @LT.lt Nat _ p.1 d
  | [], _, _, h => nomatch h
  | q :: r, ⟨h1, h2⟩, p, hp => by
    rcases List.mem_cons.mp hp with rfl | hp
    · exact h1
    · exact ofAllLt h2 p hp
open Builtin Builtin.Str in
theorem replaceK {prog : Program} {w : World} {A : Around} {E : Value → Shared → Prop} {s : Shared} {x y z : Str} {t u v : Tok} {Q : Value → Shared → Prop} (hu : u ≠ 0) (hv : v ≠ 0) (huv : u ≠ v) (hyz : (y == z) = false) (hx : x.length ≤ 1048576) (hz : z.length ≤ 14)
    (hq : ∀ t' k, s.toks ≤ k → Q (.str (Txt.replace x y z) t') { s with toks := k }) : wpAny (model prog w) A (call (.builtin "str.replace") [.str x t, .str y u, .str z v]) Q E s := by
  have h0 : (x.length + 1) * z.length ≤ (x.length + 1) * 14 := Nat.mul_le_mul_left _ hz
  have hb : x.length + (x.length + 1) * z.length ≤ 16777216 := by omega
  have hl : tooLong (x.length + (occurrences x y 0 x.length (x.length + 1)).length * z.length) = false := by
    have h1 := StrLaws.occ_length_le x y 0 x.length (x.length + 1)
    have h2 : (occurrences x y 0 x.length (x.length + 1)).length * z.length ≤ (x.length + 1) * z.length := Nat.mul_le_mul_right _ h1
    unfold tooLong sizeLine
    have e : (2 : Nat) ^ 24 = 16777216 := by decide
    exact decide_eq_false (by omega)
  refine call_gives F.slot_str_replace (typeIs_str _ _ _) F.entry_str_replace (F.args_str_replace_3 _ _ _)
    (gives_str_replace x y z t u v fun _ => ⟨by simp [hu, hv], by simp [huv], hyz, hl⟩) ?_
  unfold Txt.replace at hq
  cases hc : ((occurrences x y 0 x.length (x.length + 1)).isEmpty || (y.length == 0 && z.length == 0))
  · rw [hc] at hq
    simp only [Bool.false_eq_true, if_false] at hq ⊢
    exact ⟨fits_replaced y hb, hq _ _ (Nat.le_succ _)⟩
  · rw [hc] at hq
    simp only [if_true] at hq ⊢
    exact hq t s.toks (Nat.le_refl _)
end Mine
end
section -- lines of the walk that several texts share
open PySem PySem.W PyProof.Rows Mine
local macro_rules | `(tactic| walk_at "pick") => `(tactic| (first | with_reducible assumption | (apply And.left; first | with_reducible assumption | (apply And.right; first | with_reducible assumption | (apply And.right; first | with_reducible assumption | (apply And.right; first | with_reducible assumption | (apply And.right; first | with_reducible assumption | (apply And.right; first | with_reducible assumption | (apply And.right; first | with_reducible assumption | (apply And.right; first | with_reducible assumption | (apply And.right; first | with_reducible assumption | (apply And.right; first | with_reducible assumption | (apply And.right; first | with_reducible assumption | (apply And.right; with_reducible assumption)))))))))))) | (first | with_reducible assumption | (apply And.right; first | with_reducible assumption | (apply And.right; first | with_reducible assumption | (apply And.right; first | with_reducible assumption | (apply And.right; first | with_reducible assumption | (apply And.right; first | with_reducible assumption | (apply And.right; first | with_reducible assumption | (apply And.right; first | with_reducible assumption | (apply And.right; first | with_reducible assumption | (apply And.right; first | with_reducible assumption | (apply And.right; first | with_reducible assumption | (apply And.right; with_reducible assumption))))))))))))))
local macro_rules | `(tactic| k_ne) => `(tactic| (refine neN ?_; (try dsimp only); first | (apply Nat.ne_of_gt; walk_at "pick") | (apply Nat.ne_of_lt; walk_at "pick") | (apply Ne.symm; walk_at "pick") | walk_at "pick"))
section -- Dedent
open PySem PySem.W PyProof.Rows
set_option maxRecDepth 100000
set_option maxHeartbeats 8000000
namespace Mine
/-- what _dedent gives back, its first row's first sign that is no blank standing at i -/
def dedentAt (x : Str) (i : Nat) : Str := Str.join nl ((Txt.split x nl).map fun l => Txt.slice l (some (i : Int)) none)
theorem setTurn {α : Type} (f : α → α) : ∀ (l : List α) {k : Nat} {y : α}, l[k]? = some y → ((l.take (k + 1)).map f) ++ l.drop (k + 1) = (((l.take k).map f) ++ l.drop k).set k (f y)
  | [], _, _, h => by simp at h
  | a :: r, 0, y, h => by
    have : a = y := by simpa using h
    subst this
    simp
  | a :: r, k + 1, y, h => by
    have := setTurn f r (k := k) (y := y) (by simpa using h)
    simpa using this
theorem sliceSum (i : Nat) : ∀ l : List Str, ((l.map fun l => Txt.slice l (some (i : Int)) none).map (·.length)).sum ≤ (l.map (·.length)).sum
  | [] => Nat.le_refl _
  | a :: r => by
    have h1 := Txt.slice_le a (some (i : Int)) none
    have h2 := sliceSum i r
    simp only [List.map_cons, List.sum_cons]
    omega
local macro_rules | `(tactic| walk_at "exec For Tuple Call") => `(tactic| ((with_reducible show wpAny _ _ (exec (Stmt.For (Expr.Tuple [Expr.Name (Str.ofString "j") _, _] _ _) _ _ _ _) _) _ _ _); refine wpAny_For ?_ ?_; rotate_left; (intro _; with_unfolding_all rfl)))
local macro_rules | `(tactic| walk_at "call type:enumerate") => `(tactic| ((with_reducible show wpAny _ _ (call _ [Value.ref _]) _ _ _); fail "HERE"))
local macro_rules | `(tactic| k_all) => `(tactic| assumption)
local macro_rules | `(tactic| walk_at "setItem ref int") => `(tactic| (k_here; (with_reducible show wpAny _ _ (setItem (Value.ref _) (Value.int _ _) (Value.str _ _)) _ _ _); k_dflt (refine' setAny ?k1 ?k2 ?k3 ?k5 ?k6 ?k7 ?_; (case k1 => k_asm); (case k2 => k_asm); (case k3 => k_upd); (case k5 => omega); (case k6 => omega); (case k7 => omega); k_whole); intro h' F' N'; (try k_sweep)))
theorem dedent_call {prog : Program} {w : World} {p : Program} {loose : List Str} {mean : ExcName → Option Value} {mg mb : Str → Option Value} {dp un : Nat} {gd : Option (List Code)} {env : Env} {outer : List Env} {A₀ : Around} {base h₀ : Heap} {L : Addr} {m : Str → Option Value} {news : List (Addr × Obj)} {s : Shared}
    {Q : Value → Shared → Prop} {x : Str} {t : Tok} {y : Str} {a : Str} {i : Nat}
    (B : Below A₀ base outer h₀) (F : Fr h₀ L s.heap m) (X : (Mine.hd.heap_39 w.params).In h₀) (N : News h₀ L s.heap news) (T : Top p loose mean mg mb h₀) (hf : env.frame = some L) (hk : env.scope.kind = .function)
    (hd : dp < 900) (hlen : x.length ≤ 1000) (hy : (Txt.split x nl)[0]? = some y) (hi : List.find? (fun p => p.fst != Str.ofString " ") (signs y).zipIdx = some (a, i))
    (ret : ∀ tk h' tk', Fr h₀ L h' m → News h₀ L h' news → Q (.str (dedentAt x i) tk) { s with heap := h', toks := tk' }) :
    wpAny (model prog w) (At dp un gd env outer) (call (.ref 28) [.str x t]) Q NE s := by
  refine wpAny_call ?_
  k_dflt (
   refine' code_def (binds := [(Str.ofString "text", .str x t)]) ?k1 ?k2 ?k3 ?k4 ?k5 ?kA ?kF ?kK ?k6 ?k7 ?k8 ?k9 ?kB ?_ ?c2 ?c3 ?c4 ?c5; (case kA => exact rfl); (case kF => assumption); (case kK => assumption); (case k1 => k_asm); (case k2 => k_asm); (case k3 => k_asm); (case k4 => k_asm); (case k5 => k_asm); (case k6 => k_is); (case k7 => k_is); (case k8 => (show dp < 1000; omega)); (case k9 => first | exact BindsTo.of_eq rfl ); (case c5 => decide); (case kB => exact locs rfl); (case c2 => exact rfl); (case c3 => exact rfl); (case c4 => exact rfl); k_whole; intro g' L' h' FG' F' N' B' X' T'; (try dsimp only))
  have hlt : ∀ p ∈ news, p.1 ≠ h'.objs.size := fun p hp => Nat.ne_of_lt (Heap.lt_size (N' p hp).1)
  refine ofNE ?_
  k_fold
  k_steps
  all_goals (rename (List.map _ _ = Txt.split _ _) => hsp)
  all_goals (rename (List.map (fun (x : Str × Tok) => x.fst) _)[_]? = some _ => hy2)
  all_goals (rw [hsp] at hy2; have hyy := Option.some.inj (hy.symm.trans hy2); subst hyy)
  · rename List.find? _ _ = some _ => hf2
    have hff := Option.some.inj (hi.symm.trans hf2)
    obtain ⟨rfl, rfl⟩ := Prod.mk.inj hff
    rename Fr _ _ _ _ => F5
    rename News _ _ _ _ => N5
    rename (StrsAre _ _) => hS5
    rename List (Str × Tok) => ls
    rename (∀ a, a ∈ List.map _ _ → _) => a_4
    have N6 := newsSub N5 (news' := (h'.objs.size, listOf (strValues ls).toArray 0) :: news) (fun p hp => List.mem_append.mpr (.inr hp))
    clear N5
    refine enum_loop (h₀ := g') rfl rfl rfl rfl F5 N6 hlt
      (fun k m us => m (Str.ofString "lines") = some (.ref h'.objs.size) ∧ (∃ t, m (Str.ofString "i") = some (.int i t)) ∧ StrsAre us ((((Txt.split x nl).take k).map fun l => Txt.slice l (some (i : Int)) none) ++ (Txt.split x nl).drop k))
      ⟨rfl, ⟨_, rfl⟩, by simpa [hsp] using hS5⟩ ?_ ?_
    · rintro k v t1 m1 us h7 tk7 own hk hv hl ⟨hm1, ⟨t2, hm2⟩, hS⟩ hD F7 N7
      have hlen2 : (strValues ls).length = (Txt.split x nl).length := by rw [hS5.length, List.length_map]; have := congrArg List.length hsp; simpa using this
      obtain ⟨yk, tyk, rfl, hyk⟩ := hS.item k v hv
      have hyk2 : (Txt.split x nl)[k]? = some yk := by
        rw [List.getElem?_append_right (by rw [List.length_map, List.length_take_of_le (by omega)]; exact Nat.le_refl _)] at hyk
        rw [List.length_map, List.length_take_of_le (by omega), Nat.sub_self, List.getElem?_drop, Nat.add_zero] at hyk
        exact hyk
      have hylen : yk.length ≤ 1000 := by
        have := a_4 yk (by rw [hsp]; exact List.mem_of_getElem? hyk2)
        omega
      have hkf : (k : Int) < 2 ^ 63 := by
        have := split_le x nl
        omega
      have F8 := frPut (x := Str.ofString "lines") F7 (by rw [if_neg (by decide), if_neg (by decide)]; exact hm1)
      have F9 := frPut (x := Str.ofString "i") F8 (by rw [if_neg (by decide), if_neg (by decide), if_neg (by decide)]; exact hm2)
      clear F7 F8 F5 N6
      k_steps
      refine ⟨rfl, _, _, _, _, rfl, by assumption, by assumption, by simpa using hl, rfl, ⟨_, rfl⟩, ?_⟩
      · have e : (((Txt.split x nl).take (k + 1)).map fun l => Txt.slice l (some (i : Int)) none) ++ (Txt.split x nl).drop (k + 1) = ((((Txt.split x nl).take k).map fun l => Txt.slice l (some (i : Int)) none) ++ (Txt.split x nl).drop k).set k (Txt.slice yk (some (i : Int)) none) := by
          exact setTurn _ _ hyk2
        rw [e, Int.toNat_natCast]
        exact strsSet hS k
    · rintro m1 us h7 tk7 hl ⟨hm1, ⟨t2, hm2⟩, hS⟩ F7 N7
      have F8 := frPut (x := Str.ofString "lines") F7 hm1
      have hlen2 : (strValues ls).length = (Txt.split x nl).length := by rw [hS5.length, List.length_map]; have := congrArg List.length hsp; simpa using this
      rw [hlen2, List.take_length, List.drop_length, List.append_nil] at hS
      clear F7 F5 N6
      dsimp only
      k_steps
      refine join_list (ys := (Txt.split x nl).map fun l => Txt.slice l (some (i : Int)) none) ⟨_, (N7 _ (.head _)).1, rfl, _, rfl⟩ hS ?_ ?_
      · have w1 := split_weight x nl (by decide)
        have w2 := sliceSum i (Txt.split x nl)
        have w3 : (nl : Str).length = 1 := by decide
        show _ + _ * (nl : Str).length ≤ _
        rw [w3, List.length_map]
        omega
      · intro t9 k9
        k_steps
        have e : Txt.join (Str.ofString "\n") ((Txt.split x nl).map fun l => Txt.slice l (some (i : Int)) none) = dedentAt x i := StrLaws.glued_eq_join _ _
        rw [e]
        rename (Fr h₀ _ _ _) => F10
        rename (News h₀ _ _ _) => N10
        exact ret _ _ _ F10 (newsSub N10 fun p hp => .tail _ hp)
  · exfalso
    rename (∀ p, p ∈ List.zipIdx _ _ → _) => hno
    have h1 := List.find?_some hi
    have h2 := hno _ (List.mem_of_find?_eq_some hi)
    simp only at h1
    rw [h2] at h1
    cases h1
end Mine
end
section -- lines of the walk that several texts share
open PySem PySem.W PyProof.Rows Mine
local macro_rules | `(tactic| k_room) => `(tactic| (simp only [depth_under_make, depth_under_kw, depth_in1, depth_deeper, depth_caller]; show _ < 1000; omega))
local macro_rules | `(tactic| k_all) => `(tactic| assumption)
local macro_rules | `(tactic| walk_at "call builtin:len") => `(tactic| (k_here; (with_reducible show wpAny _ _ (call (Value.builtin "len") [Value.ref _]) _ _ _); k_dflt (refine' lenStrs ?k1 ?k2 ?k3 ?k4 ?_; (case k1 => k_asm); (case k2 => k_mem); (case k3 => k_asm); (case k4 => omega); k_whole)))
local macro_rules | `(tactic| walk_at "call builtin:list.append") => `(tactic| (k_here; (with_reducible show wpAny _ _ (call (Value.builtin _) [Value.ref _, _]) _ _ _); k_dflt (refine' appendL ?k1 ?k2 ?k3 ?z ?_; (case k1 => k_asm); (case k2 => k_asm); (case k3 => k_upd); (case z => omega); k_whole); intro h' F' N'; (try k_sweep)))
local macro_rules | `(tactic| walk_at "subscriptTail") => `(tactic| (k_here; (with_reducible show wpAny _ _ (subscriptTail _ _ (Value.ref _) (Value.int (-1) _)) _ _ _); k_dflt (refine' lastL ?k1 ?k2 ?k3 ?_ ?k4; (case k1 => k_asm); (case k2 => k_mem); (case k3 => omega); (case k4 => with_unfolding_all rfl); k_whole)))
local macro_rules | `(tactic| walk_at "subscriptTail") => `(tactic| (k_here; (with_reducible show wpAny _ _ (subscriptTail _ _ (Value.ref _) (Value.int _ _)) _ _ _); k_dflt (refine' itemL ?k1 ?k2 ?k3 ?k4 ?k5 ?k6 ?_ ?k7; (case k1 => k_asm); (case k2 => k_mem); (case k3 => k_asm); (case k4 => omega); (case k5 => omega); (case k6 => omega); (case k7 => with_unfolding_all rfl); k_whole); intro _))
local macro_rules | `(tactic| walk_at "binaryOp Mult str int") => `(tactic| (k_here; (with_reducible show wpAny _ _ (binaryOp Operator.Mult (Value.str _ _) (Value.int _ _)) _ _ _); (refine mulOne (by assumption) (by omega) (by omega) ?_); intro _ _ _))
local macro_rules | `(tactic| walk_at "subscriptTail Name Name ref int") => `(tactic| (k_here; (with_reducible show wpAny _ _ (subscriptTail _ _ (Value.ref _) (Value.int _ _)) _ _ _); k_dflt (refine' itemL ?k1 ?k2 ?k3 ?k4 ?k5 ?k6 ?_ ?k7; (case k1 => k_asm); (case k2 => k_mem); (case k3 => k_asm); (case k4 => omega); (case k5 => omega); (case k6 => omega); (case k7 => with_unfolding_all rfl); k_whole); intro _))
local macro_rules | `(tactic| walk_at "exec For Name Call cons nil") => `(tactic| ((with_reducible show wpAny _ _ (exec (Stmt.For (Expr.Name (Str.ofString "at") _) _ _ _ _) _) _ _ _); refine wpAny_For ?_ ?_; rotate_left; (intro _; with_unfolding_all rfl)))
section -- Moved
open PySem PySem.W PyProof.Rows
set_option maxRecDepth 100000
set_option maxHeartbeats 8000000
namespace Mine
/-- a margin: the sign of cs at the number's rest, deep times -/
def marginAt (cs : Str) (k : Int) (num deep : Int) : Str := Txt.mul (Txt.item cs (num.fmod k)) deep
def movedAt (deep shift : Int) (rows ms : List Str) : Nat → Str × List Str
  | 0 => (rows.getD 0 Str.empty, ms)
  | i + 1 => ((movedAt deep shift rows ms i).1 ++ (nl ++ marginAt (Str.ofString " \ta#") 4 (((movedAt deep shift rows ms i).2.length : Int) + shift) deep ++ rows.getD (i + 1) Str.empty),
      (movedAt deep shift rows ms i).2 ++ [marginAt (Str.ofString " \ta#") 4 (((movedAt deep shift rows ms i).2.length : Int) + shift) deep])
theorem getDSome {l : List Str} {i : Nat} {y : Str} (h : l[i]? = some y) : l.getD i Str.empty = y := by simp [List.getD, h]
theorem marginLen (cs : Str) (k num : Int) {deep : Int} (h : 0 ≤ deep) : ((marginAt cs k num deep).length : Int) = deep := by
  unfold marginAt
  rw [len_mul, len_item]
  rw [if_neg (fun c => absurd (of_decide_eq_true c) (by omega))]
  omega
theorem movedAt_len2 (deep shift : Int) (rows ms : List Str) : ∀ i, (movedAt deep shift rows ms i).2.length = ms.length + i
  | 0 => rfl
  | i + 1 => by simp [movedAt, movedAt_len2 deep shift rows ms i]; omega
theorem getD_len {B : Nat} {rows : List Str} (hB : ∀ r ∈ rows, r.length ≤ B) (i : Nat) : (rows.getD i Str.empty).length ≤ B := by
  by_cases h : i < rows.length
  · have e : rows.getD i Str.empty = rows[i] := by simp [List.getD, h]
    rw [e]; exact hB _ (List.getElem_mem h)
  · have e : rows.getD i Str.empty = Str.empty := by simp [List.getD, h]
    rw [e]; exact Nat.zero_le _
theorem movedAt_len1 {deep : Int} (shift : Int) {rows : List Str} (ms : List Str) {B : Nat} (h0 : 0 ≤ deep) (h3 : deep ≤ 3) (hB : ∀ r ∈ rows, r.length ≤ B) : ∀ i, (movedAt deep shift rows ms i).1.length ≤ B + i * (4 + B)
  | 0 => by
    have := getD_len hB 0
    simpa [movedAt] using this
  | i + 1 => by
    have h1 := movedAt_len1 shift ms h0 h3 hB i
    have h2 := marginLen (Str.ofString " \ta#") 4 (((movedAt deep shift rows ms i).2.length : Int) + shift) h0
    have h4 := getD_len hB (i + 1)
    have h5 : (nl : Str).length = 1 := by decide
    simp only [movedAt, Str.length_append, h5]
    rw [Nat.add_mul]
    omega
theorem moved_call {prog : Program} {w : World} {p : Program} {loose : List Str} {mean : ExcName → Option Value} {mg mb : Str → Option Value} {dp un : Nat} {gd : Option (List Code)} {env : Env} {outer : List Env} {A₀ : Around} {base h₀ : Heap} {L : Addr} {m : Str → Option Value} {news : List (Addr × Obj)} {s : Shared}
    {Q : Value → Shared → Prop} {x : Str} {t td ts : Tok} {M : Addr} {vs : List Value} {n : Nat} {ms : List Str} {deep shift : Int}
    (B : Below A₀ base outer h₀) (F : Fr h₀ L s.heap m) (X : (Mine.hd.heap_39 w.params).In h₀) (N : News h₀ L s.heap ((M, listOf vs.toArray n) :: news)) (T : Top p loose mean mg mb h₀) (hf : env.frame = some L) (hk : env.scope.kind = .function)
    (hd : dp < 900) (hM : ∀ p ∈ news, p.1 ≠ M) (hS : StrsAre vs ms) (hlen : x.length ≤ 100) (hms : ms.length ≤ 100) (hd1 : 1 ≤ deep) (hd2 : deep ≤ 3) (hs1 : 0 ≤ shift) (hs2 : shift ≤ 63)
    (ret : ∀ tk h' tk' (vs' : List Value) n', Fr h₀ L h' m → News h₀ L h' ((M, listOf vs'.toArray n') :: news) → StrsAre vs' (movedAt deep shift (Txt.split x nl) ms ((Txt.split x nl).length - 1)).2 → Q (.str (movedAt deep shift (Txt.split x nl) ms ((Txt.split x nl).length - 1)).1 tk) { s with heap := h', toks := tk' }) :
    wpAny (model prog w) (At dp un gd env outer) (call (.ref 89) [.str x t, .ref M, .int deep td, .int shift ts]) Q NE s := by
  refine wpAny_call ?_
  k_dflt (
   refine' code_def (binds := [(Str.ofString "word", .str x t), (Str.ofString "margins", .ref M), (Str.ofString "deep", .int deep td), (Str.ofString "shift", .int shift ts)]) ?k1 ?k2 ?k3 ?k4 ?k5 ?kA ?kF ?kK ?k6 ?k7 ?k8 ?k9 ?kB ?_ ?c2 ?c3 ?c4 ?c5; (case kA => exact rfl); (case kF => assumption); (case kK => assumption); (case k1 => k_asm); (case k2 => k_asm); (case k3 => k_asm); (case k4 => k_asm); (case k5 => k_asm); (case k6 => k_is); (case k7 => k_is); (case k8 => (show dp < 1000; omega)); (case k9 => first | exact BindsTo.of_eq rfl ); (case c5 => decide); (case kB => exact locs rfl); (case c2 => exact rfl); (case c3 => exact rfl); (case c4 => exact rfl); k_whole; intro g' L' h' FG' F' N' B' X' T'; (try dsimp only))
  have hlt : ∀ p ∈ news, p.1 ≠ h'.objs.size := fun p hp => Nat.ne_of_lt (Heap.lt_size (N' p (.tail _ hp)).1)
  have hltM : @LT.lt Nat _ M h'.objs.size := Heap.lt_size (N' _ (.head _)).1
  refine ofNE ?_
  k_fold
  k_steps
  rename (List.map _ _ = Txt.split _ _) => hsp
  rename (List.map (fun (x : Str × Tok) => x.fst) _)[_]? = some _ => hy2
  rename (StrsAre (strValues _) _) => hS5
  rename List (Str × Tok) => ls
  rename (∀ a, a ∈ List.map _ _ → _) => hle
  rename IsRange _ _ _ _ _ _ _ _ => hR
  rename Fr _ _ _ _ => F5
  rename News _ _ _ _ => N5
  have hll : ls.length = (Txt.split x nl).length := by have := congrArg List.length hsp; simpa using this
  have hsl := split_le x nl
  have hps := split_pos x nl
  refine range_loop (h₀ := g') (n := ls.length - 1) rfl rfl rfl hR (small_of (by omega) (by omega)) (size_of (by omega)) F5 N5
    (fun i m nx => ∃ (vs' : List Value) (n' : Nat) (mv : Str) (tm : Tok), nx = (h'.objs.size, listOf (strValues ls).toArray 0) :: (M, listOf vs'.toArray n') :: news ∧ StrsAre vs' (movedAt deep shift (Txt.split x nl) ms i).2 ∧ mv = (movedAt deep shift (Txt.split x nl) ms i).1 ∧
      Has m [(Str.ofString "moved", .str mv tm), (Str.ofString "rows", .ref h'.objs.size), (Str.ofString "margins", .ref M), (Str.ofString "deep", .int deep td), (Str.ofString "shift", .int shift ts)])
    ⟨vs, n, _, _, rfl, hS, (by rw [hsp] at hy2; exact (getDSome hy2).symm), has_cons rfl (has_cons rfl (has_cons rfl (has_cons rfl (has_cons rfl has_nil))))⟩ ?_ ?_
  · rintro i t1 m1 nx h7 tk7 own hi ⟨vs', n', mv, tm, rfl, hS', hmv, hH⟩ hown F7 N7
    have F8 := frPutsX F7 hH
    have hM2 : ∀ p ∈ news ++ own, p.1 ≠ M := fun p hp => by
      rcases List.mem_append.mp hp with hp | hp
      · exact hM p hp
      · exact Ne.symm (hown (M, listOf vs'.toArray n') (.tail _ (.head _)) p hp)
    simp only [List.cons_append] at N7
    have hB : ∀ r ∈ Txt.split x nl, r.length ≤ 100 := fun r hr => by
      have := hle r (by rw [hsp]; exact hr)
      omega
    have hl2 := movedAt_len2 deep shift (Txt.split x nl) ms i
    have hl1 : mv.length ≤ 100 + i * (4 + 100) := hmv ▸ movedAt_len1 shift ms (by omega) hd2 hB i
    have hl3 := getD_len hB (1 + (i : Int)).toNat
    have hvl := hS'.length
    have hnl : (Str.ofString "\n").length = 1 := by decide
    have hS6 : StrsAre (strValues ls) (Txt.split x nl) := hsp ▸ hS5
    clear hS5
    clear F7 F5 N5 hle
    refine treeId ?_
    k_fold
    k_steps
    refine ⟨rfl, _, _, _, (h'.objs.size, listOf (strValues ls).toArray 0) :: (M, listOf (vs' ++ [_]).toArray (n' + 1)) :: news, rfl, by assumption, by assumption, ?_, _, _, _, _, rfl, ?_, ?_, has_cons rfl (has_cons rfl (has_cons rfl (has_cons rfl (has_cons rfl has_nil))))⟩
    · intro p hp q hq
      rcases List.mem_cons.mp hp with rfl | hp
      · exact hown (h'.objs.size, listOf (strValues ls).toArray 0) (.head _) q hq
      rcases List.mem_cons.mp hp with rfl | hp
      · exact hown (M, listOf vs'.toArray n') (.tail _ (.head _)) q hq
      · exact hown p (.tail _ (.tail _ hp)) q hq
    · exact StrsAre.append' hS' (.cons _ _ .nil)
    · have e : (1 + (i : Int)).toNat = i + 1 := by omega
      rw [e, hmv]
      rfl
  · rintro m1 nx h7 tk7 ⟨vs', n', mv, tm, hnx, hS', hmv, hH⟩ F7 N7
    subst hnx
    have F8 := frPuts F7 hH
    clear F7 F5 N5
    dsimp only
    k_steps
    rename (Fr h₀ _ _ _) => F10
    rename (News h₀ _ _ _) => N10
    rw [hll] at hmv hS'
    subst hmv
    exact ret _ _ _ _ _ F10 (newsSub N10 fun p hp => .tail _ hp) hS'
end Mine
end
section -- Word
open PySem PySem.W PyProof.Rows
set_option maxRecDepth 100000
set_option maxHeartbeats 8000000
namespace Mine
abbrev signsS : Str := Str.ofString "a \n\"\\\t"
def wordAt (num : Int) : Nat → Str × Int
  | 0 => (Str.ofString "", num.fdiv 4)
  | i + 1 => ((wordAt num i).1 ++ Txt.item signsS ((wordAt num i).2.fmod 6), (wordAt num i).2.fdiv 6)
theorem wordAt_len (num : Int) : ∀ i, (wordAt num i).1.length = i
  | 0 => by show (Str.ofString "").length = 0; decide
  | i + 1 => by
    show ((wordAt num i).1 ++ Txt.item signsS _).length = _
    rw [Str.length_append, wordAt_len num i, len_item]
local macro_rules | `(tactic| walk_at "last pyIter ref") => `(tactic| refine halt ?_)
local macro_rules | `(tactic| walk_at "pyIter ref") => `(tactic| refine halt ?_)
abbrev tupOf (vs : List Value) : Obj := { cls := .type "tuple", data := .seq vs.toArray }
def wordOf (num : Int) : Str := (wordAt num (num.fmod 4).toNat).1
def behindOf (num : Int) : Str := Txt.item (Str.ofString " \n\t\r") ((num.fdiv 2592).fmod 4)
def bareOf (num : Int) : Bool := decide ((num.fdiv 864).fmod 3 = 2) && (wordOf num != Str.ofString "") && (Builtin.Str.occurrences (wordOf num) (Str.ofString "\n") 0 (wordOf num).length 1).isEmpty
def writtenOf (num : Int) : Str :=
  if bareOf num then escS (wordOf num)
  else if (num.fdiv 864).fmod 3 = 1 then Str.ofString "\"" ++ escS (wordOf num) ++ Str.ofString "\""
  else Str.ofString "\"" ++ Txt.replace (Txt.replace (wordOf num) (Str.ofString "\\") (Str.ofString "\\\\")) (Str.ofString "\"") (Str.ofString "\\\"") ++ Str.ofString "\""
def takenOf (num : Int) : Str := if bareOf num then behindOf num else Str.ofString ""
theorem bare_true {num : Int} (h1 : (num.fdiv 864).fmod 3 = 2) (h2 : (wordOf num != Str.ofString "") = true) (h3 : (Builtin.Str.occurrences (wordOf num) (Str.ofString "\n") 0 (wordOf num).length 1).isEmpty = true) : bareOf num = true := by
  unfold bareOf; rw [h1, h2, h3]; rfl
theorem bare_false {num : Int} (h : (num.fdiv 864).fmod 3 ≠ 2 ∨ (wordOf num != Str.ofString "") = false ∨ (Builtin.Str.occurrences (wordOf num) (Str.ofString "\n") 0 (wordOf num).length 1).isEmpty = false) : bareOf num = false := by
  unfold bareOf
  rcases h with h | h | h
  · rw [decide_eq_false h]; rfl
  · rw [h, Bool.and_false]; rfl
  · rw [h, Bool.and_false]
theorem written_bare {num : Int} (h : bareOf num = true) : writtenOf num = escS (wordOf num) := by unfold writtenOf; rw [if_pos h]
theorem taken_bare {num : Int} (h : bareOf num = true) : takenOf num = behindOf num := by unfold takenOf; rw [if_pos h]
theorem taken_not {num : Int} (h : bareOf num = false) : takenOf num = Str.ofString "" := by unfold takenOf; rw [h]; rfl
theorem written_esc {num : Int} (h : bareOf num = false) (h1 : (num.fdiv 864).fmod 3 = 1) : writtenOf num = Str.ofString "\"" ++ escS (wordOf num) ++ Str.ofString "\"" := by unfold writtenOf; rw [h, if_pos h1]; rfl
theorem written_plain {num : Int} (h : bareOf num = false) (h1 : (num.fdiv 864).fmod 3 ≠ 1) : writtenOf num = Str.ofString "\"" ++ Txt.replace (Txt.replace (wordOf num) (Str.ofString "\\") (Str.ofString "\\\\")) (Str.ofString "\"") (Str.ofString "\\\"") ++ Str.ofString "\"" := by unfold writtenOf; rw [h, if_neg h1]; rfl
local macro_rules | `(tactic| walk_at "eval ListComp") => `(tactic| refine halt ?_)
local macro_rules | `(tactic| walk_at "pyIter str") => `(tactic| refine halt ?_)
local macro_rules | `(tactic| walk_at "call builtin:str.replace") => `(tactic| (refine replaceK ?_ ?_ ?_ ?_ ?_ ?_ ?_; all_goals (first | (intro _ _ hk9; dsimp only at hk9) | decide | omega | (refine neN ?_; (try dsimp only); omega))))
theorem word_call {prog : Program} {w : World} {p : Program} {loose : List Str} {mean : ExcName → Option Value} {mg mb : Str → Option Value} {dp un : Nat} {gd : Option (List Code)} {env : Env} {outer : List Env} {A₀ : Around} {base h₀ : Heap} {L : Addr} {m : Str → Option Value} {news : List (Addr × Obj)} {s : Shared}
    {Q : Value → Shared → Prop} {num : Int} {t : Tok}
    (B : Below A₀ base outer h₀) (F : Fr h₀ L s.heap m) (X : (Mine.hd.heap_39 w.params).In h₀) (N : News h₀ L s.heap news) (T : Top p loose mean mg mb h₀) (hf : env.frame = some L) (hk : env.scope.kind = .function)
    (hd : dp < 900) (hn0 : 0 ≤ num) (hn1 : num < 1000000)
    (ret : ∀ D t1 t2 t3 t4 h' tk', Fr h₀ L h' m → News h₀ L h' ((D, tupOf [.str (wordOf num) t1, .str (writtenOf num) t2, .str (behindOf num) t3, .str (takenOf num) t4]) :: news) → (∀ p ∈ news, @LT.lt Nat _ p.1 D) → Q (.ref D) { s with heap := h', toks := tk' }) :
    wpAny (model prog w) (At dp un gd env outer) (call (.ref 82) [.int num t]) Q NE s := by
  refine wpAny_call ?_
  k_dflt (
   refine' code_def (binds := [(Str.ofString "number", .int num t)]) ?k1 ?k2 ?k3 ?k4 ?k5 ?kA ?kF ?kK ?k6 ?k7 ?k8 ?k9 ?kB ?_ ?c2 ?c3 ?c4 ?c5; (case kA => exact rfl); (case kF => assumption); (case kK => assumption); (case k1 => k_asm); (case k2 => k_asm); (case k3 => k_asm); (case k4 => k_asm); (case k5 => k_asm); (case k6 => k_is); (case k7 => k_is); (case k8 => (show dp < 1000; omega)); (case k9 => first | exact BindsTo.of_eq rfl ); (case c5 => decide); (case kB => exact locs rfl); (case c2 => exact rfl); (case c3 => exact rfl); (case c4 => exact rfl); k_whole; intro g' L' h' FG' F' N' B' X' T'; (try dsimp only))
  refine ofNE ?_
  k_fold
  k_steps
  refine ⟨?_⟩
  rename IsRange _ _ _ _ _ _ _ _ => hR
  rename Fr _ _ _ _ => F5
  rename News _ _ _ _ => N5
  have hm4 : 0 ≤ num.fmod 4 ∧ num.fmod 4 < 4 := ⟨fmod_lo _ (by decide), fmod_hi _ (by decide)⟩
  have hr0 : 0 ≤ num.fdiv 4 := Int.fdiv_nonneg hn0 (by decide)
  refine range_loop (h₀ := g') (n := (num.fmod 4).toNat) rfl rfl rfl hR (small_of (by omega) (by omega)) (size_of (by omega)) F5 N5
    (fun i m nx => ∃ (w : Str) (r : Int) (tw tr : Tok), nx = news ∧ w = (wordAt num i).1 ∧ r = (wordAt num i).2 ∧ ∃ t1, 
      Has m [(Str.ofString "word", .str w tw), (Str.ofString "rest", .int r tr), (Str.ofString "signs", .str signsS t1), (Str.ofString "number", .int num t)])
    ⟨_, _, _, _, rfl, rfl, rfl, _, has_cons rfl (has_cons rfl (has_cons rfl (has_cons rfl has_nil)))⟩ ?_ ?_
  · rintro i t1 m1 nx h7 tk7 own hi ⟨wd, r, tw, tr, rfl, hw, hr, t3, hH⟩ hown F7 N7
    have F8 := frPutsX F7 hH
    have hwl : wd.length = i := hw ▸ wordAt_len num i
    have hr6 : 0 ≤ r.fmod 6 ∧ r.fmod 6 < 6 := ⟨fmod_lo _ (by decide), fmod_hi _ (by decide)⟩
    clear F7 F5 N5
    refine treeId ?_
    k_fold
    k_steps
    refine ⟨rfl, _, _, _, _, rfl, by assumption, by assumption, hown, _, _, _, _, rfl, ?_, ?_, _, has_cons rfl (has_cons rfl (has_cons rfl (has_cons rfl has_nil)))⟩
    · rw [hw, hr]; rfl
    · rw [hr]; rfl
  · rintro m1 nx h7 tk7 ⟨wd, r, tw, tr, hnx, hw, hr, t3, hH⟩ F7 N7
    subst hnx
    have F8 := frPuts F7 hH
    have hwl : wd.length = (num.fmod 4).toNat := hw ▸ wordAt_len num _
    clear F7 F5 N5
    dsimp only
    k_steps
    refine ⟨?_⟩
    refine comp_free (cl := []) (fun v y => ∃ c u t, v = .str ⟨#[c]⟩ u ∧ y = .str (escC c) t) rfl (by decide) rfl (by decide) rfl ?_
    k_steps
    refine ⟨?_⟩
    refine' comp_str escC ?hh ?hF ?hN ?_ ?_ ?_
    case hh => rfl
    case hF => k_asm
    case hN => k_asm
    · omega
    · intro C c t9 s9 m9 E9 hc9 hns9 hm9 F9 N9
      refine wpAny_BinOp (wpAny_Constant_str (wpAny_Name (wpAny_loadName_local rfl rfl hns9 hm9 (SB.add (fun t' k => ⟨⟨_, rfl⟩, ⟨_, _, rfl, fun _ _ e => e⟩⟩) (by rw [sizeLine_eq]; show 1 + 1 ≤ _; decide)))))
    · intro D h9 tk9 vs9 k9 F9 N9 hD9 hS9
      k_steps
      refine join_list (ys := wd.cps.toList.map escC) ⟨_, (N9 _ (.head _)).1, rfl, _, rfl⟩ hS9 ?_ ?_
      · have h1 := escSum wd.cps.toList
        have h2 : wd.cps.toList.length = wd.length := by simp [Str.length]
        show _ + _ * 0 ≤ _
        omega
      · intro t9 k9
        have hel := escLen wd
        have hrl : (Txt.replace wd (Str.ofString "\\") (Str.ofString "\\\\")).length ≤ 2 * wd.length := replace_len (c := 92) (by decide)
        have hrl2 : (Txt.replace (Txt.replace wd (Str.ofString "\\") (Str.ofString "\\\\")) (Str.ofString "\"") (Str.ofString "\\\"")).length ≤ 2 * (Txt.replace wd (Str.ofString "\\") (Str.ofString "\\\\")).length := replace_len (c := 34) (by decide)
        have hq1 : (Str.ofString "\"").length = 1 := by decide
        rw [show Txt.join (Str.ofString "") (wd.cps.toList.map escC) = escS wd from rfl]
        generalize he : escS wd = es at hel
        replace hw : wd = wordOf num := hw
        clear F8 N7
        k_steps
        all_goals subst hw
        all_goals subst he
        all_goals (rename (Fr h₀ _ _ _) => F10)
        all_goals (rename (News h₀ _ _ _) => N10)
        all_goals (rename (_ ∧ AllLt _ _) => l10)
        all_goals (have hlt := ofAllLt l10.2)
        all_goals (have hNs := newsSub N10 (fun p hp => by
          rcases List.mem_cons.mp hp with h | h
          · exact h ▸ List.Mem.head _
          · exact .tail _ (.tail _ h)))
        all_goals (first
          | (have hb : bareOf num = true := bare_true (by assumption) (by assumption) (by assumption))
          | (have hb : bareOf num = false := bare_false (.inl (by assumption)))
          | (have hb : bareOf num = false := bare_false (.inr (.inl (by assumption))))
          | (have hb : bareOf num = false := bare_false (.inr (.inr (by assumption)))))
        all_goals (first
          | exact ret _ _ _ _ _ _ _ F10 (by rw [written_bare hb, taken_bare hb]; exact hNs) hlt
          | exact ret _ _ _ _ _ _ _ F10 (by rw [written_esc hb (by assumption), taken_not hb]; exact hNs) hlt
          | exact ret _ _ _ _ _ _ _ F10 (by rw [written_plain hb (by assumption), taken_not hb]; exact hNs) hlt)
end Mine
end
section -- G5
open PySem PySem.W PyProof.Rows PySem.Spec PySem.Calls
set_option maxRecDepth 100000
namespace Mine
/-- what a call keeps: all that stood, but what it was handed to change -/
def Kept (s : Shared) (as : List Addr) (h' : Heap) : Prop := ∀ b o, s.heap.get? b = some o → b ∉ as → h'.get? b = some o
section
variable {prog : Program} {w : World} {A₀ A : Around} {s : Shared} {base h₀ : Heap} {outer : List Env} {L : Addr} {m : Str → Option Value} {env : Env} {news : List (Addr × Obj)}
  {Q : Value → Shared → Prop} {name qual : Str} {params : Arguments} {body : List Stmt} {scope : Scope} {cl : List (Str × Addr)} {dV kV doc pm cdv ct : Value} {an : Option Addr} {fo : Obj} {f : Addr} {args : Args} {binds : List (Str × Value)}
/-- how a called body ends -/
def BodyEnd (h₀ : Heap) (L : Addr) (m : Str → Option Value) (s : Shared) (as : List Addr) (g : Heap) (L' : Addr) (Q : Value → Shared → Prop) (fl : Flow) (s' : Shared) : Prop :=
  ∃ m' news', Fr g L' s'.heap m' ∧ News g L' s'.heap news' ∧ (Fr h₀ L s'.heap m → News h₀ L s'.heap news' → Kept s as s'.heap → Q (match fl with | .ret v => v | _ => .none) s')
abbrev okRes (Q : Value → Shared → Prop) : Result → Shared → Prop := fun r s' => match r with | .ok (.ret v) => Q v s' | .ok _ => False | .error e => NE e s'
theorem enterP (B : Below A₀ base outer h₀) (F : Fr h₀ L s.heap m) (N : News h₀ L s.heap news) (hlim : h₀.NoLimit) (hA : A.frames = some (env :: outer)) (hf : env.frame = some L) (hke : env.scope.kind = .function)
    (ho : s.heap.get? f = some fo) (hd : fo.data = .func (fnX name qual params body scope cl dV kV doc pm an cdv ct)) (hcd : s.heap.CodeRec cdv qual) (hroom : A.depth < recursionLimit)
    (hbind : BindsTo s (fnX name qual params body scope cl dV kV doc pm an cdv ct) args binds) (hloc : ∀ y ∈ binds, scope.names.lookup y.1 = some .local)
    (h : ∀ g L' h₁, Fr g L' h₁ (fun y => binds.reverse.lookup y) → News g L' h₁ news → Below A base (env :: outer) g → h₀.StaysIn g → (∀ p ∈ news, @LT.lt Nat _ p.1 L') → @LT.lt Nat _ L L' →
      wpAny (model prog w) (A.deeper (envX qual scope L' f cdv cl)) (execs body (envX qual scope L' f cdv cl)) (fun fl s' => Stop (BodyEnd h₀ L m s (news.map (·.1)) g L' Q fl s')) NE { s with heap := h₁, toks := s.toks + binds.length })
    (hcell : ∀ x ∈ scope.names, x.2 ≠ .cell) (hco : scope.isCoroutine = false := by rfl) (hgen : scope.isGenerator = false := by rfl) (hk : scope.kind = .function := by rfl) :
    codeAny (model prog w) A (.call (.ref f) args) (okRes Q) s := by
  obtain ⟨FG, BG, st, lv⟩ := groundX (R := okRes Q) B F N hA hf hke
  refine codeAny_call_def (fd := fnX name qual params body scope cl dV kV doc pm an cdv ct) (body := body) (binds := binds) hroom ho hd (hlim.keeps F.keep) hcd rfl hbind hcell hloc (fun h₁ hns hk₁ => ?_) hco hgen hk
  refine wpAny_mono (h (hideAll s.heap (news.map (·.1))) s.heap.objs.size h₁ ⟨hns, fun b o e => hk₁ b o (of_hideAll _ e), Nat.le_of_eq (hideAll_size _ _)⟩
    (fun p hp => ⟨hk₁ _ _ (N p hp).1, Nat.ne_of_lt (Heap.lt_size (N p hp).1), hideAll_none _ (List.mem_map_of_mem hp)⟩) BG st (fun p hp => Heap.lt_size (N p hp).1) F.ns.lt) (fun fl s' q => ?_) fun _ _ x => x.elim
  obtain ⟨m', news', F', N', k⟩ := q.out
  exact lv _ _ ⟨_, m', news', F', N', fun F₁ N₁ => k F₁ N₁ fun b o e hb => F'.keep b o (hideAll_get _ e hb)⟩
theorem enterC (B : Below A₀ base outer h₀) (F : Fr h₀ L s.heap m) (N : News h₀ L s.heap news) (hlim : h₀.NoLimit) (hA : A.frames = some (env :: outer)) (hf : env.frame = some L) (hke : env.scope.kind = .function)
    (ho : s.heap.get? f = some fo) (hd : fo.data = .func (fnX name qual params body scope [] dV kV doc pm an cdv ct)) (hcd : s.heap.CodeRec cdv qual) (hroom : A.depth < recursionLimit)
    (hbind : BindsTo s (fnX name qual params body scope [] dV kV doc pm an cdv ct) args binds)
    (hkind : (binds.all fun y => scope.names.lookup y.1 == some .local || scope.names.lookup y.1 == some .cell) = true)
    (hnd : ((cellsFrom 0 scope.names []).map (·.1)).Nodup)
    (h : ∀ g L' h₁ tk cells, Fr g L' h₁ (bindL (envOfC qual scope L' f cdv).kindOf binds fun _ => none) → News g L' h₁ (cells ++ news) →
      CellsAre (bindC (envOfC qual scope L' f cdv).kindOf binds fun _ => none) (cellsFrom (L' + 1) scope.names []) cells → Below A base (env :: outer) g → h₀.StaysIn g → (∀ p ∈ news, @LT.lt Nat _ p.1 L') → @LT.lt Nat _ L L' →
      wpAny (model prog w) (A.deeper (envOfC qual scope L' f cdv)) (execs body (envOfC qual scope L' f cdv)) (fun fl s' => Stop (BodyEnd h₀ L m s (news.map (·.1)) g L' Q fl s')) NE { s with heap := h₁, toks := tk })
    (hco : scope.isCoroutine = false := by rfl) (hgen : scope.isGenerator = false := by rfl) (hk : scope.kind = .function := by rfl) :
    codeAny (model prog w) A (.call (.ref f) args) (okRes Q) s := by
  obtain ⟨FG, BG, st, lv⟩ := groundX (R := okRes Q) B F N hA hf hke
  refine codeAny_call_function hroom ho hd hco hgen rfl hcd (hbind _ _ _ _ ?_)
  refine wpAny_newFunctionEnv_cells hk (kindsX hkind _) fun env' he s' x => ?_
  subst he
  refine ⟨(hlim.keeps F.keep).keeps x.toInCall.keep, codeAny_func ?_⟩
  obtain ⟨h₁, tk, rfl, _⟩ := x.done
  have hk₁ := x.toInCall.keep
  obtain ⟨cells, NC, Y⟩ := Cl.news (h₀ := s.heap) (Nat.le_refl _) fun n c hm => ⟨x.cell n c (lookup_of_mem_nodup (cellsFrom_names scope.names 0 (s.heap.objs.size + 1) [] [] rfl ▸ hnd) hm), x.above n c hm⟩
  refine wpAny_mono (h (hideAll s.heap (news.map (·.1))) s.heap.objs.size h₁ tk cells ⟨x.toInCall.ns, fun b o e => hk₁ b o (of_hideAll _ e), Nat.le_of_eq (hideAll_size _ _)⟩ (fun p hp => ?_) Y BG st (fun p hp => Heap.lt_size (N p hp).1) F.ns.lt) (fun fl s' q => ?_) fun _ _ x => x.elim
  · rcases List.mem_append.mp hp with hp | hp
    · refine ⟨(NC p hp).1, (NC p hp).2.1, ?_⟩
      cases q : (hideAll s.heap (news.map (·.1))).get? p.1 with
      | none => rfl
      | some o => have := of_hideAll _ q; rw [(NC p hp).2.2] at this; cases this
    · exact ⟨hk₁ _ _ (N p hp).1, Nat.ne_of_lt (Heap.lt_size (N p hp).1), hideAll_none _ (List.mem_map_of_mem hp)⟩
  · obtain ⟨m', news', F', N', k⟩ := q.out
    exact lv _ _ ⟨_, m', news', F', N', fun F₁ N₁ => k F₁ N₁ fun b o e hb => F'.keep b o (hideAll_get _ e hb)⟩
end
/-- the rest of a ledger is kept -/
theorem keptNews {s : Shared} {as : List Addr} {h' h₀ : Heap} {L : Addr} {rest : List (Addr × Obj)} (K : Kept s as h') (N : News h₀ L s.heap rest) (hr : ∀ p ∈ rest, p.1 ∉ as) : News h₀ L h' rest :=
  fun p hp => ⟨K p.1 p.2 (N p hp).1 (hr p hp), (N p hp).2⟩
end Mine
end
section -- FnAttr
open PySem PySem.W PyProof.Rows PySem.Spec PySem.Calls
set_option maxRecDepth 100000
namespace Mine
theorem store_function : StoreFacts "function" [.type "function", .type "object"] "object.__setattr__" "object" where
  mro := by kernel_rfl
  slot := .of (owner := "object") (n := "__setattr__") (by rw [typeLookup_type, builtinLookup_eq_fast]; kernel_rfl) (by decide +kernel) (by decide +kernel) (by decide +kernel)
    (by first | exact .inl (by decide +kernel) | exact .inr (by decide +kernel)) (by rw [isSubtype_type]; kernel_rfl)
  entry := F.entry_object_sa
  kind := by decide +kernel
  split := by decide +kernel
  hasOwner := by decide +kernel
  args := fun a b c => by unfold argsOk; kernel_rfl
  passes := fun self => by kernel_rfl
theorem fn_read : typeLookup (.type "function") (Str.ofString "read") = pure none := by rw [typeLookup_type, builtinLookup_eq_fast]; kernel_rfl
theorem fn_ga : Slot "function" "__getattribute__" "object.__getattribute__" :=
  .of (owner := "object") (n := "__getattribute__") (by rw [typeLookup_type, builtinLookup_eq_fast]; kernel_rfl) (by decide +kernel) (by decide +kernel) (by decide +kernel)
    (by first | exact .inl (by decide +kernel) | exact .inr (by decide +kernel)) (by rw [isSubtype_type]; kernel_rfl)
theorem fn_gattr : typeLookup (.type "function") (Str.ofString "__getattr__") = pure none := by rw [typeLookup_type, builtinLookup_eq_fast]; kernel_rfl
theorem entry_ga : entryFor table "object.__getattribute__" = some Builtin.«object.__getattribute__» := entryFor_of_tree (by kernel_rfl)
theorem args_ga (a b : Value) : argsOk "object.__getattribute__" ⟨[a, b], []⟩ := by unfold argsOk; kernel_rfl
abbrev fnObj (od : Option Addr) (fd : FuncData) : Obj := { cls := .type "function", dict := od, data := .func fd }
abbrev readDict (P : Params) (v : Value) (t : Tok) : Obj := dictOf [⟨PyData.keyHash P (Str.ofString "read"), .str (Str.ofString "read") t, v⟩] 1
section
variable {prog : Program} {w : World} {A : Around} {E : Value → Shared → Prop} {s : Shared} {h₀ : Heap} {L f : Addr} {m : Str → Option Value} {news : List (Addr × Obj)} {g : Obj → List (Addr × Obj)} {fd : FuncData} {v : Value}
open Builtin.ObjectAttr in
theorem setAttr_fn {Q : Unit → Shared → Prop} (F : Fr h₀ L s.heap m) (N : News h₀ L s.heap news) (U : UpdF f (fnObj none fd) news g)
    (h : ∀ d h' tk tk', Fr h₀ L h' m → News h₀ L h' ((d, readDict w.params v tk) :: g (fnObj (some d) fd)) → (∀ p ∈ news, p.1 < d) → Q () { s with heap := h', toks := tk' }) :
    wpAny (model prog w) A (setAttr (.ref f) (Str.ofString "read") v) Q E s := by
  obtain ⟨pre, post, rfl, hg, a1, a2⟩ := U.split
  have z := N (f, fnObj none fd) (List.mem_append.mpr (.inr (.head _)))
  have hT : s.TypeIs (.ref f) "function" := ⟨_, z.1, rfl⟩
  unfold setAttr
  refine wpAny_bind (wpAny_mkText ?_)
  refine wpAny_bind (wpAny_callSpecial?_slot (name := Str.ofString "__setattr__") (s := { s with toks := s.toks + 1 }) (T := "function") ⟨_, z.1, rfl⟩ store_function.slot (wpAny_call_entry store_function.slot (T := "function") ⟨_, z.1, rfl⟩ store_function.entry ?_ (store_function.args _ _ _)))
  rw [osa_eq, refuse_eq]
  refine wpAny_bind (wpAny_bind (wpAny_typeOf (T := "function") ⟨_, z.1, rfl⟩ ?_))
  refine wpAny_bind (wpAny_of_eq store_function.mro ?_)
  refine wpAny_of_eq (store_function.passes _) ?_
  refine wpAny_bind (wpAny_typeOf (T := "function") ⟨_, z.1, rfl⟩ ?_)
  refine wpAny_bind (wpAny_of_eq fn_read ?_)
  refine wpAny_bind (wpAny_pure ?_)
  show wpAny _ _ (storeInOwnDict (.ref f) (.type "function") _ _ v false) _ _ _
  unfold storeInOwnDict
  refine wpAny_bind (m := ownStreamTells _ _) (wpAny_of_eq (a := ()) (by rfl) ?_)
  show wpAny _ _ (ownDictForStores (.ref f) >>= _) _ _ _
  refine wpAny_bind ?_
  show wpAny _ _ (instanceDict f true) _ _ _
  unfold instanceDict
  refine wpAny_bind (wpAny_loadPart z.1 ?_)
  show wpAny _ _ (if (!true || !typeHasDict (.type "function")) = true then _ else _) _ _ _
  rw [if_neg (by decide +kernel)]
  show wpAny _ _ (alloc _ >>= _) _ _ _
  refine wpAny_bind (wpAny_alloc ?_)
  have F₁ := F.push (dictOf [] 0)
  have N₁ := News.push F N (dictOf [] 0)
  have hlt : ∀ p ∈ pre ++ (f, fnObj none fd) :: post, @LT.lt Nat _ p.1 s.heap.objs.size := fun p hp => Heap.lt_size (N p hp).1
  have hh1 : (s.heap.push { cls := .type "dict", data := .dict #[] }) = s.heap.push (dictOf [] 0) := rfl
  show wpAny _ _ (update f _ >>= _) _ _ { s with heap := s.heap.push (dictOf [] 0), toks := s.toks + 1 }
  generalize hd0 : s.heap.objs.size = d at N₁ hlt
  have hfd : @LT.lt Nat _ f d := hlt (f, fnObj none fd) (List.mem_append.mpr (.inr (.head _)))
  generalize s.heap.push (dictOf [] 0) = h₁ at F₁ N₁
  have N₁' : News h₀ L h₁ (((d, dictOf [] 0) :: pre) ++ (f, fnObj none fd) :: post) := N₁
  obtain ⟨F₂, N₂⟩ := news_upd (f := fun o => { o with dict := some d }) F₁ N₁' (fun p hp => by
    rcases List.mem_cons.mp hp with rfl | hp
    · exact neN (by omega)
    · exact a1 p hp) a2 rfl rfl
  refine wpAny_bind (wpAny_update (o := fnObj none fd) (N₁ _ (.tail _ (List.mem_append.mpr (.inr (.head _))))).1 ?_)
  show wpAny _ _ (dictMade (.type "function") f d) _ _ { s with heap := h₁.update f (fun o => { o with dict := some d }), toks := s.toks + 1 }
  refine wpAny_of_eq (a := some d) (by rfl) ?_
  generalize h₁.update f (fun o => { o with dict := some d }) = h₂ at F₂ N₂
  show wpAny _ _ (Builtin.ObjectAttr.storeInDict d _ _ v) _ _ _
  unfold Builtin.ObjectAttr.storeInDict
  refine wpAny_bind (wpAny_pure ?_)
  refine wpAny_bind ?_
  unfold nsSet
  have N₂' : News h₀ L h₂ ([] ++ (d, dictOf [] 0) :: (pre ++ (f, fnObj (some d) fd) :: post)) := N₂
  obtain ⟨F₃, N₃⟩ := news_upd (f := Obj.putName (Str.ofString "read") (PyData.keyHash w.params (Str.ofString "read")) (.str (Str.ofString "read") (s.toks + 1)) v) (o' := readDict w.params v (s.toks + 1)) F₂ N₂' (fun p hp => nomatch hp) (fun p hp => by
    rcases List.mem_append.mp hp with hp | hp
    · exact neN (by have := hlt p (List.mem_append.mpr (.inl hp)); omega)
    · rcases List.mem_cons.mp hp with rfl | hp
      · exact neN (by omega)
      · exact neN (by have := hlt p (List.mem_append.mpr (.inr (.tail _ hp))); omega)) (by rw [putName_dict]; rfl) rfl
  have D := (N₂ (d, dictOf [] 0) (by simp)).1
  have D' := (N₃ (d, readDict w.params v (s.toks + 1)) (by simp)).1
  refine wpAny_bind (wpAny_bind (wpAny_askSetting (wpAny_pure (wpAny_bind (wpAny_mkText (wpAny_bind (wpAny_loadPart D ?_)))))))
  show wpAny _ _ (if (aRefKeyMayBeTheName _ _) = true then _ else _) _ _ _
  rw [if_neg (by rw [aRefKeyMayBeTheName_at]; simp)]
  refine wpAny_updatePart D ?_
  refine wpAny_bind (wpAny_lookBehind D' (pastItsLine_dict (by rw [List.size_toArray, sizeLine_eq]; show 1 ≤ _; decide)) ?_)
  refine wpAny_pure ⟨_, rfl, wpAny_pure (h d _ _ _ F₃ (by rw [hg]; exact N₃) hlt)⟩
open Builtin.ObjectAttr in
theorem getAttr_fn {Q : Value → Shared → Prop} {d : Addr} {tk : Tok} {a : Addr} {ex : Bool} (N : News h₀ L s.heap news) (hf : (f, fnObj (some d) fd) ∈ news) (hd : (d, readDict w.params (.ref a) tk) ∈ news) (h : Q (.ref a) { s with toks := s.toks + 1 }) :
    wpAny (model prog w) A (getAttr (.ref f) (Str.ofString "read") ex) Q E s := by
  have z := (N _ hf).1
  have zd := (N _ hd).1
  unfold getAttr
  refine wpAny_bind (wpAny_mkText ?_)
  unfold getAttrBy
  refine wpAny_holding (wpAny_bind (wpAny_typeOf (T := "function") (s := { s with toks := s.toks + 1 }) ⟨_, z, rfl⟩ ?_))
  refine wpAny_bind (wpAny_of_eq fn_ga.lookup ?_)
  show wpAny _ _ (getAttrByItsOwn _ _ _ _ _ _) _ _ _
  unfold getAttrByItsOwn
  refine wpAny_bind (wpAny_pure ?_)
  refine wpAny_bind (wpAny_attempt (wpAny_holding ?_))
  have e1 : callGetattribute (.ref f) (.str (Str.ofString "read") s.toks) (.builtin "object.__getattribute__") ex = boundAndCalled (.builtin "object.__getattribute__") (.ref f) (.str (Str.ofString "read") s.toks) := by
    unfold callGetattribute
    rw [if_neg (by cases ex <;> decide)]
  show wpAny _ _ (callGetattribute (.ref f) (.str (Str.ofString "read") s.toks) (.builtin "object.__getattribute__") ex) _ _ _
  rw [e1]
  unfold boundAndCalled
  rw [fn_ga.bind]
  refine wpAny_bind (wpAny_pure ?_)
  refine wpAny_call_entry (rest := [.str (Str.ofString "read") s.toks]) fn_ga (T := "function") ⟨_, z, rfl⟩ entry_ga ?_ (args_ga _ _)
  show wpAny _ _ (typeOf (.ref f) >>= _) _ _ _
  refine wpAny_bind (wpAny_typeOf (T := "function") ⟨_, z, rfl⟩ ?_)
  refine wpAny_bind ?_
  unfold find
  refine wpAny_bind (wpAny_of_eq fn_read ?_)
  refine wpAny_bind (wpAny_pure ?_)
  refine wpAny_bind (wpAny_pure ?_)
  show wpAny _ _ (ownThenClass _ _ _ _) _ _ _
  unfold ownThenClass
  refine wpAny_bind ?_
  show wpAny _ _ (Builtin.ObjectAttr.ownDict f >>= _) _ _ _
  refine wpAny_bind ?_
  unfold Builtin.ObjectAttr.ownDict
  refine wpAny_bind ?_
  refine wpAny_loadPart z ?_
  show wpAny _ _ (instanceDict f false) _ _ _
  unfold instanceDict
  refine wpAny_bind (wpAny_loadPart z ?_)
  refine wpAny_pure ?_
  show wpAny _ _ (nsGet d (Str.ofString "read")) _ _ _
  have hns : s.heap.Ns d (fun x => if x = Str.ofString "read" then some (.ref a) else none) := by
    refine ⟨_, _, _, zd, rfl, ?_, ?_⟩
    · intro e he
      have : e = ⟨PyData.keyHash w.params (Str.ofString "read"), .str (Str.ofString "read") tk, .ref a⟩ := by simpa using he
      exact ⟨_, _, by rw [this]⟩
    · intro x
      unfold nsFind findBy
      rw [List.find?_toArray, List.find?_cons]
      show Option.map _ (match (Str.ofString "read" == x) with | true => _ | false => _) = _
      dsimp only
      by_cases hx : x = Str.ofString "read"
      · rw [hx, beq_self_eq_true, if_pos rfl]; rfl
      · rw [if_neg hx, beq_false_of_ne (Ne.symm hx)]; rfl
  refine wpAny_nsGet hns ?_
  rw [if_pos rfl]
  refine wpAny_bind (wpAny_rule (wpAny_pure ?_))
  exact wpAny_pure ⟨_, rfl, wpAny_pure h⟩
theorem getMethod_fn {Q : Value × List Value → Shared → Prop} {d : Addr} {tk : Tok} {a : Addr} {pl : Sem Bool} (N : News h₀ L s.heap news) (hf : (f, fnObj (some d) fd) ∈ news) (hd : (d, readDict w.params (.ref a) tk) ∈ news) (h : Q (.ref a, []) { s with toks := s.toks + 1 }) :
    wpAny (model prog w) A (getMethod (.ref f) (Str.ofString "read") pl) Q E s := by
  have z := (N _ hf).1
  unfold getMethod
  refine wpAny_bind (wpAny_specialOf (T := "function") ⟨_, z, rfl⟩ fn_ga.lookup ?_)
  show wpAny _ _ (if (Manifest.canonical "object.__getattribute__" != "object.__getattribute__") = true then _ else _) _ _ _
  rw [if_neg (by decide +kernel)]
  refine wpAny_bind (wpAny_specialOf (T := "function") ⟨_, z, rfl⟩ fn_gattr ?_)
  show wpAny _ _ (specialOf _ _ >>= _) _ _ _
  refine wpAny_bind (wpAny_specialOf (T := "function") ⟨_, z, rfl⟩ fn_read ?_)
  show wpAny _ _ (getAttr _ _ _ >>= _) _ _ _
  exact wpAny_bind (getAttr_fn N hf hd (wpAny_pure h))
end
end Mine
end
section -- Lex1
open PySem PySem.W PyProof.Rows
set_option maxRecDepth 100000
set_option maxHeartbeats 8000000
namespace Mine
/-- the reader's def, out of the text -/
def rdIn : List Stmt := match PySem.Challenge.pw_re0004_01.main.body.drop 6 with | .FunctionDef _ _ b _ _ _ _ _ _ _ :: _ => b | _ => []
def rdParams : Arguments := match rdIn.drop 1 with | .FunctionDef _ a _ _ _ _ _ _ _ _ :: _ => a | _ => default
def rdStmts : List Stmt := match rdIn.drop 1 with | .FunctionDef _ _ b _ _ _ _ _ _ _ :: _ => b | _ => []
def rdScope : Scope := match rdIn.drop 1 with | .FunctionDef _ _ _ _ _ _ sc _ _ _ :: _ => sc | _ => default
structure LexA where
  ct : Nat
  cp : Nat
  pl : Nat
  cr : Nat
  fr : Nat
  fs : Nat
  ds : Nat
  dx : Nat
  lx : Nat
  pb : Nat
def LexA.Ord (a : LexA) : Prop := a.ct < a.cp ∧ a.cp < a.pl ∧ a.pl < a.fr ∧ a.cr < a.fr ∧ a.fr < a.fs ∧ a.fs < a.ds ∧ a.ds < a.dx ∧ a.dx < a.lx ∧ a.lx < a.pb ∧ a.cr ≠ a.ct ∧ a.cr ≠ a.cp ∧ a.cr ≠ a.pl
/-- what of the reader's things stays as it is -/
structure LexC where
  fd : FuncData
  ofr : Obj
  ocr : Obj
  ocp : Obj
  oct : Obj
  k1 : Tok
  k2 : Tok
  k3 : Tok
  k4 : Tok
  k5 : Tok
  kw : Tok
abbrev lexDict (P : Params) (a : LexA) (c : LexC) (ln : Int) (tl : Tok) : Obj :=
  dictOf [⟨PyData.keyHash P (Str.ofString "lineno"), .str (Str.ofString "lineno") c.k1, .int ln tl⟩, ⟨PyData.keyHash P (Str.ofString "instream"), .str (Str.ofString "instream") c.k2, .ref a.fs⟩,
    ⟨PyData.keyHash P (Str.ofString "whitespace"), .str (Str.ofString "whitespace") c.k3, .str (Str.ofString "\n\t\r ") c.kw⟩, ⟨PyData.keyHash P (Str.ofString "pushback"), .str (Str.ofString "pushback") c.k4, .ref a.pb⟩] 4
/-- the reader's things on the ledger: lineno ln, place pc -/
abbrev lexLed (P : Params) (a : LexA) (c : LexC) (ln : Int) (tl : Tok) (pc : Int) (tp : Tok) : List (Addr × Obj) :=
  [(a.pb, listOf #[] 0), (a.lx, instObj 66 a.dx), (a.dx, lexDict P a c ln tl), (a.ds, readDict P (.ref a.fr) c.k5), (a.fs, fnObj (some a.ds) c.fd),
    (a.fr, c.ofr), (a.cr, c.ocr), (a.pl, listOf #[.int pc tp] 0), (a.cp, c.ocp), (a.ct, c.oct)]
structure LexOk (a : LexA) (c : LexC) (x : Str) : Prop where
  ord : a.Ord
  text : ∃ t, c.oct.data = .cell (some (.str x t))
  place : c.ocp.data = .cell (some (.ref a.pl))
  code : ∃ qual doc pm ctv vs t, c.ofr.data = .func (fnX (Str.ofString "read") qual rdParams rdStmts rdScope [(Str.ofString "text", a.ct), (Str.ofString "place", a.cp)] .none .none doc pm none (.ref a.cr) ctv) ∧ c.ocr.data = .fields vs ∧ vs[1]? = some (.str qual t)
local macro_rules | `(tactic| walk_at "eval Name") => `(tactic| (k_here; k_dflt (refine' nameX_F ?N ?c ?m ?d ?_ ?a ?b; (case a => rfl); (case b => rfl); (case N => k_asm); (case c => rfl); (case m => k_mem); (case d => k_asm); k_whole)))
theorem getAt {prog : Program} {w : World} {A : Around} {E : Value → Shared → Prop} {s : Shared} {h₀ : Heap} {L D : Addr} {news : List (Addr × Obj)} {vs : List Value} {n : Nat} {k : Int} {t : Tok} {v : Value} {Q : Value → Shared → Prop}
    (N : News h₀ L s.heap news) (hm : (D, listOf vs.toArray n) ∈ news) (h0 : 0 ≤ k) (hf : k < 2 ^ 63) (hx : vs[k.toNat]? = some v) (h : Q v s) : wpAny (model prog w) A (getItem (.ref D) (.int k t)) Q E s :=
  wpAny_getItem_list (items := vs.toArray) ⟨_, (N _ hm).1, rfl, n, rfl⟩ h0 hf (by simpa using hx) h
local macro_rules | `(tactic| walk_at "getItem ref int") => `(tactic| (k_here; k_dflt (refine' getAt ?k1 ?k2 ?k3 ?k4 ?k5 ?_; (case k1 => k_asm); (case k2 => k_mem); (case k3 => decide); (case k4 => decide); (case k5 => rfl); k_whole)))
local macro_rules | `(tactic| walk_at "setItem ref int") => `(tactic| (k_here; k_dflt (refine' setAny ?k1 ?k2 ?k3 ?k5 ?k6 ?k7 ?_; (case k1 => k_asm); (case k2 => k_asm); (case k3 => k_upd); (case k5 => decide); (case k6 => (show (0 : Int) < 1; decide)); (case k7 => decide); k_whole); intro h' F' N'; (try k_sweep)))
theorem read_call {prog : Program} {w : World} {p : Program} {loose : List Str} {mean : ExcName → Option Value} {mg mb : Str → Option Value} {dp un : Nat} {gd : Option (List Code)} {env : Env} {outer : List Env} {A₀ : Around} {base h₀ : Heap} {L : Addr} {m : Str → Option Value} {s : Shared}
    {Q : Value → Shared → Prop} {x : Str} {t1 : Tok} {a : LexA} {c : LexC} {ln : Int} {tl : Tok} {pc : Nat} {tp : Tok}
    (B : Below A₀ base outer h₀) (F : Fr h₀ L s.heap m) (X : (Mine.hd.heap_39 w.params).In h₀) (N : News h₀ L s.heap (lexLed w.params a c ln tl pc tp)) (T : Top p loose mean mg mb h₀) (hf : env.frame = some L) (hk : env.scope.kind = .function)
    (hd : dp < 900) (hx : x.length ≤ 1000) (hpc : pc ≤ x.length) (ok : LexOk a c x)
    (ret : ∀ tk h' tk' tp', Fr h₀ L h' m → News h₀ L h' (lexLed w.params a c ln tl ((pc : Int) + (Txt.slice x (some (pc : Int)) (some ((pc : Int) + 1))).length) tp') → Kept s ((lexLed w.params a c ln tl pc tp).map (·.1)) h' →
      Q (.str (Txt.slice x (some (pc : Int)) (some ((pc : Int) + 1))) tk) { s with heap := h', toks := tk' }) :
    wpAny (model prog w) (At dp un gd env outer) (call (.ref a.fr) [.int 1 t1]) Q NE s := by
  obtain ⟨hord, ⟨tt, htext⟩, hplace, ⟨qual, doc, pm, ctv, vs, tq, hfr, hcd1, hcd2⟩⟩ := ok
  obtain ⟨o1, o2, o3, o4, o5, o6, o7, o8, o9, o10, o11, o12⟩ := hord
  refine wpAny_call ?_
  refine' enterP (binds := [(Str.ofString "size", .int 1 t1)]) B F N T.nolimit ?kA hf hk ?k6 ?kd ?k7 ?k8 ?k9 ?kB ?_ ?kc ?c2 ?c3 ?c4
  case kA => exact rfl
  case k6 => exact (N (a.fr, _) (by k_mem)).1
  case kd => exact hfr
  case k7 => exact codeRec_news N (by k_mem) hcd1 hcd2
  case k8 => show dp < 1000; omega
  case k9 => exact BindsTo.of_eq rfl
  case kB => exact locs rfl
  case kc => decide
  case c2 => exact rfl
  case c3 => exact rfl
  case c4 => exact rfl
  intro g' L' h' F' N' B' st' l1 l2
  have X' := Frag.In.keeps X st'
  have T' := T.keeps st'
  have e1 : rdScope = ⟨_, _, _, _, _⟩ := rfl
  have e2 : rdStmts = _ :: _ := rfl
  rw [e1, e2]
  refine treeId ?_
  k_fold
  k_steps
  rename (Fr g' _ _ _) => F9
  rename (News g' _ _ _) => N9
  show Stop (BodyEnd h₀ L m s _ g' L' Q _ _)
  refine ⟨_, _, F9, N9, fun F1 N1 K1 => ?_⟩
  exact ret _ _ _ _ F1 N1 K1
end Mine
end
section -- Lex2
open PySem PySem.W PyProof.Rows
set_option maxRecDepth 100000
set_option maxHeartbeats 8000000
namespace Mine
/-- the sign at a place, or none -/
def chAt (x : Str) (pc : Nat) : Str := Txt.slice x (some (pc : Int)) (some ((pc : Int) + 1))
local macro_rules | `(tactic| walk_at "getMethod ref") => `(tactic| (k_here; k_dflt (refine' getMethod_fn ?k1 ?k2 ?k3 ?_; (case k1 => k_asm); (case k2 => k_mem); (case k3 => k_mem); k_whole)))
local macro_rules | `(tactic| walk_at "call ref") => `(tactic| refine halt ?_)
theorem fnAtOf {h₀ h : Heap} {L q : Addr} {o : Obj} {fd : FuncData} {news : List (Addr × Obj)} (N : News h₀ L h news) (hm : (q, o) ∈ news) (hd : o.data = .func fd) : FnAt q h := by
  have z := (N _ hm).1
  obtain ⟨oc, od, dt, sl⟩ := o
  cases hd
  exact ⟨oc, od, fd, sl, z⟩
theorem readchar_code {prog : Program} {w : World} {p : Program} {loose : List Str} {mean : ExcName → Option Value} {mg mb : Str → Option Value} {dp un : Nat} {gd : Option (List Code)} {env : Env} {outer : List Env} {A₀ : Around} {base h₀ : Heap} {L : Addr} {m : Str → Option Value} {s : Shared}
    {Q : Value → Shared → Prop} {x : Str} {a : LexA} {c : LexC} {ln : Int} {tl : Tok} {pc : Nat} {tp : Tok}
    (B : Below A₀ base outer h₀) (F : Fr h₀ L s.heap m) (X : (Mine.hd.heap_39 w.params).In h₀) (N : News h₀ L s.heap (lexLed w.params a c ln tl pc tp)) (T : Top p loose mean mg mb h₀) (hf : env.frame = some L) (hk : env.scope.kind = .function)
    (hd : dp < 800) (hx : x.length ≤ 1000) (hpc : pc ≤ x.length) (ok : LexOk a c x)
    (ret : ∀ tk h' tk' tp' tl', Fr h₀ L h' m → News h₀ L h' (lexLed w.params a c (if chAt x pc = Str.ofString "\n" then ln + 1 else ln) tl' ((pc : Int) + (chAt x pc).length) tp') → Kept s ((lexLed w.params a c ln tl pc tp).map (·.1)) h' →
      Q (.str (chAt x pc) tk) { s with heap := h', toks := tk' }) :
    codeAny (model prog w) (At dp un gd env outer) (.call (.ref 49) ⟨[.ref a.lx], []⟩) (okRes Q) s := by
  have ok' := ok
  obtain ⟨hord, _, _, _⟩ := ok
  obtain ⟨o1, o2, o3, o4, o5, o6, o7, o8, o9, o10, o11, o12⟩ := hord
  refine' enterP (binds := [(Str.ofString "self", .ref a.lx)]) B F N T.nolimit ?kA hf hk ?k6 ?kd ?k7 ?k8 ?k9 ?kB ?_ ?kc ?c2 ?c3 ?c4
  case kA => exact rfl
  case k6 => exact F.keep _ _ (X _ _ (by k_dflt k_is))
  case kd => exact rfl
  case k7 => exact codeRec_of (Frag.In.keeps X F.keep) (by k_dflt k_is)
  case k8 => show dp < 1000; omega
  case k9 => exact BindsTo.of_eq rfl
  case kB => exact locs rfl
  case kc => decide
  case c2 => exact rfl
  case c3 => exact rfl
  case c4 => exact rfl
  intro g' L' h' F' N' B' st' l1 l2
  have X' := Frag.In.keeps X st'
  have T' := T.keeps st'
  refine treeId ?_
  k_fold
  k_steps
  dsimp only
  obtain ⟨qual, doc, pm, ctv, vs, tq, hfr, _, _⟩ := ok'.code
  refine callWith_F (fnAtOf N' (by k_mem) hfr) ?_
  k_steps
  · exact fnAtOf N' (by k_mem) hfr
  clear hfr
  refine ⟨?_⟩
  refine ofNE (read_call B' F' X' N' T' rfl rfl (by show dp + 1 < 900; omega) hx hpc ok' ?_)
  intro tk9 h9 tk9' tp9 F9 N9 K9
  have hch : Txt.slice x (some (pc : Int)) (some ((pc : Int) + 1)) = chAt x pc := rfl
  rw [hch] at N9 ⊢
  generalize chAt x pc = ch at *
  clear F' N' hch
  k_steps
  all_goals (rename (Fr g' _ _ _) => F9)
  all_goals (rename (News g' _ _ _) => N9)
  all_goals (show Stop (BodyEnd h₀ L m s _ g' L' Q _ _))
  all_goals (refine ⟨_, _, F9, N9, fun F1 N1 K1 => ?_⟩)
  · rename ((ch == _) = true) => he
    rw [if_pos (eq_of_beq he)] at ret
    exact ret _ _ _ _ _ F1 N1 K1
  · rename ((ch == _) = false) => he
    rw [if_neg (ne_of_beq_false he)] at ret
    exact ret _ _ _ _ _ F1 N1 K1
end Mine
end
section -- CallIter
open PySem PySem.W PyProof.Rows PySem.Spec PySem.Calls
set_option maxRecDepth 100000
namespace Mine
theorem ci_next : Slot "callable_iterator" "__next__" "callable_iterator.__next__" :=
  .of (owner := "callable_iterator") (n := "__next__") (by rw [typeLookup_type, builtinLookup_eq_fast]; kernel_rfl) (by decide +kernel) (by decide +kernel) (by decide +kernel)
    (by first | exact .inl (by decide +kernel) | exact .inr (by decide +kernel)) (by rw [isSubtype_type]; kernel_rfl)
theorem ci_iter : Slot "callable_iterator" "__iter__" "callable_iterator.__iter__" :=
  .of (owner := "callable_iterator") (n := "__iter__") (by rw [typeLookup_type, builtinLookup_eq_fast]; kernel_rfl) (by decide +kernel) (by decide +kernel) (by decide +kernel)
    (by first | exact .inl (by decide +kernel) | exact .inr (by decide +kernel)) (by rw [isSubtype_type]; kernel_rfl)
theorem entry_ci_next : entryFor table "callable_iterator.__next__" = some Builtin.«callable_iterator.__next__» := entryFor_of_tree (by kernel_rfl)
theorem entry_ci_iter : entryFor table "callable_iterator.__iter__" = some Builtin.«dict_keyiterator.__iter__» :=
  entryFor_alias (id' := "dict_keyiterator.__iter__") (by kernel_rfl) rfl (by decide +kernel) (by kernel_rfl)
theorem args_ci_next (a : Value) : argsOk "callable_iterator.__next__" ⟨[a], []⟩ := by unfold argsOk; kernel_rfl
theorem args_ci_iter (a : Value) : argsOk "callable_iterator.__iter__" ⟨[a], []⟩ := by unfold argsOk; kernel_rfl
abbrev ciObj (f : Value) (t : Tok) : Obj := { cls := .type "callable_iterator", dict := none, data := .fields #[f, .str (Str.ofString "") t, .bool false], slots := #[] }
abbrev ciEnd : Obj := { cls := .type "callable_iterator", dict := none, data := .fields #[.none, .none, .bool true], slots := #[] }
section
variable {prog : Program} {w : World} {A : Around} {E : Value → Shared → Prop} {s : Shared} {it q f lx : Addr} {t : Tok}
theorem wpAny_callBorrowed {M : Model} {g : Value} {pos : List Value} {Q : Value → Shared → Prop}
    (hc : codeAny M A (.call g ⟨pos, []⟩) (fun r s' => match r with | .ok (.ret v) => Q v s' | .ok _ => False | .error e => E e s') s) : wpAny M A (callBorrowed g pos) Q E s := fun Γ p hΓ => by
  unfold callBorrowed
  rw [Sem.wp_call]
  refine wpCode_mono (fun r s' h => ?_) (hc _ p rfl (hΓ.enter (.call g ⟨pos, []⟩) none p (by intro x; cases x)))
  rcases r with e | (v | _ | _ | _) <;> first | exact h | exact h.elim
theorem pyIter_ci {Q : Value → Shared → Prop} {o : Obj} (hit : s.heap.get? it = some o) (hc : o.cls = .type "callable_iterator") (h : Q (.ref it) s) : wpAny (model prog w) A (pyIter (.ref it)) Q E s := by
  have hT : s.TypeIs (.ref it) "callable_iterator" := ⟨_, hit, hc⟩
  refine wpAny_pyIter_slot hT ci_iter (wpAny_call_entry ci_iter hT entry_ci_iter ?_ (args_ci_iter _))
  show wpAny _ _ (ret (.ref it)) _ _ s
  exact wpAny_pure ⟨_, rfl, "callable_iterator", _, hT, ci_next.lookup, h⟩
theorem borrows_method {Q : Bool → Shared → Prop} {fo : Obj} {fd : FuncData} (hq : s.heap.get? q = some (methodObj (.ref f) (.ref lx))) (hf : s.heap.get? f = some fo) (hd : fo.data = .func fd) (h : Q true s) :
    wpAny (model prog w) A (borrowsExactly (.ref q)) Q E s := by
  unfold borrowsExactly
  refine wpAny_bind (wpAny_load hq ?_)
  show wpAny _ _ (if _ then _ else _) _ _ _
  rw [if_pos (by rfl)]
  show wpAny _ _ (load f >>= _) _ _ _
  refine wpAny_bind (wpAny_load hf ?_)
  rw [hd]
  exact wpAny_pure h
theorem next_ci {Q : Option Value → Shared → Prop} {fo : Obj} {fd : FuncData} (hh : A.handled = none) (hit : s.heap.get? it = some (ciObj (.ref q) t)) (hq : s.heap.get? q = some (methodObj (.ref f) (.ref lx))) (hf : s.heap.get? f = some fo) (hd : fo.data = .func fd)
    (hc : codeAny (model prog w) A.in1 (.call (.ref f) ⟨[.ref lx], []⟩) (okRes fun r s₁ => ∃ y tk, r = .str y tk ∧ s₁.heap.get? it = some (ciObj (.ref q) t) ∧ s₁.heap.get? q = some (methodObj (.ref f) (.ref lx)) ∧ s₁.heap.get? f = some fo ∧
      (y ≠ Str.ofString "" → Q (some (.str y tk)) s₁) ∧ (y = Str.ofString "" → ∀ h', h'.get? it = some ciEnd → Heap.ExtBut it s₁.heap h' → Q none { s₁ with heap := h' })) s) :
    wpAny (model prog w) A (pyNext (.ref it)) Q E s := by
  have hT : s.TypeIs (.ref it) "callable_iterator" := ⟨_, hit, rfl⟩
  unfold pyNext
  refine wpAny_bind (wpAny_attempt (wpAny_callSpecial?_slot (name := Str.ofString "__next__") hT ci_next (wpAny_call_entry ci_next hT entry_ci_next ?_ (args_ci_next _))))
  show wpAny _ _ (field (.ref it) 2 >>= _) _ _ s
  refine wpAny_bind (wpAny_field hit rfl (x := .bool false) rfl ?_)
  show wpAny _ _ (field (.ref it) 0 >>= _) _ _ s
  refine wpAny_bind (wpAny_field hit rfl (x := .ref q) rfl ?_)
  refine wpAny_bind (wpAny_attempt ?_)
  unfold callOutOfASlot
  refine wpAny_bind (borrows_method hq hf hd ?_)
  show wpAny _ _ (callBorrowed (.ref q) []) _ _ s
  refine wpAny_callBorrowed (method_call hq (codeAny_mono hc fun r s₁ z => ?_))
  rcases r with e | (_ | _ | _ | v)
  · exact z.elim
  · exact z.elim
  · exact z.elim
  · exact z.elim
  obtain ⟨y, tk, rfl, hit₁, hq₁, hf₁, h1, h2⟩ := z
  show wpAny _ _ (field (.ref it) 2 >>= _) _ _ s₁
  refine wpAny_bind (wpAny_field hit₁ rfl (x := .bool false) rfl ?_)
  show wpAny _ _ (field (.ref it) 1 >>= _) _ _ s₁
  refine wpAny_bind (wpAny_field hit₁ rfl (x := .str (Str.ofString "") t) rfl ?_)
  refine wpAny_bind (wpAny_holding (eqBool_str ?_))
  by_cases hy : y = Str.ofString ""
  · subst hy
    rw [beq_self_eq_true]
    show wpAny _ _ (rule _ >>= _) _ _ s₁
    refine wpAny_bind (wpAny_rule (wpAny_bind ?_))
    show wpAny _ _ (field (.ref it) 0 >>= _) _ _ s₁
    refine wpAny_bind (wpAny_field hit₁ rfl (x := .ref q) rfl ?_)
    refine wpAny_bind ?_
    unfold slotLetsGo
    refine wpAny_bind (borrows_method hq₁ hf₁ hd ?_)
    refine wpAny_pure ?_
    refine wpAny_bind (wpAny_setField_rec hit₁ (by simp) fun h₂ ho₂ hs₂ => ?_)
    refine wpAny_bind (wpAny_setField_rec (s := { s₁ with heap := h₂ }) ho₂ (by simp) fun h₃ ho₃ hs₃ => ?_)
    refine wpAny_setField_rec (s := { s₁ with heap := h₃ }) ho₃ (by simp) fun h₄ ho₄ hs₄ => ?_
    replace hs₂ : Heap.SameBut it s₁.heap h₂ := hs₂
    replace hs₃ : Heap.SameBut it h₂ h₃ := hs₃
    replace hs₄ : Heap.SameBut it h₃ h₄ := hs₄
    replace ho₄ : h₄.get? it = some ciEnd := ho₄
    have hs := (hs₂.trans hs₃).trans hs₄
    show wpAny _ _ (newExc (.type "StopIteration") [] >>= _) _ _ _
    refine wpAny_bind ?_
    simp only [newExc, newTuple]
    refine wpAny_bind (wpAny_newObj_type ?_ (by size_fits))
    refine wpAny_bind (m := firstArgMember _ _) (wpAny_of_eq (a := Value.none) (by first | rfl | (simp only [firstArgMember]; rfl)) ?_)
    refine wpAny_newObj_type ?_ (by size_fits)
    simp only [raiseNew]
    refine wpAny_bind (wpAny_handled ?_)
    rw [show A.in1.handled = none from hh]
    refine wpAny_bind (wpAny_pure (wpAny_throw ?_))
    refine wpAny_bind (wpAny_isInstance (T := "StopIteration") (b := true) ⟨_, Heap.get?_push_size _ rfl, rfl⟩ isSubtype_stop ?_)
    exact wpAny_pure (h2 rfl _ (Heap.get?_push_of_some _ (Heap.get?_push_of_some _ ho₄)) ((hs.extBut.push _).push _))
  · rw [beq_false_of_ne (Ne.symm hy)]
    exact wpAny_pure ⟨_, rfl, wpAny_pure (h1 hy)⟩
end
end Mine
end
section -- Lex3
open PySem PySem.W PyProof.Rows PySem.Spec PySem.Calls
set_option maxRecDepth 100000
namespace Mine
theorem toList_mk (l : List Nat) : (⟨l.toArray⟩ : Str).cps.toList = l := by simp
theorem str_toList {x y : Str} (h : x.cps.toList = y.cps.toList) : x = y := by
  obtain ⟨⟨a⟩⟩ := x; obtain ⟨⟨b⟩⟩ := y
  simp at h; rw [h]
theorem chAt_mid {x : Str} {pre rest : List Nat} {c : Nat} (h : x.cps.toList = pre ++ c :: rest) : chAt x pre.length = ⟨#[c]⟩ := by
  have hl : x.length = pre.length + (rest.length + 1) := by rw [← len_toList, h]; simp
  have e := slice_one_closes (x := x) (n := (pre.length : Int)) (by omega) (by omega)
  rw [show Txt.slice x (some (pre.length : Int)) (some ((pre.length : Int) + 1)) = chAt x pre.length from rfl] at e
  rw [eq_of_beq e, Int.toNat_natCast]
  have : x.cps.getD pre.length 0 = c := by
    have h2 : x.cps.toList[pre.length]? = some c := by rw [h]; simp
    rw [Array.getD_eq_getD_getElem?, ← Array.getElem?_toList, h2]; rfl
  rw [this]
theorem chAt_end (x : Str) : chAt x x.length = Str.ofString "" := by
  apply str_toList
  have h0 : (Str.ofString "").cps.toList = [] := by decide
  rw [h0]
  unfold chAt Txt.slice
  have e : Builtin.Str.strSliceIndices (some (x.length : Int)) (some ((x.length : Int) + 1)) 1 x.length = [] := by
    unfold Builtin.Str.strSliceIndices sliceRange
    simp
    omega
  rw [e]
  by_cases hx : ((1 : Int) == 1 && ([] : List Nat).length == x.length) = true
  · rw [if_pos hx]
    have : x.length = 0 := by simp at hx; omega
    rw [← len_toList] at this
    exact List.length_eq_zero_iff.mp this
  · rw [if_neg hx]; rfl
/-- the reader behind the signs pre -/
abbrev lexAt (P : Params) (a : LexA) (c : LexC) (pre : List Nat) (tl tp : Tok) : List (Addr × Obj) := lexLed P a c (1 + (pre.count 10 : Nat)) tl (pre.length : Nat) tp
def lexAddrs (a : LexA) : List Addr := [a.pb, a.lx, a.dx, a.ds, a.fs, a.fr, a.cr, a.pl, a.cp, a.ct]
theorem readchar_at {prog : Program} {w : World} {p : Program} {loose : List Str} {mean : ExcName → Option Value} {mg mb : Str → Option Value} {dp un : Nat} {gd : Option (List Code)} {env : Env} {outer : List Env} {A₀ : Around} {base h₀ : Heap} {L : Addr} {m : Str → Option Value} {s : Shared}
    {Q : Value → Shared → Prop} {x : Str} {a : LexA} {c : LexC} {pre rest : List Nat} {tl tp : Tok} {own : List (Addr × Obj)}
    (B : Below A₀ base outer h₀) (F : Fr h₀ L s.heap m) (X : (Mine.hd.heap_39 w.params).In h₀) (N : News h₀ L s.heap (lexAt w.params a c pre tl tp ++ own)) (T : Top p loose mean mg mb h₀) (hf : env.frame = some L) (hk : env.scope.kind = .function)
    (hd : dp < 800) (hx : x.length ≤ 1000) (ok : LexOk a c x) (hown : ∀ p ∈ own, p.1 ∉ lexAddrs a) (hpre : x.cps.toList = pre ++ rest)
    (some' : ∀ d r, rest = d :: r → ∀ tk h' tk' tp' tl', Fr h₀ L h' m → News h₀ L h' (lexAt w.params a c (pre ++ [d]) tl' tp' ++ own) → Q (.str ⟨#[d]⟩ tk) { s with heap := h', toks := tk' })
    (none' : rest = [] → ∀ tk h' tk' tp' tl', Fr h₀ L h' m → News h₀ L h' (lexAt w.params a c pre tl' tp' ++ own) → Q (.str (Str.ofString "") tk) { s with heap := h', toks := tk' }) :
    codeAny (model prog w) (At dp un gd env outer) (.call (.ref 49) ⟨[.ref a.lx], []⟩) (okRes Q) s := by
  have hlen : x.length = pre.length + rest.length := by rw [← len_toList, hpre]; simp
  refine readchar_code B F X (newsSub N fun p hp => List.mem_append.mpr (.inl hp)) T hf hk hd hx (by omega) ok fun tk h' tk' tp' tl' F1 N1 K1 => ?_
  have N2 : News h₀ L h' own := keptNews K1 (newsSub N fun p hp => List.mem_append.mpr (.inr hp)) hown
  cases rest with
  | nil =>
    have e : pre.length = x.length := by simp at hlen; omega
    have e1 : chAt x pre.length = Str.ofString "" := by rw [e]; exact chAt_end x
    rw [e1] at N1 ⊢
    refine none' rfl tk h' tk' tp' tl' F1 fun p hp => ?_
    rcases List.mem_append.mp hp with hp | hp
    · have e2 : (if Str.ofString "" = Str.ofString "\n" then (1 : Int) + (pre.count 10 : Nat) + 1 else 1 + (pre.count 10 : Nat)) = 1 + (pre.count 10 : Nat) := if_neg (by decide)
      have e3 : ((pre.length : Nat) : Int) + ((Str.ofString "").length : Nat) = (pre.length : Nat) := by
        have : (Str.ofString "").length = 0 := by decide
        omega
      rw [e2, e3] at N1
      exact N1 p hp
    · exact N2 p hp
  | cons d r =>
    have e1 : chAt x pre.length = ⟨#[d]⟩ := chAt_mid hpre
    rw [e1] at N1 ⊢
    refine some' d r rfl tk h' tk' tp' tl' F1 fun p hp => ?_
    rcases List.mem_append.mp hp with hp | hp
    · have e2 : (if (⟨#[d]⟩ : Str) = Str.ofString "\n" then (1 : Int) + (pre.count 10 : Nat) + 1 else 1 + (pre.count 10 : Nat)) = 1 + ((pre ++ [d]).count 10 : Nat) := by
        have hnl : Str.ofString "\n" = ⟨#[10]⟩ := by decide
        rw [hnl, List.count_append]
        by_cases q : d = 10
        · subst q; rw [if_pos rfl]; simp; omega
        · rw [if_neg (fun e => q (by injection e with e; simpa using e))]
          have : List.count 10 [d] = 0 := by simp [q]
          rw [this]; rfl
      have e3 : ((pre.length : Nat) : Int) + ((⟨#[d]⟩ : Str).length : Nat) = ((pre ++ [d]).length : Nat) := by
        rw [List.length_append]; rfl
      rw [e2, e3] at N1
      exact N1 p hp
    · exact N2 p hp
end Mine
end
section -- Lex4
open PySem PySem.W PyProof.Rows PySem.Spec PySem.Calls
set_option maxRecDepth 100000
set_option maxHeartbeats 8000000
namespace Mine
theorem m_call : Slot "method" "__call__" "method.__call__" :=
  .of (owner := "method") (n := "__call__") (by rw [typeLookup_type, builtinLookup_eq_fast]; kernel_rfl) (by decide +kernel) (by decide +kernel) (by decide +kernel)
    (by first | exact .inl (by decide +kernel) | exact .inr (by decide +kernel)) (by rw [isSubtype_type]; kernel_rfl)
theorem args_iter2 (a b : Value) : argsOk "iter" ⟨[a, b], []⟩ := by unfold argsOk; kernel_rfl
theorem iter_m {prog : Program} {w : World} {A : Around} {E : Value → Shared → Prop} {s : Shared} {h₀ : Heap} {L q : Addr} {m : Str → Option Value} {news : List (Addr × Obj)} {f lx : Value} {t : Tok} {Q : Value → Shared → Prop}
    (F : Fr h₀ L s.heap m) (N : News h₀ L s.heap news) (hq : (q, methodObj f lx) ∈ news)
    (h : ∀ it h', Fr h₀ L h' m → News h₀ L h' ((it, ciObj (.ref q) t) :: news) → (∀ p ∈ news, p.1 < it) → Q (.ref it) { s with heap := h' }) :
    wpAny (model prog w) A (call (.builtin "iter") [.ref q, .str (Str.ofString "") t]) Q E s := by
  refine call_function_entry (by decide +kernel) (by decide +kernel) kdk_entry_iter (args_iter2 _ _) ?_
  show wpAny _ _ (_ >>= _) _ _ _
  refine wpAny_bind (m := someArgs "iter" 1 2 _) (wpAny_of_eq (a := [Value.ref q, .str (Str.ofString "") t]) (by first | rfl | kernel_rfl!) ?_)
  have hT : s.TypeIs (.ref q) "method" := ⟨_, (N _ hq).1, rfl⟩
  show wpAny _ _ (specialOf _ _ >>= _) _ _ _
  refine wpAny_bind ?_
  unfold specialOf
  refine wpAny_bind (wpAny_typeOf hT ?_)
  refine wpAny_of_eq m_call.lookup ?_
  show wpAny _ _ (rule _ >>= _) _ _ s
  refine wpAny_bind (wpAny_rule ?_)
  refine wpAny_bind ?_
  refine wpAny_newObj_type ?_ (by size_fits)
  exact wpAny_pure ⟨_, rfl, h _ _ (F.push _) (N.push F _) fun p hp => Heap.lt_size (N p hp).1⟩
/-- the loop's own things -/
abbrev ciOwn (a : LexA) (q it : Addr) (t : Tok) : List (Addr × Obj) := [(q, methodObj (.ref 49) (.ref a.lx)), (it, ciObj (.ref q) t)]
/-- how a turn ends -/
def CiEnd (h₀ : Heap) (L : Addr) (P : Params) (a : LexA) (c : LexC) (x : Str) (own : List (Addr × Obj)) (J : List Nat → (Str → Option Value) → Prop) (R : Result → Shared → Prop) (pre : List Nat) (s : Shared) (f : Flow) (s₂ : Shared) : Prop :=
  (∃ v, f = .ret v ∧ R (.ok (.ret v)) s₂) ∨ ((f = .next ∨ f = .cont) ∧ ∃ h' tk' m₂ pre' rest' tl tp, s₂ = { s with heap := h', toks := tk' } ∧ Fr h₀ L h' m₂ ∧ News h₀ L h' (lexAt P a c pre' tl tp ++ own) ∧ x.cps.toList = pre' ++ rest' ∧ pre.length < pre'.length ∧ J pre' m₂)
theorem ci_loop {prog : Program} {w : World} {p : Program} {loose : List Str} {mean : ExcName → Option Value} {mg mb : Str → Option Value} {dp un : Nat} {gd : Option (List Code)} {env : Env} {outer : List Env} {A₀ : Around} {base h₀ : Heap} {m : Str → Option Value} {s : Shared}
    {R : Result → Shared → Prop} {x : Str} {a : LexA} {c : LexC} {pre rest : List Nat} {tl tp t : Tok} {q it : Addr} {ch : Str} {px : Pos} {body : List Stmt}
    (B : Below A₀ base outer h₀) (F : Fr h₀ env.locals s.heap m) (X : (Mine.hd.heap_39 w.params).In h₀) (N : News h₀ env.locals s.heap (lexAt w.params a c pre tl tp ++ ciOwn a q it t)) (T : Top p loose mean mg mb h₀) (hf : env.frame = some env.locals) (hk : env.scope.kind = .function)
    (hch : env.kindOf ch = some .local) (hp : (env.scope.kind == .class || (env.scope.kind == .module && env.locals != env.globals)) = false)
    (hd : dp < 800) (hx : x.length ≤ 1000) (ok : LexOk a c x) (hown : ∀ p ∈ ciOwn a q it t, p.1 ∉ lexAddrs a) (hqi : q ≠ it) (hpre : x.cps.toList = pre ++ rest)
    (J : List Nat → (Str → Option Value) → Prop) (h0 : J pre m)
    (turn : ∀ pre d rest tk m₁ h tk' tl tp, x.cps.toList = pre ++ d :: rest → J pre m₁ → Fr h₀ env.locals h (fun y => if y = ch then some (.str ⟨#[d]⟩ tk) else m₁ y) → News h₀ env.locals h (lexAt w.params a c (pre ++ [d]) tl tp ++ ciOwn a q it t) →
      wpAny (model prog w) (At dp un gd env outer) (execs body env) (fun f s₂ => Stop (CiEnd h₀ env.locals w.params a c x (ciOwn a q it t) J R pre s f s₂)) NE { s with heap := h, toks := tk' })
    (done : ∀ m₁ h tk' tl tp, J x.cps.toList m₁ → Fr h₀ env.locals h m₁ → News h₀ env.locals h (lexAt w.params a c x.cps.toList tl tp) → R (.ok .next) { s with heap := h, toks := tk' }) :
    codeAny (model prog w) (At dp un gd env outer) (.forLoop (.Name ch px) (.ref it) body [] env) R s := by
  obtain ⟨fo, fd, h49, hfd⟩ : ∃ fo fd, h₀.get? 49 = some fo ∧ fo.data = .func fd := ⟨_, _, X _ _ (by k_dflt k_is), rfl⟩
  have hpl : pre.length ≤ x.length := by rw [← len_toList, hpre]; simp
  refine codeAny_forLoop
    (fun k s' => ∃ h' tk m' pre rest tl tp, s' = { s with heap := h', toks := tk } ∧ Fr h₀ env.locals h' m' ∧ News h₀ env.locals h' (lexAt w.params a c pre tl tp ++ ciOwn a q it t) ∧ x.cps.toList = pre ++ rest ∧ J pre m' ∧ k = x.length - pre.length)
    ?_ (x.length - pre.length) ⟨_, _, m, pre, rest, tl, tp, rfl, F, N, hpre, h0, rfl⟩
  rintro k s' ⟨H, tk, m', pre, rest, tl, tp, rfl, F', N', hpre, hJ, rfl⟩
  have hq1 : ∀ {h pre tl tp}, News h₀ env.locals h (lexAt w.params a c pre tl tp ++ ciOwn a q it t) → h.get? q = some (methodObj (.ref 49) (.ref a.lx)) := fun N => (N (q, _) (List.mem_append.mpr (.inr (.head _)))).1
  have hi1 : ∀ {h pre tl tp}, News h₀ env.locals h (lexAt w.params a c pre tl tp ++ ciOwn a q it t) → h.get? it = some (ciObj (.ref q) t) := fun N => (N (it, _) (List.mem_append.mpr (.inr (.tail _ (.head _))))).1
  refine next_ci rfl (hi1 N') (hq1 N') (F'.keep _ _ h49) hfd ?_
  refine readchar_at (A₀ := A₀) (un := un + 1) B F' X N' T hf hk hd hx ok hown hpre ?_ ?_
  · intro d r er tk1 h1 tk2 tp1 tl1 F1 N1
    refine ⟨_, _, rfl, hi1 N1, hq1 N1, F1.keep _ _ h49, fun _ => ?_, fun e => absurd e (fun z => by have := congrArg (fun y => y.cps.size) z; revert this; show ¬ (1 = _); decide)⟩
    subst er
    refine wpAny_assign_Name (wpAny_storeName_local hch F1.ns (fun h₃ hn₃ hs₃ => ?_) hp)
    replace hs₃ : Heap.SameBut env.locals h1 h₃ := hs₃
    refine ofNE (wpAny_mono (turn pre d r _ m' h₃ _ _ _ hpre hJ (F1.set hn₃ hs₃) (N1.set hs₃)) (fun f s₃ q => ?_) fun _ _ x => x)
    rcases q.out with ⟨v, rfl, hR⟩ | ⟨hfl, h', tk', m₂, pre', rest', tl, tp, rfl, F₂, N₂, hp', hlt, hJ'⟩
    · exact hR
    · have hpl' : pre'.length ≤ x.length := by rw [← len_toList, hp']; simp
      rcases hfl with rfl | rfl <;>
      exact ⟨x.length - pre'.length, by omega, _, _, m₂, pre', rest', tl, tp, rfl, F₂, N₂, hp', hJ', rfl⟩
  · intro er tk1 h1 tk2 tp1 tl1 F1 N1
    refine ⟨_, _, rfl, hi1 N1, hq1 N1, F1.keep _ _ h49, fun z => absurd rfl z, fun _ h₂ hit₂ hx₂ => wpAny_execs_nil ?_⟩
    subst er
    have hzi := (N1 (it, ciObj (.ref q) t) (List.mem_append.mpr (.inr (.tail _ (.head _))))).2
    have up : ∀ b o, b ≠ it → h1.get? b = some o → h₂.get? b = some o := fun b o hb x => hx₂ b o hb x
    have e : pre = x.cps.toList := by rw [hpre]; simp
    subst e
    refine done m' h₂ _ _ _ hJ (frMoved (fun b => b ≠ it) F1 up (Ne.symm hzi.1) fun b o hb e => by rw [e, hzi.2] at hb; cases hb) (newsMoved (fun b => b ≠ it) (newsSub N1 fun p hp => List.mem_append.mpr (.inl hp)) up fun p hp e => ?_)
    refine hown (it, ciObj (.ref q) t) (.tail _ (.head _)) ?_
    show it ∈ lexAddrs a
    rw [← e]
    exact List.mem_map_of_mem (f := fun (p : Addr × Obj) => p.1) hp
end Mine
end
section -- lines of the walk that several texts share
open PySem PySem.W PyProof.Rows Mine
local macro_rules | `(tactic| walk_at "call builtin:iter") => `(tactic| (k_here; k_dflt (refine' iter_m ?k1 ?k2 ?k3 ?_; (case k1 => k_asm); (case k2 => k_asm); (case k3 => k_mem); k_whole); intro d' h' F' N' l1; (try k_lt l1); (try k_sweep)))
local macro_rules | `(tactic| walk_at "call ref") => `(tactic| refine halt ?_)
local macro_rules | `(tactic| walk_at "pyIter ref") => `(tactic| refine halt ?_)
local macro_rules | `(tactic| walk_at "last pyIter ref") => `(tactic| refine halt ?_)
local macro_rules | `(tactic| walk_at "exec For Name Name cons nil") => `(tactic| ((with_reducible show wpAny _ _ (exec (Stmt.For (Expr.Name (Str.ofString "ch") _) _ _ _ _) _) _ _ _); refine wpAny_For ?_ ?_; rotate_left; (intro _; with_unfolding_all rfl)))
section -- Lex5
open PySem PySem.W PyProof.Rows
set_option maxRecDepth 100000
set_option maxHeartbeats 8000000
namespace Mine
abbrev IsWs (d : Nat) : Prop := d = 10 ∨ d = 9 ∨ d = 13 ∨ d = 32
/-- the rest of a word between marks -/
inductive QR : List Nat → List Nat → List Nat → List Nat → Prop
  | done (acc r : List Nat) : QR acc (34 :: r) acc r
  | esc {acc r tk r' : List Nat} {c : Nat} : QR (acc ++ [c]) r tk r' → QR acc (92 :: c :: r) tk r'
  | chr {acc r tk r' : List Nat} {d : Nat} : d ≠ 34 → d ≠ 92 → QR (acc ++ [d]) r tk r' → QR acc (d :: r) tk r'
/-- the rest of a bare word -/
inductive BR : List Nat → List Nat → List Nat → List Nat → Prop
  | done (acc r : List Nat) {d : Nat} : IsWs d → BR acc (d :: r) acc r
  | esc {acc r tk r' : List Nat} {c : Nat} : BR (acc ++ [c]) r tk r' → BR acc (92 :: c :: r) tk r'
  | chr {acc r tk r' : List Nat} {d : Nat} : ¬ IsWs d → d ≠ 92 → BR (acc ++ [d]) r tk r' → BR acc (d :: r) tk r'
/-- one reading: the signs ahead, the word, what is left -/
inductive TR : List Nat → List Nat → List Nat → Prop
  | ws {r tk r' : List Nat} {d : Nat} : IsWs d → TR r tk r' → TR (d :: r) tk r'
  | quo {r tk r' : List Nat} : QR [] r tk r' → TR (34 :: r) tk r'
  | esc {r tk r' : List Nat} {c : Nat} : BR [c] r tk r' → TR (92 :: c :: r) tk r'
  | chr {r tk r' : List Nat} {d : Nat} : ¬ IsWs d → d ≠ 34 → d ≠ 92 → BR [d] r tk r' → TR (d :: r) tk r'
  | fin : TR [] [] []
theorem ciSwap {h₀ h : Heap} {L it q : Addr} {t : Tok} {a : LexA} {l : List (Addr × Obj)} (N : News h₀ L h ((it, ciObj (.ref q) t) :: (q, methodObj (.ref 49) (.ref a.lx)) :: l)) : News h₀ L h (l ++ ciOwn a q it t) :=
  newsSub N fun p hp => by
    rcases List.mem_append.mp hp with hp | hp
    · exact .tail _ (.tail _ hp)
    · rcases List.mem_cons.mp hp with rfl | hp
      · exact .tail _ (.head _)
      · rw [List.mem_singleton.mp hp]; exact .head _
theorem notIn {a : LexA} {q : Nat} (h : a.pb < q ∧ a.lx < q ∧ a.dx < q ∧ a.ds < q ∧ a.fs < q ∧ a.fr < q ∧ a.cr < q ∧ a.pl < q ∧ a.cp < q ∧ a.ct < q) : q ∉ lexAddrs a := fun hm => by
  obtain ⟨h1, h2, h3, h4, h5, h6, h7, h8, h9, h10⟩ := h
  simp only [lexAddrs, List.mem_cons, List.not_mem_nil, or_false] at hm
  rcases hm with e | e | e | e | e | e | e | e | e | e <;> (have e' : @Eq Nat _ _ := e; omega)
theorem notInTop {a : LexA} {q : Nat} (o : a.Ord) (h : a.pb < q) : q ∉ lexAddrs a := by
  obtain ⟨o1, o2, o3, o4, o5, o6, o7, o8, o9, o10, o11, o12⟩ := o
  exact notIn (by omega)
theorem notInLow {a : LexA} {q : Nat} (o : a.Ord) (h : q < a.ct) (h2 : q ≠ a.cr) : q ∉ lexAddrs a := fun hm => by
  obtain ⟨o1, o2, o3, o4, o5, o6, o7, o8, o9, o10, o11, o12⟩ := o
  have l1 := Nat.lt_trans h o1
  have l2 := Nat.lt_trans l1 o2
  have l3 := Nat.lt_trans l2 o3
  have l5 := Nat.lt_trans l3 o5
  have l6 := Nat.lt_trans l5 o6
  have l7 := Nat.lt_trans l6 o7
  have l8 := Nat.lt_trans l7 o8
  have l9 := Nat.lt_trans l8 o9
  simp only [lexAddrs, List.mem_cons, List.not_mem_nil, or_false] at hm
  rcases hm with e | e | e | e | e | e | e | e | e | e
  · exact Nat.ne_of_lt l9 e
  · exact Nat.ne_of_lt l8 e
  · exact Nat.ne_of_lt l7 e
  · exact Nat.ne_of_lt l6 e
  · exact Nat.ne_of_lt l5 e
  · exact Nat.ne_of_lt l3 e
  · exact h2 e
  · exact Nat.ne_of_lt l2 e
  · exact Nat.ne_of_lt l1 e
  · exact Nat.ne_of_lt h e
theorem notInMid {a : LexA} {q : Nat} (o : a.Ord) (h : a.fr < q) (h2 : q < a.fs) : q ∉ lexAddrs a := fun hm => by
  obtain ⟨o1, o2, o3, o4, o5, o6, o7, o8, o9, o10, o11, o12⟩ := o
  have l3 := Nat.lt_trans o3 h
  have l2 := Nat.lt_trans o2 l3
  have l1 := Nat.lt_trans o1 l2
  have l4 := Nat.lt_trans o4 h
  have l6 := Nat.lt_trans h2 o6
  have l7 := Nat.lt_trans l6 o7
  have l8 := Nat.lt_trans l7 o8
  have l9 := Nat.lt_trans l8 o9
  simp only [lexAddrs, List.mem_cons, List.not_mem_nil, or_false] at hm
  rcases hm with e | e | e | e | e | e | e | e | e | e
  · exact Nat.ne_of_lt l9 e
  · exact Nat.ne_of_lt l8 e
  · exact Nat.ne_of_lt l7 e
  · exact Nat.ne_of_lt l6 e
  · exact Nat.ne_of_lt h2 e
  · exact Nat.ne_of_gt h e
  · exact Nat.ne_of_gt l4 e
  · exact Nat.ne_of_gt l3 e
  · exact Nat.ne_of_gt l2 e
  · exact Nat.ne_of_gt l1 e
theorem chEq (d k : Nat) : ((⟨#[d]⟩ : Str) == ⟨#[k]⟩) = decide (d = k) := by
  by_cases h : d = k
  · subst h; simp
  · rw [decide_eq_false h]
    exact beq_false_of_ne fun e => h (by injection e with e; simpa using e)
theorem wsEq (d : Nat) : (Builtin.Str.occurrences (Str.ofString "\n\t\r ") ⟨#[d]⟩ 0 (Str.ofString "\n\t\r ").length 1).isEmpty = !decide (IsWs d) := by
  rw [empty_one]
  have e : (Str.ofString "\n\t\r ").cps.toList = [10, 9, 13, 32] := by decide
  rw [e]
  congr 1
  apply decide_eq_decide.mpr
  simp [IsWs]
theorem wsYes {d : Nat} (h : (!decide (IsWs d)) = false) : IsWs d := of_decide_eq_true (by rw [Bool.not_eq_false'] at h; exact h)
theorem wsNo {d : Nat} (h : (!decide (IsWs d)) = true) : ¬ IsWs d := of_decide_eq_false (by rw [Bool.not_eq_true'] at h; exact h)
theorem q34 : Str.ofString "\"" = ⟨#[34]⟩ := by decide
theorem q92 : Str.ofString "\\" = ⟨#[92]⟩ := by decide
def clsIn : List Stmt := match PySem.Challenge.pw_re0004_01.main.body.drop 4 with | .ClassDef _ _ _ b _ _ _ _ _ _ _ :: _ => b | _ => []
def gtStmts : List Stmt := match clsIn.drop 2 with | .FunctionDef _ _ b _ _ _ _ _ _ _ :: _ => b | _ => []
def gtScope : Scope := match clsIn.drop 2 with | .FunctionDef _ _ _ _ _ _ sc _ _ _ :: _ => sc | _ => default
def gtFor : List Stmt := match gtStmts.drop 3 with | .For _ _ b _ _ :: _ => b | _ => []
def gtIf : List Stmt × List Stmt := match gtFor.drop 1 with | .If _ b e _ :: _ => (b, e) | _ => ([], [])
def gtQ : List Stmt := match gtIf.1 with | .For _ _ b _ _ :: _ => b | _ => []
def gtB : List Stmt := match gtIf.2.drop 2 with | .For _ _ b _ _ :: _ => b | _ => []
abbrev gtEnv (L : Addr) : Env := envX (Str.ofString "_netrclex.get_token") gtScope L 56 (.ref 55) []
theorem addTok {tok : Str} {acc : List Nat} {d : Nat} (h : tok.cps.toList = acc) : (tok ++ (⟨#[d]⟩ : Str)).cps.toList = acc ++ [d] := by
  show (tok.cps ++ #[d]).toList = _
  rw [Array.toList_append, h]
theorem qLoop {prog : Program} {w : World} {p : Program} {loose : List Str} {mean : ExcName → Option Value} {mg mb : Str → Option Value} {dp un : Nat} {gd : Option (List Code)} {outer : List Env} {A₀ : Around} {base h₀ : Heap} {L : Addr} {m : Str → Option Value} {s : Shared}
    {R : Result → Shared → Prop} {x : Str} {a : LexA} {c : LexC} {pre rest acc wd rest' : List Nat} {tl tp t tt : Tok} {q it : Addr} {px : Pos} {tok : Str}
    (B : Below A₀ base outer h₀) (F : Fr h₀ L s.heap m) (X : (Mine.hd.heap_39 w.params).In h₀) (N : News h₀ L s.heap (lexAt w.params a c pre tl tp ++ ciOwn a q it t)) (T : Top p loose mean mg mb h₀)
    (hd : dp < 750) (hx : x.length ≤ 1000) (ok : LexOk a c x) (hown : ∀ p ∈ ciOwn a q it t, p.1 ∉ lexAddrs a) (hqi : q ≠ it) (hpre : x.cps.toList = pre ++ rest)
    (hR : QR acc rest wd rest') (hacc : tok.cps.toList = acc) (hal : acc.length ≤ pre.length) (hH : Has m [(Str.ofString "token", .str tok tt), (Str.ofString "self", .ref a.lx)])
    (ret : ∀ pre' t' h' tk' m' tl' tp', Fr h₀ L h' m' → News h₀ L h' (lexAt w.params a c pre' tl' tp' ++ ciOwn a q it t) → x.cps.toList = pre' ++ rest' → R (.ok (.ret (.str ⟨wd.toArray⟩ t'))) { s with heap := h', toks := tk' }) :
    codeAny (model prog w) (At dp un gd (gtEnv L) outer) (.forLoop (.Name (Str.ofString "ch") px) (.ref it) gtQ [] (gtEnv L)) R s := by
  refine ci_loop B F X N T rfl rfl rfl rfl (by omega) hx ok hown hqi hpre
    (fun pre m => ∃ rest acc tok tt, x.cps.toList = pre ++ rest ∧ QR acc rest wd rest' ∧ tok.cps.toList = acc ∧ acc.length ≤ pre.length ∧ Has m [(Str.ofString "token", .str tok tt), (Str.ofString "self", .ref a.lx)])
    ⟨rest, acc, tok, tt, hpre, hR, hacc, hal, hH⟩ ?_ ?_
  · rintro pre2 d rest2 tk2 m2 h2 tk2' tl2 tp2 hpre2 ⟨rest3, acc3, tok3, tt3, hp3, hR3, hacc3, hal3, hH3⟩ F7 N7
    have F8 : Fr h₀ L h2 _ := frPutsX F7 hH3
    clear F7
    replace N7 : News h₀ L h2 _ := N7
    obtain rfl : d :: rest2 = rest3 := List.append_cancel_left (hpre2.symm.trans hp3)
    have hl1 : tok3.length ≤ 1000 := by
      rw [← len_toList, hacc3]
      have : x.length = pre2.length + (rest2.length + 1) := by rw [← len_toList, hpre2]; simp
      omega
    have N7' := N7
    simp only [lexAt, lexLed, ciOwn, List.cons_append, List.nil_append] at N7
    have e1 : gtScope = ⟨_, _, _, _, _⟩ := rfl
    have e2 : gtQ = _ :: _ := rfl
    show wpAny _ _ _ (fun f s₂ => Stop (CiEnd h₀ L w.params a c x (ciOwn a q it t) _ R pre2 s f s₂)) NE _
    unfold gtEnv
    rw [e1, e2]
    clear e1 e2
    obtain ⟨o1, o2, o3, o4, o5, o6, o7, o8, o9, o10, o11, o12⟩ := ok.ord
    refine treeId ?_
    k_fold
    k_steps
    · rename (((⟨#[d]⟩ : Str) == Str.ofString "\"") = true) => he
      rw [q34, chEq] at he
      replace he : d = 34 := by simpa using he
      show Stop _
      refine ⟨.inl ⟨_, rfl, ?_⟩⟩
      cases hR3 with
      | done => exact (by rw [show tok3 = ⟨wd.toArray⟩ from str_toList (by rw [hacc3])]; exact ret (pre2 ++ [_]) _ _ _ _ _ _ F8 N7' (by rw [hpre2]; simp))
      | esc _ => exact absurd he (by decide)
      | chr h34 _ _ => exact absurd he h34
    · rename (((⟨#[d]⟩ : Str) == Str.ofString "\\") = true) => he
      rw [q92, chEq] at he
      replace he : d = 92 := by simpa using he
      subst he
      cases hR3 with
      | chr _ h92 _ => exact absurd rfl h92
      | @esc _ r _ _ c3 hR4 =>
        refine ⟨?_⟩
        refine ofNE ?_
        refine wpAny_call (readchar_at B F8 X N7' T rfl rfl (by omega) hx ok hown (show x.cps.toList = (pre2 ++ [92]) ++ (c3 :: r) by rw [hpre2]; simp) ?_ ?_)
        · intro d5 r5 er tk5 h5 tk5' tp5 tl5 F5 N5
          obtain ⟨rfl, rfl⟩ := List.cons.inj er
          clear F8 N7 N7' er
          k_steps
          rename (Fr h₀ _ _ _) => F9
          rename (News h₀ _ _ _) => N9
          refine ⟨.inr ⟨.inl rfl, _, _, _, _, r, _, _, rfl, F9, N9, ?_, ?_, r, _, _, _, ?_, hR4, addTok hacc3, ?_, has_cons rfl (has_cons rfl has_nil)⟩⟩
          · rw [hpre2]; simp
          · simp <;> omega
          · rw [hpre2]; simp
          · simp <;> omega
        · intro er; cases er
    · rename (((⟨#[d]⟩ : Str) == Str.ofString "\\") = false) => he
      rw [q92, chEq] at he
      replace he : d ≠ 92 := by simpa using he
      rename (((⟨#[d]⟩ : Str) == Str.ofString "\"") = false) => he2
      rw [q34, chEq] at he2
      replace he2 : d ≠ 34 := by simpa using he2
      rename (Fr h₀ _ _ _) => F9
      rename (News h₀ _ _ _) => N9
      cases hR3 with
      | done => exact absurd rfl he2
      | esc _ => exact absurd rfl he
      | chr _ _ hR4 =>
        refine ⟨.inr ⟨.inl rfl, _, _, _, _, rest2, _, _, rfl, F9, N9, ?_, ?_, rest2, _, _, _, ?_, hR4, addTok hacc3, ?_, has_cons rfl (has_cons rfl has_nil)⟩⟩
        · rw [hpre2]; simp
        · simp
        · rw [hpre2]; simp
        · simp <;> omega
  · rintro m1 h1 tk1 tl1 tp1 ⟨rest3, acc3, tok3, tt3, hp3, hR3, _⟩
    have e : rest3 = [] := by simpa using hp3
    rw [e] at hR3
    cases hR3
theorem bLoop {prog : Program} {w : World} {p : Program} {loose : List Str} {mean : ExcName → Option Value} {mg mb : Str → Option Value} {dp un : Nat} {gd : Option (List Code)} {outer : List Env} {A₀ : Around} {base h₀ : Heap} {L : Addr} {m : Str → Option Value} {s : Shared}
    {R : Result → Shared → Prop} {x : Str} {a : LexA} {c : LexC} {pre rest acc wd rest' : List Nat} {tl tp t tt : Tok} {q it : Addr} {px : Pos} {tok : Str}
    (B : Below A₀ base outer h₀) (F : Fr h₀ L s.heap m) (X : (Mine.hd.heap_39 w.params).In h₀) (N : News h₀ L s.heap (lexAt w.params a c pre tl tp ++ ciOwn a q it t)) (T : Top p loose mean mg mb h₀)
    (hd : dp < 750) (hx : x.length ≤ 1000) (ok : LexOk a c x) (hown : ∀ p ∈ ciOwn a q it t, p.1 ∉ lexAddrs a) (hqi : q ≠ it) (hpre : x.cps.toList = pre ++ rest)
    (hR : BR acc rest wd rest') (hacc : tok.cps.toList = acc) (hal : acc.length ≤ pre.length) (hH : Has m [(Str.ofString "token", .str tok tt), (Str.ofString "self", .ref a.lx)])
    (ret : ∀ pre' t' h' tk' m' tl' tp', Fr h₀ L h' m' → News h₀ L h' (lexAt w.params a c pre' tl' tp' ++ ciOwn a q it t) → x.cps.toList = pre' ++ rest' → R (.ok (.ret (.str ⟨wd.toArray⟩ t'))) { s with heap := h', toks := tk' }) :
    codeAny (model prog w) (At dp un gd (gtEnv L) outer) (.forLoop (.Name (Str.ofString "ch") px) (.ref it) gtB [] (gtEnv L)) R s := by
  refine ci_loop B F X N T rfl rfl rfl rfl (by omega) hx ok hown hqi hpre
    (fun pre m => ∃ rest acc tok tt, x.cps.toList = pre ++ rest ∧ BR acc rest wd rest' ∧ tok.cps.toList = acc ∧ acc.length ≤ pre.length ∧ Has m [(Str.ofString "token", .str tok tt), (Str.ofString "self", .ref a.lx)])
    ⟨rest, acc, tok, tt, hpre, hR, hacc, hal, hH⟩ ?_ ?_
  · rintro pre2 d rest2 tk2 m2 h2 tk2' tl2 tp2 hpre2 ⟨rest3, acc3, tok3, tt3, hp3, hR3, hacc3, hal3, hH3⟩ F7 N7
    have F8 : Fr h₀ L h2 _ := frPutsX F7 hH3
    clear F7
    replace N7 : News h₀ L h2 _ := N7
    obtain rfl : d :: rest2 = rest3 := List.append_cancel_left (hpre2.symm.trans hp3)
    have hl1 : tok3.length ≤ 1000 := by
      rw [← len_toList, hacc3]
      have : x.length = pre2.length + (rest2.length + 1) := by rw [← len_toList, hpre2]; simp
      omega
    have N7' := N7
    simp only [lexAt, lexLed, ciOwn, List.cons_append, List.nil_append] at N7
    have e1 : gtScope = ⟨_, _, _, _, _⟩ := rfl
    have e2 : gtB = _ :: _ := rfl
    show wpAny _ _ _ (fun f s₂ => Stop (CiEnd h₀ L w.params a c x (ciOwn a q it t) _ R pre2 s f s₂)) NE _
    unfold gtEnv
    rw [e1, e2]
    clear e1 e2
    obtain ⟨o1, o2, o3, o4, o5, o6, o7, o8, o9, o10, o11, o12⟩ := ok.ord
    refine treeId ?_
    k_fold
    k_steps
    · rename (((⟨#[d]⟩ : Str) == Str.ofString "\\") = true) => he
      rw [q92, chEq] at he
      replace he : d = 92 := by simpa using he
      subst he
      cases hR3 with
      | done _ _ hw => exact absurd hw (by decide)
      | chr _ h92 _ => exact absurd rfl h92
      | @esc _ r _ _ c3 hR4 =>
        refine ⟨?_⟩
        refine ofNE ?_
        refine wpAny_call (readchar_at B F8 X N7' T rfl rfl (by omega) hx ok hown (show x.cps.toList = (pre2 ++ [92]) ++ (c3 :: r) by rw [hpre2]; simp) ?_ ?_)
        · intro d5 r5 er tk5 h5 tk5' tp5 tl5 F5 N5
          obtain ⟨rfl, rfl⟩ := List.cons.inj er
          clear F8 N7 N7' er
          k_steps
          rename (Fr h₀ _ _ _) => F9
          rename (News h₀ _ _ _) => N9
          refine ⟨.inr ⟨.inl rfl, _, _, _, _, r, _, _, rfl, F9, N9, ?_, ?_, r, _, _, _, ?_, hR4, addTok hacc3, ?_, has_cons rfl (has_cons rfl has_nil)⟩⟩
          · rw [hpre2]; simp
          · simp <;> omega
          · rw [hpre2]; simp
          · simp <;> omega
        · intro er; cases er
    · rename (((⟨#[d]⟩ : Str) == Str.ofString "\\") = false) => he
      rw [q92, chEq] at he
      replace he : d ≠ 92 := by simpa using he
      rename ((Builtin.Str.occurrences _ _ _ _ _).isEmpty = true) => he2
      rw [wsEq] at he2
      replace he2 : ¬ IsWs d := wsNo he2
      rename (Fr h₀ _ _ _) => F9
      rename (News h₀ _ _ _) => N9
      cases hR3 with
      | done _ _ hw => exact absurd hw he2
      | esc _ => exact absurd rfl he
      | chr _ _ hR4 =>
        refine ⟨.inr ⟨.inl rfl, _, _, _, _, rest2, _, _, rfl, F9, N9, ?_, ?_, rest2, _, _, _, ?_, hR4, addTok hacc3, ?_, has_cons rfl (has_cons rfl has_nil)⟩⟩
        · rw [hpre2]; simp
        · simp
        · rw [hpre2]; simp
        · simp <;> omega
    · rename ((Builtin.Str.occurrences _ _ _ _ _).isEmpty = false) => he
      rw [wsEq] at he
      replace he : IsWs d := wsYes he
      show Stop _
      refine ⟨.inl ⟨_, rfl, ?_⟩⟩
      cases hR3 with
      | done => exact (by rw [show tok3 = ⟨wd.toArray⟩ from str_toList (by rw [hacc3])]; exact ret (pre2 ++ [_]) _ _ _ _ _ _ F8 N7' (by rw [hpre2]; simp))
      | esc _ => exact absurd he (by decide)
      | chr h34 _ _ => exact absurd he h34
  · rintro m1 h1 tk1 tl1 tp1 ⟨rest3, acc3, tok3, tt3, hp3, hR3, _⟩
    have e : rest3 = [] := by simpa using hp3
    rw [e] at hR3
    cases hR3
end Mine
end
section -- Lex6
open PySem PySem.W PyProof.Rows
set_option maxRecDepth 100000
set_option maxHeartbeats 8000000
namespace Mine
local macro_rules | `(tactic| walk_at "idle") => `(tactic| fail)
theorem inOwnI {l : List (Addr × Obj)} {a : LexA} {q it : Addr} {t : Tok} : (it, ciObj (.ref q) t) ∈ l ++ ciOwn a q it t := List.mem_append.mpr (.inr (.tail _ (.head _)))
theorem token_code {prog : Program} {w : World} {p : Program} {loose : List Str} {mean : ExcName → Option Value} {mg mb : Str → Option Value} {dp un : Nat} {gd : Option (List Code)} {env : Env} {outer : List Env} {A₀ : Around} {base h₀ : Heap} {L : Addr} {m : Str → Option Value} {s : Shared}
    {Q : Value → Shared → Prop} {x : Str} {a : LexA} {c : LexC} {pre rest wd rest' : List Nat} {tl tp : Tok}
    (B : Below A₀ base outer h₀) (F : Fr h₀ L s.heap m) (X : (Mine.hd.heap_39 w.params).In h₀) (N : News h₀ L s.heap (lexAt w.params a c pre tl tp)) (T : Top p loose mean mg mb h₀) (hf : env.frame = some L) (hk : env.scope.kind = .function)
    (hd : dp < 700) (hx : x.length ≤ 1000) (ok : LexOk a c x) (hpre : x.cps.toList = pre ++ rest) (hTR : TR rest wd rest')
    (ret : ∀ pre' t h' tk' tp' tl', Fr h₀ L h' m → News h₀ L h' (lexAt w.params a c pre' tl' tp') → Kept s (lexAddrs a) h' → x.cps.toList = pre' ++ rest' →
      Q (.str ⟨wd.toArray⟩ t) { s with heap := h', toks := tk' }) :
    codeAny (model prog w) (At dp un gd env outer) (.call (.ref 56) ⟨[.ref a.lx], []⟩) (okRes Q) s := by
  have ok' := ok
  obtain ⟨hord, _, _, _⟩ := ok
  obtain ⟨o1, o2, o3, o4, o5, o6, o7, o8, o9, o10, o11, o12⟩ := hord
  refine' enterP (binds := [(Str.ofString "self", .ref a.lx)]) B F N T.nolimit ?kA hf hk ?k6 ?kd ?k7 ?k8 ?k9 ?kB ?_ ?kc ?c2 ?c3 ?c4
  case kA => exact rfl
  case k6 => exact F.keep _ _ (X _ _ (by k_dflt k_is))
  case kd => exact rfl
  case k7 => exact codeRec_of (Frag.In.keeps X F.keep) (by k_dflt k_is)
  case k8 => show dp < 1000; omega
  case k9 => exact BindsTo.of_eq rfl
  case kB => exact locs rfl
  case kc => decide
  case c2 => exact rfl
  case c3 => exact rfl
  case c4 => exact rfl
  intro g' L' h' F' N' B' st' l1 l2
  have X' := Frag.In.keeps X st'
  have T' := T.keeps st'
  refine treeId ?_
  k_fold
  k_steps
  rename (News g' _ _ _) => N5
  rename (Fr g' _ _ _) => F5
  clear N F
  refine ⟨pyIter_ci (N5 _ (.head _)).1 rfl ?_⟩
  have N6 := ciSwap N5
  rename_i q1 hA l9q it hB l9 hC
  have hown : ∀ t, ∀ q ∈ ciOwn a q1 it t, q.1 ∉ lexAddrs a := fun t q hq => by
    rcases List.mem_cons.mp hq with e | hq
    · rw [e]; exact notIn l9q
    · rw [List.mem_singleton.mp hq]; exact notIn l9.2
  refine ci_loop B' F5 X' N6 T' rfl rfl rfl rfl (show dp + 1 < 800 by omega) hx ok' (hown _) ?_ hpre
    (fun pre m => ∃ rest tt, x.cps.toList = pre ++ rest ∧ TR rest wd rest' ∧ Has m [(Str.ofString "token", .str (Str.ofString "") tt), (Str.ofString "self", .ref a.lx), (Str.ofString "fiter", .ref it)])
    ⟨rest, _, hpre, hTR, has_cons rfl (has_cons rfl (has_cons rfl has_nil))⟩ ?_ ?_
  · exact neN (Nat.ne_of_lt l9.1)
  · rintro pre2 d rest2 tk2 m2 h2 tk2' tl2 tp2 hpre2 ⟨rest3, tt, hp3, hT3, hH⟩ F7 N7
    have F8 : Fr g' L' h2 _ := frPutsX F7 hH
    clear F7
    replace N7 : News g' L' h2 _ := N7
    obtain rfl : d :: rest2 = rest3 := List.append_cancel_left (hpre2.symm.trans hp3)
    have N7' := N7
    simp only [lexAt, lexLed, ciOwn, List.cons_append, List.nil_append] at N7
    refine treeId ?_
    k_fold
    k_steps
    · refine ⟨pyIter_ci (N7' _ inOwnI).1 rfl ?_⟩
      rename (((⟨#[d]⟩ : Str) == Str.ofString "\"") = true) => he
      rw [q34, chEq] at he
      replace he : d = 34 := by simpa using he
      subst he
      cases hT3 with
      | ws hw _ => exact absurd hw (by decide)
      | chr _ h34 _ _ => exact absurd rfl h34
      | quo hQ =>
        exact qLoop B' F8 X' N7' T' (show dp + 1 < 750 by omega) hx ok' (hown _) (neN (Nat.ne_of_lt l9.1)) (show x.cps.toList = (pre2 ++ [34]) ++ rest2 by rw [hpre2]; simp) hQ (by decide) (Nat.zero_le _) (has_cons rfl (has_cons rfl has_nil))
          fun pre' t' h' tk' m' tl' tp' F1 N1 hp1 => ⟨.inl ⟨_, rfl, ⟨_, _, F1, newsSub N1 fun p hp => List.mem_append.mpr (.inl hp), fun F2 N2 K2 => ret _ _ _ _ _ _ F2 N2 K2 hp1⟩⟩⟩
    · rename (((⟨#[d]⟩ : Str) == Str.ofString "\\") = true) => he
      rw [q92, chEq] at he
      replace he : d = 92 := by simpa using he
      subst he
      cases hT3 with
      | ws hw _ => exact absurd hw (by decide)
      | chr _ _ h92 _ => exact absurd rfl h92
      | @esc r _ _ c3 hB3 =>
        refine ⟨?_⟩
        refine ofNE ?_
        refine wpAny_call (readchar_at B' F8 X' N7' T' rfl rfl (show dp + 1 < 800 by omega) hx ok' (hown _) (show x.cps.toList = (pre2 ++ [92]) ++ (c3 :: r) by rw [hpre2]; simp) ?_ ?_)
        · intro d5 r5 er tk5 h5 tk5' tp5 tl5 F5 N5
          obtain ⟨rfl, rfl⟩ := List.cons.inj er
          clear F8 N7 N7' er
          k_steps
          rename (Fr g' _ _ _) => F9
          rename (News g' _ _ _) => N9
          refine ⟨pyIter_ci (N9 _ inOwnI).1 rfl ?_⟩
          exact bLoop B' F9 X' N9 T' (show dp + 1 < 750 by omega) hx ok' (hown _) (neN (Nat.ne_of_lt l9.1)) (show x.cps.toList = ((pre2 ++ [92]) ++ [c3]) ++ r by rw [hpre2]; simp) hB3 (addTok (acc := []) (by decide)) (by simp) (has_cons rfl (has_cons rfl has_nil))
            fun pre' t' h' tk' m' tl' tp' F1 N1 hp1 => ⟨.inl ⟨_, rfl, ⟨_, _, F1, newsSub N1 fun p hp => List.mem_append.mpr (.inl hp), fun F2 N2 K2 => ret _ _ _ _ _ _ F2 N2 K2 hp1⟩⟩⟩
        · intro er; cases er
    · rename (((⟨#[d]⟩ : Str) == Str.ofString "\\") = false) => he
      rw [q92, chEq] at he
      replace he : d ≠ 92 := by simpa using he
      rename (((⟨#[d]⟩ : Str) == Str.ofString "\"") = false) => he2
      rw [q34, chEq] at he2
      replace he2 : d ≠ 34 := by simpa using he2
      rename ((Builtin.Str.occurrences _ _ _ _ _).isEmpty = true) => he3
      rw [wsEq] at he3
      replace he3 : ¬ IsWs d := wsNo he3
      rename (Fr g' _ _ _) => F9
      rename (News g' _ _ _) => N9
      refine ⟨pyIter_ci (N9 _ inOwnI).1 rfl ?_⟩
      cases hT3 with
      | ws hw _ => exact absurd hw he3
      | quo _ => exact absurd rfl he2
      | esc _ => exact absurd rfl he
      | chr _ _ _ hB3 =>
        exact bLoop B' F9 X' N9 T' (show dp + 1 < 750 by omega) hx ok' (hown _) (neN (Nat.ne_of_lt l9.1)) (show x.cps.toList = (pre2 ++ [d]) ++ rest2 by rw [hpre2]; simp) hB3 (addTok (acc := []) (by decide)) (by simp) (has_cons rfl (has_cons rfl has_nil))
            fun pre' t' h' tk' m' tl' tp' F1 N1 hp1 => ⟨.inl ⟨_, rfl, ⟨_, _, F1, newsSub N1 fun p hp => List.mem_append.mpr (.inl hp), fun F2 N2 K2 => ret _ _ _ _ _ _ F2 N2 K2 hp1⟩⟩⟩
    · rename ((Builtin.Str.occurrences _ _ _ _ _).isEmpty = false) => he3
      rw [wsEq] at he3
      replace he3 : IsWs d := wsYes he3
      show Stop _
      cases hT3 with
      | ws _ hT4 =>
        exact ⟨.inr ⟨.inr rfl, _, _, _, pre2 ++ [d], rest2, _, _, rfl, F8, N7', by rw [hpre2]; simp, by simp, rest2, _, by rw [hpre2]; simp, hT4, has_cons rfl (has_cons rfl (has_cons rfl has_nil))⟩⟩
      | quo _ => exact absurd he3 (by decide)
      | esc _ => exact absurd he3 (by decide)
      | chr h3 _ _ _ => exact absurd he3 h3
  · rintro m1 h1 tk1 tl1 tp1 ⟨rest3, tt, hp3, hT3, hH⟩ F7 N7
    have e : rest3 = [] := by simpa using hp3
    subst e
    have F8 : Fr g' L' h1 _ := frPuts F7 hH
    replace N7 : News g' L' h1 _ := N7
    clear F7
    cases hT3
    dsimp only
    k_steps
    show Stop _
    exact ⟨_, _, F8, N7, fun F2 N2 K2 => ret _ _ _ _ _ _ F2 N2 K2 (by simp)⟩
end Mine
end
end
section -- Rd1
open PySem PySem.W PyProof.Rows
set_option maxRecDepth 100000
set_option maxHeartbeats 8000000
namespace Mine
/-- reading on: the words, each with what is left behind it -/
inductive RD : List Nat → List (List Nat × List Nat) → List Nat → Prop
  | nil (l : List Nat) : RD l [] l
  | cons {l wd l' : List Nat} {ws : List (List Nat × List Nat)} {e : List Nat} : TR l wd l' → RD l' ws e → RD l ((wd, l') :: ws) e
/-- what is told of one word -/
def readDat (x : Str) (q : List Nat × List Nat) : Dat := .tuple [.str ⟨q.1.toArray⟩, .int (1 + ((x.cps.toList.count 10 - q.2.count 10 : Nat) : Int))]
def rngIn : List Stmt × Scope := match PySem.Challenge.pw_re0004_01.main.body.drop 6 with | .FunctionDef _ _ b _ _ _ sc _ _ _ :: _ => (b, sc) | _ => ([], default)
def rngScope : Scope := rngIn.2
def rngFor : List Stmt := match rngIn.1.drop 6 with | .For _ _ b _ _ :: _ => b | _ => []
abbrev rngEnv (L : Addr) : Env := envOfC (Str.ofString "_law_reading") rngScope L 77 (.ref 76)
local macro_rules | `(tactic| walk_at "call ref") => `(tactic| refine halt ?_)
theorem swapNews {h₀ h : Heap} {L : Addr} {q : Addr × Obj} {A B C D : List (Addr × Obj)} (N : News h₀ L h ((q :: (B ++ (A ++ C))) ++ D)) : News h₀ L h (q :: (A ++ (B ++ (C ++ D)))) := newsSub N fun p hp => by
  simp only [List.mem_append, List.mem_cons] at hp ⊢
  rcases hp with hp | hp | hp | hp | hp <;> simp [hp]
theorem swapBack {h₀ h : Heap} {L : Addr} {q q' : Addr × Obj} {A B C D : List (Addr × Obj)} (N : News h₀ L h (q' :: q :: (A ++ (B ++ (C ++ D))))) : News h₀ L h ((q :: ((q' :: B) ++ (A ++ C))) ++ D) := newsSub N fun p hp => by
  simp only [List.mem_append, List.mem_cons] at hp ⊢
  rcases hp with (hp | (hp | hp) | hp | hp) | hp <;> simp [hp]
theorem rng_loop {prog : Program} {w : World} {p : Program} {loose : List Str} {mean : ExcName → Option Value} {mg mb : Str → Option Value} {dp un : Nat} {gd : Option (List Code)} {outer : List Env} {A₀ : Around} {base h₀ : Heap} {L : Addr} {m : Str → Option Value} {s : Shared}
    {R : Result → Shared → Prop} {E : Value → Shared → Prop} {x : Str} {a : LexA} {c : LexC} {ws : List (List Nat × List Nat)} {e : List Nat} {tl tp t u v : Tok} {TD r : Addr} {px : Pos} {rest : List (Addr × Obj)}
    (B : Below A₀ base outer h₀) (F : Fr h₀ L s.heap m) (X : (Mine.hd.heap_39 w.params).In h₀) (N : News h₀ L s.heap ((TD, listOf #[] 0) :: (lexAt w.params a c [] tl tp ++ rest))) (T : Top p loose mean mg mb h₀)
    (hd : dp < 600) (hx : x.length ≤ 1000) (ok : LexOk a c x) (hr : IsRange s.heap r 0 (ws.length : Nat) 1 t u v) (hw : ws.length ≤ 100)
    (hrest : a.Ord → ∀ p ∈ rest, p.1 ≠ TD ∧ p.1 ∉ lexAddrs a) (hTD : @LT.lt Nat _ a.pb TD) (hH : Has m [(Str.ofString "told", .ref TD), (Str.ofString "lexer", .ref a.lx)]) (hRD : RD x.cps.toList ws e)
    (done : ∀ m' h tk vs n tups tl tp pre, Fr h₀ L h m' → Has m' [(Str.ofString "told", .ref TD), (Str.ofString "lexer", .ref a.lx)] → News h₀ L h ((TD, listOf vs.toArray n) :: (tups ++ (lexAt w.params a c pre tl tp ++ rest))) →
      DatAll tups vs (ws.map (readDat x)) → x.cps.toList = pre ++ e → R (.ok .next) { s with heap := h, toks := tk }) :
    wpAny (model prog w) (At dp un gd (rngEnv L) outer) (pyIter (.ref r)) (fun it s₂ => codeAny (model prog w) (At dp un gd (rngEnv L) outer) (.forLoop (.Name (Str.ofString "at") px) it rngFor [] (rngEnv L)) R s₂) E s := by
  have hsz : ∀ p ∈ lexAt w.params a c [] tl tp, p.1 ∈ lexAddrs a := fun p hp => List.mem_map_of_mem (f := fun (p : Addr × Obj) => p.1) hp
  replace hrest := hrest ok.ord
  have o := ok.ord
  obtain ⟨o1, o2, o3, o4, o5, o6, o7, o8, o9, o10, o11, o12⟩ := o
  refine range_loop (h₀ := h₀) (env := rngEnv L) (n := ws.length) rfl rfl rfl hr (small_of (by omega) (by omega)) (size_of (by omega)) F N
    (fun i m nx => ∃ (vs : List Value) (n' : Nat) (tups : List (Addr × Obj)) (pre l : List Nat) (tl tp : Tok), nx = (TD, listOf vs.toArray n') :: (tups ++ (lexAt w.params a c pre tl tp ++ rest)) ∧ (∀ p ∈ tups, p.1 ≠ TD ∧ p.1 ∉ lexAddrs a) ∧
      x.cps.toList = pre ++ l ∧ RD l (ws.drop i) e ∧ DatAll tups vs ((ws.take i).map (readDat x)) ∧ Has m [(Str.ofString "told", .ref TD), (Str.ofString "lexer", .ref a.lx)])
    ⟨[], 0, [], [], x.cps.toList, tl, tp, rfl, fun _ h => (nomatch h), rfl, hRD, .nil, hH⟩ ?_ ?_
  · rintro i t1 m1 nx h7 tk7 own hi ⟨vs, n', tups, pre, l, tl, tp, rfl, htu, hpre, hl, hdat, hH7⟩ hown F7 N7
    have F8 : Fr h₀ L h7 _ := frPutsX F7 hH7
    clear F7
    have e0 : ws.drop i = ws[i] :: ws.drop (i + 1) := List.drop_eq_getElem_cons hi
    rw [e0] at hl
    generalize hq : ws[i] = q at hl
    cases hl with
    | @cons _ wd l' _ _ hTR hRD' =>
    have hvl : vs.length ≤ 100 := by
      rw [hdat.length, List.length_map, List.length_take]; omega
    have hM : ∀ p ∈ tups ++ (rest ++ own), p.1 ≠ TD ∧ p.1 ∉ lexAddrs a := fun p hp => by
      rcases List.mem_append.mp hp with hp | hp
      · exact htu p hp
      rcases List.mem_append.mp hp with hp | hp
      · exact hrest p hp
      refine ⟨fun z => hown (TD, _) (.head _) p hp z.symm, fun z => ?_⟩
      obtain ⟨b, hb, e⟩ := List.mem_map.mp (show p.1 ∈ (lexAt w.params a c pre tl tp).map (·.1) from z)
      exact hown b (.tail _ (List.mem_append.mpr (.inr (List.mem_append.mpr (.inl hb))))) p hp e
    have hM2 : ∀ p ∈ tups ++ (rest ++ own), p.1 ≠ TD := fun p hp => (hM p hp).1
    have N8 : News h₀ L h7 ((TD, listOf vs.toArray n') :: (lexAt w.params a c pre tl tp ++ (tups ++ (rest ++ own)))) := swapNews N7
    clear N7
    have NL : Stop (News h₀ L h7 (lexAt w.params a c pre tl tp)) := ⟨newsSub N8 fun p hp => .tail _ (List.mem_append.mpr (.inl hp))⟩
    have NO : Stop (News h₀ L h7 ((TD, listOf vs.toArray n') :: (tups ++ (rest ++ own)))) := ⟨newsSub N8 fun p hp => by
      rcases List.mem_cons.mp hp with rfl | hp
      · exact .head _
      · exact .tail _ (List.mem_append.mpr (.inr hp))⟩
    simp only [lexAt, lexLed, List.cons_append, List.nil_append] at N8
    have e1 : rngScope = ⟨_, _, _, _, _⟩ := rfl
    have e2 : rngFor = _ :: _ := rfl
    show wpAny _ _ _ (fun f s₂ => Stop (TurnEnd h₀ L _ own s f s₂)) NE _
    unfold rngEnv
    rw [e1, e2]
    clear e1 e2
    refine treeId ?_
    k_fold
    k_steps
    refine ⟨ofNE (wpAny_call (token_code B F8 X NL.out T rfl rfl (by omega) hx ok hpre hTR ?_))⟩
    intro pre' t9 h9 tk9 tp9 tl9 F9 NL9 K9 hp9
    have NO9 := keptNews K9 NO.out (fun p hp => by
      rcases List.mem_cons.mp hp with rfl | hp
      · exact fun z => notInTop ok.ord hTD z
      · exact (hM p hp).2)
    have N9 : News h₀ L h9 ((TD, listOf vs.toArray n') :: (lexAt w.params a c pre' tl9 tp9 ++ (tups ++ (rest ++ own)))) := fun p hp => by
      rcases List.mem_cons.mp hp with rfl | hp
      · exact NO9 _ (.head _)
      rcases List.mem_append.mp hp with hp | hp
      · exact NL9 p hp
      · exact NO9 p (.tail _ hp)
    clear N8 NL NO NL9 NO9 F8
    simp only [lexAt, lexLed, List.cons_append, List.nil_append] at N9
    k_steps
    rename (Fr h₀ _ _ _) => F5
    rename (News h₀ _ _ _) => N5
    rename (TD < _ ∧ _) => l9
    have NB := swapBack (A := lexAt w.params a c pre' tl9 tp9) (B := tups) (C := rest) (D := own) N5
    have hall := l9.2.2.2.2.2.2.2.2.2.2.2
    refine ⟨rfl, _, _, _, _, rfl, F5, NB, ?_, _, _, _, pre', l', tl9, tp9, rfl, ?_, hp9, hRD', ?_, has_cons rfl (has_cons rfl has_nil)⟩
    · intro p hp q hq
      rcases List.mem_cons.mp hp with rfl | hp
      · exact Ne.symm (hM2 q (List.mem_append.mpr (.inr (List.mem_append.mpr (.inr hq)))))
      rcases List.mem_append.mp hp with hp | hp
      · rcases List.mem_cons.mp hp with rfl | hp
        · have := ofAllLt hall q (List.mem_append.mpr (.inr (List.mem_append.mpr (.inr hq))))
          exact neN (Nat.ne_of_gt this)
        · exact hown p (.tail _ (List.mem_append.mpr (.inl hp))) q hq
      rcases List.mem_append.mp hp with hp | hp
      · intro z
        refine (hM q (List.mem_append.mpr (.inr (List.mem_append.mpr (.inr hq))))).2 ?_
        rw [← z]
        exact List.mem_map_of_mem (f := fun (p : Addr × Obj) => p.1) hp
      · exact hown p (.tail _ (List.mem_append.mpr (.inr (List.mem_append.mpr (.inr hp))))) q hq
    · intro p hp
      rcases List.mem_cons.mp hp with rfl | hp
      · exact ⟨neN (Nat.ne_of_gt l9.1), notInTop ok.ord (Nat.lt_trans hTD l9.1)⟩
      · exact htu p hp
    · have e1 : ws.take (i + 1) = ws.take i ++ [(wd, l')] := by rw [← hq, List.take_add_one, List.getElem?_eq_getElem hi]; rfl
      rw [e1, List.map_append]
      refine DatAll.append (DatAll.mono (fun p hp => .tail _ hp) hdat) (.cons ?_ .nil)
      have e2 : x.cps.toList.count 10 - l'.count 10 = pre'.count 10 := by rw [hp9, List.count_append]; omega
      show DatIn _ _ (.tuple [.str ⟨wd.toArray⟩, .int (1 + ((x.cps.toList.count 10 - l'.count 10 : Nat) : Int))])
      rw [e2]
      exact .tuple (vs := [_, _]) (.head _) (.cons (.str _ _) (.cons (.int _ _) .nil))
  · rintro m1 nx h7 tk7 ⟨vs, n', tups, pre, l, tl, tp, hnx, htu, hpre, hl, hdat, hH7⟩ F7 N7
    subst hnx
    rw [List.drop_length] at hl
    cases hl
    rw [List.take_length] at hdat
    exact done _ _ _ _ _ _ _ _ _ F7 hH7 N7 hdat hpre
end Mine
end
section -- lines of the walk that several texts share
open PySem PySem.W PyProof.Rows Mine
local macro_rules | `(tactic| walk_at "last pyIter ref") => `(tactic| refine halt ?_)
local macro_rules | `(tactic| walk_at "pyIter ref") => `(tactic| refine halt ?_)
local macro_rules | `(tactic| walk_at "setAttr ref") => `(tactic| (k_here; k_dflt (refine' setAttr_fn ?k1 ?k2 ?k3 ?_; (case k1 => k_asm); (case k2 => k_asm); (case k3 => k_updF); k_whole); intro d' h' tk1 tk2 F' N' l1; (try dsimp only at N'); (try k_lt l1); (try k_sweep)))
local macro_rules | `(tactic| walk_at "getItem ref int") => `(tactic| (k_here; k_dflt (refine' getAt ?k1 ?k2 ?k3 ?k4 ?k5 ?_; (case k1 => k_asm); (case k2 => k_mem); (case k3 => decide); (case k4 => decide); (case k5 => rfl); k_whole)))
section -- Rd2
open PySem PySem.W PyProof.Rows
set_option maxRecDepth 100000
set_option maxHeartbeats 8000000
namespace Mine
section
variable {P : Params} {h₀ h : Heap} {L td ct cp pl cr fr fs ds dx lx pb c2 : Addr} {fd : FuncData} {ofr ocr ocp oct oc2 o72 : Obj} {k1 k2 k3 k4 k5 kw tl tp : Tok}
theorem lex0 : lexAt P ⟨ct, cp, pl, cr, fr, fs, ds, dx, lx, pb⟩ ⟨fd, ofr, ocr, ocp, oct, k1, k2, k3, k4, k5, kw⟩ [] tl tp =
    [(pb, listOf #[] 0), (lx, instObj 66 dx), (dx, dictOf [⟨PyData.keyHash P (Str.ofString "lineno"), .str (Str.ofString "lineno") k1, .int 1 tl⟩, ⟨PyData.keyHash P (Str.ofString "instream"), .str (Str.ofString "instream") k2, .ref fs⟩,
    ⟨PyData.keyHash P (Str.ofString "whitespace"), .str (Str.ofString "whitespace") k3, .str (Str.ofString "\n\t\r ") kw⟩, ⟨PyData.keyHash P (Str.ofString "pushback"), .str (Str.ofString "pushback") k4, .ref pb⟩] 4), (ds, readDict P (.ref fr) k5), (fs, fnObj (some ds) fd),
    (fr, ofr), (cr, ocr), (pl, listOf #[.int 0 tp] 0), (cp, ocp), (ct, oct)] := by
  have e1 : (1 : Int) + ((List.count 10 ([] : List Nat) : Nat) : Int) = 1 := by simp
  have e2 : ((([] : List Nat).length : Nat) : Int) = 0 := by simp
  unfold lexAt
  rw [e1, e2]
theorem shape1 (N : News h₀ L h [(td, listOf #[] 0), (pb, listOf #[] 0), (lx, instObj 66 dx), (dx, dictOf [⟨PyData.keyHash P (Str.ofString "lineno"), .str (Str.ofString "lineno") k1, .int 1 tl⟩, ⟨PyData.keyHash P (Str.ofString "instream"), .str (Str.ofString "instream") k2, .ref fs⟩,
    ⟨PyData.keyHash P (Str.ofString "whitespace"), .str (Str.ofString "whitespace") k3, .str (Str.ofString "\n\t\r ") kw⟩, ⟨PyData.keyHash P (Str.ofString "pushback"), .str (Str.ofString "pushback") k4, .ref pb⟩] 4), (ds, readDict P (.ref fr) k5), (fs, fnObj (some ds) fd),
    (c2, oc2), (fr, ofr), (cr, ocr), (pl, listOf #[.int 0 tp] 0), (cp, ocp), (ct, oct), (72, o72)]) :
    News h₀ L h ((td, listOf #[] 0) :: (lexAt P ⟨ct, cp, pl, cr, fr, fs, ds, dx, lx, pb⟩ ⟨fd, ofr, ocr, ocp, oct, k1, k2, k3, k4, k5, kw⟩ [] tl tp ++ [(c2, oc2), (72, o72)])) := by
  rw [lex0]
  refine newsSub N fun p hp => ?_
  simp only [List.cons_append, List.nil_append, List.mem_cons, List.not_mem_nil, or_false] at hp ⊢
  rcases hp with hp | hp | hp | hp | hp | hp | hp | hp | hp | hp | hp | hp | hp <;> simp only [hp, true_or, or_true]
theorem shape2 (N : News h₀ L h [(td, listOf #[] 0), (pb, listOf #[] 0), (lx, instObj 66 dx), (dx, dictOf [⟨PyData.keyHash P (Str.ofString "lineno"), .str (Str.ofString "lineno") k1, .int 1 tl⟩, ⟨PyData.keyHash P (Str.ofString "instream"), .str (Str.ofString "instream") k2, .ref fs⟩,
    ⟨PyData.keyHash P (Str.ofString "whitespace"), .str (Str.ofString "whitespace") k3, .str (Str.ofString "\n\t\r ") kw⟩, ⟨PyData.keyHash P (Str.ofString "pushback"), .str (Str.ofString "pushback") k4, .ref pb⟩] 4), (ds, readDict P (.ref fr) k5), (fs, fnObj (some ds) fd),
    (fr, ofr), (pl, listOf #[.int 0 tp] 0), (cp, ocp), (ct, oct), (72, o72), (cr, ocr), (c2, oc2)]) :
    News h₀ L h ((td, listOf #[] 0) :: (lexAt P ⟨ct, cp, pl, cr, fr, fs, ds, dx, lx, pb⟩ ⟨fd, ofr, ocr, ocp, oct, k1, k2, k3, k4, k5, kw⟩ [] tl tp ++ [(c2, oc2), (72, o72)])) := by
  rw [lex0]
  refine newsSub N fun p hp => ?_
  simp only [List.cons_append, List.nil_append, List.mem_cons, List.not_mem_nil, or_false] at hp ⊢
  rcases hp with hp | hp | hp | hp | hp | hp | hp | hp | hp | hp | hp | hp | hp <;> simp only [hp, true_or, or_true]
end
theorem finalNews {h₀ h : Heap} {L : Addr} {qD qT a1 a2 a3 a4 a5 a6 a7 a8 a9 a10 q2 q72 : Addr × Obj} {tups : List (Addr × Obj)} (N : News h₀ L h (qD :: qT :: a1 :: a2 :: a3 :: a4 :: a5 :: a6 :: a7 :: a8 :: a9 :: a10 :: (tups ++ [q2, q72]))) :
    News h₀ L h (q72 :: a7 :: q2 :: qD :: qT :: tups) := newsSub N fun p hp => by
  simp only [List.mem_append, List.mem_cons, List.not_mem_nil, or_false] at hp ⊢
  rcases hp with hp | hp | hp | hp | hp | hp <;> simp only [hp, true_or, or_true]
abbrev rdTab (c1 c2 : Addr) : Obj := tabObj (#[] ++ #[rawInt (61 : Nat), rawInt (4 : Nat), Value.ref c1] ++ #[rawInt (65 : Nat), rawInt (13 : Nat), Value.ref c2])
/-- the two code objects, made once -/
structure RdCode (c1 c2 : Addr) (oc1 : Obj) : Prop where
  lo : @LT.lt Nat _ 72 c1
  up : @LT.lt Nat _ c1 c2
  name : ∃ vs t, oc1.data = .fields vs ∧ vs[1]? = some (.str (qualnameIn (rngEnv 0) (Str.ofString "read") (Str.ofString "read")) t)
/-- what the reading answers -/
def rdAns (x : Str) (ws : List (List Nat × List Nat)) (e : List Nat) : Dat := .tuple [.list (ws.map (readDat x)), .int ((x.length - e.length : Nat) : Int)]
theorem reading_first {prog : Program} {w : World} {p : Program} {loose : List Str} {mean : ExcName → Option Value} {mg mb : Str → Option Value} {dp un : Nat} {gd : Option (List Code)} {env : Env} {outer : List Env} {A₀ : Around} {base h₀ : Heap} {L : Addr} {m : Str → Option Value} {s : Shared}
    {Q : Value → Shared → Prop} {x : Str} {t tc : Tok} {ws : List (List Nat × List Nat)} {e : List Nat}
    (B : Below A₀ base outer h₀) (F : Fr h₀ L s.heap m) (X : (Mine.hd.heap_39 w.params).In h₀) (N : News h₀ L s.heap [(72, tabObj #[])]) (C : CodeHd h₀ 76 72) (T : Top p loose mean mg mb h₀) (hf : env.frame = some L) (hk : env.scope.kind = .function)
    (hd : dp < 500) (hx : x.length ≤ 1000) (hc : ws.length ≤ 100) (hRD : RD x.cps.toList ws e)
    (ret : ∀ D h' tk' c1 c2 oc1 oc2 led, Fr h₀ L h' m → News h₀ L h' ((72, rdTab c1 c2) :: (c1, oc1) :: (c2, oc2) :: led) → Kept s [72] h' → RdCode c1 c2 oc1 → DatIn led (.ref D) (rdAns x ws e) → Q (.ref D) { s with heap := h', toks := tk' }) :
    wpAny (model prog w) (At dp un gd env outer) (call (.ref 77) [.str x t, .int (ws.length : Nat) tc]) Q NE s := by
  refine wpAny_call ?_
  refine' enterC (binds := [(Str.ofString "text", .str x t), (Str.ofString "count", .int (ws.length : Nat) tc)]) (news := [(72, tabObj #[])]) B F N T.nolimit ?kA hf hk ?k6 ?kd ?k7 ?k8 ?k9 ?kB ?kD ?_ ?c2 ?c3 ?c4
  case kA => exact rfl
  case k6 => exact F.keep _ _ (X _ _ (by k_dflt k_is))
  case kd => exact rfl
  case k7 => exact codeRec_of (Frag.In.keeps X F.keep) (by k_dflt k_is)
  case k8 => show dp < 1000; omega
  case k9 => exact BindsTo.of_eq rfl
  case kB => exact rfl
  case kD => decide +kernel
  case c2 => exact rfl
  case c3 => exact rfl
  case c4 => exact rfl
  intro g' L' h' tk' cells' F' N' Y' B' st' l1 l2
  have X' := Frag.In.keeps X st'
  have T' := T.keeps st'
  have C' := C.keeps st'
  have l72 := l1 _ (.head _)
  k_cells Y'
  simp only [List.cons_append, List.nil_append, List.append_nil] at N'
  refine treeId ?_
  k_fold
  k_steps
  rename (News g' _ _ _) => N5
  rename (Fr g' _ _ _) => F5
  rename IsRange _ _ _ _ _ _ _ _ => hR
  have N6 := shape1 N5
  refine ⟨rng_loop B' F5 X' N6 T' (show dp + 1 < 600 by omega) hx ?ok hR hc ?hrest ?hTD ?hH hRD ?done⟩
  case ok =>
    refine ⟨?_, ⟨t, by assumption⟩, by assumption, ⟨_, _, _, _, _, _, rfl, by assumption, by assumption⟩⟩
    refine ⟨?_, ?_, ?_, ?_, ?_, ?_, ?_, ?_, ?_, ?_, ?_, ?_⟩ <;> dsimp only <;> omega
  case hrest =>
    intro o p hp
    rcases List.mem_cons.mp hp with rfl | hp
    · exact ⟨neN (by dsimp only; omega), notInMid o (by dsimp only; omega) (by dsimp only; omega)⟩
    · rw [List.mem_singleton.mp hp]
      exact ⟨neN (by dsimp only; omega), notInLow o (by dsimp only; omega) (neN (by dsimp only; omega))⟩
  case hTD => dsimp only; omega
  case hH => exact has_cons rfl (has_cons rfl has_nil)
  case done =>
    intro m9 h9 tk9 vs9 n9 tups9 tl9 tp9 pre9 F9 H9 N9 D9 hp9
    have F10 := frPuts F9 H9
    clear F9 F5 N5 N6
    dsimp only
    have N10 := swapNews (D := []) (by rw [List.append_nil]; exact N9)
    clear N9
    simp only [lexAt, lexLed, List.cons_append, List.nil_append, List.append_nil] at N10
    k_steps
    rename (Fr g' _ _ _) => F11
    rename (News g' _ _ _) => N11
    have N12 := finalNews N11
    show Stop (BodyEnd h₀ L m s _ g' L' Q _ _)
    refine ⟨_, _, F11, N12, fun F1 N1 K1 => ?_⟩
    refine ret _ _ _ _ _ _ _ _ F1 N1 K1 ⟨by omega, by omega, ⟨_, _, by assumption, by assumption⟩⟩ ?_
    have e2 : x.length - e.length = pre9.length := by rw [← len_toList, hp9, List.length_append]; omega
    unfold rdAns
    rw [e2]
    exact .tuple (vs := [_, _]) (.head _) (.cons (.list (.tail _ (.head _)) (DatAll.mono (fun p hp => .tail _ (.tail _ hp)) D9)) (.cons (.int _ _) .nil))
end Mine
end
section -- Rd3
open PySem PySem.W PyProof.Rows
set_option maxRecDepth 100000
set_option maxHeartbeats 8000000
namespace Mine
local macro_rules | `(tactic| walk_at "idle") => `(tactic| fail)
theorem reading_second {prog : Program} {w : World} {p : Program} {loose : List Str} {mean : ExcName → Option Value} {mg mb : Str → Option Value} {dp un : Nat} {gd : Option (List Code)} {env : Env} {outer : List Env} {A₀ : Around} {base h₀ : Heap} {L : Addr} {m : Str → Option Value} {s : Shared}
    {Q : Value → Shared → Prop} {x : Str} {t tc : Tok} {ws : List (List Nat × List Nat)} {e : List Nat} {c1 c2 : Addr} {oc1 oc2 : Obj}
    (B : Below A₀ base outer h₀) (F : Fr h₀ L s.heap m) (X : (Mine.hd.heap_39 w.params).In h₀) (N : News h₀ L s.heap [(72, rdTab c1 c2), (c1, oc1), (c2, oc2)]) (G : RdCode c1 c2 oc1) (C : CodeHd h₀ 76 72) (T : Top p loose mean mg mb h₀) (hf : env.frame = some L) (hk : env.scope.kind = .function)
    (hd : dp < 500) (hx : x.length ≤ 1000) (hc : ws.length ≤ 100) (hRD : RD x.cps.toList ws e)
    (ret : ∀ D h' tk' led, Fr h₀ L h' m → News h₀ L h' ((72, rdTab c1 c2) :: (c1, oc1) :: (c2, oc2) :: led) → Kept s [72, c1, c2] h' → DatIn led (.ref D) (rdAns x ws e) → Q (.ref D) { s with heap := h', toks := tk' }) :
    wpAny (model prog w) (At dp un gd env outer) (call (.ref 77) [.str x t, .int (ws.length : Nat) tc]) Q NE s := by
  refine wpAny_call ?_
  refine' enterC (binds := [(Str.ofString "text", .str x t), (Str.ofString "count", .int (ws.length : Nat) tc)]) (news := [(72, rdTab c1 c2), (c1, oc1), (c2, oc2)]) B F N T.nolimit ?kA hf hk ?k6 ?kd ?k7 ?k8 ?k9 ?kB ?kD ?_ ?c2 ?c3 ?c4
  case kA => exact rfl
  case k6 => exact F.keep _ _ (X _ _ (by k_dflt k_is))
  case kd => exact rfl
  case k7 => exact codeRec_of (Frag.In.keeps X F.keep) (by k_dflt k_is)
  case k8 => show dp < 1000; omega
  case k9 => exact BindsTo.of_eq rfl
  case kB => exact rfl
  case kD => decide +kernel
  case c2 => exact rfl
  case c3 => exact rfl
  case c4 => exact rfl
  intro g' L' h' tk' cells' F' N' Y' B' st' l1 l2
  have X' := Frag.In.keeps X st'
  have T' := T.keeps st'
  have C' := C.keeps st'
  have l72 : @LT.lt Nat _ 72 L' := l1 _ (.head _)
  have lc1 : @LT.lt Nat _ c1 L' := l1 _ (.tail _ (.head _))
  have lc2 : @LT.lt Nat _ c2 L' := l1 _ (.tail _ (.tail _ (.head _)))
  obtain ⟨g1, g2, vsG, tG, g3, g4⟩ := G
  k_cells Y'
  simp only [List.cons_append, List.nil_append, List.append_nil] at N'
  refine treeId ?_
  k_fold
  k_steps
  rename (News g' _ _ _) => N5
  rename (Fr g' _ _ _) => F5
  rename IsRange _ _ _ _ _ _ _ _ => hR
  have N6 := shape2 N5
  refine ⟨rng_loop B' F5 X' N6 T' (show dp + 1 < 600 by omega) hx ?ok hR hc ?hrest ?hTD ?hH hRD ?done⟩
  case ok =>
    refine ⟨?_, ⟨t, by assumption⟩, by assumption, ⟨_, _, _, _, _, _, rfl, by assumption, by assumption⟩⟩
    refine ⟨?_, ?_, ?_, ?_, ?_, ?_, ?_, ?_, ?_, ?_, ?_, ?_⟩ <;> dsimp only <;> omega
  case hrest =>
    intro o p hp
    rcases List.mem_cons.mp hp with rfl | hp
    · exact ⟨neN (by dsimp only; omega), notInLow o (by dsimp only; omega) (neN (by dsimp only; omega))⟩
    · rw [List.mem_singleton.mp hp]
      exact ⟨neN (by dsimp only; omega), notInLow o (by dsimp only; omega) (neN (by dsimp only; omega))⟩
  case hTD => dsimp only; omega
  case hH => exact has_cons rfl (has_cons rfl has_nil)
  case done =>
    intro m9 h9 tk9 vs9 n9 tups9 tl9 tp9 pre9 F9 H9 N9 D9 hp9
    have F10 := frPuts F9 H9
    clear F9 F5 N5 N6
    dsimp only
    have N10 := swapNews (D := []) (by rw [List.append_nil]; exact N9)
    clear N9
    simp only [lexAt, lexLed, List.cons_append, List.nil_append, List.append_nil] at N10
    k_steps
    rename (Fr g' _ _ _) => F11
    rename (News g' _ _ _) => N11
    have N12 := finalNews N11
    show Stop (BodyEnd h₀ L m s _ g' L' Q _ _)
    refine ⟨_, _, F11, N12, fun F1 N1 K1 => ?_⟩
    refine ret _ _ _ _ F1 N1 K1 ?_
    have e2 : x.length - e.length = pre9.length := by rw [← len_toList, hp9, List.length_append]; omega
    unfold rdAns
    rw [e2]
    exact .tuple (vs := [_, _]) (.head _) (.cons (.list (.tail _ (.head _)) (DatAll.mono (fun p hp => .tail _ (.tail _ hp)) D9)) (.cons (.int _ _) .nil))
end Mine
end
end
section -- Law1
open PySem PySem.W PyProof.Rows
set_option maxRecDepth 100000
set_option maxHeartbeats 8000000
namespace Mine
theorem wordLen (num : Int) : (wordOf num).length ≤ 3 := by
  unfold wordOf
  rw [wordAt_len]
  have : num.fmod 4 < 4 := Int.fmod_lt_of_pos _ (by decide)
  omega
theorem behindLen (num : Int) : (behindOf num).length = 1 := by unfold behindOf; rw [len_item]
theorem qOne : (Str.ofString "\"").length = 1 := by decide
theorem writtenLen (num : Int) : (writtenOf num).length ≤ 14 := by
  have hw := wordLen num
  unfold writtenOf
  split
  · rw [escLen]; omega
  split
  · rw [Str.length_append, Str.length_append, escLen, qOne]; omega
  · rw [Str.length_append, Str.length_append, qOne]
    have h1 := replace_len (x := wordOf num) (z := Str.ofString "\\\\") (c := 92) (by decide)
    have h2 := replace_len (x := Txt.replace (wordOf num) ⟨#[92]⟩ (Str.ofString "\\\\")) (z := Str.ofString "\\\"") (c := 34) (by decide)
    rw [q34, q92]
    omega
theorem takenLen (num : Int) : (takenOf num).length ≤ 1 := by
  unfold takenOf
  split
  · rw [behindLen]; omega
  · show (Str.ofString "").length ≤ 1; decide
def lawIn : List Stmt × Scope := match PySem.Challenge.pw_re0004_01.main.body.drop 9 with | .FunctionDef _ _ b _ _ _ sc _ _ _ :: _ => (b, sc) | _ => ([], default)
def lawScope : Scope := lawIn.2
def lawFor : List Stmt := match lawIn.1.drop 7 with | .For _ _ b _ _ :: _ => b | _ => []
abbrev lawEnv (L fa : Addr) (cd : Value) : Env := envOfC (Str.ofString "law") lawScope L fa cd
structure LSt where
  plain : Str
  words : List (Str × Int)
  moved : List (Str × Int)
  ms : List Str
def mvOf (deep shift : Int) (num : Int) (ms : List Str) : Str × List Str := movedAt deep shift (Txt.split (wordOf num) nl) ms ((Txt.split (wordOf num) nl).length - 1)
def stepL (deep shift : Int) (st : LSt) (num : Int) : LSt :=
  { plain := st.plain ++ writtenOf num ++ behindOf num
    words := st.words ++ [(wordOf num, 1 + Txt.count (st.plain ++ writtenOf num ++ takenOf num) nl)]
    moved := st.moved ++ [((mvOf deep shift num st.ms).1, 1 + Txt.count (st.plain ++ writtenOf num ++ takenOf num) nl)]
    ms := if behindOf num = nl then (mvOf deep shift num st.ms).2 ++ [marginAt (Str.ofString " \t\r") 3 (((mvOf deep shift num st.ms).2.length : Int) + shift) deep] else (mvOf deep shift num st.ms).2 }
def pairDat (q : Str × Int) : Dat := .tuple [.str q.1, .int q.2]
theorem mv_len (deep shift num : Int) (ms : List Str) : (mvOf deep shift num ms).2.length ≤ ms.length + 4 := by
  unfold mvOf
  rw [movedAt_len2]
  have h1 := wordLen num
  have h2 := split_le (wordOf num) nl
  omega
local macro_rules | `(tactic| walk_at "call ref") => `(tactic| refine halt ?_)
/-- the loop's things -/
abbrev lawLed (W M G c1 c2 c3 : Addr) (o1 o2 o3 : Obj) (vw vm vg : List Value) (nw nm ng : Nat) : List (Addr × Obj) :=
  [(M, listOf vm.toArray nm), (W, listOf vw.toArray nw), (G, listOf vg.toArray ng), (c3, o3), (c2, o2), (c1, o1)]
theorem bring5 {h₀ h : Heap} {L : Addr} {a b c d g : Addr × Obj} {r : List (Addr × Obj)} (N : News h₀ L h (a :: b :: c :: d :: g :: r)) : News h₀ L h (g :: a :: b :: c :: d :: r) := newsSub N fun p hp => by
  simp only [List.mem_cons] at hp ⊢
  rcases hp with hp | hp | hp | hp | hp | hp <;> simp only [hp, true_or, or_true]
theorem finTurn {h₀ h : Heap} {L : Addr} {d2 g d1 d9 mm ww c3 c2 c1 : Addr × Obj} {tups rest own : List (Addr × Obj)} (N : News h₀ L h (d2 :: g :: d1 :: d9 :: mm :: ww :: c3 :: c2 :: c1 :: (tups ++ (rest ++ own)))) :
    News h₀ L h (([mm, ww, g, c3, c2, c1] ++ ((d2 :: d1 :: d9 :: tups) ++ rest)) ++ own) := newsSub N fun p hp => by
  simp only [List.mem_cons, List.mem_append, List.not_mem_nil, or_false] at hp ⊢
  rcases hp with ((hp | hp | hp | hp | hp | hp) | (hp | hp | hp | hp) | hp) | hp <;> simp only [hp, true_or, or_true]
theorem sepTurn {d2 d1 d9 mm ww g c3 c2 c1 mm' ww' g' : Addr × Obj} {tups rest own : List (Addr × Obj)} (hown : ∀ p ∈ [mm, ww, g, c3, c2, c1] ++ (tups ++ rest), ∀ q ∈ own, p.1 ≠ q.1) (hall : ∀ q ∈ own, @LT.lt Nat _ q.1 d9.1)
    (h2 : @LT.lt Nat _ d9.1 d2.1) (h1 : @LT.lt Nat _ d9.1 d1.1) (e : mm'.1 = mm.1 ∧ ww'.1 = ww.1 ∧ g'.1 = g.1) : ∀ p ∈ [mm', ww', g', c3, c2, c1] ++ ((d2 :: d1 :: d9 :: tups) ++ rest), ∀ q ∈ own, p.1 ≠ q.1 := fun p hp q hq => by
  have hq9 := hall q hq
  simp only [List.cons_append, List.nil_append, List.mem_cons, List.mem_append] at hp
  rcases hp with rfl | rfl | rfl | rfl | rfl | rfl | rfl | rfl | rfl | hp | hp
  · rw [e.1]; exact hown mm (.head _) q hq
  · rw [e.2.1]; exact hown ww (.tail _ (.head _)) q hq
  · rw [e.2.2]; exact hown g (.tail _ (.tail _ (.head _))) q hq
  · exact hown _ (.tail _ (.tail _ (.tail _ (.head _)))) q hq
  · exact hown _ (.tail _ (.tail _ (.tail _ (.tail _ (.head _))))) q hq
  · exact hown _ (.tail _ (.tail _ (.tail _ (.tail _ (.tail _ (.head _)))))) q hq
  · exact neN (by omega)
  · exact neN (by omega)
  · exact neN (by omega)
  · exact hown p (List.mem_append.mpr (.inr (List.mem_append.mpr (.inl hp)))) q hq
  · exact hown p (List.mem_append.mpr (.inr (List.mem_append.mpr (.inr hp)))) q hq
theorem law_loop {prog : Program} {w : World} {p : Program} {loose : List Str} {mean : ExcName → Option Value} {mg mb : Str → Option Value} {dp un : Nat} {gd : Option (List Code)} {outer : List Env} {A₀ : Around} {base h₀ : Heap} {L fa : Addr} {cd : Value} {m : Str → Option Value} {s : Shared}
    {R : Result → Shared → Prop} {E : Value → Shared → Prop} {D W M G c3 : Addr} {o1 o2 o3 : Obj} {vs vw vm vg : List Value} {k nw nm ng : Nat} {ns : List Int} {deep shift : Int} {td ts tp : Tok} {px : Pos} {rest : List (Addr × Obj)} {st : LSt}
    (B : Below A₀ base outer h₀) (F : Fr h₀ L s.heap m) (X : (Mine.hd.heap_39 w.params).In h₀) (N : News h₀ L s.heap ((D, listOf vs.toArray k) :: (lawLed W M G (L + 1) (L + 1 + 1) (L + 1 + 1 + 1) o1 o2 o3 vw vm vg nw nm ng ++ rest))) (T : Top p loose mean mg mb h₀)
    (hd : dp < 400) (hI : IntsAre vs ns) (hns : ∀ n ∈ ns, 0 ≤ n ∧ n < 1000000) (hnl : ns.length ≤ 8) (d1 : 1 ≤ deep) (d2 : deep ≤ 3) (s1 : 0 ≤ shift) (s2 : shift ≤ 63)
    (hdeep : o1.data = .cell (some (.int deep td))) (hmar : o2.data = .cell (some (.ref G)))
    (hrest : ∀ p ∈ rest, p.1 ≠ D ∧ p.1 ≠ W ∧ p.1 ≠ M ∧ p.1 ≠ G) (a1 : @LT.lt Nat _ (L + 1 + 1 + 1) D) (a2 : @LT.lt Nat _ D G) (a3 : @LT.lt Nat _ G W) (a4 : @LT.lt Nat _ W M)
    (hH : Has m [(Str.ofString "plain", .str st.plain tp), (Str.ofString "words", .ref W), (Str.ofString "moved", .ref M), (Str.ofString "shift", .int shift ts)])
    (hpl : st.plain.length = 0) (hw0 : st.words = []) (hm0 : st.moved = []) (hvw : vw = []) (hvm : vm = []) (hG : StrsAre vg st.ms) (hms : st.ms.length ≤ 1)
    (done : ∀ m' h tk vw vm vg nw nm ng tups tp, Fr h₀ L h m' → Has m' [(Str.ofString "plain", .str (ns.foldl (stepL deep shift) st).plain tp), (Str.ofString "words", .ref W), (Str.ofString "moved", .ref M), (Str.ofString "shift", .int shift ts)] →
      News h₀ L h (lawLed W M G (L + 1) (L + 1 + 1) (L + 1 + 1 + 1) o1 o2 o3 vw vm vg nw nm ng ++ (tups ++ rest)) → (∀ p ∈ tups, @LT.lt Nat _ M p.1) →
      DatAll tups vw ((ns.foldl (stepL deep shift) st).words.map pairDat) → DatAll tups vm ((ns.foldl (stepL deep shift) st).moved.map pairDat) → StrsAre vg (ns.foldl (stepL deep shift) st).ms → R (.ok .next) { s with heap := h, toks := tk }) :
    wpAny (model prog w) (At dp un gd (lawEnv L fa cd) outer) (pyIter (.ref D)) (fun it s₂ => codeAny (model prog w) (At dp un gd (lawEnv L fa cd) outer) (.forLoop (.Name (Str.ofString "number") px) it lawFor [] (lawEnv L fa cd)) R s₂) E s := by
  subst hvw hvm
  refine list_loop (h₀ := h₀) (env := lawEnv L fa cd) rfl rfl rfl F N ?_
    (fun i m nx => ∃ (vw vm vg : List Value) (nw nm ng : Nat) (tups : List (Addr × Obj)) (tp : Tok), nx = lawLed W M G (L + 1) (L + 1 + 1) (L + 1 + 1 + 1) o1 o2 o3 vw vm vg nw nm ng ++ (tups ++ rest) ∧ (∀ p ∈ tups, @LT.lt Nat _ M p.1) ∧
      DatAll tups vw (((ns.take i).foldl (stepL deep shift) st).words.map pairDat) ∧ DatAll tups vm (((ns.take i).foldl (stepL deep shift) st).moved.map pairDat) ∧ StrsAre vg ((ns.take i).foldl (stepL deep shift) st).ms ∧
      vw.length ≤ i ∧ vm.length ≤ i ∧ ((ns.take i).foldl (stepL deep shift) st).plain.length ≤ 15 * i ∧ ((ns.take i).foldl (stepL deep shift) st).ms.length ≤ 1 + 5 * i ∧
      Has m [(Str.ofString "plain", .str ((ns.take i).foldl (stepL deep shift) st).plain tp), (Str.ofString "words", .ref W), (Str.ofString "moved", .ref M), (Str.ofString "shift", .int shift ts)])
    ⟨[], [], vg, nw, nm, ng, [], tp, rfl, fun _ h => (nomatch h), by simp [hw0]; exact .nil, by simp [hm0]; exact .nil, hG, by simp, by simp, by simp [hpl], by simpa using hms, hH⟩ ?_ ?_
  · intro p hp
    rcases List.mem_append.mp hp with hp | hp
    · simp only [lawLed, List.mem_cons, List.not_mem_nil, or_false] at hp
      rcases hp with rfl | rfl | rfl | rfl | rfl | rfl <;> exact neN (by dsimp only; omega)
    · exact (hrest p hp).1
  · rintro i v m1 nx h7 tk7 own hv ⟨vw, vm, vg, nw, nm, ng, tups, tp, rfl, htu, hdw, hdm, hG7, l1, l2, l3, l4, hH7⟩ hown F7 N7
    generalize hst : (ns.take i).foldl (stepL deep shift) st = s7 at hdw hdm hG7 l3 l4 hH7
    have F8 : Fr h₀ L h7 _ := frPutsX F7 hH7
    clear F7
    obtain ⟨num, t9, rfl, hn9⟩ := hI.at i v hv
    have hi : i < ns.length := (List.getElem?_eq_some_iff.mp hn9).1
    have hnum : num ∈ ns := List.mem_of_getElem? hn9
    obtain ⟨n1, n2⟩ := hns _ hnum
    have z1 := writtenLen num
    have z2 := takenLen num
    have z3 := behindLen num
    have z4 := wordLen num
    have z5 : s7.plain.length ≤ 105 := by omega
    have z6 : s7.ms.length ≤ 36 := by omega
    have hM : ∀ p ∈ tups ++ (rest ++ own), p.1 ≠ W ∧ p.1 ≠ M ∧ p.1 ≠ G := fun p hp => by
      rcases List.mem_append.mp hp with hp | hp
      · have := htu p hp
        exact ⟨neN (by omega), neN (by omega), neN (by omega)⟩
      rcases List.mem_append.mp hp with hp | hp
      · exact ⟨(hrest p hp).2.1, (hrest p hp).2.2.1, (hrest p hp).2.2.2⟩
      · exact ⟨Ne.symm (hown (W, _) (.tail _ (.head _)) p hp), Ne.symm (hown (M, _) (.head _) p hp), Ne.symm (hown (G, _) (.tail _ (.tail _ (.head _))) p hp)⟩
    replace N7 : News h₀ L h7 (lawLed W M G (L + 1) (L + 1 + 1) (L + 1 + 1 + 1) o1 o2 o3 vw vm vg nw nm ng ++ (tups ++ (rest ++ own))) := by
      have e : lawLed W M G (L + 1) (L + 1 + 1) (L + 1 + 1 + 1) o1 o2 o3 vw vm vg nw nm ng ++ (tups ++ rest) ++ own = lawLed W M G (L + 1) (L + 1 + 1) (L + 1 + 1 + 1) o1 o2 o3 vw vm vg nw nm ng ++ (tups ++ (rest ++ own)) := by simp
      rw [← e]; exact N7
    have hMW : ∀ p ∈ tups ++ (rest ++ own), p.1 ≠ W := fun p hp => (hM p hp).1
    have hMM : ∀ p ∈ tups ++ (rest ++ own), p.1 ≠ M := fun p hp => (hM p hp).2.1
    have hMG : ∀ p ∈ tups ++ (rest ++ own), p.1 ≠ G := fun p hp => (hM p hp).2.2
    have e1 : lawScope = ⟨_, _, _, _, _⟩ := rfl
    have e2 : lawFor = _ :: _ := rfl
    show wpAny _ _ _ (fun f s₂ => Stop (TurnEnd h₀ L _ own s f s₂)) NE _
    unfold lawEnv
    rw [e1, e2]
    clear e1 e2
    simp only [lawLed, List.cons_append, List.nil_append] at N7
    refine treeId ?_
    k_fold
    k_steps
    refine ⟨?_⟩
    refine ofNE (word_call B F8 X N7 T rfl rfl (by omega) n1 n2 ?_)
    intro D9 t1 t2 t3 t4 h9 tk9 F9 N9 lD9
    clear F8 N7
    k_lt lD9
    k_steps
    rename (Fr h₀ _ _ _) => F5
    rename (News h₀ _ _ _) => N5
    rename (D9 < _ ∧ _) => lD5
    refine ⟨ofNE (moved_call B F5 X (bring5 N5) T rfl rfl (by omega) ?_ hG7 (by omega) (by omega) d1 d2 s1 s2 ?_)⟩
    · intro p hp
      rcases List.mem_cons.mp hp with rfl | hp
      · exact neN (by dsimp only; omega)
      rcases List.mem_cons.mp hp with rfl | hp
      · exact neN (by dsimp only; omega)
      rcases List.mem_cons.mp hp with rfl | hp
      · exact neN (by dsimp only; omega)
      rcases List.mem_cons.mp hp with rfl | hp
      · exact neN (by dsimp only; omega)
      rcases List.mem_cons.mp hp with rfl | hp
      · exact neN (by dsimp only; omega)
      rcases List.mem_cons.mp hp with rfl | hp
      · exact neN (by dsimp only; omega)
      rcases List.mem_cons.mp hp with rfl | hp
      · exact neN (by dsimp only; omega)
      · exact hMG p hp
    intro tk6 h6 tk6' vg6 n6 F6 N6 hG6
    rw [show movedAt deep shift (Txt.split (wordOf num) nl) s7.ms ((Txt.split (wordOf num) nl).length - 1) = mvOf deep shift num s7.ms from rfl] at hG6 ⊢
    have z7 := mv_len deep shift num s7.ms
    generalize hmv : mvOf deep shift num s7.ms = mv at hG6 z7
    clear F5 N5
    k_steps
    · rename (Fr h₀ _ _ _) => F5
      rename (News h₀ _ _ _) => N5
      rename (G < _ ∧ _) => lD6
      rename ((behindOf num == _) = true) => hbh
      replace hbh : behindOf num = nl := eq_of_beq hbh
      rw [show ∀ v, vg6.toArray.push v = (vg6 ++ [v]).toArray from fun v => by simp] at N5
      have hall := lD6.2.2.2.2.2.2.2.2
      have est : (ns.take (i + 1)).foldl (stepL deep shift) st = stepL deep shift s7 num := by rw [List.take_add_one, hn9, List.foldl_append, hst]; rfl
      rw [est]
      refine ⟨rfl, _, _, _, _, rfl, F5, finTurn N5, ?_, _, _, _, _, _, _, _, _, rfl, ?_, ?_, ?_, ?_, ?_, ?_, ?_, ?_, has_cons rfl (has_cons rfl (has_cons rfl (has_cons rfl has_nil)))⟩
      · exact sepTurn hown (fun q hq => ofAllLt lD9.2.2.2.2.2.2 q (List.mem_append.mpr (.inr (List.mem_append.mpr (.inr hq))))) (by dsimp only; omega) (by dsimp only; omega) ⟨rfl, rfl, rfl⟩
      · intro p hp
        rcases List.mem_cons.mp hp with rfl | hp
        · dsimp only; omega
        rcases List.mem_cons.mp hp with rfl | hp
        · dsimp only; omega
        rcases List.mem_cons.mp hp with rfl | hp
        · dsimp only; omega
        · exact htu p hp
      · show DatAll _ _ ((s7.words ++ [_]).map pairDat)
        rw [List.map_append]
        exact DatAll.append (DatAll.mono (fun p hp => .tail _ (.tail _ (.tail _ hp))) hdw) (.cons (.tuple (vs := [_, _]) (.tail _ (.head _)) (.cons (.str _ _) (.cons (.int _ _) .nil))) .nil)
      · show DatAll _ _ ((s7.moved ++ [((mvOf deep shift num s7.ms).1, _)]).map pairDat)
        rw [List.map_append, hmv]
        exact DatAll.append (DatAll.mono (fun p hp => .tail _ (.tail _ (.tail _ hp))) hdm) (.cons (.tuple (vs := [_, _]) (.head _) (.cons (.str _ _) (.cons (.int _ _) .nil))) .nil)
      · show StrsAre _ (if behindOf num = nl then _ else _)
        rw [if_pos hbh, hmv]
        exact StrsAre.append' hG6 (.cons _ _ .nil)
      · rw [List.length_append]; exact Nat.succ_le_succ l1
      · rw [List.length_append]; exact Nat.succ_le_succ l2
      · show (s7.plain ++ writtenOf num ++ behindOf num).length ≤ _
        rw [Str.length_append, Str.length_append]; omega
      · show (if behindOf num = nl then _ else _ : List Str).length ≤ _
        rw [if_pos hbh, hmv]
        rw [List.length_append, List.length_singleton]; omega
    · rename (Fr h₀ _ _ _) => F5
      rename (News h₀ _ _ _) => N5
      rename (G < _ ∧ _) => lD6
      rename ((behindOf num == _) = false) => hbh
      replace hbh : ¬ behindOf num = nl := ne_of_beq_false hbh
      have hall := lD6.2.2.2.2.2.2.2.2
      have est : (ns.take (i + 1)).foldl (stepL deep shift) st = stepL deep shift s7 num := by rw [List.take_add_one, hn9, List.foldl_append, hst]; rfl
      rw [est]
      refine ⟨rfl, _, _, _, _, rfl, F5, finTurn N5, ?_, _, _, _, _, _, _, _, _, rfl, ?_, ?_, ?_, ?_, ?_, ?_, ?_, ?_, has_cons rfl (has_cons rfl (has_cons rfl (has_cons rfl has_nil)))⟩
      · exact sepTurn hown (fun q hq => ofAllLt lD9.2.2.2.2.2.2 q (List.mem_append.mpr (.inr (List.mem_append.mpr (.inr hq))))) (by dsimp only; omega) (by dsimp only; omega) ⟨rfl, rfl, rfl⟩
      · intro p hp
        rcases List.mem_cons.mp hp with rfl | hp
        · dsimp only; omega
        rcases List.mem_cons.mp hp with rfl | hp
        · dsimp only; omega
        rcases List.mem_cons.mp hp with rfl | hp
        · dsimp only; omega
        · exact htu p hp
      · show DatAll _ _ ((s7.words ++ [_]).map pairDat)
        rw [List.map_append]
        exact DatAll.append (DatAll.mono (fun p hp => .tail _ (.tail _ (.tail _ hp))) hdw) (.cons (.tuple (vs := [_, _]) (.tail _ (.head _)) (.cons (.str _ _) (.cons (.int _ _) .nil))) .nil)
      · show DatAll _ _ ((s7.moved ++ [((mvOf deep shift num s7.ms).1, _)]).map pairDat)
        rw [List.map_append, hmv]
        exact DatAll.append (DatAll.mono (fun p hp => .tail _ (.tail _ (.tail _ hp))) hdm) (.cons (.tuple (vs := [_, _]) (.head _) (.cons (.str _ _) (.cons (.int _ _) .nil))) .nil)
      · show StrsAre _ (if behindOf num = nl then _ else _)
        rw [if_neg hbh, hmv]
        exact hG6
      · rw [List.length_append]; exact Nat.succ_le_succ l1
      · rw [List.length_append]; exact Nat.succ_le_succ l2
      · show (s7.plain ++ writtenOf num ++ behindOf num).length ≤ _
        rw [Str.length_append, Str.length_append]; omega
      · show (if behindOf num = nl then _ else _ : List Str).length ≤ _
        rw [if_neg hbh, hmv]
        omega
  · rintro m1 nx h7 tk7 ⟨vw, vm, vg, nw, nm, ng, tups, tp, hnx, htu, hdw, hdm, hG7, l1, l2, l3, l4, hH7⟩ F7 N7 _
    have hl : vs.length = ns.length := by rw [IntsAre.length hI]
    rw [hl, List.take_length] at hdw hdm hG7 l3 l4 hH7
    subst hnx
    exact done _ _ _ _ _ _ _ _ _ _ _ F7 hH7 (newsSub N7 fun p hp => .tail _ hp) htu hdw hdm hG7
end Mine
end
section -- Tail0
open PySem PySem.W PyProof.Rows
set_option maxRecDepth 100000
namespace Mine
/-- the text set in -/
def insetOf (P : Str) (ms : List Str) : Str := Str.join nl ((List.range (Txt.split P nl).length).map fun i => ms.getD i Str.empty ++ (Txt.split P nl).getD i Str.empty)
/-- _dedent answers z at x -/
def Ded (x z : Str) : Prop := ∃ y a i, (Txt.split x nl)[0]? = some y ∧ List.find? (fun p => p.fst != Str.ofString " ") (signs y).zipIdx = some (a, i) ∧ dedentAt x i = z
/-- the pair that both lists end with -/
def lastOf (st : LSt) : Str × Int := (Str.ofString "", 1 + Txt.count st.plain nl)
abbrev tabS : Str := Str.ofString "\t"
/-- what the rest of the law leans on, no program in sight -/
structure TailOk (deep : Int) (st : LSt) : Prop where
  inLen : (insetOf st.plain st.ms).length ≤ 1000
  in1 : Ded (insetOf st.plain st.ms) st.plain
  pl1 : Ded st.plain st.plain
  rd1 : ∃ ws, RD st.plain.cps.toList ws [] ∧ ws.map (readDat st.plain) = (st.words ++ [lastOf st]).map pairDat
  rd2 : ∃ ws, RD (insetOf st.plain st.ms).cps.toList ws [] ∧ ws.map (readDat (insetOf st.plain st.ms)) = (st.moved ++ [lastOf st]).map pairDat
  len : st.moved.length = st.words.length
  okw : ∀ q ∈ st.words ++ [lastOf st], PyData.strOk q.1 = true
  lenw : ∀ q ∈ st.words ++ [lastOf st], q.1.length ≤ 100
  okm : ∀ q ∈ st.moved ++ [lastOf st], PyData.strOk q.1 = true
  back : ∀ (j : Nat) q q', (st.moved ++ [lastOf st])[j]? = some q → (st.words ++ [lastOf st])[j]? = some q' → q.1.length ≤ 100 ∧ Ded (Txt.mul (Str.ofString " ") deep ++ tabS ++ q.1) (tabS ++ q'.1)
end Mine
end
section -- G6
open PySem PySem.W PyProof.Rows PyProof.Rows.LCg PyProof.Rows.LCp
set_option maxRecDepth 100000
namespace Mine
theorem dat_pair {news : List (Addr × Obj)} {v : Value} {q : Str × Int} (h : DatIn news v (pairDat q)) : ∃ (a : Addr) (n : Nat) (t1 t2 : Tok), v = .ref a ∧ (a, ({ cls := .type "tuple", data := .seq #[.str q.1 t1, .int q.2 t2] n } : Obj)) ∈ news := by
  unfold pairDat at h
  cases h with
  | tuple hm hd =>
    cases hd with
    | cons h1 r1 =>
      cases h1 with
      | str =>
        cases r1 with
        | cons h2 r2 =>
          cases h2 with
          | int =>
            cases r2
            exact ⟨_, _, _, _, rfl, hm⟩
theorem dat_at {news : List (Addr × Obj)} : ∀ {vs : List Value} {ds : List Dat}, DatAll news vs ds → ∀ {j : Nat} {v : Value}, vs[j]? = some v → ∃ d, ds[j]? = some d ∧ DatIn news v d
  | _, _, .nil, j, v, h => by simp at h
  | _, _, .cons h1 r, 0, v, h => by
    rw [List.getElem?_cons_zero] at h
    exact ⟨_, rfl, Option.some.inj h ▸ h1⟩
  | _, _, .cons h1 r, j + 1, v, h => by
    obtain ⟨d, hd, h2⟩ := dat_at r (j := j) (v := v) (by simpa using h)
    exact ⟨d, by simpa using hd, h2⟩
section
variable {prog : Program} {w : World} {A : Around} {E : Value → Shared → Prop} {s : Shared} {h₀ : Heap} {L : Addr} {m : Str → Option Value} {news : List (Addr × Obj)} {env : Env}
variable {elt : Expr} {x x₂ : Str} {scope : Scope} {cl : List (Str × Addr)} {Q : Value → Shared → Prop} {zs : List Str} {qs : List (Str × Int)} {vs : List Value} {ax : Addr} {k : Nat}
def PairTurn (prog : Program) (w : World) (A : Around) (h₀ : Heap) (L : Addr) (m : Str → Option Value) (news : List (Addr × Obj)) (env : Env) (elt : Expr) (x : Str) (scope : Scope) (cl : List (Str × Addr)) (s : Shared) (qs : List (Str × Int)) (zs : List Str) : Prop :=
  ∀ (j : Nat) q z t1 I oI C oC D oD m₂ h tk (E' : Value → Shared → Prop), qs[j]? = some q → zs[j]? = some z → NsObj oC m₂ → m₂ x = some (.str q.1 t1) → Fr h₀ L h m → News h₀ L h ((I, oI) :: (C, oC) :: (D, oD) :: news) →
    wpAny (model prog w) A (eval elt (compEnvC scope cl C env)) (fun y s₂ => Stop (∃ t h' tk', y = .str z t ∧ s₂ = { s with heap := h', toks := tk' } ∧ Fr h₀ L h' m ∧ News h₀ L h' ((I, oI) :: (C, oC) :: (D, oD) :: news))) E' { s with heap := h, toks := tk }
theorem comp_rest {Fin : List Value → List (Addr × Obj) → Prop} (hm : (ax, listOf vs.toArray k) ∈ news) (hD : DatAll news vs (qs.map pairDat)) (hl : zs.length = qs.length)
    (turn : PairTurn prog w A h₀ L m news env elt x scope cl s qs zs)
    (ret : ∀ ys, StrsAre ys zs → Fin ys news) :
    ∀ (left i : Nat) (ys : List Value), left + i = vs.length → StrsAre ys (zs.take i) → CompRestP prog w A h₀ L m env elt x x₂ scope cl s (SrcAt h₀ ax vs.toArray) (fun i v => vs.toArray[i]? = some v) Fin left i ys news
  | 0, i, ys, hi, hS => by
    refine CompRestP.zero (ret ys ?_)
    have e : zs.take i = zs := List.take_of_length_le (by have := hD.length; rw [List.length_map] at this; omega)
    rw [e] at hS
    exact hS
  | left + 1, i, ys, hi, hS => by
    refine CompRestP.succ fun v hv => ?_
    have hv' : vs[i]? = some v := by simpa using hv
    obtain ⟨d, hd, hdi⟩ := dat_at hD hv'
    rw [List.getElem?_map] at hd
    obtain ⟨q, hq, rfl⟩ := Option.map_eq_some_iff.mp hd
    obtain ⟨a, n, t1, t2, rfl, hma⟩ := dat_pair hdi
    have hi2 : i < zs.length := by rw [hl]; exact (List.getElem?_eq_some_iff.mp hq).1
    refine ⟨a, _, _, _, _, rfl, hma, rfl, rfl, ?_⟩
    intro I oI C oC D m₂ h tk E' hC h1 h2 F N off ne
    refine wpAny_mono (turn i q zs[i] t1 I oI C oC D (lst ys) m₂ h tk E' hq (List.getElem?_eq_getElem hi2) hC h1 F N) (fun y s₂ hy => ?_) fun _ _ e => e
    obtain ⟨t, h', tk', rfl, rfl, F', N'⟩ := hy.out
    refine ⟨h', tk', news, rfl, F', N', off, .inr ⟨_, hm, rfl, _, rfl⟩, comp_rest hm hD hl turn ret left (i + 1) _ (by omega) ?_⟩
    rw [List.take_add_one, List.getElem?_eq_getElem hi2]
    exact StrsAre.append' hS (.cons _ _ .nil)
theorem off1 {D : Addr} : ∀ {l : List (Addr × Obj)}, Off1 D l → ∀ p ∈ l, p.1 ≠ D
  | [], _, _, hp => nomatch hp
  | a :: r, h, p, hp => by
    rcases List.mem_cons.mp hp with rfl | hp
    · exact h.1
    · exact off1 h.2 p hp
theorem comp_pairsE {s₁ : Shared} (hh : A.handled = none) (F : Fr h₀ L s₁.heap m) (N : News h₀ L s₁.heap news) (hm : (ax, listOf vs.toArray k) ∈ news) (hD : DatAll news vs (qs.map pairDat)) (hl : zs.length = qs.length) (hsz : vs.length ≤ 1000)
    (turn : PairTurn prog w A h₀ L m news env elt x scope cl s₁ qs zs)
    (ret : ∀ D h tk ys n, Fr h₀ L h m → News h₀ L h ((D, listOf ys.toArray n) :: news) → (∀ p ∈ news, p.1 ≠ D) → StrsAre ys zs → Q (.ref D) { s₁ with heap := h, toks := tk }) :
    SrcLP prog w A h₀ L m env elt x x₂ scope cl (fun s₂ => FinE h₀ L m s₂ Q) (.ref ax) s₁ := by
  refine SrcLP.ledger hh F N hm (by rw [List.size_toArray, sizeLine_eq]; omega) fun g => ?_
  rw [List.size_toArray]
  exact comp_rest (s := { s₁ with heap := g }) hm hD hl turn (fun ys hy D h tk F N off => ret D h tk ys _ F N (off1 off) hy) vs.length 0 [] rfl .nil
theorem comp_pairsA {s₁ : Shared} {y : Str} {R : Flow → Shared → Prop} (hh : A.handled = none) (F : Fr h₀ L s₁.heap m) (N : News h₀ L s₁.heap news) (hm : (ax, listOf vs.toArray k) ∈ news) (hD : DatAll news vs (qs.map pairDat)) (hl : zs.length = qs.length) (hsz : vs.length ≤ 1000)
    (turn : PairTurn prog w A h₀ L m news env elt x scope cl s₁ qs zs)
    (ret : ∀ D h tk ys n, Fr h₀ L h (fun z => if z = y then some (.ref D) else m z) → News h₀ L h ((D, listOf ys.toArray n) :: news) → (∀ p ∈ news, p.1 ≠ D) → StrsAre ys zs → R .next { s₁ with heap := h, toks := tk }) :
    SrcLP prog w A h₀ L m env elt x x₂ scope cl (fun s₂ => FinA h₀ L m s₂ y R) (.ref ax) s₁ := by
  refine SrcLP.ledger hh F N hm (by rw [List.size_toArray, sizeLine_eq]; omega) fun g => ?_
  rw [List.size_toArray]
  exact comp_rest (s := { s₁ with heap := g }) hm hD hl turn (fun ys hy D h tk F N off => ret D h tk ys _ F N (off1 off) hy) vs.length 0 [] rfl .nil
end
end Mine
end
section -- lines of the walk that several texts share
open PySem PySem.W PyProof.Rows Mine
local macro_rules | `(tactic| walk_at "call ref") => `(tactic| refine halt ?_)
local macro_rules | `(tactic| walk_at "pyIter ref") => `(tactic| refine halt ?_)
local macro_rules | `(tactic| walk_at "eval ListComp") => `(tactic| refine halt ?_)
section -- Law3
open PySem PySem.W PyProof.Rows PyProof.Rows.LCg PyProof.Rows.LCp
set_option maxRecDepth 100000
set_option maxHeartbeats 8000000
namespace Mine
def lawEnd : List Stmt := lawIn.1.drop 15
theorem dedent_ded {prog : Program} {w : World} {p : Program} {loose : List Str} {mean : ExcName → Option Value} {mg mb : Str → Option Value} {dp un : Nat} {gd : Option (List Code)} {env : Env} {outer : List Env} {A₀ : Around} {base h₀ : Heap} {L : Addr} {m : Str → Option Value} {news : List (Addr × Obj)} {s : Shared}
    {Q : Value → Shared → Prop} {x : Str} {t : Tok} {z : Str}
    (B : Below A₀ base outer h₀) (F : Fr h₀ L s.heap m) (X : (Mine.hd.heap_39 w.params).In h₀) (N : News h₀ L s.heap news) (T : Top p loose mean mg mb h₀) (hf : env.frame = some L) (hk : env.scope.kind = .function)
    (hd : dp < 900) (hlen : x.length ≤ 1000) (hz : Ded x z)
    (ret : ∀ tk h' tk', Fr h₀ L h' m → News h₀ L h' news → Q (.str z tk) { s with heap := h', toks := tk' }) :
    wpAny (model prog w) (At dp un gd env outer) (call (.ref 28) [.str x t]) Q NE s := by
  obtain ⟨y, a, i, h1, h2, rfl⟩ := hz
  exact dedent_call B F X N T hf hk hd hlen h1 h2 ret
section
variable {prog : Program} {w : World} {A : Around} {E : Value → Shared → Prop} {s : Shared} {h₀ : Heap} {L : Addr} {news : List (Addr × Obj)} {a b : Value} {d : Dat} {n : Nat} {Q : Value → Shared → Prop}
theorem eq_same (N : News h₀ L s.heap news) (ha : DatIn news a d) (hb : DatIn news b d) (hk : kqdOk n d = true) (hu : A.units + n < cLine) (h : Q (.bool true) s) : wpAny (model prog w) A (compareOp .Eq a b) Q E s := by
  obtain ⟨as, ra⟩ := kqd_in N n ha hk
  obtain ⟨bs, rb⟩ := kqd_in N n hb hk
  have hl := kqd_lay n d hk
  refine SeqAt.compareEq_reads ra rb hl.1 hl.1 (by rw [Nat.min_self]; omega) ?_
  rw [(kqd_eqv n d d n hk hk).mpr rfl]
  exact h
end
theorem strsDat {news : List (Addr × Obj)} : ∀ {ys : List Value} {zs : List Str}, StrsAre ys zs → DatAll news ys (zs.map .str)
  | _, _, .nil => .nil
  | _, _, .cons x t h => .cons (.str x t) (strsDat h)
theorem strsOk {zs : List Str} (h : ∀ z ∈ zs, PyData.strOk z = true) : kqdOk 2 (.list (zs.map .str)) = true := by
  simp only [kqdOk, List.all_map, List.all_eq_true]
  intro z hz
  simp [kqdOk, h z hz]
local macro_rules | `(tactic| walk_at "exec Assign cons ListComp") => `(tactic| (refine LCp.Assign_ListComp_P (F₀ := by k_asm) (by rfl) (by with_unfolding_all rfl) (by with_unfolding_all rfl) (by decide) (by rfl) (by decide) (by rfl) (by rfl) (by decide) (by rfl) (by rfl) ?_; refine halt ?_))
local macro_rules | `(tactic| walk_at "compareOp Eq ref ref") => `(tactic| refine halt ?_)
local macro_rules | `(tactic| walk_at "SrcLP") => `(tactic| refine halt ?_)
theorem law_back {prog : Program} {w : World} {p : Program} {loose : List Str} {mean : ExcName → Option Value} {mg mb : Str → Option Value} {dp un : Nat} {gd : Option (List Code)} {outer : List Env} {A₀ : Around} {base h₀ : Heap} {L fa : Addr} {cd : Value} {m : Str → Option Value} {s : Shared}
    {Q : Flow → Shared → Prop} {W M : Addr} {o1 : Obj} {vw vm : List Value} {nw nm : Nat} {deep : Int} {td : Tok} {tups : List (Addr × Obj)} {qw qm : List (Str × Int)}
    (B : Below A₀ base outer h₀) (F : Fr h₀ L s.heap m) (X : (Mine.hd.heap_39 w.params).In h₀) (N : News h₀ L s.heap ((M, listOf vm.toArray nm) :: (W, listOf vw.toArray nw) :: (L + 1, o1) :: tups)) (T : Top p loose mean mg mb h₀)
    (hd : dp < 400) (hun : un < 9000) (d1 : 1 ≤ deep) (d2 : deep ≤ 3)
    (hdeep : o1.data = .cell (some (.int deep td)))
    (hH : Has m [(Str.ofString "words", .ref W), (Str.ofString "moved", .ref M)])
    (hw : vw.length ≤ 9) (hm : vm.length ≤ 9) (hl : qm.length = qw.length)
    (hdw : DatAll tups vw (qw.map pairDat)) (hdm : DatAll tups vm (qm.map pairDat)) (okw : ∀ q ∈ qw, PyData.strOk q.1 = true) (hlw : ∀ q ∈ qw, q.1.length ≤ 100)
    (back : ∀ (j : Nat) q q', qm[j]? = some q → qw[j]? = some q' → q.1.length ≤ 100 ∧ Ded (Txt.mul (Str.ofString " ") deep ++ tabS ++ q.1) (tabS ++ q'.1))
    (done : ∀ h' tk' m', Fr h₀ L h' m' → News h₀ L h' tups → Q (.ret (.bool true)) { s with heap := h', toks := tk' }) :
    wpAny (model prog w) (At dp un gd (lawEnv L fa cd) outer) (execs lawEnd (lawEnv L fa cd)) (fun f s₂ => Stop (Q f s₂)) NE s := by
  have F8 : Fr h₀ L s.heap _ := frPuts F hH
  have e1 : lawScope = ⟨_, _, _, _, _⟩ := rfl
  have e2 : lawEnd = _ :: _ := rfl
  unfold lawEnv
  rw [e1, e2]
  clear e1 e2
  refine treeId ?_
  clear F
  k_fold
  k_steps
  have hlz : (qw.map fun q => tabS ++ q.1).length = qm.length := by rw [List.length_map, hl]
  refine ⟨comp_pairsA (zs := qw.map fun q => tabS ++ q.1) (qs := qm) rfl F8 N (.head _) (hdm.mono fun p hp => .tail _ (.tail _ (.tail _ hp))) hlz (by omega) ?_ ?_⟩
  · intro j q z t1 I oI C oC D oD m₂ h tk E' hq hz hC hx F' N'
    rw [List.getElem?_map] at hz
    obtain ⟨q', hq', rfl⟩ := Option.map_eq_some_iff.mp hz
    obtain ⟨hb1, hb2⟩ := back j q q' hq hq'
    have ht : (Str.ofString "\t").length = 1 := by decide
    have hb : (Str.ofString " ").length = 1 := by decide
    clear F8 N
    refine treeId ?_
    k_fold
    k_steps
    refine ⟨ofNE (dedent_ded B F' X N' T rfl rfl (by omega) (by omega) hb2 ?_)⟩
    intro tk7 h7 tk7' F7 N7
    exact ⟨_, _, _, rfl, rfl, F7, N7⟩
  · intro D h tk ys n F9 N9 hD9 hS9
    clear F8 N
    dsimp only
    k_steps
    refine ⟨LCp.ListComp_P F9 (by with_unfolding_all rfl) (by decide) (by rfl) (by decide) (by rfl) (by rfl) (by decide) ?_⟩
    k_steps
    refine ⟨comp_pairsE (zs := qw.map fun q => tabS ++ q.1) (qs := qw) rfl F9 N9 (.tail _ (.tail _ (.head _))) (hdw.mono fun p hp => .tail _ (.tail _ (.tail _ (.tail _ hp)))) (by rw [List.length_map]) (by omega) ?_ ?_⟩
    · intro j q z t1 I oI C oC D' oD m₂ h' tk' E' hq hz hC hx F' N'
      rw [List.getElem?_map] at hz
      obtain ⟨q', hq', rfl⟩ := Option.map_eq_some_iff.mp hz
      obtain rfl : q = q' := Option.some.inj (hq.symm.trans hq')
      have ht : (Str.ofString "\t").length = 1 := by decide
      have hb1 := hlw q (List.mem_of_getElem? hq)
      clear F9 N9
      refine treeId ?_
      k_fold
      k_steps
      exact ⟨_, _, _, rfl, rfl, F', N'⟩
    · intro D2 h2 tk2 ys2 n2 F2 N2 hD2 hS2
      clear F9 N9
      dsimp only
      k_steps
      refine ⟨eq_same (n := 2) N2 (.list (.tail _ (.head _)) (strsDat hS9)) (.list (.head _) (strsDat hS2)) (strsOk ?_) (by show un + 2 < 9900; omega) ?_⟩
      · intro z hz
        obtain ⟨q, hq, rfl⟩ := List.mem_map.mp hz
        have h1 := okw q hq
        unfold PyData.strOk at h1 ⊢
        rw [Str.cps_append, Array.all_append, h1]
        decide +kernel
      · exact ⟨done _ _ _ F2 (newsSub N2 fun p hp => .tail _ (.tail _ (.tail _ (.tail _ (.tail _ hp)))))⟩
end Mine
end
section -- Law2
open PySem PySem.W PyProof.Rows
set_option maxRecDepth 100000
set_option maxHeartbeats 8000000
namespace Mine
def lawTail : List Stmt := lawIn.1.drop 8
local macro_rules | `(tactic| walk_at "exec Assign cons ListComp") => `(tactic| refine halt ?_)
local macro_rules | `(tactic| walk_at "execs cons") => `(tactic| ((with_reducible show wpAny _ _ (execs (Stmt.Assign (Expr.Name (Str.ofString "back") _ :: _) _ _ :: _) _) _ _ _); refine halt ?_))
theorem lenAny {prog : Program} {w : World} {A : Around} {E : Value → Shared → Prop} {s : Shared} {h₀ : Heap} {L D : Addr} {news : List (Addr × Obj)} {vs : List Value} {n : Nat} {Q : Value → Shared → Prop} (N : News h₀ L s.heap news) (hm : (D, listOf vs.toArray n) ∈ news) (hfit : vs.length ≤ 1000)
    (h : Q (.int (vs.length : Nat) (s.toks + 1)) { s with toks := s.toks + 1 + 1 }) : wpAny (model prog w) A (call (.builtin "len") [.ref D]) Q E s := by
  have hl : s.heap.IsList D vs.toArray := ⟨_, (N _ hm).1, rfl, n, rfl⟩
  have e : vs.toArray.size = vs.length := by simp
  exact len_list hl (by rw [e]; omega) (by rw [e]; exact h)
local macro_rules | `(tactic| walk_at "call builtin:len") => `(tactic| (k_here; (with_reducible show wpAny _ _ (call (Value.builtin "len") [Value.ref _]) _ _ _); k_dflt (refine' lenAny ?k1 ?k2 ?k3 ?_; (case k1 => k_asm); (case k2 => k_mem); (case k3 => (simp only [List.length_append, List.length_singleton]; omega)); k_whole)))
local macro_rules | `(tactic| walk_at "compareOp NotEq ref ref") => `(tactic| refine halt ?_)
section
variable {prog : Program} {w : World} {A : Around} {E : Value → Shared → Prop} {s : Shared} {h₀ : Heap} {L : Addr} {news : List (Addr × Obj)} {a b : Value} {d : Dat} {n : Nat} {Q : Value → Shared → Prop}
theorem ne_same (N : News h₀ L s.heap news) (ha : DatIn news a d) (hb : DatIn news b d) (hk : kqdOk n d = true) (hu : A.units + n < cLine) (h : Q (.bool false) s) : wpAny (model prog w) A (compareOp .NotEq a b) Q E s := by
  obtain ⟨as, ra⟩ := kqd_in N n ha hk
  obtain ⟨bs, rb⟩ := kqd_in N n hb hk
  have hl := kqd_lay n d hk
  refine SeqAt.compareNe_reads ra rb hl.1 hl.1 (by rw [Nat.min_self]; omega) ?_
  rw [(kqd_eqv n d d n hk hk).mpr rfl]
  exact h
end
theorem pairsOk {l : List (Str × Int)} (h : ∀ q ∈ l, PyData.strOk q.1 = true) (k : Int) : kqdOk 3 (.tuple [.list (l.map pairDat), .int k]) = true := by
  simp only [kqdOk, List.all_cons, List.all_nil, Bool.and_true, List.all_map]
  rw [List.all_eq_true]
  intro q hq
  simp [pairDat, kqdOk, h q hq]
theorem sumLe {B : Nat} : ∀ l : List Str, (∀ q ∈ l, q.length ≤ B) → (l.map (·.length)).sum ≤ l.length * B
  | [], _ => by simp
  | a :: r, h => by
    have h1 := h a (.head _)
    have h2 := sumLe r fun q hq => h q (.tail _ hq)
    simp only [List.map_cons, List.sum_cons, List.length_cons, Nat.succ_mul]
    omega
theorem joinNews {h₀ h : Heap} {L : Addr} {a b c d1 d2 d3 d4 d5 d6 d7 : Addr × Obj} {tups led : List (Addr × Obj)} (N1 : News h₀ L h (a :: b :: c :: led)) (N2 : News h₀ L h (d1 :: d2 :: d3 :: d4 :: d5 :: d6 :: d7 :: tups)) :
    News h₀ L h (a :: b :: c :: d1 :: d2 :: d3 :: d4 :: d5 :: d6 :: d7 :: (tups ++ led)) := fun p hp => by
  simp only [List.mem_cons, List.mem_append] at hp
  rcases hp with hp | hp | hp | hp | hp | hp | hp | hp | hp | hp | hp | hp
  · exact N1 p (by simp [hp])
  · exact N1 p (by simp [hp])
  · exact N1 p (by simp [hp])
  · exact N2 p (by simp [hp])
  · exact N2 p (by simp [hp])
  · exact N2 p (by simp [hp])
  · exact N2 p (by simp [hp])
  · exact N2 p (by simp [hp])
  · exact N2 p (by simp [hp])
  · exact N2 p (by simp [hp])
  · exact N2 p (by simp [hp])
  · exact N1 p (by simp [hp])
theorem sub7 {h₀ h : Heap} {L : Addr} {d1 d2 d3 d4 d5 d6 d7 q : Addr × Obj} {tups : List (Addr × Obj)} (N : News h₀ L h (d1 :: d2 :: d3 :: d4 :: d5 :: d6 :: d7 :: (tups ++ [q]))) : News h₀ L h (d1 :: d2 :: d3 :: d4 :: d5 :: d6 :: d7 :: tups) ∧ News h₀ L h [q] :=
  ⟨newsSub N fun p hp => by simp only [List.mem_cons, List.mem_append] at hp ⊢; rcases hp with hp | hp | hp | hp | hp | hp | hp | hp <;> simp only [hp, true_or, or_true], newsSub N fun p hp => by simp only [List.mem_cons, List.mem_append, List.not_mem_nil, or_false] at hp ⊢; simp only [hp, or_true]⟩
theorem datLast {news tups : List (Addr × Obj)} {vw : List Value} {l : List (Str × Int)} {q : Str × Int} {DT : Addr} {t1 t2 : Tok} (hs : ∀ p ∈ tups, p ∈ news) (h2 : (DT, ({ cls := .type "tuple", data := .seq #[.str q.1 t1, .int q.2 t2] } : Obj)) ∈ news) (hdw : DatAll tups vw (l.map pairDat)) :
    DatAll news (vw ++ [.ref DT]) ((l ++ [q]).map pairDat) := by
  rw [List.map_append]
  exact DatAll.append (DatAll.mono hs hdw) (.cons (.tuple (vs := [_, _]) h2 (.cons (.str _ _) (.cons (.int _ _) .nil))) .nil)
theorem keptAll {s : Shared} {h' h₀ : Heap} {L : Addr} {rest fixed led : List (Addr × Obj)} (K : Kept s (fixed.map (·.1)) h') (N : News h₀ L s.heap rest) (NF : News h₀ L s.heap fixed) (N1 : News h₀ L h' (fixed ++ led)) : News h₀ L h' (rest ++ led) := fun p hp => by
  rcases List.mem_append.mp hp with hp | hp
  · refine ⟨?_, (N p hp).2⟩
    by_cases hm : p.1 ∈ fixed.map (·.1)
    · obtain ⟨q, hq, e⟩ := List.mem_map.mp hm
      have e1 := (N p hp).1
      rw [← e, (NF q hq).1] at e1
      rw [← e, ← e1]
      exact (N1 q (List.mem_append.mpr (.inl hq))).1
    · exact K p.1 p.2 (N p hp).1 hm
  · exact N1 p (List.mem_append.mpr (.inr hp))
theorem pick5 {h₀ h : Heap} {L : Addr} {a b t72 c1 c2 dt mm ww g r3 r2 r1 : Addr × Obj} {tups led1 led2 : List (Addr × Obj)} (N : News h₀ L h (a :: b :: t72 :: c1 :: c2 :: dt :: mm :: ww :: g :: r3 :: r2 :: r1 :: (tups ++ led1 ++ led2))) : News h₀ L h (mm :: ww :: r1 :: t72 :: dt :: tups) :=
  newsSub N fun p hp => by
    simp only [List.mem_cons, List.mem_append] at hp ⊢
    rcases hp with hp | hp | hp | hp | hp | hp <;> simp only [hp, true_or, or_true]
theorem law_tail {prog : Program} {w : World} {p : Program} {loose : List Str} {mean : ExcName → Option Value} {mg mb : Str → Option Value} {dp un : Nat} {gd : Option (List Code)} {outer : List Env} {A₀ : Around} {base h₀ : Heap} {L fa : Addr} {cd : Value} {m : Str → Option Value} {s : Shared}
    {Q : Flow → Shared → Prop} {W M G : Addr} {o1 o2 o3 : Obj} {vw vm vg : List Value} {nw nm ng : Nat} {deep shift : Int} {td ts tp : Tok} {tups : List (Addr × Obj)} {st : LSt}
    (B : Below A₀ base outer h₀) (F : Fr h₀ L s.heap m) (X : (Mine.hd.heap_39 w.params).In h₀) (N : News h₀ L s.heap (lawLed W M G (L + 1) (L + 1 + 1) (L + 1 + 1 + 1) o1 o2 o3 vw vm vg nw nm ng ++ (tups ++ [(72, tabObj #[])]))) (T : Top p loose mean mg mb h₀)
    (C : CodeHd h₀ 76 72) (hd : dp < 400) (hun : un < 9000) (d1 : 1 ≤ deep) (d2 : deep ≤ 3) (s1 : 0 ≤ shift) (s2 : shift ≤ 63)
    (hdeep : o1.data = .cell (some (.int deep td))) (hmar : o2.data = .cell (some (.ref G))) (hrow : ∃ v, o3.data = .cell v)
    (htu : ∀ p ∈ tups, @LT.lt Nat _ M p.1) (a1 : @LT.lt Nat _ 72 L) (a2 : @LT.lt Nat _ (L + 1 + 1 + 1) G) (a3 : @LT.lt Nat _ G W) (a4 : @LT.lt Nat _ W M)
    (hH : Has m [(Str.ofString "plain", .str st.plain tp), (Str.ofString "words", .ref W), (Str.ofString "moved", .ref M), (Str.ofString "shift", .int shift ts)])
    (hrows : (Txt.split st.plain nl).length ≤ st.ms.length) (hmsl : ∀ q ∈ st.ms, q.length ≤ 3) (ok : TailOk deep st) (hpl : st.plain.length ≤ 200) (hw : st.words.length ≤ 8) (hm : st.moved.length ≤ 8) (hms : st.ms.length ≤ 60)
    (hdw : DatAll tups vw (st.words.map pairDat)) (hdm : DatAll tups vm (st.moved.map pairDat)) (hG : StrsAre vg st.ms)
    (done : ∀ h' tk' m' ps led, Fr h₀ L h' m' → News h₀ L h' ((72, tabObj ps) :: led) → Q (.ret (.bool true)) { s with heap := h', toks := tk' }) :
    wpAny (model prog w) (At dp un gd (lawEnv L fa cd) outer) (execs lawTail (lawEnv L fa cd)) (fun f s₂ => Stop (Q f s₂)) NE s := by
  obtain ⟨v3, hrow⟩ := hrow
  have F8 : Fr h₀ L s.heap _ := frPuts F hH
  have hMX : ∀ p ∈ tups ++ [(72, tabObj #[])], p.1 ≠ W ∧ p.1 ≠ M ∧ p.1 ≠ L + 1 + 1 + 1 := fun p hp => by
    rcases List.mem_append.mp hp with hp | hp
    · have := htu p hp
      exact ⟨neN (by omega), neN (by omega), neN (by omega)⟩
    · rw [List.mem_singleton.mp hp]
      exact ⟨neN (by dsimp only; omega), neN (by dsimp only; omega), neN (by dsimp only; omega)⟩
  have hMW : ∀ p ∈ tups ++ [(72, tabObj #[])], p.1 ≠ W := fun p hp => (hMX p hp).1
  have hMM : ∀ p ∈ tups ++ [(72, tabObj #[])], p.1 ≠ M := fun p hp => (hMX p hp).2.1
  have hMR : ∀ p ∈ tups ++ [(72, tabObj #[])], p.1 ≠ L + 1 + 1 + 1 := fun p hp => (hMX p hp).2.2
  have zw : vw.length ≤ 8 := by rw [hdw.length, List.length_map]; exact hw
  have zm : vm.length ≤ 8 := by rw [hdm.length, List.length_map]; exact hm
  have e1 : lawScope = ⟨_, _, _, _, _⟩ := rfl
  have e2 : lawTail = _ :: _ := rfl
  unfold lawEnv
  rw [e1, e2]
  clear e1 e2
  simp only [lawLed, List.cons_append, List.nil_append] at N
  refine treeId ?_
  clear F
  k_fold
  k_steps
  rename (News h₀ L _ ((_, _) :: (_, _) :: (M, _) :: _)) => N5
  rename (News h₀ L _ ((_, _) :: (M, _) :: _)) => N4
  rename (List.map _ _ = Txt.split _ _) => hsp
  rename (StrsAre (strValues _) _) => hS5
  rename List (Str × Tok) => ls
  rename (∀ a, a ∈ List.map _ _ → _) => hle
  rename (M < _ ∧ _) => lD4
  have hsz : @LT.lt Nat _ _ _ := Heap.lt_size (N4 _ (.head _)).1
  clear N4
  rename_i DT _ _ _ _ _ _ _ _ _
  k_steps
  have hS6 : StrsAre (strValues ls) (Txt.split st.plain nl) := hsp ▸ hS5
  have hle6 : ∀ r ∈ Txt.split st.plain nl, r.length ≤ 200 := fun r hr => by have := hle r (by rw [hsp]; exact hr); omega
  have hll := split_le st.plain nl
  clear hS5 hle
  refine ⟨?_⟩
  refine comp_free (cl := [(Str.ofString "rows", L + 1 + 1 + 1), (Str.ofString "margins", L + 1 + 1)]) (fun v y => ∃ (i : Nat) (u t : Tok), v = .int (i : Int) u ∧ y = .str (st.ms.getD i Str.empty ++ (Txt.split st.plain nl).getD i Str.empty) t) rfl (by decide) rfl (by decide) rfl ?_
  k_steps
  rename IsRange _ _ _ _ _ _ _ _ => hR
  refine ⟨?_⟩
  refine' comp_range (n := (Txt.split st.plain nl).length) (fun i => st.ms.getD i Str.empty ++ (Txt.split st.plain nl).getD i Str.empty) ?hh hR ?hsm ?hsz ?hF ?hN ?_ ?_ ?_
  case hh => rfl
  case hsm => exact small_of (by omega) (by omega)
  case hsz => exact size_of (by omega)
  case hF => k_asm
  case hN => k_asm
  · omega
  · intro C i t9 s9 m9 E9 hi9 hns9 hm9 F9 N9
    have b1 := getD_len (B := 3) hmsl i
    have b2 := getD_len hle6 i
    refine wpAny_BinOp ?_
    refine Subscript_ ?_
    refine wpAny_Name (wpAny_loadName_cell rfl rfl (c := L + 1 + 1) rfl ⟨_, (N9 (L + 1 + 1, o2) (by k_mem)).1, hmar⟩ ?_)
    refine wpAny_Name (wpAny_loadName_local rfl rfl hns9 hm9 ?_)
    refine' itemL N9 ?m hG ?_ ?_ ?_ ?_ ?k7
    case m => k_mem
    case k7 => with_unfolding_all rfl
    · omega
    · omega
    · omega
    intro t8
    refine Subscript_ ?_
    refine wpAny_Name (wpAny_loadName_cell rfl rfl (c := L + 1 + 1 + 1) rfl ⟨_, (N9 (L + 1 + 1 + 1, _) (by k_mem)).1, by assumption⟩ ?_)
    refine wpAny_Name (wpAny_loadName_local rfl rfl hns9 hm9 ?_)
    refine' itemL N9 ?m hS6 ?_ ?_ ?_ ?_ ?k7
    case m => k_mem
    case k7 => with_unfolding_all rfl
    · omega
    · omega
    · omega
    intro t7
    rw [Int.toNat_natCast]
    exact SB.add (fun t' k => ⟨⟨_, rfl⟩, ⟨_, _, rfl, fun _ _ e => e⟩⟩) (by rw [sizeLine_eq]; omega)
  · intro DI h9 tk9 vs9 k9 F9 N9 hD9 hS9
    k_steps
    refine join_list (ys := (List.range (Txt.split st.plain nl).length).map fun i => st.ms.getD i Str.empty ++ (Txt.split st.plain nl).getD i Str.empty) ⟨_, (N9 _ (.head _)).1, rfl, _, rfl⟩ hS9 ?_ ?_
    · have w2 := sumLe (B := 203) ((List.range (Txt.split st.plain nl).length).map fun i => st.ms.getD i Str.empty ++ (Txt.split st.plain nl).getD i Str.empty) (fun q hq => by
        obtain ⟨i, _, rfl⟩ := List.mem_map.mp hq
        have b1 := getD_len (B := 3) hmsl i
        have b2 := getD_len hle6 i
        rw [Str.length_append]; omega)
      have w3 : (nl : Str).length = 1 := by decide
      show _ + _ * (nl : Str).length ≤ _
      rw [w3]
      rw [List.length_map, List.length_range] at w2 ⊢
      omega
    intro t9 k8
    have eI : Txt.join (Str.ofString "\n") ((List.range (Txt.split st.plain nl).length).map fun i => st.ms.getD i Str.empty ++ (Txt.split st.plain nl).getD i Str.empty) = insetOf st.plain st.ms := StrLaws.glued_eq_join _ _
    rw [eI]
    clear eI hS9
    obtain ⟨inLen, in1, pl1, ⟨ws1, rd1, rdm1⟩, ⟨ws2, rd2, rdm2⟩, klen, okw, lenw, okm, back⟩ := ok
    generalize insetOf st.plain st.ms = IN at inLen in1 rd2 rdm2
    have N10 : Stop (News h₀ L h9 _) := ⟨newsSub N9 fun p hp => .tail _ (.tail _ hp)⟩
    clear N9 hD9
    replace N10 := N10.out
    rename (News h₀ L _ ((_, _) :: (_, _) :: (M, _) :: _)) => N11
    clear N11
    k_steps
    rename (Fr h₀ L _ _) => F12
    rename (News h₀ L _ _) => N12
    refine ⟨ofNE (dedent_ded B F12 X N12 T rfl rfl (by omega) inLen in1 ?_)⟩
    intro tk7 h7 tk7' F7 N7
    clear F12 N12
    k_steps
    · rename ((st.plain != st.plain) = true) => hbad
      exact absurd hbad (by simp)
    rename (Fr h₀ L _ _) => F12
    rename (News h₀ L _ _) => N12
    refine ⟨ofNE (dedent_ded B F12 X N12 T rfl rfl (by omega) (by omega) pl1 ?_)⟩
    intro tk6 h6 tk6' F6 N6
    clear F12 N12
    k_steps
    rename (Fr h₀ L _ _) => F12
    rename (News h₀ L _ _) => N12
    refine ⟨ofNE (dedent_ded B F12 X N12 T rfl rfl (by omega) inLen in1 ?_)⟩
    intro tk5 h5 tk5' F5 N5
    clear F12 N12
    k_steps
    rename (Fr h₀ L _ _) => F12
    rename (News h₀ L _ _) => N12
    refine ⟨?_⟩
    have ewl : (vw ++ [Value.ref DT]).length = ws1.length := by
      have h1 := congrArg List.length rdm1
      rw [List.length_map, List.length_map, List.length_append] at h1
      rw [h1, List.length_append, hdw.length, List.length_map]; rfl
    have eml : ws2.length = ws1.length := by
      have h1 := congrArg List.length rdm1
      have h2 := congrArg List.length rdm2
      simp only [List.length_map, List.length_append] at h1 h2
      omega
    have hw9 : ws1.length ≤ 9 := by rw [← ewl, List.length_append]; simp only [List.length_singleton]; omega
    rw [ewl]
    have N7s := sub7 N12
    refine ofNE (reading_first B F12 X N7s.2 C T rfl rfl (by omega) (by omega) (by omega) rd1 ?_)
    intro DR h4 tk4 c1 c2 oc1 oc2 led1 F4 N4 K4 G4 D4
    have N4' := joinNews N4 (keptNews K4 N7s.1 (fun p hp => by
      rw [List.mem_singleton]
      rcases List.mem_cons.mp hp with rfl | hp
      · exact neN (by dsimp only; omega)
      rcases List.mem_cons.mp hp with rfl | hp
      · exact neN (by dsimp only; omega)
      rcases List.mem_cons.mp hp with rfl | hp
      · exact neN (by dsimp only; omega)
      rcases List.mem_cons.mp hp with rfl | hp
      · exact neN (by dsimp only; omega)
      rcases List.mem_cons.mp hp with rfl | hp
      · exact neN (by dsimp only; omega)
      rcases List.mem_cons.mp hp with rfl | hp
      · exact neN (by dsimp only; omega)
      rcases List.mem_cons.mp hp with rfl | hp
      · exact neN (by dsimp only; omega)
      · have := htu p hp
        exact neN (by omega)))
    clear F12 N12 N7s K4 N4
    k_steps
    rename (Fr h₀ L _ _) => F13
    rename (News h₀ L _ _) => N13
    rename (72 < _ ∧ _) => lD13
    have eA : rdAns st.plain ws1 [] = .tuple [.list ((st.words ++ [lastOf st]).map pairDat), .int (st.plain.length : Nat)] := by unfold rdAns; rw [rdm1]; rfl
    rw [eA] at D4
    refine ⟨ne_same (n := 3) N13 (D4.mono fun p hp => by simp only [List.mem_cons, List.mem_append, hp, or_true]) (.tuple (vs := [_, _]) (.head _) (.cons (.list (n := nw + 1) (by simp only [List.mem_cons, true_or, or_true]) (datLast (tups := tups) (fun p hp => by simp only [List.mem_cons, List.mem_append, hp, true_or, or_true]) (.tail _ (.tail _ (.tail _ (.tail _ (.head _))))) hdw)) (.cons (.int _ _) .nil))) (pairsOk okw _) (by show un + 3 < 9900; omega) ?_⟩
    clear D4 eA
    k_steps
    rename (Fr h₀ L _ _) => F14
    rename (News h₀ L _ _) => N14
    rw [ewl, ← eml]
    have NF : Stop (News h₀ L _ [(72, rdTab c1 c2), (c1, oc1), (c2, oc2)]) := ⟨newsSub N14 fun p hp => by
      simp only [List.mem_cons, List.not_mem_nil, or_false] at hp ⊢
      rcases hp with hp | hp | hp <;> simp only [hp, true_or, or_true]⟩
    refine ⟨ofNE (reading_second B F14 X NF.out G4 C T rfl rfl (by omega) (by omega) (by omega) rd2 ?_)⟩
    intro DR2 h3 tk3 led2 F3 N3 K3 D3
    have N3' := keptAll (fixed := [(72, rdTab c1 c2), (c1, oc1), (c2, oc2)]) K3 N14 NF.out N3
    clear F14 N14 NF K3 N3
    simp only [List.cons_append] at N3'
    k_steps
    rename (Fr h₀ L _ _) => F15
    rename (News h₀ L _ _) => N15
    have eA : rdAns IN ws2 [] = .tuple [.list ((st.moved ++ [lastOf st]).map pairDat), .int (IN.length : Nat)] := by unfold rdAns; rw [rdm2]; rfl
    rw [eA] at D3
    refine ⟨ne_same (n := 3) N15 (D3.mono fun p hp => by simp only [List.mem_cons, List.mem_append, hp, or_true]) (.tuple (vs := [_, _]) (.head _) (.cons (.list (n := nm + 1) (by simp only [List.mem_cons, true_or, or_true]) (datLast (tups := tups) (fun p hp => by simp only [List.mem_cons, List.mem_append, hp, true_or, or_true]) (.tail _ (.tail _ (.tail _ (.tail _ (.tail _ (.head _)))))) hdm)) (.cons (.int _ _) .nil))) (pairsOk okm _) (by show un + 3 < 9900; omega) ?_⟩
    clear D3 eA
    k_steps
    have N16 := pick5 N15
    refine ⟨law_back (qw := st.words ++ [lastOf st]) (qm := st.moved ++ [lastOf st]) B F15 X N16 T hd hun d1 d2 hdeep (has_cons rfl (has_cons rfl has_nil)) ?_ ?_ ?_ (datLast (fun p hp => .tail _ (.tail _ hp)) (.tail _ (.head _)) hdw) (datLast (fun p hp => .tail _ (.tail _ hp)) (.tail _ (.head _)) hdm) okw lenw back fun h' tk' m' F' N' => done _ _ _ _ _ F' N'⟩
    · rw [List.length_append]; simp only [List.length_singleton]; omega
    · rw [List.length_append]; simp only [List.length_singleton]; omega
    · rw [List.length_append, List.length_append, klen]
end Mine
end
end
end
section -- Pure1
open PySem PySem.W PyProof.Rows
set_option maxRecDepth 100000
namespace Mine
abbrev li (x : Str) : List Nat := x.cps.toList
/-- rows glued by line ends -/
def joinL : List (List Nat) → List Nat
  | [] => []
  | [p] => p
  | p :: q :: r => p ++ 10 :: joinL (q :: r)
theorem joinL_cons (p : List Nat) {r : List (List Nat)} (h : r ≠ []) : joinL (p :: r) = p ++ 10 :: joinL r := by
  cases r with
  | nil => exact absurd rfl h
  | cons q r => rfl
theorem joinL_snoc (b : List Nat) : ∀ a : List (List Nat), a ≠ [] → joinL (a ++ [b]) = joinL a ++ 10 :: b
  | [], h => absurd rfl h
  | [p], _ => rfl
  | p :: q :: r, _ => by
    have ih := joinL_snoc b (q :: r) (by simp)
    show p ++ 10 :: joinL (q :: r ++ [b]) = (p ++ 10 :: joinL (q :: r)) ++ 10 :: b
    rw [ih]; simp
theorem joinL_front (p a : List Nat) : ∀ r, joinL ((p ++ a) :: r) = p ++ joinL (a :: r)
  | [] => rfl
  | q :: r => by show (p ++ a) ++ 10 :: joinL (q :: r) = p ++ (a ++ 10 :: joinL (q :: r)); simp
theorem nlL : li nl = [10] := by decide
theorem nlS : nl = ⟨#[10]⟩ := by decide
theorem join_li : ∀ parts : List Str, li (Str.join nl parts) = joinL (parts.map li)
  | [] => rfl
  | [p] => rfl
  | p :: q :: r => by
    have ih := join_li (q :: r)
    show (Str.join nl (p :: q :: r)).cps.toList = _
    rw [join_toList_cons nl p (q :: r) (by simp)]
    show li p ++ li nl ++ li (Str.join nl (q :: r)) = _
    rw [ih, nlL]
    show _ = li p ++ 10 :: joinL (List.map li (q :: r))
    simp
theorem cut_uniq : ∀ {a b x y : List Nat}, 10 ∉ a → 10 ∉ b → a ++ 10 :: x = b ++ 10 :: y → a = b ∧ x = y
  | [], [], x, y, _, _, h => by simpa using h
  | [], c :: b, x, y, _, hb, h => by
    have : 10 = c := (List.cons.inj h).1
    exact absurd (this ▸ .head _) hb
  | c :: a, [], x, y, ha, _, h => by
    have : c = 10 := (List.cons.inj h).1
    exact absurd (this ▸ .head _) ha
  | c :: a, d :: b, x, y, ha, hb, h => by
    obtain ⟨h1, h2⟩ := List.cons.inj h
    obtain ⟨h3, h4⟩ := cut_uniq (fun h => ha (.tail _ h)) (fun h => hb (.tail _ h)) h2
    exact ⟨by rw [h1, h3], h4⟩
theorem cut_none {a b x : List Nat} (ha : 10 ∉ a) (h : a = b ++ 10 :: x) : False := ha (by rw [h]; simp)
theorem joinL_uniq : ∀ {a b : List (List Nat)}, a ≠ [] → b ≠ [] → (∀ p ∈ a, 10 ∉ p) → (∀ p ∈ b, 10 ∉ p) → joinL a = joinL b → a = b
  | [], _, h, _, _, _, _ => absurd rfl h
  | _, [], _, h, _, _, _ => absurd rfl h
  | [p], [q], _, _, _, _, h => by
    have : p = q := h
    rw [this]
  | [p], q :: q2 :: r, _, _, ha, _, h => (cut_none (ha p (.head _)) h).elim
  | p :: p2 :: r, [q], _, _, _, hb, h => (cut_none (hb q (.head _)) (Eq.symm h)).elim
  | p :: p2 :: r, q :: q2 :: t, _, _, ha, hb, h => by
    obtain ⟨h1, h2⟩ := cut_uniq (ha p (.head _)) (hb q (.head _)) h
    have := joinL_uniq (a := p2 :: r) (b := q2 :: t) (by simp) (by simp) (fun x hx => ha x (.tail _ hx)) (fun x hx => hb x (.tail _ hx)) h2
    rw [h1, this]
theorem split_ne (x : Str) : Txt.split x nl ≠ [] := fun h => by have := split_pos x nl; rw [h] at this; cases this
theorem split_join (x : Str) : joinL ((Txt.split x nl).map li) = li x := by rw [← join_li, StrLaws.join_split]
theorem split_nol (x : Str) : ∀ p ∈ Txt.split x nl, 10 ∉ li p := by
  have := StrLaws.split_free x 10
  rwa [← nlS] at this
theorem split_is {x : Str} {R : List (List Nat)} (hR : R ≠ []) (hf : ∀ r ∈ R, 10 ∉ r) (h : li x = joinL R) : (Txt.split x nl).map li = R := by
  refine joinL_uniq (by simpa using split_ne x) hR ?_ hf ?_
  · intro p hp
    obtain ⟨q, hq, rfl⟩ := List.mem_map.mp hp
    exact split_nol x q hq
  · rw [split_join, h]
theorem joinL_count : ∀ {R : List (List Nat)}, R ≠ [] → (∀ r ∈ R, 10 ∉ r) → (joinL R).count 10 + 1 = R.length
  | [], h, _ => absurd rfl h
  | [p], _, h => by
    show p.count 10 + 1 = 1
    rw [List.count_eq_zero.mpr (h p (.head _))]
  | p :: q :: r, _, h => by
    have ih := joinL_count (R := q :: r) (by simp) fun x hx => h x (.tail _ hx)
    show (p ++ 10 :: joinL (q :: r)).count 10 + 1 = _
    rw [List.count_append, List.count_cons_self, List.count_eq_zero.mpr (h p (.head _))]
    simp only [List.length_cons] at ih ⊢
    omega
/-- margins set in behind line ends, numbered from k -/
def gof (f : Nat → List Nat) : Nat → List Nat → List Nat
  | _, [] => []
  | k, c :: r => if c = 10 then 10 :: (f k ++ gof f (k + 1) r) else c :: gof f k r
theorem gof_append (f : Nat → List Nat) : ∀ (a b : List Nat) (k : Nat), gof f k (a ++ b) = gof f k a ++ gof f (k + a.count 10) b
  | [], b, k => by simp [gof]
  | c :: a, b, k => by
    by_cases h : c = 10
    · subst h
      have ih := gof_append f a b (k + 1)
      simp only [List.cons_append, gof, if_true, List.count_cons_self, ih, List.append_assoc]
      rw [show k + 1 + a.count 10 = k + (a.count 10 + 1) by omega]
    · have ih := gof_append f a b k
      simp only [List.cons_append, gof, if_neg h, ih, List.count_cons_of_ne h]
theorem gof_free {f : Nat → List Nat} : ∀ {a : List Nat} {k : Nat}, 10 ∉ a → gof f k a = a
  | [], _, _ => rfl
  | c :: a, k, h => by
    have h1 : c ≠ 10 := fun e => h (e ▸ .head _)
    simp only [gof, if_neg h1, gof_free (a := a) (k := k) fun e => h (.tail _ e)]
theorem gof_nil : ∀ (a : List Nat) (k : Nat), gof (fun _ => []) k a = a
  | [], _ => rfl
  | c :: a, k => by
    by_cases h : c = 10
    · subst h; simp [gof, gof_nil a]
    · simp [gof, h, gof_nil a]
theorem gof_congr {f g : Nat → List Nat} : ∀ {a : List Nat} {k : Nat}, (∀ j, j < a.count 10 → f (k + j) = g (k + j)) → gof f k a = gof g k a
  | [], _, _ => rfl
  | c :: a, k, h => by
    by_cases hc : c = 10
    · subst hc
      have h0 := h 0 (by rw [List.count_cons_self]; omega)
      have ih := gof_congr (f := f) (g := g) (a := a) (k := k + 1) fun j hj => by
        have := h (j + 1) (by rw [List.count_cons_self]; omega)
        rwa [show k + (j + 1) = k + 1 + j by omega] at this
      simp only [gof, if_true, ih]
      rw [show f k = g k from h0]
    · have ih := gof_congr (f := f) (g := g) (a := a) (k := k) fun j hj => h j (by rw [List.count_cons_of_ne hc]; exact hj)
      simp only [gof, if_neg hc, ih]
theorem gof_count {f : Nat → List Nat} (hf : ∀ k, 10 ∉ f k) : ∀ (a : List Nat) (k : Nat), (gof f k a).count 10 = a.count 10
  | [], _ => rfl
  | c :: a, k => by
    by_cases h : c = 10
    · subst h
      simp only [gof, if_true, List.count_cons_self, List.count_append, gof_count hf a, List.count_eq_zero.mpr (hf k)]
      omega
    · simp only [gof, if_neg h, List.count_cons_of_ne h, gof_count hf a]
theorem gof_len {f : Nat → List Nat} (hf : ∀ k, (f k).length ≤ 3) : ∀ (a : List Nat) (k : Nat), (gof f k a).length ≤ 4 * a.length
  | [], _ => Nat.zero_le _
  | c :: a, k => by
    have h1 := hf k
    have h2 := gof_len hf a (k + 1)
    have h3 := gof_len hf a k
    simp only [gof]
    split
    · simp only [List.length_cons, List.length_append]; omega
    · simp only [List.length_cons]; omega
theorem gof_all {f : Nat → List Nat} {P : Nat → Prop} (hf : ∀ k, ∀ c ∈ f k, P c) : ∀ {a : List Nat} (k : Nat), (∀ c ∈ a, P c) → ∀ c ∈ gof f k a, P c
  | [], _, _, _, h => nomatch h
  | d :: a, k, ha, c, h => by
    simp only [gof] at h
    split at h
    · rcases List.mem_cons.mp h with rfl | h
      · exact ha _ (by rename_i e; exact e ▸ .head _)
      rcases List.mem_append.mp h with h | h
      · exact hf k c h
      · exact gof_all hf (k + 1) (fun x hx => ha x (.tail _ hx)) c h
    · rcases List.mem_cons.mp h with rfl | h
      · exact ha _ (.head _)
      · exact gof_all hf k (fun x hx => ha x (.tail _ hx)) c h
theorem gof_join {F : Nat → List Nat} {k : Nat} {R : Nat → List Nat} (hR : ∀ i, 10 ∉ R i) : ∀ n, gof F k (joinL ((List.range (n + 1)).map R)) = joinL ((List.range (n + 1)).map fun i => (if i = 0 then [] else F (k + i - 1)) ++ R i)
  | 0 => by
    show gof F k (R 0) = [] ++ R 0
    rw [gof_free (hR 0)]; rfl
  | n + 1 => by
    have ih := gof_join (F := F) (k := k) hR n
    rw [List.range_succ, List.map_append, List.map_append]
    show gof F k (joinL (List.map R (List.range (n + 1)) ++ [R (n + 1)])) = joinL (_ ++ [(if n + 1 = 0 then [] else F (k + (n + 1) - 1)) ++ R (n + 1)])
    have hc : (joinL (List.map R (List.range (n + 1)))).count 10 + 1 = n + 1 := by
      rw [joinL_count (by simp) (fun r hr => by obtain ⟨i, _, rfl⟩ := List.mem_map.mp hr; exact hR i)]; simp
    rw [joinL_snoc _ _ (by simp), joinL_snoc _ _ (by simp), gof_append, ih]
    simp only [gof, if_true, Nat.add_one_ne_zero, if_false]
    rw [gof_free (hR (n + 1)), show k + List.count 10 (joinL (List.map R (List.range (n + 1)))) = k + (n + 1) - 1 by omega]
/-- a slice from a place on -/
theorem slice_li (x : Str) (i : Nat) (h : i ≤ x.cps.toList.length) : li (Txt.slice x (some (i : Int)) none) = (li x).drop i := by
  have e : Txt.slice x (some (i : Int)) none = _ := StrLaws.sliceText_from (x := x) (i := (i : Int)) ⟨by omega, by omega⟩
  rw [e]
  show (x.cps.toList.drop _).take _ = x.cps.toList.drop i
  rw [Int.toNat_natCast, List.take_of_length_le]
  rw [List.length_drop]; omega
theorem findBlank (c : Nat) (r : List Nat) (hc : c ≠ 32) : ∀ (n j : Nat), List.find? (fun p => p.fst != Str.ofString " ") (((List.replicate n 32 ++ c :: r).map fun d => (⟨#[d]⟩ : Str)).zipIdx j) = some (⟨#[c]⟩, j + n)
  | 0, j => by
    show List.find? (fun p => p.fst != Str.ofString " ") (((⟨#[c]⟩ : Str), j) :: (r.map fun d => (⟨#[d]⟩ : Str)).zipIdx (j + 1)) = _
    rw [List.find?_cons_of_pos]
    · rfl
    · show ((⟨#[c]⟩ : Str) != Str.ofString " ") = true
      rw [show Str.ofString " " = ⟨#[32]⟩ by decide]
      unfold bne
      rw [chEq, decide_eq_false hc]; rfl
  | n + 1, j => by
    have ih := findBlank c r hc n (j + 1)
    show List.find? (fun p => p.fst != Str.ofString " ") (((⟨#[32]⟩ : Str), j) :: ((List.replicate n 32 ++ c :: r).map fun d => (⟨#[d]⟩ : Str)).zipIdx (j + 1)) = _
    rw [List.find?_cons_of_neg, ih, show j + 1 + n = j + (n + 1) by omega]
    show ¬ (((⟨#[32]⟩ : Str) != Str.ofString " ") = true)
    decide
end Mine
end
section -- Pure2
open PySem PySem.W PyProof.Rows
set_option maxRecDepth 100000
namespace Mine
/-- _dedent of rows with margins -/
theorem ded_of {x z : Str} {n deep : Nat} {M R : Nat → List Nat} {c : Nat} {r0 : List Nat} (hx : li x = joinL ((List.range (n + 1)).map fun i => M i ++ R i)) (hz : li z = joinL ((List.range (n + 1)).map R))
    (hM : ∀ i, i < n + 1 → (M i).length = deep ∧ 10 ∉ M i) (hR : ∀ i, i < n + 1 → 10 ∉ R i) (h0 : M 0 = List.replicate deep 32) (hr : R 0 = c :: r0) (hc : c ≠ 32) : Ded x z := by
  have hs : (Txt.split x nl).map li = (List.range (n + 1)).map fun i => M i ++ R i := by
    refine split_is (by simp) ?_ hx
    intro r hr
    obtain ⟨i, hi, rfl⟩ := List.mem_map.mp hr
    have hi := List.mem_range.mp hi
    intro h
    rcases List.mem_append.mp h with h | h
    · exact (hM i hi).2 h
    · exact hR i hi h
  have hs0 : ((Txt.split x nl).map li)[0]? = some (M 0 ++ R 0) := by rw [hs]; simp
  rw [List.getElem?_map] at hs0
  obtain ⟨y, hy, hyl⟩ := Option.map_eq_some_iff.mp hs0
  refine ⟨y, ⟨#[c]⟩, deep, hy, ?_, ?_⟩
  · unfold signs
    rw [show y.cps.toList = List.replicate deep 32 ++ c :: r0 by rw [← h0, ← hr]; exact hyl]
    have := findBlank c r0 hc deep 0
    rwa [Nat.zero_add] at this
  · apply str_toList
    show li _ = li z
    unfold dedentAt
    rw [join_li, hz, List.map_map]
    congr 1
    have e : (Txt.split x nl).map (li ∘ fun l => Txt.slice l (some (deep : Int)) none) = ((Txt.split x nl).map li).map (List.drop deep) := by
      rw [List.map_map]
      refine List.map_congr_left fun l hl => ?_
      show li (Txt.slice l _ none) = (li l).drop deep
      refine slice_li l deep ?_
      have hm : li l ∈ (List.range (n + 1)).map fun i => M i ++ R i := by rw [← hs]; exact List.mem_map_of_mem hl
      obtain ⟨i, hi, e⟩ := List.mem_map.mp hm
      show deep ≤ (li l).length
      rw [← e, List.length_append, (hM i (List.mem_range.mp hi)).1]
      omega
    rw [e, hs, List.map_map]
    refine List.map_congr_left fun i hi => ?_
    show List.drop deep (M i ++ R i) = R i
    rw [← (hM i (List.mem_range.mp hi)).1, List.drop_left]
/-- a word written between marks -/
inductive Esc : List Nat → List Nat → Prop
  | nil : Esc [] []
  | esc {w e : List Nat} (c : Nat) : Esc w e → Esc (c :: w) (92 :: c :: e)
  | chr {w e : List Nat} {c : Nat} : c ≠ 34 → c ≠ 92 → Esc w e → Esc (c :: w) (c :: e)
theorem Esc.count {w e : List Nat} (h : Esc w e) : e.count 10 = w.count 10 := by
  induction h with
  | nil => rfl
  | esc c _ ih => rw [List.count_cons_of_ne (by decide), List.count_cons, List.count_cons, ih]
  | chr _ _ _ ih => rw [List.count_cons, List.count_cons, ih]
theorem escAll : ∀ w : List Nat, Esc w (w.flatMap fun c => [92, c])
  | [] => .nil
  | c :: w => .esc c (escAll w)
theorem escSub : ∀ w : List Nat, Esc w (sub1 34 [92, 34] (sub1 92 [92, 92] w))
  | [] => .nil
  | c :: w => by
    have ih := escSub w
    rw [show c :: w = [c] ++ w from rfl, sub1_append, sub1_append]
    by_cases h1 : c = 92
    · subst h1
      exact .esc 92 ih
    by_cases h2 : c = 34
    · subst h2
      exact .esc 34 ih
    · have e : sub1 34 [92, 34] (sub1 92 [92, 92] [c]) = [c] := by simp [sub1, h1, h2]
      rw [e]
      exact .chr h2 h1 ih
theorem QR_run {tk r r' : List Nat} : ∀ {m acc : List Nat}, (∀ c ∈ m, c ≠ 34 ∧ c ≠ 92) → QR (acc ++ m) r tk r' → QR acc (m ++ r) tk r'
  | [], acc, _, h => by rw [List.append_nil] at h; exact h
  | c :: m, acc, hm, h => by
    refine .chr (hm c (.head _)).1 (hm c (.head _)).2 (QR_run (fun d hd => hm d (.tail _ hd)) ?_)
    rw [List.append_assoc]; exact h
theorem QR_esc {f : Nat → List Nat} (hf : ∀ k, ∀ c ∈ f k, c ≠ 34 ∧ c ≠ 92) {w e r : List Nat} (h : Esc w e) : ∀ (k : Nat) (acc : List Nat), QR acc (gof f k e ++ 34 :: r) (acc ++ gof f k w) r := by
  induction h with
  | nil => intro k acc; simp only [gof, List.nil_append, List.append_nil]; exact .done _ _
  | @esc w e c _ ih =>
    intro k acc
    by_cases hc : c = 10
    · subst hc
      have := ih (k + 1) (acc ++ [10] ++ f k)
      simp only [gof, if_true, show (92 : Nat) ≠ 10 by decide, if_false, List.cons_append, List.append_assoc]
      refine .esc (QR_run (hf k) ?_)
      simpa using this
    · have := ih k (acc ++ [c])
      simp only [gof, if_neg hc, show (92 : Nat) ≠ 10 by decide, if_false, List.cons_append]
      refine .esc ?_
      simpa using this
  | @chr w e c h1 h2 _ ih =>
    intro k acc
    by_cases hc : c = 10
    · subst hc
      have := ih (k + 1) (acc ++ [10] ++ f k)
      simp only [gof, if_true, List.cons_append, List.append_assoc]
      refine .chr h1 h2 (QR_run (hf k) ?_)
      simpa using this
    · have := ih k (acc ++ [c])
      simp only [gof, if_neg hc, List.cons_append]
      refine .chr h1 h2 ?_
      simpa using this
theorem BR_esc {d : Nat} {r : List Nat} (hd : IsWs d) : ∀ (w acc : List Nat), BR acc ((w.flatMap fun c => [92, c]) ++ d :: r) (acc ++ w) r
  | [], acc => by rw [List.append_nil]; exact .done _ _ hd
  | c :: w, acc => by
    have := BR_esc (r := r) hd w (acc ++ [c])
    rw [List.append_assoc] at this
    exact .esc this
theorem TR_lead {l tk r' : List Nat} : ∀ {lead : List Nat}, (∀ c ∈ lead, IsWs c) → TR l tk r' → TR (lead ++ l) tk r'
  | [], _, h => h
  | c :: lead, hl, h => .ws (hl c (.head _)) (TR_lead (fun d hd => hl d (.tail _ hd)) h)
def wL (n : Int) : List Nat := li (wordOf n)
def wrL (n : Int) : List Nat := li (writtenOf n)
def bh (n : Int) : Nat := (Txt.charAt (Str.ofString " \n\t\r") ((n.fdiv 2592).fmod 4)).getD 0
theorem behind_bh (n : Int) : behindOf n = ⟨#[bh n]⟩ := rfl
theorem behind_nl (n : Int) : behindOf n = nl ↔ bh n = 10 := by
  rw [behind_bh, nlS]
  constructor
  · intro h; injection h with h; simpa using h
  · intro h; rw [h]
theorem in3 {k : Int} (h0 : 0 ≤ k) (h1 : k < 3) : k = 0 ∨ k = 1 ∨ k = 2 := by omega
theorem in4 {k : Int} (h0 : 0 ≤ k) (h1 : k < 4) : k = 0 ∨ k = 1 ∨ k = 2 ∨ k = 3 := by omega
theorem in6 {k : Int} (h0 : 0 ≤ k) (h1 : k < 6) : k = 0 ∨ k = 1 ∨ k = 2 ∨ k = 3 ∨ k = 4 ∨ k = 5 := by omega
theorem bh_ws (n : Int) : IsWs (bh n) := by
  unfold bh
  have h1 := fmod_lo (n := 4) (n.fdiv 2592) (by decide)
  have h2 := fmod_hi (n := 4) (n.fdiv 2592) (by decide)
  generalize (n.fdiv 2592).fmod 4 = k at h1 h2
  rcases in4 h1 h2 with rfl | rfl | rfl | rfl <;> decide
theorem bare_facts {n : Int} (h : bareOf n = true) : wrL n = ((wL n).flatMap fun c => [92, c]) ∧ wL n ≠ [] ∧ 10 ∉ wL n := by
  refine ⟨?_, ?_, ?_⟩
  · unfold wrL; rw [written_bare h]; exact escS_list _
  · unfold bareOf at h
    simp only [Bool.and_eq_true] at h
    intro e
    have h2 := h.1.2
    rw [show wordOf n = Str.ofString "" from str_toList (by rw [show (Str.ofString "").cps.toList = [] by decide]; exact e)] at h2
    exact absurd h2 (by decide)
  · unfold bareOf at h
    simp only [Bool.and_eq_true] at h
    have h2 := h.2
    rw [show Str.ofString "\n" = ⟨#[10]⟩ by decide, empty_one] at h2
    intro hm
    rw [decide_eq_true (show 10 ∈ (wordOf n).cps.toList from hm)] at h2
    cases h2
theorem li_append (a b : Str) : li (a ++ b) = li a ++ li b := by show (a.cps ++ b.cps).toList = _; rw [Array.toList_append]
theorem quote_facts {n : Int} (h : bareOf n = false) : ∃ e, wrL n = 34 :: (e ++ [34]) ∧ Esc (wL n) e := by
  have hq : li (Str.ofString "\"") = [34] := by decide
  by_cases h1 : (n.fdiv 864).fmod 3 = 1
  · refine ⟨(wL n).flatMap fun c => [92, c], ?_, escAll _⟩
    unfold wrL
    rw [written_esc h h1, li_append, li_append, hq, show li (escS (wordOf n)) = _ from escS_list _]
    rfl
  · refine ⟨sub1 34 [92, 34] (sub1 92 [92, 92] (wL n)), ?_, escSub _⟩
    unfold wrL
    rw [written_plain h h1, li_append, li_append, hq]
    have e1 : li (Txt.replace (Txt.replace (wordOf n) (Str.ofString "\\") (Str.ofString "\\\\")) (Str.ofString "\"") (Str.ofString "\\\"")) = sub1 34 [92, 34] (sub1 92 [92, 92] (wL n)) := by
      rw [q34, q92]
      show (Txt.replace _ _ _).cps.toList = _
      rw [replace_list, replace_list]
      rfl
    rw [e1]; rfl
theorem wr_count (n : Int) : (wrL n).count 10 = (wL n).count 10 := by
  cases h : bareOf n
  · obtain ⟨e, h1, h2⟩ := quote_facts h
    rw [h1, List.count_cons_of_ne (by decide), List.count_append, h2.count]
    rfl
  · rw [(bare_facts h).1]; exact (escAll _).count
/-- the text of the words, set in -/
def tx (f g : Nat → List Nat) : Nat → List Int → List Nat
  | _, [] => []
  | k, n :: ns => gof f k (wrL n) ++ bh n :: ((if bh n = 10 then g (k + (wL n).count 10) else []) ++ tx f g (k + (wL n).count 10 + (if bh n = 10 then 1 else 0)) ns)
/-- what is read off it -/
def told (f g : Nat → List Nat) : Nat → List Int → List (List Nat × List Nat)
  | _, [] => [([], [])]
  | k, n :: ns => (gof f k (wL n), (if bareOf n then [] else [bh n]) ++ ((if bh n = 10 then g (k + (wL n).count 10) else []) ++ tx f g (k + (wL n).count 10 + (if bh n = 10 then 1 else 0)) ns)) :: told f g (k + (wL n).count 10 + (if bh n = 10 then 1 else 0)) ns
theorem read_one {f : Nat → List Nat} (hf : ∀ k, ∀ c ∈ f k, c ≠ 34 ∧ c ≠ 92) (n : Int) (k : Nat) (r : List Nat) : TR (gof f k (wrL n) ++ bh n :: r) (gof f k (wL n)) ((if bareOf n then [] else [bh n]) ++ r) := by
  cases h : bareOf n
  · obtain ⟨e, h1, h2⟩ := quote_facts h
    rw [h1]
    show TR (gof f k ((34 :: e) ++ [34]) ++ bh n :: r) _ _
    rw [gof_append]
    simp only [gof, show (34 : Nat) ≠ 10 by decide, if_false, List.cons_append, List.append_assoc, List.nil_append]
    refine .quo ?_
    have := QR_esc hf (r := bh n :: r) h2 k []
    simpa using this
  · obtain ⟨h1, h2, h3⟩ := bare_facts h
    have h4 : 10 ∉ wrL n := by rw [← List.count_eq_zero, wr_count, List.count_eq_zero]; exact h3
    rw [gof_free h4, gof_free h3, h1]
    cases hw : wL n with
    | nil => exact absurd hw h2
    | cons c w => exact .esc (BR_esc (bh_ws n) w [c])
theorem read_all {f g : Nat → List Nat} (hf : ∀ k, ∀ c ∈ f k, c ≠ 34 ∧ c ≠ 92) (hg : ∀ k, ∀ c ∈ g k, IsWs c) : ∀ (ns : List Int) (k : Nat) (lead : List Nat), (∀ c ∈ lead, IsWs c) → RD (lead ++ tx f g k ns) (told f g k ns) []
  | [], _, _, hl => .cons (TR_lead hl .fin) (.nil _)
  | n :: ns, k, lead, hl => by
    refine .cons (TR_lead hl (read_one hf n k _)) ?_
    rw [← List.append_assoc]
    refine read_all hf hg ns _ _ ?_
    intro c hc
    rcases List.mem_append.mp hc with hc | hc
    · split at hc
      · cases hc
      · rw [List.mem_singleton.mp hc]; exact bh_ws n
    · split at hc
      · exact hg _ c hc
      · cases hc
theorem tx_count {f g : Nat → List Nat} (hf : ∀ k, 10 ∉ f k) (hg : ∀ k, 10 ∉ g k) : ∀ (ns : List Int) (k : Nat), (tx f g k ns).count 10 = (ns.map fun n => (wL n).count 10 + (if bh n = 10 then 1 else 0)).sum
  | [], k => rfl
  | n :: ns, k => by
    have ih := tx_count hf hg ns (k + (wL n).count 10 + (if bh n = 10 then 1 else 0))
    simp only [tx, List.count_append, gof_count hf, wr_count, List.count_cons, ih, List.map_cons, List.sum_cons, beq_iff_eq]
    have : (if bh n = 10 then g (k + (wL n).count 10) else []).count 10 = 0 := by
      split
      · exact List.count_eq_zero.mpr (hg _)
      · rfl
    rw [this]
    omega
end Mine
end
section -- Pure3
open PySem PySem.W PyProof.Rows
set_option maxRecDepth 100000
namespace Mine
abbrev eL : Nat → List Nat := fun _ => []
abbrev wc (n : Int) : Nat := (wL n).count 10
abbrev nk (k : Nat) (n : Int) : Nat := k + wc n + (if bh n = 10 then 1 else 0)
/-- the margin behind the line end k -/
def fL (deep shift : Int) (k : Nat) : List Nat := li (marginAt (Str.ofString " \ta#") 4 (((k + 1 : Nat) : Int) + shift) deep)
def gL (deep shift : Int) (k : Nat) : List Nat := li (marginAt (Str.ofString " \t\r") 3 (((k + 1 : Nat) : Int) + shift) deep)
theorem mul_li (c : Nat) {deep : Int} (d1 : 1 ≤ deep) (d2 : deep ≤ 3) : li (Txt.mul ⟨#[c]⟩ deep) = List.replicate deep.toNat c := by
  have : deep = 1 ∨ deep = 2 ∨ deep = 3 := by omega
  rcases this with rfl | rfl | rfl <;> rfl
theorem sign4 (k : Int) : let c := (Txt.charAt (Str.ofString " \ta#") (k.fmod 4)).getD 0; c = 32 ∨ c = 9 ∨ c = 97 ∨ c = 35 := by
  have h1 := fmod_lo (n := 4) k (by decide)
  have h2 := fmod_hi (n := 4) k (by decide)
  generalize k.fmod 4 = j at h1 h2
  rcases in4 h1 h2 with rfl | rfl | rfl | rfl <;> decide
theorem sign3 (k : Int) : let c := (Txt.charAt (Str.ofString " \t\r") (k.fmod 3)).getD 0; c = 32 ∨ c = 9 ∨ c = 13 := by
  have h1 := fmod_lo (n := 3) k (by decide)
  have h2 := fmod_hi (n := 3) k (by decide)
  generalize k.fmod 3 = j at h1 h2
  rcases in3 h1 h2 with rfl | rfl | rfl <;> decide
section
variable {deep shift : Int} (d1 : 1 ≤ deep) (d2 : deep ≤ 3)
include d1 d2
theorem fL_is (k : Nat) : ∃ c, fL deep shift k = List.replicate deep.toNat c ∧ (c = 32 ∨ c = 9 ∨ c = 97 ∨ c = 35) := ⟨_, mul_li _ d1 d2, sign4 _⟩
theorem gL_is (k : Nat) : ∃ c, gL deep shift k = List.replicate deep.toNat c ∧ (c = 32 ∨ c = 9 ∨ c = 13) := ⟨_, mul_li _ d1 d2, sign3 _⟩
theorem fL_mem (k : Nat) : ∀ c ∈ fL deep shift k, c = 32 ∨ c = 9 ∨ c = 97 ∨ c = 35 := fun c hc => by
  obtain ⟨d, h1, h2⟩ := fL_is (shift := shift) d1 d2 k
  rw [h1] at hc
  rw [(List.mem_replicate.mp hc).2]; exact h2
theorem gL_mem (k : Nat) : ∀ c ∈ gL deep shift k, c = 32 ∨ c = 9 ∨ c = 13 := fun c hc => by
  obtain ⟨d, h1, h2⟩ := gL_is (shift := shift) d1 d2 k
  rw [h1] at hc
  rw [(List.mem_replicate.mp hc).2]; exact h2
theorem fL_len (k : Nat) : (fL deep shift k).length = deep.toNat := by
  obtain ⟨d, h1, h2⟩ := fL_is (shift := shift) d1 d2 k
  rw [h1, List.length_replicate]
theorem gL_len (k : Nat) : (gL deep shift k).length = deep.toNat := by
  obtain ⟨d, h1, h2⟩ := gL_is (shift := shift) d1 d2 k
  rw [h1, List.length_replicate]
theorem fL_no (k : Nat) : 10 ∉ fL deep shift k := fun h => by have := fL_mem d1 d2 k 10 h; omega
theorem gL_no (k : Nat) : 10 ∉ gL deep shift k := fun h => by have := gL_mem d1 d2 k 10 h; omega
end
/-- _dedent takes the margins away -/
theorem ded_gof {x z : Str} {deep c k : Nat} {t : List Nat} {F : Nat → List Nat} (hz : li z = c :: t) (h10 : c ≠ 10) (h32 : c ≠ 32) (hx : li x = List.replicate deep 32 ++ gof F k (li z))
    (hF : ∀ i, i < (li z).count 10 → (F (k + i)).length = deep ∧ 10 ∉ F (k + i)) : Ded x z := by
  have hno := split_nol z
  have hjo := split_join z
  have hne := split_ne z
  generalize hR : Txt.split z nl = rows at hno hjo hne
  obtain ⟨n, hn⟩ : ∃ n, rows.length = n + 1 := ⟨rows.length - 1, by have := List.length_pos_iff.mpr hne; omega⟩
  have hRn : ∀ i, 10 ∉ li (rows.getD i Str.empty) := fun i => by
    by_cases h : i < rows.length
    · have e : rows.getD i Str.empty = rows[i] := by simp [List.getD, h]
      rw [e]; exact hno _ (List.getElem_mem h)
    · have e : rows.getD i Str.empty = Str.empty := by simp [List.getD, h]
      rw [e]; exact (List.not_mem_nil)
  have hmap : rows.map li = (List.range (n + 1)).map fun i => li (rows.getD i Str.empty) := by
    refine List.ext_getElem (by simp [hn]) fun i h1 h2 => ?_
    have h3 : i < rows.length := by simpa using h1
    simp [List.getD, h3]
  rw [hmap] at hjo
  have hcnt : (li z).count 10 = n := by
    have := joinL_count (R := (List.range (n + 1)).map fun i => li (rows.getD i Str.empty)) (by simp) (fun r hr => by obtain ⟨i, _, rfl⟩ := List.mem_map.mp hr; exact hRn i)
    rw [hjo, List.length_map, List.length_range] at this
    omega
  have hx2 : li x = joinL ((List.range (n + 1)).map fun i => (if i = 0 then List.replicate deep 32 else F (k + i - 1)) ++ li (rows.getD i Str.empty)) := by
    rw [hx, ← hjo, gof_join hRn n]
    rw [List.range_succ_eq_map, List.map_cons, List.map_cons, ← joinL_front]
    simp only [if_true, List.nil_append, List.map_map]
    congr 2
  have hr0 : ∃ r0, li (rows.getD 0 Str.empty) = c :: r0 := by
    rw [hz] at hjo
    rw [List.range_succ_eq_map, List.map_cons] at hjo
    generalize li (rows.getD 0 Str.empty) = a at hjo
    generalize List.map _ _ = b at hjo
    cases a with
    | nil =>
      cases b with
      | nil => cases hjo
      | cons q r => exact absurd (List.cons.inj hjo).1.symm h10
    | cons d a =>
      cases b with
      | nil => exact ⟨a, by rw [(List.cons.inj hjo).1]⟩
      | cons q r => exact ⟨a, by rw [show d = c from (List.cons.inj hjo).1]⟩
  obtain ⟨r0, hr0⟩ := hr0
  refine ded_of (n := n) (deep := deep) (M := fun i => if i = 0 then List.replicate deep 32 else F (k + i - 1)) (R := fun i => li (rows.getD i Str.empty)) hx2 hjo.symm ?_ (fun i _ => hRn i) (if_pos rfl) hr0 h32
  intro i hi
  by_cases h0 : i = 0
  · rw [if_pos h0]
    exact ⟨List.length_replicate, fun h => by have := (List.mem_replicate.mp h).2; omega⟩
  · rw [if_neg h0, show k + i - 1 = k + (i - 1) by omega]
    exact hF (i - 1) (by omega)
/-- the margins in order -/
def mgL (f g : Nat → List Nat) : Nat → List Int → List (List Nat)
  | _, [] => []
  | k, n :: ns => ((List.range (wc n)).map fun j => f (k + j)) ++ ((if bh n = 10 then [g (k + wc n)] else []) ++ mgL f g (nk k n) ns)
theorem mgL_len (f g : Nat → List Nat) : ∀ (ns : List Int) (k : Nat), (mgL f g k ns).length = (ns.map fun n => wc n + (if bh n = 10 then 1 else 0)).sum
  | [], _ => rfl
  | n :: ns, k => by
    have ih := mgL_len f g ns (nk k n)
    simp only [mgL, List.length_append, List.length_map, List.length_range, ih, List.map_cons, List.sum_cons]
    split <;> simp <;> omega
theorem wL_len (n : Int) : (wL n).length ≤ 3 := by
  have := wordLen n
  rwa [← len_toList] at this
theorem wc_le (n : Int) : wc n ≤ 3 := Nat.le_trans List.count_le_length (wL_len n)
theorem mgL_le (f g : Nat → List Nat) (k : Nat) (ns : List Int) : (mgL f g k ns).length ≤ 4 * ns.length := by
  rw [mgL_len]
  induction ns with
  | nil => exact Nat.le_refl _
  | cons n ns ih =>
    have := wc_le n
    simp only [List.map_cons, List.sum_cons, List.length_cons]
    split <;> omega
theorem mgL_mem {f g : Nat → List Nat} {P : List Nat → Prop} (hf : ∀ k, P (f k)) (hg : ∀ k, P (g k)) : ∀ (ns : List Int) (k : Nat), ∀ q ∈ mgL f g k ns, P q
  | [], _, _, h => nomatch h
  | n :: ns, k, q, h => by
    rcases List.mem_append.mp h with h | h
    · obtain ⟨j, _, rfl⟩ := List.mem_map.mp h
      exact hf _
    rcases List.mem_append.mp h with h | h
    · split at h
      · rw [List.mem_singleton.mp h]; exact hg _
      · cases h
    · exact mgL_mem hf hg ns _ q h
theorem tx_gof {f g F : Nat → List Nat} : ∀ (ns : List Int) (k : Nat), (∀ i, i < (mgL f g k ns).length → F (k + i) = (mgL f g k ns).getD i []) → gof F k (tx eL eL k ns) = tx f g k ns
  | [], _, _ => rfl
  | n :: ns, k, h => by
    have e1 : (if bh n = 10 then ([] : List Nat) else []) = [] := by split <;> rfl
    simp only [tx, gof_nil, e1, List.nil_append]
    rw [gof_append, wr_count]
    have h1 : gof F k (wrL n) = gof f k (wrL n) := gof_congr fun j hj => by
      rw [wr_count] at hj
      have hl : j < ((List.range (wc n)).map fun j => f (k + j)).length := by simpa using hj
      rw [h j (by simp only [mgL, List.length_append]; omega)]
      simp only [mgL, List.getD_eq_getElem?_getD]
      rw [List.getElem?_append_left hl]
      simp [hj]
    have hrest : ∀ i, i < (mgL f g (nk k n) ns).length → F (nk k n + i) = (mgL f g (nk k n) ns).getD i [] := fun i hi => by
      have h2 := h (wc n + (if bh n = 10 then 1 else 0) + i) (by simp only [mgL, List.length_append, List.length_map, List.length_range]; split <;> simp <;> omega)
      rw [show k + (wc n + (if bh n = 10 then 1 else 0) + i) = nk k n + i by show _ = k + wc n + _ + i; omega] at h2
      rw [h2]
      simp only [mgL, List.getD_eq_getElem?_getD]
      rw [List.getElem?_append_right (by simp; omega), List.getElem?_append_right (by simp; split <;> simp <;> omega)]
      congr 2
      simp
      split <;> simp <;> omega
    rw [h1]
    congr 1
    by_cases hb : bh n = 10
    · have h2 := h (wc n) (by simp only [mgL, List.length_append, List.length_map, List.length_range, if_pos hb, List.length_singleton]; omega)
      have h3 : (mgL f g k (n :: ns)).getD (wc n) [] = g (k + wc n) := by
        simp only [mgL, List.getD_eq_getElem?_getD]
        rw [List.getElem?_append_right (by simp), List.getElem?_append_left (by simp [hb])]
        simp [hb]
      rw [h3] at h2
      have ih := tx_gof ns (nk k n) hrest
      simp only [nk, if_pos hb] at ih
      simp only [gof, if_pos hb]
      rw [show F (k + (wL n).count 10) = g (k + wc n) from h2, ih, hb]
    · have ih := tx_gof ns (nk k n) hrest
      simp only [nk, if_neg hb, Nat.add_zero] at ih
      simp only [gof, if_neg hb, Nat.add_zero, List.nil_append]
      rw [ih]
end Mine
end
section -- Pure4
open PySem PySem.W PyProof.Rows
set_option maxRecDepth 100000
namespace Mine
/-- the words and the lines told, in plain lists -/
def ans (f : Nat → List Nat) : Nat → List Int → List (List Nat × Int)
  | k, [] => [([], 1 + (k : Int))]
  | k, n :: ns => (gof f k (wL n), 1 + ((k + wc n + (if bareOf n then (if bh n = 10 then 1 else 0) else 0) : Nat) : Int)) :: ans f (nk k n) ns
theorem ans_len (f : Nat → List Nat) : ∀ (ns : List Int) (k : Nat), (ans f k ns).length = ns.length + 1
  | [], _ => rfl
  | n :: ns, k => by simp only [ans, List.length_cons, ans_len f ns]
theorem told_ans {f g : Nat → List Nat} (hf : ∀ k, 10 ∉ f k) (hg : ∀ k, 10 ∉ g k) {x : Str} {T : Nat} (hT : (li x).count 10 = T) : ∀ (ns : List Int) (k : Nat), T = k + (tx f g k ns).count 10 →
    (told f g k ns).map (readDat x) = (ans f k ns).map fun q => Dat.tuple [.str ⟨q.1.toArray⟩, .int q.2]
  | [], k, h => by
    have h' : T = k := h
    simp only [told, ans, List.map_cons, List.map_nil, readDat]
    rw [show x.cps.toList.count 10 = T from hT, h']
    rfl
  | n :: ns, k, h => by
    have hm : (if bh n = 10 then g (k + (wL n).count 10) else []).count 10 = 0 := by
      split
      · exact List.count_eq_zero.mpr (hg _)
      · rfl
    have h2 : (tx f g k (n :: ns)).count 10 = wc n + (if bh n = 10 then 1 else 0) + (tx f g (nk k n) ns).count 10 := by
      simp only [tx, List.count_append, gof_count hf, wr_count, List.count_cons, hm, beq_iff_eq, nk, wc]
      omega
    have ih := told_ans hf hg hT ns (nk k n) (by rw [h, h2]; show _ = k + wc n + _ + _; omega)
    simp only [told, ans, List.map_cons, ih]
    congr 1
    unfold readDat
    rw [show x.cps.toList.count 10 = T from hT]
    congr 3
    congr 1
    rw [h2] at h
    have h3 : (if bareOf n = true then ([] : List Nat) else [bh n]).count 10 = if bareOf n then 0 else (if bh n = 10 then 1 else 0) := by
      split
      · rfl
      · rw [List.count_singleton]; simp
    simp only [List.count_append, hm, h3]
    simp only [nk, wc] at h ⊢
    generalize (tx f g (k + List.count 10 (wL n) + if bh n = 10 then 1 else 0) ns).count 10 = q at h ⊢
    split <;> split <;> rename_i a b <;> simp only [b, if_true, if_false] at h <;> omega
def lp (q : Str × Int) : List Nat × Int := (li q.1, q.2)
theorem pair_lp (q : Str × Int) : pairDat q = Dat.tuple [.str ⟨(lp q).1.toArray⟩, .int (lp q).2] := by
  unfold pairDat lp
  rfl
theorem cnt_list (c : Nat) : ∀ l : List Nat, cnt c l = (l.count c : Nat)
  | [] => rfl
  | d :: l => by
    rw [cnt_cons, cnt_list c l, List.count_cons]
    by_cases h : d = c
    · simp [h]; omega
    · simp [h]
theorem count_li (x : Str) : Txt.count x nl = ((li x).count 10 : Nat) := by
  rw [nlS, count_cnt, cnt_list]
theorem moved_li {deep shift : Int} {rows ms : List Str} {k : Nat} (h : ms.length = k + 1) : ∀ i, li (movedAt deep shift rows ms i).1 = joinL ((List.range (i + 1)).map fun j => (if j = 0 then [] else fL deep shift (k + j - 1)) ++ li (rows.getD j Str.empty)) ∧
    (movedAt deep shift rows ms i).2.map li = ms.map li ++ (List.range i).map fun j => fL deep shift (k + j)
  | 0 => ⟨rfl, by simp [movedAt]⟩
  | i + 1 => by
    obtain ⟨h1, h2⟩ := moved_li (deep := deep) (shift := shift) (rows := rows) h i
    have e : li (marginAt (Str.ofString " \ta#") 4 (((movedAt deep shift rows ms i).2.length : Int) + shift) deep) = fL deep shift (k + i) := by
      rw [movedAt_len2, h]
      unfold fL
      rw [show k + 1 + i = k + i + 1 by omega]
    constructor
    · rw [List.range_succ, List.map_append, List.map_singleton, joinL_snoc _ _ (by simp), ← h1]
      simp only [movedAt, li_append, e, nlL]
      rw [if_neg (by omega), show k + (i + 1) - 1 = k + i by omega]
      simp
    · rw [List.range_succ, List.map_append, List.map_singleton, ← List.append_assoc, ← h2, ← e]
      simp only [movedAt, List.map_append, List.map_singleton]
theorem mv_li {deep shift n : Int} {ms : List Str} {k : Nat} (h : ms.length = k + 1) : li (mvOf deep shift n ms).1 = gof (fL deep shift) k (wL n) ∧ (mvOf deep shift n ms).2.map li = ms.map li ++ (List.range (wc n)).map fun j => fL deep shift (k + j) := by
  have hno := split_nol (wordOf n)
  have hjo := split_join (wordOf n)
  have hne := split_ne (wordOf n)
  unfold mvOf
  generalize hR : Txt.split (wordOf n) nl = rows at hno hjo hne
  obtain ⟨r, hr⟩ : ∃ r, rows.length = r + 1 := ⟨rows.length - 1, by have := List.length_pos_iff.mpr hne; omega⟩
  have hRn : ∀ i, 10 ∉ li (rows.getD i Str.empty) := fun i => by
    by_cases h : i < rows.length
    · have e : rows.getD i Str.empty = rows[i] := by simp [List.getD, h]
      rw [e]; exact hno _ (List.getElem_mem h)
    · have e : rows.getD i Str.empty = Str.empty := by simp [List.getD, h]
      rw [e]; exact (List.not_mem_nil)
  have hmap : rows.map li = (List.range (r + 1)).map fun i => li (rows.getD i Str.empty) := by
    refine List.ext_getElem (by simp [hr]) fun i h1 h2 => ?_
    have h3 : i < rows.length := by simpa using h1
    simp [List.getD, h3]
  rw [hmap] at hjo
  have hcnt : wc n = r := by
    have := joinL_count (R := (List.range (r + 1)).map fun i => li (rows.getD i Str.empty)) (by simp) (fun r hr => by obtain ⟨i, _, rfl⟩ := List.mem_map.mp hr; exact hRn i)
    rw [hjo, List.length_map, List.length_range] at this
    show (li (wordOf n)).count 10 = r
    omega
  obtain ⟨h1, h2⟩ := moved_li (deep := deep) (shift := shift) (rows := rows) h r
  rw [hr, Nat.add_sub_cancel, h1, h2, hcnt]
  refine ⟨?_, rfl⟩
  rw [← gof_join hRn r, hjo]
  rfl
/-- one turn of the law's loop in plain lists -/
structure Turn (deep shift : Int) (k : Nat) (ns : List Int) (s t : LSt) : Prop where
  plain : li t.plain = li s.plain ++ tx eL eL k ns
  ms : t.ms.map li = s.ms.map li ++ mgL (fL deep shift) (gL deep shift) k ns
  words : (t.words ++ [lastOf t]).map lp = s.words.map lp ++ ans eL k ns
  moved : (t.moved ++ [lastOf t]).map lp = s.moved.map lp ++ ans (fL deep shift) k ns
theorem turns {deep shift : Int} : ∀ (ns : List Int) (s : LSt) (k : Nat), (li s.plain).count 10 = k → s.ms.length = k + 1 → Turn deep shift k ns s (ns.foldl (stepL deep shift) s)
  | [], s, k, hk, hm => by
    have e : lp (lastOf s) = ([], 1 + (k : Int)) := by
      unfold lp lastOf
      rw [count_li, hk]
      rfl
    refine ⟨?_, ?_, ?_, ?_⟩
    · simp [tx]
    · simp [mgL]
    · simp [ans, e]
    · simp [ans, e]
  | n :: ns, s, k, hk, hm => by
    obtain ⟨m1, m2⟩ := mv_li (deep := deep) (shift := shift) (n := n) hm
    have hpl : li (stepL deep shift s n).plain = li s.plain ++ (wrL n ++ [bh n]) := by
      show li (s.plain ++ writtenOf n ++ behindOf n) = _
      rw [li_append, li_append, List.append_assoc]
      rfl
    have hk2 : (li (stepL deep shift s n).plain).count 10 = nk k n := by
      rw [hpl, List.count_append, List.count_append, wr_count, hk, List.count_singleton]
      simp only [beq_iff_eq, nk, wc]
      omega
    have hms : (stepL deep shift s n).ms.map li = s.ms.map li ++ ((List.range (wc n)).map (fun j => fL deep shift (k + j)) ++ (if bh n = 10 then [gL deep shift (k + wc n)] else [])) := by
      show (if behindOf n = nl then _ else _ : List Str).map li = _
      have hl : (mvOf deep shift n s.ms).2.length = k + wc n + 1 := by
        have := congrArg List.length m2
        simp only [List.length_map, List.length_append, List.length_range, hm] at this
        omega
      by_cases hb : bh n = 10
      · rw [if_pos ((behind_nl n).mpr hb), if_pos hb, List.map_append, m2, List.append_assoc, List.map_singleton, hl]
        rfl
      · rw [if_neg (fun h => hb ((behind_nl n).mp h)), if_neg hb, m2, List.append_nil]
    have hm2 : (stepL deep shift s n).ms.length = nk k n + 1 := by
      have := congrArg List.length hms
      simp only [List.length_map, List.length_append, List.length_range, hm] at this
      rw [this]
      simp only [nk, wc]
      split <;> simp <;> omega
    have hln : 1 + Txt.count (s.plain ++ writtenOf n ++ takenOf n) nl = 1 + ((k + wc n + (if bareOf n then (if bh n = 10 then 1 else 0) else 0) : Nat) : Int) := by
      rw [count_li, li_append, li_append, List.count_append, List.count_append, hk]
      rw [show (li (writtenOf n)).count 10 = wc n from wr_count n]
      congr 3
      cases hb : bareOf n
      · rw [taken_not hb]; rfl
      · rw [taken_bare hb, behind_bh]
        show [bh n].count 10 = _
        rw [List.count_singleton]
        simp
    obtain ⟨p1, p2, p3, p4⟩ := turns (deep := deep) (shift := shift) ns (stepL deep shift s n) (nk k n) hk2 hm2
    rw [List.foldl_cons]
    refine ⟨?_, ?_, ?_, ?_⟩
    · rw [p1, hpl]
      simp only [tx, gof_nil]
      have e1 : (if bh n = 10 then ([] : List Nat) else []) = [] := by split <;> rfl
      simp
    · rw [p2, hms]
      simp [mgL]
    · rw [p3]
      have e : (stepL deep shift s n).words.map lp = s.words.map lp ++ [lp (wordOf n, 1 + Txt.count (s.plain ++ writtenOf n ++ takenOf n) nl)] := by
        show (s.words ++ [_]).map lp = _
        rw [List.map_append]; rfl
      rw [e, hln]
      simp only [ans, gof_nil, List.append_assoc, List.singleton_append]
      rfl
    · rw [p4]
      have e : (stepL deep shift s n).moved.map lp = s.moved.map lp ++ [lp ((mvOf deep shift n s.ms).1, 1 + Txt.count (s.plain ++ writtenOf n ++ takenOf n) nl)] := by
        show (s.moved ++ [_]).map lp = _
        rw [List.map_append]; rfl
      rw [e, hln]
      simp only [ans, List.append_assoc, List.singleton_append]
      unfold lp
      rw [m1]
theorem tx_len : ∀ (ns : List Int) (k : Nat), (tx eL eL k ns).length ≤ 15 * ns.length
  | [], _ => Nat.le_refl _
  | n :: ns, k => by
    have ih := tx_len ns (nk k n)
    have hw : (wrL n).length ≤ 14 := by
      have := writtenLen n
      rwa [← len_toList] at this
    have e1 : (if bh n = 10 then ([] : List Nat) else []) = [] := by split <;> rfl
    simp only [tx, gof_nil, e1, List.nil_append, List.length_append, List.length_cons]
    have ih' : (tx eL eL (k + (wL n).count 10 + (if bh n = 10 then 1 else 0)) ns).length ≤ 15 * ns.length := ih
    omega
/-- the signs that may stand in a word -/
def Sg (c : Nat) : Prop := c = 97 ∨ c = 32 ∨ c = 10 ∨ c = 34 ∨ c = 92 ∨ c = 9 ∨ c = 35
theorem signSg (k : Int) : ∀ c ∈ li (Txt.item signsS (k.fmod 6)), Sg c := fun c hc => by
  have h1 := fmod_lo (n := 6) k (by decide)
  have h2 := fmod_hi (n := 6) k (by decide)
  generalize k.fmod 6 = j at h1 h2 hc
  have hc' : c ∈ [(Txt.charAt signsS j).getD 0] := hc
  rw [List.mem_singleton.mp hc']
  unfold Sg
  rcases in6 h1 h2 with rfl | rfl | rfl | rfl | rfl | rfl <;> decide
theorem wordSg (n : Int) : ∀ c ∈ wL n, Sg c := by
  unfold wL wordOf
  generalize (n.fmod 4).toNat = i
  induction i with
  | zero => intro c hc; exact absurd (show c ∈ li (Str.ofString "") from hc) (by rw [show li (Str.ofString "") = [] by decide]; exact List.not_mem_nil)
  | succ i ih =>
    intro c hc
    have hc' : c ∈ li ((wordAt n i).1 ++ Txt.item signsS ((wordAt n i).2.fmod 6)) := hc
    rw [li_append] at hc'
    rcases List.mem_append.mp hc' with h | h
    · exact ih c h
    · exact signSg _ c h
theorem ans_mem {f : Nat → List Nat} : ∀ (ns : List Int) (k : Nat), ∀ q ∈ ans f k ns, ∃ k' w, q.1 = gof f k' w ∧ w.length ≤ 3 ∧ ∀ c ∈ w, Sg c
  | [], k, q, h => ⟨0, [], by rw [List.mem_singleton.mp h]; rfl, Nat.zero_le _, fun _ h => (nomatch h)⟩
  | n :: ns, k, q, h => by
    rcases List.mem_cons.mp h with rfl | h
    · exact ⟨k, wL n, rfl, wL_len n, wordSg n⟩
    · exact ans_mem ns _ q h
theorem ans_pair {f : Nat → List Nat} : ∀ (ns : List Int) (k j : Nat) {a b : List Nat × Int}, (ans f k ns)[j]? = some a → (ans eL k ns)[j]? = some b → ∃ k', a.1 = gof f k' b.1 ∧ b.1.length ≤ 3
  | [], k, 0, a, b, h1, h2 => by
    have h1 := Option.some.inj h1
    have h2 := Option.some.inj h2
    exact ⟨0, by rw [← h1, ← h2]; rfl, by rw [← h2]; exact Nat.zero_le _⟩
  | [], k, j + 1, a, b, h1, _ => by simp [ans] at h1
  | n :: ns, k, 0, a, b, h1, h2 => by
    have h1 := Option.some.inj h1
    have h2 := Option.some.inj h2
    rw [← h1, ← h2]
    dsimp only
    rw [gof_nil]
    exact ⟨k, rfl, wL_len n⟩
  | n :: ns, k, j + 1, a, b, h1, h2 => ans_pair ns _ j h1 h2
theorem strOk_li {x : Str} (h : ∀ c ∈ li x, c < 0x110000) : PyData.strOk x = true := by
  unfold PyData.strOk
  rw [Array.all_eq_true_iff_forall_mem]
  intro c hc
  exact decide_eq_true (h c (Array.mem_toList_iff.mpr hc))
end Mine
end
section -- Pure5
open PySem PySem.W PyProof.Rows
set_option maxRecDepth 100000
namespace Mine
theorem inset_li {P : Str} {ms : List Str} {deep : Nat} (h0 : li (ms.getD 0 Str.empty) = List.replicate deep 32) : li (insetOf P ms) = List.replicate deep 32 ++ gof (fun i => li (ms.getD (i + 1) Str.empty)) 0 (li P) := by
  have hno := split_nol P
  have hjo := split_join P
  have hne := split_ne P
  unfold insetOf
  generalize hR : Txt.split P nl = rows at hno hjo hne
  obtain ⟨r, hr⟩ : ∃ r, rows.length = r + 1 := ⟨rows.length - 1, by have := List.length_pos_iff.mpr hne; omega⟩
  have hRn : ∀ i, 10 ∉ li (rows.getD i Str.empty) := fun i => by
    by_cases h : i < rows.length
    · have e : rows.getD i Str.empty = rows[i] := by simp [List.getD, h]
      rw [e]; exact hno _ (List.getElem_mem h)
    · have e : rows.getD i Str.empty = Str.empty := by simp [List.getD, h]
      rw [e]; exact (List.not_mem_nil)
  have hmap : rows.map li = (List.range (r + 1)).map fun i => li (rows.getD i Str.empty) := by
    refine List.ext_getElem (by simp [hr]) fun i h1 h2 => ?_
    have h3 : i < rows.length := by simpa using h1
    simp [List.getD, h3]
  rw [hmap] at hjo
  rw [join_li, ← hjo, gof_join hRn r, hr, List.map_map]
  rw [List.range_succ_eq_map, List.map_cons, List.map_cons, ← joinL_front]
  simp only [if_true, List.nil_append, List.map_map]
  congr 1
  congr 1
  · show li (ms.getD 0 Str.empty ++ rows.getD 0 Str.empty) = _
    rw [li_append, h0]
  · refine List.map_congr_left fun i _ => ?_
    show li (ms.getD (i + 1) Str.empty ++ rows.getD (i + 1) Str.empty) = (if i + 1 = 0 then [] else li (ms.getD (0 + (i + 1) - 1 + 1) Str.empty)) ++ li (rows.getD (i + 1) Str.empty)
    rw [li_append, if_neg (by omega), show 0 + (i + 1) - 1 + 1 = i + 1 by omega]
/-- the law's loop begins so -/
def stBegin (deep : Int) : LSt := ⟨Str.ofString "", [], [], [Txt.mul (Str.ofString " ") deep]⟩
theorem wr_head (n : Int) : ∃ c r, wrL n = c :: r ∧ (c = 34 ∨ c = 92) := by
  cases h : bareOf n
  · obtain ⟨e, h1, h2⟩ := quote_facts h
    exact ⟨34, _, h1, .inl rfl⟩
  · obtain ⟨h1, h2, h3⟩ := bare_facts h
    cases hw : wL n with
    | nil => exact absurd hw h2
    | cons c w => exact ⟨92, _, by rw [h1, hw]; rfl, .inr rfl⟩
theorem tx_head (n : Int) (ns : List Int) (k : Nat) : ∃ c r, tx eL eL k (n :: ns) = c :: r ∧ (c = 34 ∨ c = 92) := by
  obtain ⟨c, r, h1, h2⟩ := wr_head n
  refine ⟨c, r ++ bh n :: ((if bh n = 10 then [] else []) ++ tx eL eL (k + (wL n).count 10 + (if bh n = 10 then 1 else 0)) ns), ?_, h2⟩
  simp only [tx, gof_nil, h1, List.cons_append]
/-- all that the rest of the law leans on -/
structure AllOk (deep : Int) (st : LSt) : Prop where
  rows : (Txt.split st.plain nl).length ≤ st.ms.length
  msl : ∀ q ∈ st.ms, q.length ≤ 3
  ok : TailOk deep st
  pl : st.plain.length ≤ 200
  w : st.words.length ≤ 8
  m : st.moved.length ≤ 8
  ms : st.ms.length ≤ 60
theorem split_count (x : Str) : (Txt.split x nl).length = (li x).count 10 + 1 := by
  have h := joinL_count (R := (Txt.split x nl).map li) (by simpa using split_ne x) (fun r hr => by obtain ⟨q, hq, rfl⟩ := List.mem_map.mp hr; exact split_nol x q hq)
  rw [split_join, List.length_map] at h
  exact h.symm
theorem len_li (x : Str) : (li x).length = x.length := len_toList x
theorem SgLt {c : Nat} (h : Sg c) : c < 0x110000 := by
  unfold Sg at h; omega
theorem SgF {c : Nat} (h : c = 32 ∨ c = 9 ∨ c = 97 ∨ c = 35) : Sg c := by
  unfold Sg; omega
theorem fPlain {c : Nat} (h : c = 32 ∨ c = 9 ∨ c = 97 ∨ c = 35) : c ≠ 34 ∧ c ≠ 92 := by omega
theorem gWs {c : Nat} (h : c = 32 ∨ c = 9 ∨ c = 13) : IsWs c := by
  unfold IsWs; omega
theorem rep10 {n : Nat} : 10 ∉ List.replicate n 32 := fun h => absurd (List.mem_replicate.mp h).2 (by decide)
theorem lt3 {deep : Int} (d1 : 1 ≤ deep) (d2 : deep ≤ 3) : deep.toNat ≤ 3 := by omega
theorem le100 {a b : Nat} (h : a ≤ 4 * b) (h2 : b ≤ 3) : a ≤ 100 := by omega
theorem le100' {a b : Nat} (h : a = b) (h2 : b ≤ 3) : a ≤ 100 := by omega
theorem le1000 {a b d : Nat} (h : a ≤ 4 * b) (h2 : b ≤ 120) (h3 : d ≤ 3) : d + a ≤ 1000 := by omega
theorem le120 {a b n : Nat} (h : a = b) (h2 : b ≤ 15 * n) (h3 : n ≤ 8) : a ≤ 120 := by omega
theorem le60 {a b c n : Nat} (h : a = c + 1) (h1 : c = b) (h2 : b ≤ 4 * n) (h3 : n ≤ 8) : a ≤ 60 := by omega
theorem c10 {c : Nat} (h : c = 34 ∨ c = 92) : c ≠ 10 ∧ c ≠ 32 := by omega
theorem all_ok {deep shift : Int} (d1 : 1 ≤ deep) (d2 : deep ≤ 3) (n : Int) (ns : List Int) (hl : ns.length ≤ 7) : AllOk deep ((n :: ns).foldl (stepL deep shift) (stBegin deep)) := by
  obtain ⟨t1, t2, t3, t4⟩ := turns (deep := deep) (shift := shift) (n :: ns) (stBegin deep) 0 rfl rfl
  obtain ⟨c0, r0, hc1, hc2⟩ := tx_head n ns 0
  have hl1 : (n :: ns).length ≤ 8 := by simp only [List.length_cons]; omega
  generalize hnn : n :: ns = nn at t1 t2 t3 t4 hc1 hl1
  clear hnn hl
  generalize nn.foldl (stepL deep shift) (stBegin deep) = st at t1 t2 t3 t4
  have hblank : li (Txt.mul (Str.ofString " ") deep) = List.replicate deep.toNat 32 := by
    rw [show Str.ofString " " = ⟨#[32]⟩ by decide]; exact mul_li 32 d1 d2
  have t1 : li st.plain = tx eL eL 0 nn := t1
  have t2 : st.ms.map li = List.replicate deep.toNat 32 :: mgL (fL deep shift) (gL deep shift) 0 nn := by rw [t2]; show li (Txt.mul (Str.ofString " ") deep) :: _ = _; rw [hblank]; rfl
  have t3 : (st.words ++ [lastOf st]).map lp = ans eL 0 nn := t3
  have t4 : (st.moved ++ [lastOf st]).map lp = ans (fL deep shift) 0 nn := t4
  have fno := fL_no (shift := shift) d1 d2
  have gno := gL_no (shift := shift) d1 d2
  have hmem : ∀ q ∈ st.ms, (li q).length = deep.toNat ∧ 10 ∉ li q := fun q hq => by
    have h : li q ∈ st.ms.map li := List.mem_map_of_mem hq
    rw [t2] at h
    rcases List.mem_cons.mp h with h | h
    · rw [h]; exact ⟨List.length_replicate, rep10⟩
    · exact mgL_mem (P := fun q => q.length = deep.toNat ∧ 10 ∉ q) (fun k => ⟨fL_len d1 d2 k, fno k⟩) (fun k => ⟨gL_len d1 d2 k, gno k⟩) nn 0 _ h
  have hcnt : (li st.plain).count 10 = (mgL (fL deep shift) (gL deep shift) 0 nn).length := by
    rw [t1, tx_count (fun _ => List.not_mem_nil) (fun _ => List.not_mem_nil), mgL_len]
  have hcnt2 : (tx (fL deep shift) (gL deep shift) 0 nn).count 10 = (li st.plain).count 10 := by
    rw [hcnt, tx_count fno gno, mgL_len]
  have hml : st.ms.length = (li st.plain).count 10 + 1 := by
    have := congrArg List.length t2
    rw [List.length_map, List.length_cons] at this
    rw [this, hcnt]
  have hmg := mgL_le (fL deep shift) (gL deep shift) 0 nn
  have hgetD : ∀ i, li (st.ms.getD i Str.empty) = (List.replicate deep.toNat 32 :: mgL (fL deep shift) (gL deep shift) 0 nn).getD i [] := fun i => by
    rw [← t2, List.getD_eq_getElem?_getD, List.getD_eq_getElem?_getD, List.getElem?_map]
    cases st.ms[i]? <;> rfl
  have hin : li (insetOf st.plain st.ms) = List.replicate deep.toNat 32 ++ gof (fun i => li (st.ms.getD (i + 1) Str.empty)) 0 (li st.plain) := inset_li (hgetD 0)
  have hin2 : li (insetOf st.plain st.ms) = List.replicate deep.toNat 32 ++ tx (fL deep shift) (gL deep shift) 0 nn := by
    rw [hin, t1]
    congr 1
    refine tx_gof nn 0 fun i _ => ?_
    rw [Nat.zero_add, hgetD]; rfl
  have hpl : st.plain.length ≤ 120 := by
    have := tx_len nn 0
    rw [← t1, len_li] at this
    exact le120 rfl this hl1
  have hc10 : c0 ≠ 10 := (c10 hc2).1
  have hc32 : c0 ≠ 32 := (c10 hc2).2
  have hpc : li st.plain = c0 :: r0 := by rw [t1, hc1]
  have inCnt : (li (insetOf st.plain st.ms)).count 10 = (li st.plain).count 10 := by
    rw [hin2, List.count_append, hcnt2, List.count_eq_zero.mpr rep10, Nat.zero_add]
  have hmsl : ∀ q ∈ st.ms, q.length ≤ 3 := fun q hq => by
    have := (hmem q hq).1
    rw [len_li] at this
    exact this ▸ lt3 d1 d2
  have wlen : st.words.length + 1 = nn.length + 1 := by
    have := congrArg List.length t3
    rw [ans_len, List.length_map, List.length_append, List.length_singleton] at this
    exact this
  have mlen : st.moved.length + 1 = nn.length + 1 := by
    have := congrArg List.length t4
    rw [ans_len, List.length_map, List.length_append, List.length_singleton] at this
    exact this
  have hSg : ∀ c, Sg c → c < 0x110000 := fun c h => SgLt h
  have inW : ∀ q ∈ st.words ++ [lastOf st], ∃ k' w, li q.1 = gof eL k' w ∧ w.length ≤ 3 ∧ ∀ c ∈ w, Sg c := fun q hq => by
    have h : lp q ∈ (st.words ++ [lastOf st]).map lp := List.mem_map_of_mem hq
    rw [t3] at h
    exact ans_mem nn 0 _ h
  have inM : ∀ q ∈ st.moved ++ [lastOf st], ∃ k' w, li q.1 = gof (fL deep shift) k' w ∧ w.length ≤ 3 ∧ ∀ c ∈ w, Sg c := fun q hq => by
    have h : lp q ∈ (st.moved ++ [lastOf st]).map lp := List.mem_map_of_mem hq
    rw [t4] at h
    exact ans_mem nn 0 _ h
  have fSg : ∀ k, ∀ c ∈ fL deep shift k, Sg c := fun k c hc => by
    exact SgF (fL_mem d1 d2 k c hc)
  have f3 : ∀ k, (fL deep shift k).length ≤ 3 := fun k => by rw [fL_len d1 d2]; exact lt3 d1 d2
  refine ⟨by rw [split_count, hml]; exact Nat.le_refl _, hmsl, ?_, Nat.le_trans hpl (by decide), Nat.succ.inj wlen ▸ hl1, Nat.succ.inj mlen ▸ hl1, le60 hml hcnt hmg hl1⟩
  constructor
  case inLen =>
    have h1 := gof_len (f := fun i => li (st.ms.getD (i + 1) Str.empty)) (fun k => by rw [len_li]; exact getD_len hmsl (k + 1)) (li st.plain) 0
    rw [← len_li, hin, List.length_append, List.length_replicate]
    rw [len_li] at h1
    exact le1000 h1 hpl (lt3 d1 d2)
  case in1 =>
    refine ded_gof (deep := deep.toNat) (k := 0) hpc hc10 hc32 hin fun i hi => ?_
    rw [Nat.zero_add]
    have h : i + 1 < st.ms.length := by rw [hml]; exact Nat.succ_lt_succ hi
    have e : st.ms.getD (i + 1) Str.empty = st.ms[i + 1] := by simp [List.getD, h]
    rw [e]
    exact hmem _ (List.getElem_mem h)
  case pl1 =>
    refine ded_gof (deep := 0) (k := 0) (F := eL) hpc hc10 hc32 ?_ fun i hi => ⟨rfl, List.not_mem_nil⟩
    rw [gof_nil]; rfl
  case rd1 =>
    refine ⟨told eL eL 0 nn, ?_, ?_⟩
    · have := read_all (f := eL) (g := eL) (fun _ _ h => nomatch h) (fun _ _ h => nomatch h) nn 0 [] (fun _ h => nomatch h)
      rw [List.nil_append, ← t1] at this
      exact this
    · rw [told_ans (T := (li st.plain).count 10) (fun _ => List.not_mem_nil) (fun _ => List.not_mem_nil) rfl nn 0 (by rw [t1]; exact (Nat.zero_add _).symm), ← t3, List.map_map]
      exact List.map_congr_left fun q _ => (pair_lp q).symm
  case rd2 =>
    refine ⟨told (fL deep shift) (gL deep shift) 0 nn, ?_, ?_⟩
    · have := read_all (f := fL deep shift) (g := gL deep shift) (fun k c hc => fPlain (fL_mem d1 d2 k c hc)) (fun k c hc => gWs (gL_mem d1 d2 k c hc)) nn 0 (List.replicate deep.toNat 32)
        (fun c hc => by rw [(List.mem_replicate.mp hc).2]; decide)
      rw [← hin2] at this
      exact this
    · rw [told_ans (T := (li st.plain).count 10) fno gno inCnt nn 0 (by rw [hcnt2]; exact (Nat.zero_add _).symm), ← t4, List.map_map]
      exact List.map_congr_left fun q _ => (pair_lp q).symm
  case len => exact Nat.succ.inj (mlen.trans wlen.symm)
  case okw =>
    intro q hq
    obtain ⟨k', w, h1, h2, h3⟩ := inW q hq
    refine strOk_li fun c hc => hSg c ?_
    rw [h1, gof_nil] at hc
    exact h3 c hc
  case lenw =>
    intro q hq
    obtain ⟨k', w, h1, h2, h3⟩ := inW q hq
    have := congrArg List.length h1
    rw [gof_nil, len_li] at this
    exact le100' this h2
  case okm =>
    intro q hq
    obtain ⟨k', w, h1, h2, h3⟩ := inM q hq
    refine strOk_li fun c hc => hSg c ?_
    rw [h1] at hc
    exact gof_all (P := Sg) fSg k' h3 c hc
  case back =>
    intro j q q' hq hq'
    have g1 : (ans (fL deep shift) 0 nn)[j]? = some (lp q) := by rw [← t4, List.getElem?_map, hq]; rfl
    have g2 : (ans eL 0 nn)[j]? = some (lp q') := by rw [← t3, List.getElem?_map, hq']; rfl
    obtain ⟨k', h1, h2⟩ := ans_pair nn 0 j g1 g2
    have h1 : li q.1 = gof (fL deep shift) k' (li q'.1) := h1
    have h2 : (li q'.1).length ≤ 3 := h2
    have hz : li (tabS ++ q'.1) = 9 :: li q'.1 := by rw [li_append]; rfl
    constructor
    · have h3 := gof_len f3 (li q'.1) k'
      rw [← h1, len_li] at h3
      exact le100 h3 h2
    · refine ded_gof (deep := deep.toNat) (k := k') (F := fL deep shift) hz (by decide) (by decide) ?_ fun i _ => ⟨fL_len d1 d2 _, fno _⟩
      rw [hz, li_append, li_append, hblank, h1, List.append_assoc]
      rfl
end Mine
end
section -- Law4
open PySem PySem.W PyProof.Rows
set_option maxRecDepth 100000
set_option maxHeartbeats 8000000
namespace Mine
theorem all_okN {deep shift : Int} (d1 : 1 ≤ deep) (d2 : deep ≤ 3) {nn : List Int} (h : nn ≠ []) (hl : nn.length ≤ 8) : AllOk deep (nn.foldl (stepL deep shift) (stBegin deep)) := by
  cases nn with
  | nil => exact absurd rfl h
  | cons n ns => exact all_ok d1 d2 n ns (by simpa using hl)
theorem startNews {h₀ h : Heap} {L : Addr} {m w g q1 q2 d q3 q4 q5 c3 c2 c1 t : Addr × Obj} (N : News h₀ L h [m, w, g, q1, q2, d, q3, q4, q5, c3, c2, c1, t]) : News h₀ L h (d :: ([m, w, g, c3, c2, c1] ++ [t])) := newsSub N fun p hp => by
  simp only [List.cons_append, List.nil_append, List.mem_cons, List.not_mem_nil, or_false] at hp ⊢
  rcases hp with hp | hp | hp | hp | hp | hp | hp | hp <;> simp only [hp, true_or, or_true]
theorem numsOk (xs : List Int) : ∀ n ∈ (List.map (fun k' => k'.fmod (10 ^ Int.toNat 6)) (List.take 4 xs) ++ [3939, 1770, 7810, 6912] : List Int), 0 ≤ n ∧ n < 1000000 := fun n hn => by
  have e : ((10 : Int) ^ Int.toNat 6) = 1000000 := by decide
  rcases List.mem_append.mp hn with hn | hn
  · obtain ⟨x, _, rfl⟩ := List.mem_map.mp hn
    rw [e]
    exact ⟨fmod_lo _ (by decide), fmod_hi _ (by decide)⟩
  · simp only [List.mem_cons, List.not_mem_nil, or_false] at hn
    omega
theorem numsLen (xs : List Int) : (List.map (fun k' => k'.fmod (10 ^ Int.toNat 6)) (List.take 4 xs) ++ [3939, 1770, 7810, 6912] : List Int).length ≤ 8 := by
  rw [List.length_append, List.length_map, List.length_take]
  show _ + 4 ≤ 8
  omega
theorem numsNe (xs : List Int) : (List.map (fun k' => k'.fmod (10 ^ Int.toNat 6)) (List.take 4 xs) ++ [3939, 1770, 7810, 6912] : List Int) ≠ [] := by simp
/-- the law behind its beginning -/
theorem law_whole {prog : Program} {w : World} {p : Program} {loose : List Str} {mean : ExcName → Option Value} {mg mb : Str → Option Value} {dp un : Nat} {gd : Option (List Code)} {outer : List Env} {A₀ : Around} {base h₀ : Heap} {L fa : Addr} {cd : Value} {m : Str → Option Value} {s : Shared}
    {R : Result → Shared → Prop} {E : Value → Shared → Prop} {Q : Flow → Shared → Prop} {D W M G : Addr} {o1 o2 o3 : Obj} {q1 q2 q3 q4 q5 : Addr × Obj} {vs : List Value} {k : Nat} {ns : List Int} {deep shift : Int} {tm td ts tp : Tok} {px : Pos}
    (B : Below A₀ base outer h₀) (F : Fr h₀ L s.heap m) (X : (Mine.hd.heap_39 w.params).In h₀)
    (N : News h₀ L s.heap [(M, listOf #[] 0), (W, listOf #[] 0), (G, listOf #[.str (Txt.mul (Str.ofString " ") deep) tm] 0), q1, q2, (D, listOf vs.toArray k), q3, q4, q5, (L + 1 + 1 + 1, o3), (L + 1 + 1, o2), (L + 1, o1), (72, tabObj #[])]) (T : Top p loose mean mg mb h₀)
    (C : CodeHd h₀ 76 72) (hd : dp < 400) (hun : un < 9000) (hI : IntsAre vs ns) (hns : ∀ n ∈ ns, 0 ≤ n ∧ n < 1000000) (hne : ns ≠ []) (hnl : ns.length ≤ 8) (d1 : 1 ≤ deep) (d2 : deep ≤ 3) (s1 : 0 ≤ shift) (s2 : shift ≤ 63)
    (hdeep : o1.data = .cell (some (.int deep td))) (hmar : o2.data = .cell (some (.ref G))) (hrow : ∃ v, o3.data = .cell v)
    (a0 : @LT.lt Nat _ 72 L) (a1 : @LT.lt Nat _ (L + 1 + 1 + 1) D) (a2 : @LT.lt Nat _ D G) (a3 : @LT.lt Nat _ G W) (a4 : @LT.lt Nat _ W M)
    (hH : Has m [(Str.ofString "plain", .str (Str.ofString "") tp), (Str.ofString "words", .ref W), (Str.ofString "moved", .ref M), (Str.ofString "shift", .int shift ts)])
    (hR : ∀ s', wpAny (model prog w) (At dp un gd (lawEnv L fa cd) outer) (execs lawTail (lawEnv L fa cd)) Q E s' → R (.ok .next) s')
    (done : ∀ h' tk' m' ps led, Fr h₀ L h' m' → News h₀ L h' ((72, tabObj ps) :: led) → Q (.ret (.bool true)) { s with heap := h', toks := tk' }) :
    wpAny (model prog w) (At dp un gd (lawEnv L fa cd) outer) (pyIter (.ref D)) (fun it s₂ => codeAny (model prog w) (At dp un gd (lawEnv L fa cd) outer) (.forLoop (.Name (Str.ofString "number") px) it lawFor [] (lawEnv L fa cd)) R s₂) E s := by
  refine law_loop (rest := [(72, tabObj #[])]) (c3 := 0) (st := stBegin deep) (vw := []) (vm := []) (vg := [_]) B F X (startNews N) T hd hI hns hnl d1 d2 s1 s2 hdeep hmar ?_ a1 a2 a3 a4 hH rfl rfl rfl rfl rfl (.cons _ _ .nil) (Nat.le_refl _) ?_
  · intro p hp
    rw [List.mem_singleton.mp hp]
    exact ⟨neN (by dsimp only; omega), neN (by dsimp only; omega), neN (by dsimp only; omega), neN (by dsimp only; omega)⟩
  · intro m' h tk vw vm vg nw nm ng tups tp' F' H' N' htu hdw hdm hG
    obtain ⟨k1, k2, k3, k4, k5, k6, k7⟩ := all_okN (shift := shift) d1 d2 hne hnl
    refine hR _ ?_
    refine ofNE (wpAny_mono (law_tail (Q := Q) B F' X N' T C hd hun d1 d2 s1 s2 hdeep hmar hrow htu a0 (Nat.lt_trans a1 a2) a3 a4 H' k1 k2 k3 k4 k5 k6 k7 hdw hdm hG ?_) (fun f s₂ z => z.out) (fun _ _ z => z))
    intro h' tk' m'' ps led F'' N''
    exact done _ _ _ _ _ F'' N''
end Mine
end
section -- Law0
open PySem PySem.W PyProof.Rows
set_option maxRecDepth 100000
set_option maxHeartbeats 8000000
namespace Mine
local macro_rules | `(tactic| k_all) => `(tactic| assumption)
local macro_rules | `(tactic| walk_at "exec For Name Name cons nil") => `(tactic| ((with_reducible show wpAny _ _ (exec (Stmt.For (Expr.Name (Str.ofString "number") _) _ _ _ _) _) _ _ _); refine wpAny_For ?_ ?_; rotate_left; (intro _; with_unfolding_all rfl)))
local macro_rules | `(tactic| walk_at "last pyIter ref") => `(tactic| refine halt ?_)
local macro_rules | `(tactic| walk_at "pyIter ref") => `(tactic| refine halt ?_)
theorem deepOk (z : Int) : 1 ≤ 1 + z.fmod 3 ∧ 1 + z.fmod 3 ≤ 3 := by
  have h1 := fmod_lo (n := 3) z (by decide)
  have h2 := fmod_hi (n := 3) z (by decide)
  omega
theorem law_holds : PySem.Challenge.rw_re0004_01.Holds := Mine.hd (by
  k_go0
  (all_goals try k_fold)
  k_steps
  rename (Fr _ _ _ _) => F5
  rename (News _ _ _ _) => N5
  rename (Top _ _ _ _ _ _) => T5
  rename (Below _ _ _ _) => B5
  rename (Frag.In _ _) => X5
  rename (CodeHd _ _ _) => C5
  rename (_ = Data.cell (some (Value.int _ _))) => e1
  rename (_ = Data.cell (some (Value.ref _))) => e2
  rename (IntsAre _ (List.map _ _ ++ _)) => I5
  rename (¬ _ < _) => h63
  refine ⟨?_⟩
  refine' law_whole (shift := _) (ts := _) (tp := _) (Q := _) B5 F5 X5 N5 T5 C5 ?hd ?hun I5 (numsOk _) (numsNe _) (numsLen _) ?d1 ?d2 ?s1 ?s2 e1 e2 ?hrow ?a0 ?a1 ?a2 ?a3 ?a4 ?hH ?hR ?done
  case hH => exact has_cons (by rw [if_neg (by decide), if_neg (by decide), if_pos rfl]) (has_cons (by rw [if_neg (by decide), if_pos rfl]) (has_cons (by rw [if_pos rfl]) (has_cons (by rw [if_neg (by decide), if_neg (by decide), if_neg (by decide), if_pos rfl]) has_nil)))
  case hR => intro s' h; show wpAny _ _ _ _ _ _; exact h
  case hd => decide
  case hun => decide
  case d1 => exact (deepOk _).1
  case d2 => exact (deepOk _).2
  case s1 => exact Int.natCast_nonneg _
  case s2 => exact Int.not_lt.mp (by assumption)
  case hrow => exact ⟨_, by assumption⟩
  case a0 => assumption
  case a1 => exact And.left (And.right (And.right (And.right (by assumption))))
  case a2 => exact And.left (And.right (And.right (by assumption)))
  case a3 => exact And.left (by assumption)
  case a4 => exact And.left (by assumption)
  case done =>
    intro h' tk' m' ps led F' N'
    refine ⟨?_, ⟨⟨ps, (N' _ (.head _)).1⟩, trivial⟩⟩
    refine goodW_bool F' ?_ (raisesW_false ?_) ?_
    · assumption
    · wrow_none_raised
    · kc_post)
end Mine
end
end
theorem PySem.Challenge.cw_re0004_01_holds : PySem.Challenge.rw_re0004_01.Holds :=
  Mine.law_holds
