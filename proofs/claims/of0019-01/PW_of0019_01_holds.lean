import PyProof.Rows.All
import Wide.All
import OpenK.AllK
import Wide.FinOn
import Flt.RightMore
import KE.KNest
import KE.KLcPair
import PySem.Challenge.RW_of0019_01
set_option Elab.async false
section
open PySem PySem.W PyProof.Rows
namespace Mine
set_option maxRecDepth 100000 in
set_option maxHeartbeats 8000000 in
open_top hd for PySem.Challenge.rw_of0019_01
end Mine
end
section
open PySem PySem.W PyProof.Rows PySem.Calls PySem.Spec
set_option maxRecDepth 100000
namespace Mine

abbrev News' := List (Addr × Obj)
/-- the ledger with the object at l exchanged -/
def put (l : Addr) (o : Obj) (news : News') : News' := news.map fun p => if p.1 = l then (l, o) else p
theorem put_ne {l a : Addr} {o x : Obj} {news : News'} (h : (a, x) ∈ news) (hn : a ≠ l) : (a, x) ∈ put l o news :=
  List.mem_map.mpr ⟨(a, x), h, if_neg hn⟩
theorem put_self {l : Addr} {o x : Obj} {news : News'} (h : (l, x) ∈ news) : (l, o) ∈ put l o news :=
  List.mem_map.mpr ⟨(l, x), h, if_pos rfl⟩
theorem put_put {l : Addr} {o o' : Obj} {news : News'} : put l o' (put l o news) = put l o' news := by
  unfold put
  rw [List.map_map]
  refine List.map_congr_left fun p _ => ?_
  show (if (if p.1 = l then (l, o) else p).1 = l then (l, o') else (if p.1 = l then (l, o) else p)) = _
  by_cases h : p.1 = l
  · simp [h]
  · simp [h]
theorem put_id {h₀ h : Heap} {L l : Addr} {o : Obj} {news : News'} (N : News h₀ L h news) (hm : (l, o) ∈ news) : put l o news = news := by
  unfold put
  conv => rhs; rw [← List.map_id news]
  refine List.map_congr_left fun p hp => ?_
  by_cases e : p.1 = l
  · have h1 := (N p hp).1
    have h2 := (N _ hm).1
    rw [e] at h1
    have h3 : p.2 = o := Option.some.inj (h1.symm.trans h2)
    rw [if_pos e, ← e, ← h3]; rfl
  · rw [if_neg e]; rfl
theorem put_fr {h₀ h h' : Heap} {L l : Addr} {m : Str → Option Value} {o o' : Obj} {news : News'} (F : Fr h₀ L h m) (N : News h₀ L h news) (hm : (l, o) ∈ news)
    (hs : Heap.SameBut l h h') (hg : h'.get? l = some o') : Fr h₀ L h' m ∧ News h₀ L h' (put l o' news) := by
  have z := N _ hm
  refine ⟨F.change hs z.2.1 z.2.2, fun p hp => ?_⟩
  obtain ⟨q, hq, rfl⟩ := List.mem_map.mp hp
  by_cases e : q.1 = l
  · simp only [e, if_true]
    exact ⟨hg, z.2⟩
  · simp only [e, if_false]
    have y := N q hq
    exact ⟨(hs.2 _ e).trans y.1, y.2⟩
theorem news_apart {h₀ h : Heap} {L a b : Addr} {x y : Obj} {news : News'} (N : News h₀ L h news) (ha : (a, x) ∈ news) (hb : (b, y) ∈ news) (hn : x ≠ y) : a ≠ b := by
  rintro rfl
  exact hn (Option.some.inj ((N _ ha).1.symm.trans (N _ hb).1))

/-- a value with the pair that its tuple bears -/
abbrev It := Value × (Int × Int)
abbrev tupO (a b : Int) (ta tb : Tok) (n : Nat) : Obj := { cls := .type "tuple", data := .seq #[.int a ta, .int b tb] n }
def TupAt (news : News') (p : It) : Prop := ∃ t ta tb n, p.1 = .ref t ∧ (t, tupO p.2.1 p.2.2 ta tb n) ∈ news
theorem tup_ne_list {a b : Int} {ta tb : Tok} {n k : Nat} {xs : Array Value} : tupO a b ta tb n ≠ listOf xs k := by
  intro h
  have := congrArg Obj.cls h
  simp at this
theorem TupAt.put {h₀ h : Heap} {L l : Addr} {news : News'} {p : It} {xs ys : Array Value} {n k : Nat} (N : News h₀ L h news) (hm : (l, listOf xs n) ∈ news) (t : TupAt news p) : TupAt (put l (listOf ys k) news) p := by
  obtain ⟨t, ta, tb, j, e, hp⟩ := t
  exact ⟨t, ta, tb, j, e, put_ne hp (news_apart N hp hm tup_ne_list)⟩

def ltK (p q : Int × Int) : Bool := if p.1 = q.1 then decide (p.2 < q.2) else decide (p.1 < q.1)

section
variable {prog : Program} {w : World} {A : Around} {E : Value → Shared → Prop} {s : Shared} {h₀ : Heap} {L : Addr} {news : News'}
theorem lt_tup {p q : It} {Q : Value → Shared → Prop} (N : News h₀ L s.heap news) (hp : TupAt news p) (hq : TupAt news q) (hu : A.units < cLine) (h : Q (.bool (ltK p.2 q.2)) s) :
    wpAny (model prog w) A (compareOp .Lt p.1 q.1) Q E s := by
  obtain ⟨⟨pv, a, i⟩, hp⟩ : ∃ p', TupAt news p' ∧ p' = p := ⟨p, hp, rfl⟩
  obtain ⟨hp, rfl⟩ := hp
  obtain ⟨⟨qv, b, j⟩, hq⟩ : ∃ q', TupAt news q' ∧ q' = q := ⟨q, hq, rfl⟩
  obtain ⟨hq, rfl⟩ := hq
  obtain ⟨x, ta, ti, n, ex, hx⟩ := hp
  obtain ⟨y, tb, tj, k, ey, hy⟩ := hq
  simp only at ex ey hx hy h
  subst ex ey
  have ox := N.get hx
  have oy := N.get hy
  have hTx : s.TypeIs (.ref x) "tuple" := ⟨_, ox, rfl⟩
  have hTy : s.TypeIs (.ref y) "tuple" := ⟨_, oy, rfl⟩
  show wpAny (model prog w) A (richCompare .Lt (.ref x) (.ref y)) Q E s
  refine wpAny_richCompare_same_room (op := .Lt) hTx hTy F.slot_tuple_lt (wpAny_call_entry F.slot_tuple_lt hTx F.entry_tuple_lt ?_ (F.args_tuple_lt_2 _ _)) hu
  show wpAny _ _ (isInstance (.ref y) (.type "tuple") >>= _) _ _ s
  refine wpAny_bind (wpAny_isInstance hTy isSubtype_tuple_tuple ?_)
  simp only [Bool.not_true, Bool.false_eq_true, if_false]
  refine wpAny_bind (wpAny_tupleItemsOf ox rfl ?_)
  refine wpAny_bind (wpAny_tupleItemsOf oy rfl ?_)
  simp only [List.zip_cons_cons, List.zip_nil_right, List.forIn_cons, List.forIn_nil, bind_assoc, pure_bind]
  refine wpAny_bind (wpAny_eqBool_int ?_)
  unfold ltK at h
  simp only at h
  by_cases e1 : a = b
  · subst e1
    simp only [if_true] at h
    simp only [beq_self_eq_true, Bool.not_true, Bool.false_eq_true, if_false, pure_bind]
    refine wpAny_bind (wpAny_bind (wpAny_eqBool_int ?_))
    by_cases e2 : i = j
    · subst e2
      simp only [beq_self_eq_true, Bool.not_true, Bool.false_eq_true, if_false, pure_bind]
      refine wpAny_pure (wpAny_pure ⟨_, rfl, nofun, ?_⟩)
      have : decide (i < i) = false := by simp
      rw [this] at h
      exact h
    · have : (i == j) = false := by simpa using e2
      simp only [this, Bool.not_false, if_true, bind_assoc]
      refine wpAny_bind (wpAny_rule (wpAny_bind ?_))
      refine wpAny_lt_int (wpAny_bind (wpAny_pure ?_))
      exact wpAny_pure (wpAny_pure ⟨_, rfl, nofun, h⟩)
  · have : (a == b) = false := by simpa using e1
    simp only [e1, if_false] at h
    simp only [this, Bool.not_false, if_true, bind_assoc]
    refine wpAny_bind (wpAny_rule (wpAny_bind ?_))
    refine wpAny_lt_int (wpAny_bind (wpAny_pure ?_))
    exact wpAny_pure ⟨_, rfl, nofun, h⟩
end
/-- a comprehension's own names, beside the frame -/
structure Cm (h₀ : Heap) (L C : Addr) (h : Heap) (mc : Str → Option Value) : Prop where
  ns : h.Ns C mc
  ne : C ≠ L
  new : h₀.get? C = none
theorem Cm.obj {h₀ : Heap} {L C : Addr} {h : Heap} {mc : Str → Option Value} (c : Cm h₀ L C h mc) : ∃ oC, h.get? C = some oC ∧ (∃ es n, oC.data = .dict es n) ∧ ∀ h', h'.get? C = some oC → Cm h₀ L C h' mc := by
  obtain ⟨o, es, ep, ho, hd, hk, hm⟩ := c.ns
  exact ⟨o, ho, ⟨es, ep, hd⟩, fun h' e => ⟨⟨o, es, ep, e, hd, hk, hm⟩, c.ne, c.new⟩⟩
theorem Cm.same {h₀ : Heap} {L C b : Addr} {h h' : Heap} {mc : Str → Option Value} (c : Cm h₀ L C h mc) (hs : Heap.SameBut b h h') (hb : C ≠ b) : Cm h₀ L C h' mc := ⟨c.ns.sameBut hs hb, c.ne, c.new⟩
theorem Cm.ext {h₀ : Heap} {L C b : Addr} {h h' : Heap} {mc : Str → Option Value} (c : Cm h₀ L C h mc) (hs : Heap.ExtBut b h h') (hb : C ≠ b) : Cm h₀ L C h' mc := ⟨c.ns.extBut hs hb, c.ne, c.new⟩
theorem Cm.push {h₀ : Heap} {L C : Addr} {h : Heap} {mc : Str → Option Value} (c : Cm h₀ L C h mc) (o : Obj) : Cm h₀ L C (h.push o) mc := ⟨c.ns.push o, c.ne, c.new⟩
/-- the ledger with the comprehension's names on it -/
theorem Cm.on {h₀ : Heap} {L C : Addr} {h : Heap} {mc : Str → Option Value} {news : News'} (c : Cm h₀ L C h mc) (N : News h₀ L h news) : ∃ oC, (∃ es n, oC.data = .dict es n) ∧ News h₀ L h ((C, oC) :: news) ∧ ∀ h' news', News h₀ L h' news' → (C, oC) ∈ news' → Cm h₀ L C h' mc := by
  obtain ⟨oC, ho, hd, k⟩ := c.obj
  refine ⟨oC, hd, fun p hp => ?_, fun h' news' N' hm => k h' (N' _ hm).1⟩
  rcases List.mem_cons.mp hp with rfl | hp
  · exact ⟨ho, c.ne, c.new⟩
  · exact N p hp
theorem ns_fr {h₀ h h' : Heap} {L C : Addr} {m : Str → Option Value} {news : News'} (F : Fr h₀ L h m) (N : News h₀ L h news) (hs : Heap.SameBut C h h') (hL : C ≠ L) (hC : h₀.get? C = none) (hn : ∀ p ∈ news, p.1 ≠ C) : Fr h₀ L h' m ∧ News h₀ L h' news :=
  ⟨F.change hs hL hC, fun p hp => ⟨(hs.2 _ (hn p hp)).trans (N p hp).1, (N p hp).2⟩⟩

end Mine
end
section
open PySem PySem.W PyProof.Rows PySem.Calls PySem.Spec
set_option maxRecDepth 100000
namespace Mine

/-- where a def of the text is called: the frames, the room, what stands -/
structure At (K : Frag) (p : Program) (loose : List Str) (mg mb : Str → Option Value) (A : Around) (h₀ : Heap) (L : Addr) (d u : Nat) : Prop where
  hh : A.handled = none
  fr : ∃ env outer A₀ base, A.frames = some (env :: outer) ∧ env.frame = some L ∧ env.scope.kind = .function ∧ Below A₀ base outer h₀
  room : A.depth + d < recursionLimit
  units : A.units + u < cLine
  X : K.In h₀
  T : TopRead p loose mg mb h₀

/-- what stands at the top, under any frame -/
structure Gl (K : Frag) (p : Program) (loose : List Str) (mg mb : Str → Option Value) (h₀ : Heap) : Prop where
  X : K.In h₀
  T : TopRead p loose mg mb h₀
theorem At.gl {K : Frag} {p : Program} {loose : List Str} {mg mb : Str → Option Value} {A : Around} {h₀ : Heap} {L : Addr} {d u : Nat} (C : At K p loose mg mb A h₀ L d u) : Gl K p loose mg mb h₀ := ⟨C.X, C.T⟩
def retOf (fl : Flow) : Value := match fl with | .ret v => v | _ => .none
/-- a body's end -/
def Done (g : Heap) (L' : Addr) (s : Shared) (Post : News' → Value → Prop) (fl : Flow) (s' : Shared) : Prop :=
  ∃ h' tk m' news', s' = { s with heap := h', toks := tk } ∧ Fr g L' h' m' ∧ News g L' h' news' ∧ Post news' (retOf fl)
theorem Done.intro {g : Heap} {L' : Addr} {s : Shared} {Post : News' → Value → Prop} {fl : Flow} {h' : Heap} {tk : Nat} {m' : Str → Option Value} {news' : News'} (F : Fr g L' h' m') (N : News g L' h' news') (hp : Post news' (retOf fl)) :
    Done g L' s Post fl { s with heap := h', toks := tk } := ⟨h', tk, m', news', rfl, F, N, hp⟩

section
variable {prog : Program} {w : World} {K : Frag} {p : Program} {loose : List Str} {mg mb : Str → Option Value}

def Calls (prog : Program) (w : World) (K : Frag) (p : Program) (loose : List Str) (mg mb : Str → Option Value) (f : Addr) (d u : Nat) (args : List Value) (news : News') (Post : News' → Value → Prop) : Prop :=
  ∀ (A : Around) (h₀ : Heap) (L : Addr) (m : Str → Option Value) (s : Shared) (Q E : Value → Shared → Prop), At K p loose mg mb A h₀ L d u → Fr h₀ L s.heap m → News h₀ L s.heap news →
    (∀ r news' h' tk', Fr h₀ L h' m → News h₀ L h' news' → Post news' r → Q r { s with heap := h', toks := tk' }) → wpAny (model prog w) A (call (.ref f) args) Q E s

theorem Calls.use {f : Addr} {d u d' u' : Nat} {args : List Value} {news : News'} {Post : News' → Value → Prop} (H : Calls prog w K p loose mg mb f d u args news Post) {A : Around} {h₀ : Heap} {L : Addr} {m : Str → Option Value} {s : Shared} {Q E : Value → Shared → Prop}
    (C : At K p loose mg mb A h₀ L d' u') (F : Fr h₀ L s.heap m) (N : News h₀ L s.heap news) (hd : d ≤ d') (hu : u ≤ u')
    (h : ∀ r news' h' tk', Fr h₀ L h' m → News h₀ L h' news' → Post news' r → Q r { s with heap := h', toks := tk' }) : wpAny (model prog w) A (call (.ref f) args) Q E s :=
  H A h₀ L m s Q E ⟨C.hh, C.fr, by have := C.room; omega, by have := C.units; omega, C.X, C.T⟩ F N h
theorem Calls.by {f : Addr} {d u : Nat} {args : List Value} {news : News'} {Post : News' → Value → Prop} {name qual : Str} {params : Arguments} {body : List Stmt} {scope : Scope} {dV kV doc pm cdv ct oc : Value} {an od : Option Addr} {osl : Array (Option Value)} {binds : List (Str × Value)}
    (ho : K.lookup f = some ⟨oc, od, .func (fnOf name qual params body scope dV kV doc pm an cdv ct), osl⟩) (hcd : codeIn K cdv qual = true)
    (hbind : ∀ s : Shared, BindsTo s (fnOf name qual params body scope dV kV doc pm an cdv ct) ⟨args, []⟩ binds) (hloc : ∀ y ∈ binds, scope.names.lookup y.1 = some .local)
    (hco : scope.isCoroutine = false) (hgen : scope.isGenerator = false) (hk : scope.kind = .function) (hcell : ∀ x ∈ scope.names, x.2 ≠ .cell)
    (h : ∀ (A : Around) (g : Heap) (L' : Addr) (h₁ : Heap) (s : Shared) (tk : Nat) (m : Str → Option Value), (∀ y, m y = binds.reverse.lookup y) → Fr g L' h₁ m → News g L' h₁ news → At K p loose mg mb A g L' d u →
      wpAny (model prog w) A (execs body (envOf qual scope L' f cdv)) (Done g L' s Post) (fun _ _ => False) { s with heap := h₁, toks := tk }) :
    Calls prog w K p loose mg mb f (d + 1) (u + 3) args news Post := by
  intro A h₀ L m s Q E C F N hret
  obtain ⟨env, outer, A₀, base, hA, hf, hke, B⟩ := C.fr
  refine wpAny_call ?_
  refine callX_plain (cl := []) B F N C.T.nolimit hA hf hke ((C.X.keeps F.keep) _ _ ho) rfl (codeRec_of (C.X.keeps F.keep) hcd) (by have := C.room; omega) (hbind s) hloc ?_ hcell hco hgen hk
  intro g L' h₁ FG F' N' B' st _
  refine wpAny_mono (h (A.deeper (envOf qual scope L' f cdv)) g L' h₁ s _ _ (fun _ => rfl) F' N' ⟨C.hh, ⟨envOf qual scope L' f cdv, env :: outer, _, base, Around.frames_deeper hA, rfl, hk, B'⟩, ?_, ?_, C.X.keeps st, C.T.keeps st⟩) (fun fl s' hd => ?_) fun _ _ x => x.elim
  · have := C.room
    show A.depth + 1 + d < recursionLimit
    omega
  · have := C.units
    show A.units + 3 + u < cLine
    omega
  · obtain ⟨h', tk, m', news', rfl, F₂, N₂, hp⟩ := hd
    refine leaveK_ F₂ N₂ fun F₃ N₃ => ?_
    exact hret _ news' h' tk F₃ N₃ hp
end
end Mine
end
section
namespace Mine
section
variable {α : Type} (lt : α → α → Bool)
/-- heapq._siftdown's loop and its last store -/
def sdLoop (new : α) (start : Nat) : Nat → List α → Nat → List α
  | 0, xs, pos => xs.set pos new
  | f + 1, xs, pos => if start < pos then
      match xs[(pos - 1) / 2]? with
      | some parent => if lt new parent = true then sdLoop new start f (xs.set pos parent) ((pos - 1) / 2) else xs.set pos new
      | none => xs.set pos new
    else xs.set pos new
def siftdown (xs : List α) (start pos : Nat) : List α := match xs[pos]? with
  | some new => sdLoop lt new start pos xs pos
  | none => xs
/-- heapq._siftup's loop: the list and the last place -/
def suLoop (xs0 : List α) : Nat → List α → Nat → List α × Nat
  | 0, xs, pos => (xs, pos)
  | f + 1, xs, pos => if 2 * pos + 1 < xs.length then
      match xs[2 * pos + 1]?, xs[2 * pos + 2]? with
      | some c, some r => if lt c r = true then suLoop xs0 f (xs.set pos c) (2 * pos + 1) else suLoop xs0 f (xs.set pos r) (2 * pos + 2)
      | some c, none => suLoop xs0 f (xs.set pos c) (2 * pos + 1)
      | none, _ => (xs, pos)
    else (xs, pos)
def siftup (xs : List α) (pos : Nat) : List α := match xs[pos]? with
  | some new => siftdown lt ((suLoop lt xs xs.length xs pos).1.set (suLoop lt xs xs.length xs pos).2 new) pos (suLoop lt xs xs.length xs pos).2
  | none => xs
def heapifyL (xs : List α) : Nat → List α
  | 0 => xs
  | i + 1 => heapifyL (siftup lt xs i) i
def heapify (xs : List α) : List α := heapifyL lt xs (xs.length / 2)
/-- the item, the rest -/
def heappop (xs : List α) : Option (α × List α) := match xs.getLast?, xs.dropLast with
  | none, _ => none
  | some last, [] => some (last, [])
  | some last, x :: r => some (x, siftup lt (last :: r) 0)
def popAll : Nat → List α → List α
  | 0, _ => []
  | n + 1, xs => match heappop lt xs with
    | some (x, r) => x :: popAll n r
    | none => []
def offHeap (xs : List α) : List α := popAll lt xs.length (heapify lt xs)

theorem sdLoop_length (new : α) (start : Nat) : ∀ f xs pos, (sdLoop lt new start f xs pos).length = xs.length
  | 0, xs, pos => by simp [sdLoop]
  | f + 1, xs, pos => by
    unfold sdLoop
    split
    · split
      · split
        · rw [sdLoop_length new start f]; simp
        · simp
      · simp
    · simp
theorem siftdown_length (xs : List α) (start pos : Nat) : (siftdown lt xs start pos).length = xs.length := by
  unfold siftdown
  split
  · exact sdLoop_length lt _ _ _ _ _
  · rfl
theorem heappop_nil : heappop lt ([] : List α) = none := rfl
end
end Mine
end
section
open PySem PySem.W PyProof.Rows PySem.Calls PySem.Spec
set_option maxRecDepth 100000
namespace Mine
abbrev objL (xs : List It) (n : Nat) : Obj := listOf (xs.map (·.1)).toArray n
abbrev ltI (p q : It) : Bool := ltK p.2 q.2

section
variable {prog : Program} {w : World} {A : Around} {E : Value → Shared → Prop} {s : Shared} {h₀ : Heap} {L l : Addr} {m : Str → Option Value} {news : News'} {xs : List It} {n : Nat}
/-- an item read -/
theorem item_tail {value slice : PySem.Expr} {k : Nat} {u : Tok} {x : It} {Q : Value → Shared → Prop} (N : News h₀ L s.heap news) (hm : (l, objL xs n) ∈ news) (hfit : k < 2 ^ 62) (hx : xs[k]? = some x) (h : Q x.1 s)
    (hs : subscripted slice false (.ref l) (.int (k : Int) u) = operate [.ref l, .int (k : Int) u] (getItem (.ref l) (.int (k : Int) u)) := by with_unfolding_all rfl)
    (ht : ∀ r, letTemporaryGo value (.ref l) r = pure () := by intro _; with_unfolding_all rfl) :
    wpAny (model prog w) A (subscriptTail value slice (.ref l) (.int (k : Int) u)) Q E s := by
  have hl := PySem.IsL.isList (n := n) (N _ hm).1
  exact subscriptTail_builtin hl.typeIs slot_list_getitem.lookup (wpAny_getItem_list hl (by omega) (by omega) (by simp [hx]) h) hs ht
/-- an item stored -/
theorem item_set {k : Nat} {u : Tok} {x : It} {Q : Unit → Shared → Prop} (F : Fr h₀ L s.heap m) (N : News h₀ L s.heap news) (hm : (l, objL xs n) ∈ news) (hfit : k < 2 ^ 62) (hk : k < xs.length)
    (h : ∀ h', Fr h₀ L h' m → News h₀ L h' (put l (objL (xs.set k x) n) news) → Q () { s with heap := h' }) :
    wpAny (model prog w) A (setItem (.ref l) (.int (k : Int) u) x.1) Q E s := by
  refine ki_setAt (N _ hm).1 (by omega) (by omega) (by simp; omega) ?_
  have e := put_fr F N hm (Heap.SameBut.update s.heap l (Obj.mapSeq (·.setIfInBounds (k : Int).toNat x.1))) (o' := objL (xs.set k x) n) (by
    rw [get?_update_seq (N _ hm).1]
    simp [List.map_set])
  exact h _ e.1 e.2
end
end Mine
end
section
open PySem PySem.W PyProof.Rows PySem.Calls PySem.Spec
set_option maxRecDepth 100000
namespace Mine
section
variable {P : Params}
theorem g_siftdown : nsIn (hd.heap_39 P) mainGlobals (Str.ofString "_siftdown") = some (some (.ref 83)) := by kernel_rfl
theorem g_siftup : nsIn (hd.heap_39 P) mainGlobals (Str.ofString "_siftup") = some (some (.ref 90)) := by kernel_rfl
theorem g_heappop : nsIn (hd.heap_39 P) mainGlobals (Str.ofString "heappop") = some (some (.ref 69)) := by kernel_rfl
theorem g_heapify : nsIn (hd.heap_39 P) mainGlobals (Str.ofString "heapify") = some (some (.ref 76)) := by kernel_rfl
theorem g_sld : nsIn (hd.heap_39 P) mainGlobals (Str.ofString "sorted_list_difference") = some (some (.ref 97)) := by kernel_rfl
theorem g_off : nsIn (hd.heap_39 P) mainGlobals (Str.ofString "_law_off_a_heap") = some (some (.ref 102)) := by kernel_rfl
theorem g_beyond : nsIn (hd.heap_39 P) mainGlobals (Str.ofString "_law_beyond") = some (some (.ref 107)) := by kernel_rfl
theorem g_cov : nsIn (hd.heap_39 P) mainGlobals (Str.ofString "covariance") = some (some (.ref 62)) := by kernel_rfl
theorem g_fsum : nsIn (hd.heap_39 P) mainGlobals (Str.ofString "fsum") = some (some (.builtin "math.fsum")) := by kernel_rfl
theorem g_sumprod : nsIn (hd.heap_39 P) mainGlobals (Str.ofString "sumprod") = some (some (.builtin "math.sumprod")) := by kernel_rfl
theorem n_len : nsIn (hd.heap_39 P) mainGlobals (Str.ofString "len") = some none := by kernel_rfl
theorem n_range : nsIn (hd.heap_39 P) mainGlobals (Str.ofString "range") = some none := by kernel_rfl
theorem n_reversed : nsIn (hd.heap_39 P) mainGlobals (Str.ofString "reversed") = some none := by kernel_rfl
theorem n_sorted : nsIn (hd.heap_39 P) mainGlobals (Str.ofString "sorted") = some none := by kernel_rfl
theorem n_list : nsIn (hd.heap_39 P) mainGlobals (Str.ofString "list") = some none := by kernel_rfl
theorem n_isinstance : nsIn (hd.heap_39 P) mainGlobals (Str.ofString "isinstance") = some none := by kernel_rfl
theorem n_float : nsIn (hd.heap_39 P) mainGlobals (Str.ofString "float") = some none := by kernel_rfl
theorem n_IndexError : nsIn (hd.heap_39 P) mainGlobals (Str.ofString "IndexError") = some none := by kernel_rfl
theorem b_len : bootBuiltins (Str.ofString "len") = some (.builtin "len") := by kernel_rfl
theorem b_range : bootBuiltins (Str.ofString "range") = some (.type "range") := by kernel_rfl
theorem b_reversed : bootBuiltins (Str.ofString "reversed") = some (.type "reversed") := by kernel_rfl
theorem b_sorted : bootBuiltins (Str.ofString "sorted") = some (.builtin "sorted") := by kernel_rfl
theorem b_list : bootBuiltins (Str.ofString "list") = some (.type "list") := by kernel_rfl
theorem b_isinstance : bootBuiltins (Str.ofString "isinstance") = some (.builtin "isinstance") := by kernel_rfl
theorem b_float : bootBuiltins (Str.ofString "float") = some (.type "float") := by kernel_rfl
theorem b_IndexError : bootBuiltins (Str.ofString "IndexError") = some (.type "IndexError") := by kernel_rfl
end
def FnK (K : Frag) (f : Addr) : Prop := ∃ o fd, K.lookup f = some o ∧ o.data = .func fd
section
variable {P : Params}
theorem f_siftdown : FnK (hd.heap_39 P) 83 := ⟨_, _, rfl, rfl⟩
theorem f_siftup : FnK (hd.heap_39 P) 90 := ⟨_, _, rfl, rfl⟩
theorem f_heappop : FnK (hd.heap_39 P) 69 := ⟨_, _, rfl, rfl⟩
theorem f_heapify : FnK (hd.heap_39 P) 76 := ⟨_, _, rfl, rfl⟩
theorem f_sld : FnK (hd.heap_39 P) 97 := ⟨_, _, rfl, rfl⟩
theorem f_off : FnK (hd.heap_39 P) 102 := ⟨_, _, rfl, rfl⟩
theorem f_beyond : FnK (hd.heap_39 P) 107 := ⟨_, _, rfl, rfl⟩
theorem f_cov : FnK (hd.heap_39 P) 62 := ⟨_, _, rfl, rfl⟩
end
section
variable {M : Model} {A : Around} {E : Value → Shared → Prop} {s : Shared} {env : Env}
theorem callWith_K {K : Frag} {pos : Pos} {f : Addr} {e : Expr} {rest : List Expr} {Q : Value → Shared → Prop} {p : Program} {loose : List Str} {mg mb : Str → Option Value} {h₀ : Heap} (hf : FnK K f) (_C : Gl K p loose mg mb h₀)
    (h : wpAny M A (spliced (backTo pos (starEach (e :: rest) env))) (fun vs s₁ => K.In s₁.heap ∧ wpAny M A (call (.ref f) vs) Q E s₁) E s)
    (he : starEach (e :: rest) env = (false, eval e env) :: starEach rest env := by rfl) :
    wpAny M A (callWith pos (.ref f) [] (backTo pos (starEach (e :: rest) env)) []) Q E s := by
  obtain ⟨o, fd, ho, hd⟩ := hf
  exact callWith_def (o := o) hd (wpAny_mono h (fun vs s₁ h₁ => ⟨h₁.1 _ _ ho, h₁.2⟩) fun _ _ x => x) he
end
section
variable {M : Model} {A : Around} {E : Value → Shared → Prop} {s : Shared} {env : Env} {h₀ : Heap} {L : Addr} {m : Str → Option Value} {news : News'} {x : Str} {pos : Pos} {v : Value}
/-- names, whatever the block -/
theorem ldE {Q : Value → Shared → Prop} (ns : s.heap.Ns env.locals m) (hv : m x = some v) (h : Q v s) (hk : env.scope.kind = .function) (hl : env.kindOf x = some .local) (hd : (x == ("__debug__" : Str)) = false) :
    wpAny M A (eval (.Name x pos) env) Q E s := wpAny_Name (wpAny_loadName_local hk hl ns hv h) hd
theorem ep_some {e : Expr} {Q : Value → Shared → Prop} (h : wpAny M A (eval e env) Q E s) : wpAny M A (evalPart (some e) env) Q E s := h
theorem ep_none {Q : Value → Shared → Prop} (h : Q .none s) : wpAny M A (evalPart none env) Q E s := wpAny_pure h
theorem ldnE {Q : Value → Shared → Prop} (ns : s.heap.Ns env.locals m) (hv : m x = some v) (h : Q v s) (hk : env.scope.kind = .function) (hl : env.kindOf x = some .local) :
    wpAny M A (loadName env x) Q E s := wpAny_loadName_local hk hl ns hv h
theorem cellE {c : Addr} {o : Obj} {Q : Value → Shared → Prop} (hc : env.cells.lookup x = some c) (N : News h₀ L s.heap news) (hm : (c, o) ∈ news) (ho : o.data = .cell (some v)) (h : Q v s) (hk : env.scope.kind = .function) (hl : env.kindOf x = some .cell) (hd : (x == ("__debug__" : Str)) = false) :
    wpAny M A (eval (.Name x pos) env) Q E s := wpAny_Name (wpAny_loadName_cell hk hl hc ⟨o, N.get hm, ho⟩ h) hd
theorem nameE_K {K : Frag} {p : Program} {loose : List Str} {mg mb : Str → Option Value} {Q : Value → Shared → Prop} (F : Fr h₀ L s.heap m) (C : Gl K p loose mg mb h₀) (e : nsIn K mainGlobals x = some (some v)) (h : Q v s)
    (hk : env.scope.kind = .function) (hx : env.kindOf x = some .globalImplicit) (hg : env.globals = mainGlobals) (hd : (x == ("__debug__" : Str)) = false) : wpAny M A (eval (.Name x pos) env) Q E s :=
  Name_function_global hk hx (loadGlobal_global (by rw [hg]; exact C.T.g.keeps F.keep) (mg_of C.X C.T.g e) h) hd
theorem nameE_B {K : Frag} {p : Program} {loose : List Str} {mg mb : Str → Option Value} {Q : Value → Shared → Prop} (F : Fr h₀ L s.heap m) (C : Gl K p loose mg mb h₀) (e : nsIn K mainGlobals x = some none) (hv : bootBuiltins x = some v) (hn : x ≠ "__name__") (h : Q v s)
    (hk : env.scope.kind = .function) (hx : env.kindOf x = some .globalImplicit) (hg : env.globals = mainGlobals) (hb : env.builtins = builtinsNs) (hd : (x == ("__debug__" : Str)) = false) : wpAny M A (eval (.Name x pos) env) Q E s :=
  Name_function_global hk hx (loadGlobal_builtin (by rw [hg]; exact C.T.g.keeps F.keep) (mg_none_of C.X C.T.g e) (by rw [hb]; exact C.T.b.keeps F.keep) ((C.T.builtins x hn).trans hv) h) hd
end
/-- a list cut: what is wanted behind the parts -/
def SliceAt (Q : Value → Shared → Prop) (o vl vu : Value) (s₃ : Shared) : Prop :=
  ∃ l items lo hi, o = .ref l ∧ s₃.heap.IsList l items ∧ items.size ≤ sizeLine ∧ IsPart vl lo ∧ IsPart vu hi ∧
    Q (.ref (s₃.heap.objs.size + 1)) { s₃ with heap := (s₃.heap.push { cls := .type "slice", data := .fields #[vl, vu, .none] }).push { cls := .type "list", data := .seq (slicePick items lo hi none) } }
theorem sub_slice {prog : Program} {w : World} {A : Around} {E : Value → Shared → Prop} {s : Shared} {env : Env} {value : Expr} {lower upper : Option Expr} {p pos : Pos} {Q : Value → Shared → Prop}
    (h : wpAny (model prog w) A (eval value env) (fun o s₁ => wpAny (model prog w) A (evalPart lower env) (fun vl s₂ => wpAny (model prog w) A (evalPart upper env) (fun vu s₃ => SliceAt Q o vl vu s₃) E s₂) E s₁) E s)
    (ht : ∀ o r, letTemporaryGo value o r = pure ()) : wpAny (model prog w) A (eval (.Subscript value (.Slice lower upper none p) pos) env) Q E s :=
  wpAny_Subscript_list_slice h ht
end Mine
end
section
open PySem
namespace Mine
open PySem.Float64
theorem rep (q : Nat) (h : q ≤ 2 ^ 53) : ∃ t, V t = q * 2 ^ 1074 := by
  by_cases h0 : q = 0
  · exact ⟨0, by rw [h0, V_zero, Nat.zero_mul]⟩
  by_cases h1 : 2 ^ 52 ≤ q
  · exact ⟨1074 * 2 ^ 52 + q, V_at h (.inl h1)⟩
  · have hl : q.log2 < 52 := (Nat.log2_lt h0).mpr (by omega)
    have hlo : 2 ^ q.log2 ≤ q := Nat.log2_self_le h0
    have hhi : q < 2 ^ (q.log2 + 1) := Nat.lt_log2_self
    refine ⟨(1074 - (52 - q.log2)) * 2 ^ 52 + q * 2 ^ (52 - q.log2), ?_⟩
    rw [V_at]
    · rw [Nat.mul_assoc, ← Nat.pow_add, show 52 - q.log2 + (1074 - (52 - q.log2)) = 1074 by omega]
    · have : q * 2 ^ (52 - q.log2) ≤ 2 ^ (q.log2 + 1) * 2 ^ (52 - q.log2) := Nat.mul_le_mul_right _ (by omega)
      rw [← Nat.pow_add, show q.log2 + 1 + (52 - q.log2) = 53 by omega] at this
      exact this
    · left
      have : 2 ^ q.log2 * 2 ^ (52 - q.log2) ≤ q * 2 ^ (52 - q.log2) := Nat.mul_le_mul_right _ hlo
      rw [← Nat.pow_add, show q.log2 + (52 - q.log2) = 52 by omega] at this
      exact this
/-- a finite float whose value is the whole number z -/
def Wh (x : UInt64) (z : Int) : Prop := ∃ a m e, decode x = .fin a m e ∧ val x = z * ((2 ^ 1074 : Nat) : Int)
theorem big_ok : 2 * (2 ^ 53 * 2 ^ 1074) < (2 ^ 54 - 1) * 2 ^ 2045 := by decide +kernel
theorem over_no {D q K X : Nat} (hb : 2 * (2 ^ 53 * K) < X) (hq : q ≤ 2 ^ 53) (hD : 0 < D) (e : D * X ≤ 2 * (D * (q * K))) : False := by
  rw [Nat.mul_left_comm 2 D] at e
  have e3 := Nat.le_of_mul_le_mul_left e hD
  have e4 : q * K ≤ 2 ^ 53 * K := Nat.mul_le_mul_right _ hq
  omega
theorem over_no' {D q W : Nat} {C : Prop} (hW : W = D * (q * 2 ^ 1074)) (hq : q ≤ 2 ^ 53) (hD : 0 < D) (e : D * ((2 ^ 54 - 1) * 2 ^ 2045) ≤ 2 * W) : C := by
  have hb := big_ok
  revert hW e hb
  generalize (2 ^ 54 - 1) * 2 ^ 2045 = X
  generalize 2 ^ 1074 = K
  intro hW e hb
  rw [hW] at e
  exact (over_no hb hq hD e).elim
theorem dist_zero {W Y Z : Nat} (h : Float64.dist W Y ≤ Float64.dist W Z) (hz : Z = W) : W = Y := by
  unfold Float64.dist at h
  omega
theorem right_exact {r : UInt64} {neg : Bool} {W D q : Nat} (h : Right r neg W D) (hW : W = D * (q * 2 ^ 1074)) (hD : 0 < D) (hq : q ≤ 2 ^ 53) : Wh r (sgn neg q) := by
  obtain ⟨t, hr, ht, hov, hbest⟩ := h
  have hlt : t < infMag := (Nat.lt_or_ge t infMag).elim id fun h => over_no' hW hq hD (hov.mp (Nat.le_antisymm ht h))
  obtain ⟨t', ht'⟩ := rep q hq
  have hV := dist_zero (hbest hlt t').1 (by rw [ht', hW])
  have hV' := Nat.eq_of_mul_eq_mul_left hD (hW.symm.trans hV)
  rw [hr]
  obtain ⟨m, e, hdec, hv⟩ := decode_pack neg hlt
  refine ⟨neg, m, e, hdec, ?_⟩
  rw [val_pack neg hlt, ← hV', sgn_mul]
theorem sgn_of (z : Int) : sgn (decide (z < 0)) z.natAbs = z := by
  unfold sgn
  by_cases h : z < 0
  · simp [h]; omega
  · simp [h]; omega
theorem wh_ofInt {z : Int} (h : z.natAbs ≤ 2 ^ 53) : Wh (ofInt z) z := by
  have := right_exact (ofInt_right z) (q := z.natAbs) (by rw [Nat.one_mul]) (by decide) h
  rwa [sgn_of] at this
theorem wh_zero (b : Bool) : Wh (zero b) 0 := by
  have hp : 0 < infMag := by decide
  obtain ⟨m, e, hd, hv⟩ := decode_pack b hp
  refine ⟨b, m, e, hd, ?_⟩
  show val (pack b 0) = _
  rw [val_pack b hp, V_zero]
  cases b <;> simp [sgn]
theorem natAbs_scale (z : Int) (K : Nat) : (z * (K : Int)).natAbs = z.natAbs * K := by rw [Int.natAbs_mul, Int.natAbs_natCast]
theorem scale_lt (z : Int) {K : Nat} (hK : 0 < K) : decide (z * (K : Int) < 0) = decide (z < 0) := by
  have hK' : (0 : Int) < K := by omega
  by_cases h : z < 0
  · have := Int.mul_neg_of_neg_of_pos h hK'
    simp [h, this]
  · have : 0 ≤ z * (K : Int) := Int.mul_nonneg (by omega) (by omega)
    simp [h]; omega
theorem two_pos : 0 < 2 ^ 1074 := Nat.two_pow_pos _
theorem wh_add {x y : UInt64} {a b : Int} (hx : Wh x a) (hy : Wh y b) (h : (a + b).natAbs ≤ 2 ^ 53) : Wh (add x y) (a + b) := by
  obtain ⟨sx, m, e, dx, vx⟩ := hx
  obtain ⟨sy, k, f, dy, vy⟩ := hy
  have hr := add_right dx dy
  have hs : val x + val y = (a + b) * ((2 ^ 1074 : Nat) : Int) := by rw [vx, vy, Int.add_mul]
  rw [hs] at hr
  by_cases h0 : a + b = 0
  · rw [hr.1 (by rw [h0, Int.zero_mul]), h0]
    exact wh_zero _
  · have h1 : (a + b) * ((2 ^ 1074 : Nat) : Int) ≠ 0 := Int.mul_ne_zero h0 (by have := two_pos; omega)
    have := right_exact (hr.2 h1) (q := (a + b).natAbs) (by rw [natAbs_scale, Nat.one_mul]) (by decide) h
    rwa [scale_lt _ two_pos, sgn_of] at this
theorem wh_neg {y : UInt64} {b : Int} (hy : Wh y b) : Wh (neg y) (-b) := by
  obtain ⟨sy, k, f, dy, vy⟩ := hy
  exact ⟨_, _, _, neg_decode dy, by rw [neg_val dy, vy, Int.neg_mul]⟩
theorem wh_sub {x y : UInt64} {a b : Int} (hx : Wh x a) (hy : Wh y b) (h : (a - b).natAbs ≤ 2 ^ 53) : Wh (sub x y) (a - b) := by
  have := wh_add hx (wh_neg hy) (by rwa [← Int.sub_eq_add_neg])
  rw [← Int.sub_eq_add_neg] at this
  unfold sub
  exact this
theorem val_sign {x : UInt64} {s : Bool} {m : Nat} {e : Int} {a : Int} (d : decode x = .fin s m e) (v : val x = a * ((2 ^ 1074 : Nat) : Int)) : sgn s a.natAbs = a := by
  have hv := val_eq d
  rw [v] at hv
  have hp : (0 : Int) < ((2 ^ 1074 : Nat) : Int) := by have := two_pos; omega
  generalize ((2 ^ 1074 : Nat) : Int) = K at *
  generalize m * 2 ^ (e + 1074).toNat = M at *
  unfold sgn at hv ⊢
  cases s
  · simp only [Bool.false_eq_true, if_false] at hv ⊢
    have : 0 ≤ a := by
      rcases Int.lt_or_le a 0 with h | h
      · have := Int.mul_neg_of_neg_of_pos h hp; omega
      · exact h
    omega
  · simp only [if_true] at hv ⊢
    have : a ≤ 0 := by
      rcases Int.lt_or_le 0 a with h | h
      · have := Int.mul_pos h hp; omega
      · exact h
    omega
theorem sgn_xor (s t : Bool) (m k : Nat) : sgn (s != t) (m * k) = sgn s m * sgn t k := by
  unfold sgn
  cases s <;> cases t <;> simp [Int.neg_mul, Int.mul_neg]
theorem wh_mul {x y : UInt64} {a b : Int} (hx : Wh x a) (hy : Wh y b) (h : (a * b).natAbs ≤ 2 ^ 53) : Wh (mul x y) (a * b) := by
  obtain ⟨sx, m, e, dx, vx⟩ := hx
  obtain ⟨sy, k, f, dy, vy⟩ := hy
  have := right_exact (mul_right dx dy) (q := (a * b).natAbs) (by
    rw [vx, vy, natAbs_scale, natAbs_scale, Int.natAbs_mul]
    generalize 2 ^ 1074 = K
    ac_rfl) two_pos h
  rwa [Int.natAbs_mul, sgn_xor, val_sign dx vx, val_sign dy vy] at this
theorem wh_div {x y : UInt64} {q b : Int} (hx : Wh x (q * b)) (hy : Wh y b) (hb : b ≠ 0) (h : q.natAbs ≤ 2 ^ 53) : Wh (div x y) q := by
  obtain ⟨sx, m, e, dx, vx⟩ := hx
  obtain ⟨sy, k, f, dy, vy⟩ := hy
  have hk : k ≠ 0 := by
    rintro rfl
    have := val_eq dy
    rw [vy, Nat.zero_mul] at this
    have h0 : sgn sy 0 = 0 := by cases sy <;> rfl
    rw [h0] at this
    have hp := two_pos
    rcases Int.mul_eq_zero.mp this with h | h <;> omega
  have hpb : 0 < b.natAbs := by omega
  have := right_exact (div_right dx dy hk) (q := q.natAbs) (by
    rw [vx, vy, natAbs_scale, natAbs_scale, Int.natAbs_mul]
    generalize 2 ^ 1074 = K
    ac_rfl) (by rw [vy, natAbs_scale]; exact Nat.mul_pos hpb two_pos) h
  have hs : sgn (sx != sy) q.natAbs = q := by
    have e1 := val_sign dx vx
    have e2 := val_sign dy vy
    have e3 : sgn (sx != sy) (q.natAbs * b.natAbs) * b = q * b * b.natAbs := by
      have : sgn (sx != sy) (q.natAbs * b.natAbs) * sgn sy b.natAbs = sgn sx (q.natAbs * b.natAbs) * b.natAbs := by
        unfold sgn
        cases sx <;> cases sy <;> simp [Int.neg_mul, Int.mul_neg]
      rw [Int.natAbs_mul] at e1
      rw [e1, e2] at this
      exact this
    rw [sgn_mul, Int.mul_right_comm, Int.mul_assoc, Int.mul_assoc] at e3
    rw [← Int.mul_assoc, ← Int.mul_assoc] at e3
    have e4 := Int.eq_of_mul_eq_mul_right (show (b.natAbs : Int) ≠ 0 by omega) e3
    exact Int.eq_of_mul_eq_mul_right hb e4
  rwa [hs] at this
theorem wh_fin {x : UInt64} {a : Int} (h : Wh x a) : isFinite x = true := by
  obtain ⟨s, m, e, d, _⟩ := h
  unfold isFinite
  rw [d]
theorem wh_not_inf {x : UInt64} {a : Int} (h : Wh x a) : isInf x = false := by
  obtain ⟨s, m, e, d, _⟩ := h
  unfold isInf
  rw [d]
theorem wh_isZero {x : UInt64} {a : Int} (h : Wh x a) : isZero x = (a == 0) := by
  obtain ⟨s, m, e, d, v⟩ := h
  have hv := val_eq d
  rw [v] at hv
  have hp := two_pos
  have hq : 0 < 2 ^ (e + 1074).toNat := Nat.two_pow_pos _
  unfold isZero
  rw [d]
  by_cases hm : m = 0
  · subst hm
    have h0 : sgn s (0 * 2 ^ (e + 1074).toNat) = 0 := by rw [Nat.zero_mul]; cases s <;> rfl
    rw [h0] at hv
    have : a = 0 := by rcases Int.mul_eq_zero.mp hv with h | h <;> omega
    simp [this]
  · have hM : 0 < m * 2 ^ (e + 1074).toNat := Nat.mul_pos (by omega) hq
    have ha : a ≠ 0 := by
      rintro rfl
      rw [Int.zero_mul] at hv
      unfold sgn at hv
      generalize m * 2 ^ (e + 1074).toNat = M at *
      cases s <;> simp at hv <;> omega
    split
    · rename_i h; cases h; exact absurd rfl hm
    · simp [ha]
theorem wh_cmpInt {x : UInt64} {a : Int} (h : Wh x a) : cmpInt x a = some .eq := by
  obtain ⟨s, m, e, d, v⟩ := h
  rw [cmpInt_right d, v]
  have : ((2 ^ 1074 : Nat) : Int) = (2 : Int) ^ 1074 := by simp
  rw [this]
  simp
theorem wh_ite {c : Prop} [i : Decidable c] {s : Bool} {y : UInt64} (h : c) : Wh (if c then zero s else y) 0 := by
  rw [if_pos h]
  exact wh_zero _
theorem wh_fma0 {x y z : UInt64} {a b : Int} (hx : Wh x a) (hy : Wh y b) (hz : Wh z (-(a * b))) : Wh (fma x y z) 0 := by
  obtain ⟨sx, m, e, dx, vx⟩ := hx
  obtain ⟨sy, k, f, dy, vy⟩ := hy
  obtain ⟨sz, n, g, dz, vz⟩ := hz
  have he := decode_ge dx
  have hf := decode_ge dy
  have hg := decode_ge dz
  unfold fma
  rw [dx, dy, dz]
  simp only [align]
  have hp : (sgn (sx != sy) (m * k * 2 ^ (e + f - min (e + f) g).toNat) + sgn sz (n * 2 ^ (g - min (e + f) g).toNat)) = 0 := by
    have hv1 := val_eq dx
    have hv2 := val_eq dy
    have hv3 := val_eq dz
    rw [vx] at hv1
    rw [vy] at hv2
    rw [vz] at hv3
    have hK : ∀ j : Nat, (0 : Int) < ((2 ^ j : Nat) : Int) := fun j => by have := Nat.two_pow_pos j; omega
    generalize hc : min (e + f) g = c at *
    have e1 : (e + f - c).toNat + (c + 2148).toNat = (e + 1074).toNat + (f + 1074).toNat := by omega
    have e2 : (g - c).toNat + (c + 2148).toNat = (g + 1074).toNat + 1074 := by omega
    have s1 : sgn (sx != sy) (m * k * 2 ^ (e + f - c).toNat) * ((2 ^ (c + 2148).toNat : Nat) : Int) = a * b * ((2 ^ 1074 : Nat) : Int) * ((2 ^ 1074 : Nat) : Int) := by
      rw [← sgn_mul, Nat.mul_assoc, ← Nat.pow_add, e1, Nat.pow_add, show m * k * (2 ^ (e + 1074).toNat * 2 ^ (f + 1074).toNat) = (m * 2 ^ (e + 1074).toNat) * (k * 2 ^ (f + 1074).toNat) by ac_rfl, sgn_xor, ← hv1, ← hv2]
      generalize ((2 ^ 1074 : Nat) : Int) = K
      ac_rfl
    have s2 : sgn sz (n * 2 ^ (g - c).toNat) * ((2 ^ (c + 2148).toNat : Nat) : Int) = -(a * b) * ((2 ^ 1074 : Nat) : Int) * ((2 ^ 1074 : Nat) : Int) := by
      rw [← sgn_mul, Nat.mul_assoc, ← Nat.pow_add, e2, Nat.pow_add, ← Nat.mul_assoc, sgn_mul, ← hv3]
    have s3 : (sgn (sx != sy) (m * k * 2 ^ (e + f - c).toNat) + sgn sz (n * 2 ^ (g - c).toNat)) * ((2 ^ (c + 2148).toNat : Nat) : Int) = 0 := by
      rw [Int.add_mul, s1, s2]
      rw [Int.neg_mul, Int.neg_mul]
      omega
    rcases Int.mul_eq_zero.mp s3 with h | h
    · exact h
    · have := hK (c + 2148).toNat; omega
  exact wh_ite (beq_iff_eq.mpr hp)
end Mine
end
section
open PySem
namespace Mine
open PySem.Float64 PySem.Builtin.Math
theorem wh_eq {x : UInt64} {a b : Int} (h : Wh x a) (e : a = b) : Wh x b := e ▸ h
abbrev Sm (z : Int) : Prop := z.natAbs ≤ 2 ^ 53
/-- fsum's partial sums, where all is whole -/
def FS (ps : List UInt64) (z : Int) : Prop := (ps = [] ∧ z = 0) ∨ ∃ t, ps = [t] ∧ Wh t z ∧ z ≠ 0
theorem fs_add {ps : List UInt64} {x : UInt64} {z a : Int} (h : FS ps z) (hx : Wh x a) (h1 : Sm z) (h2 : Sm a) (h3 : Sm (z + a)) : (fsumAdd ps x).1 = [] ∧ Wh (fsumAdd ps x).2 (z + a) := by
  rcases h with ⟨rfl, rfl⟩ | ⟨t, rfl, ht, _⟩
  · exact ⟨rfl, wh_eq hx (by omega)⟩
  · unfold fsumAdd
    have key : ∀ {u v : UInt64} {p q : Int}, Wh u p → Wh v q → Sm p → Sm q → Sm (p + q) → p + q = z + a → (if isZero (sub v (sub (add u v) u)) then (fsumAdd [] (add u v)).1 else sub v (sub (add u v) u) :: (fsumAdd [] (add u v)).1) = [] ∧ Wh (fsumAdd [] (add u v)).2 (z + a) := by
      intro u v p q hu hv hp hq hs he
      have w1 := wh_add hu hv hs
      have w2 := wh_sub w1 hu (by omega)
      have w3 := wh_sub hv w2 (by omega)
      have hz : isZero (sub v (sub (add u v) u)) = true := by rw [wh_isZero w3]; exact beq_iff_eq.mpr (by omega)
      rw [hz]
      exact ⟨rfl, wh_eq w1 he⟩
    by_cases hl : lt (Float64.abs x) (Float64.abs t) = true
    · simp only [hl, if_true]
      exact key ht hx h1 h2 h3 rfl
    · simp only [Bool.not_eq_true] at hl
      simp only [hl]
      exact key hx ht h2 h1 (by omega) (by omega)
theorem fs_next {top : UInt64} {z : Int} (h : Wh top z) : FS (if isZero top then [] else [] ++ [top]) z := by
  rw [wh_isZero h]
  by_cases hz : z = 0
  · left; simp [hz]
  · right; exact ⟨top, by simp [hz], h, hz⟩
theorem fs_end {ps : List UInt64} {z : Int} (h : FS ps z) : Wh (fsumEnd ps) z := by
  rcases h with ⟨rfl, rfl⟩ | ⟨t, rfl, ht, _⟩
  · exact wh_zero false
  · exact ht
theorem dl_sum {x y : UInt64} {a b : Int} (hx : Wh x a) (hy : Wh y b) (h1 : Sm a) (h2 : Sm b) (h3 : Sm (a + b)) : Wh (dlSum x y).1 (a + b) ∧ Wh (dlSum x y).2 0 := by
  have w1 := wh_add hx hy h3
  have w2 := wh_sub w1 hx (by omega)
  have w3 := wh_sub w1 w2 (by omega)
  have w4 := wh_sub hx w3 (by omega)
  have w5 := wh_sub hy w2 (by omega)
  have w6 := wh_add w4 w5 (by omega)
  exact ⟨w1, wh_eq w6 (by omega)⟩
theorem dl_mul {x y : UInt64} {a b : Int} (hx : Wh x a) (hy : Wh y b) (h : Sm (a * b)) : Wh (dlMul x y).1 (a * b) ∧ Wh (dlMul x y).2 0 := by
  have w1 := wh_mul hx hy h
  exact ⟨w1, wh_fma0 hx hy (wh_neg w1)⟩
def TL (t : UInt64 × UInt64 × UInt64) (c : Int) : Prop := Wh t.1 c ∧ Wh t.2.1 0 ∧ Wh t.2.2 0
theorem sm0 : Sm 0 := by decide
theorem sm00 : Sm (0 + 0) := by decide
theorem tl_step {x y : UInt64} {t : UInt64 × UInt64 × UInt64} {a b c : Int} (hx : Wh x a) (hy : Wh y b) (ht : TL t c) (h1 : Sm (a * b)) (h2 : Sm c) (h3 : Sm (c + a * b)) : TL (tlFma x y t) (c + a * b) := by
  have p := dl_mul hx hy h1
  have s := dl_sum ht.1 p.1 h2 h1 h3
  have r1 := dl_sum ht.2.1 p.2 sm0 sm0 sm00
  have r2 := dl_sum (wh_eq r1.1 (by omega : (0:Int) + 0 = 0)) s.2 sm0 sm0 sm00
  have u := wh_add ht.2.2 r1.2 sm00
  have v := wh_add (wh_eq u (by omega : (0:Int) + 0 = 0)) r2.2 sm00
  exact ⟨s.1, wh_eq r2.1 (by omega), wh_eq v (by omega)⟩
theorem tl_end {t : UInt64 × UInt64 × UInt64} {c : Int} (ht : TL t c) (h : Sm c) : Wh (tlToFloat t) c := by
  have l := dl_sum ht.2.1 ht.1 sm0 h (by omega)
  have u := wh_add ht.2.2 l.2 sm00
  have v := wh_add (wh_eq u (by omega : (0:Int) + 0 = 0)) l.1 (by omega)
  exact wh_eq v (by omega)
theorem tl_zero : TL (zero false, zero false, zero false) 0 := ⟨wh_zero _, wh_zero _, wh_zero _⟩
end Mine
end
section
open PySem PySem.W
set_option maxRecDepth 100000
namespace Mine
/-- a decision tree run on answers, where it asks for places below n -/
def runT {α : Type} (n : Nat) (c : Nat → Nat → Bool) : KasT α → Option α
  | .ret a => some a
  | .ask i j k => if (Nat.blt i n && Nat.blt j n) = true then runT n c (k (c i j)) else none
def nds (n : Nat) : Nat → List (List Nat)
  | 0 => [[]]
  | k + 1 => (nds n k).flatMap fun l => (List.range n).filterMap fun h => if l.contains h then none else some (h :: l)
def ltS (σ : List Nat) (a b : Nat) : Bool := Nat.blt (σ.getD a 0) (σ.getD b 0)
def ord (n : Nat) (σ : List Nat) : List Nat := (List.range n).map fun r => σ.idxOf r
def chk (n : Nat) : Bool := (nds n n).all fun σ => offHeap (ltS σ) (List.range n) == ord n σ && (match runT n (ltS σ) (kas_sort n) with | some p => p.toList == ord n σ | none => false) && (ord n σ).isPerm (List.range n)
theorem chk2 : chk 2 = true := by decide +kernel
theorem chk3 : chk 3 = true := by decide +kernel
theorem chk4 : chk 4 = true := by decide +kernel
theorem chk5 : chk 5 = true := by decide +kernel
theorem chk6 : chk 6 = true := by decide +kernel
end Mine
end
section
namespace Mine
def sumN : Nat → (Nat → Int) → Int
  | 0, _ => 0
  | n + 1, f => sumN n f + f n
theorem sumN_congr {f g : Nat → Int} : ∀ {n : Nat}, (∀ i, i < n → f i = g i) → sumN n f = sumN n g
  | 0, _ => rfl
  | n + 1, h => by
    unfold sumN
    rw [sumN_congr fun i hi => h i (Nat.lt_succ_of_lt hi), h n (Nat.lt_succ_self _)]
theorem sumN_add (f g : Nat → Int) : ∀ n, sumN n (fun i => f i + g i) = sumN n f + sumN n g
  | 0 => rfl
  | n + 1 => by
    unfold sumN
    rw [sumN_add f g n]
    dsimp only
    omega
theorem sumN_mul (c : Int) (f : Nat → Int) : ∀ n, sumN n (fun i => c * f i) = c * sumN n f
  | 0 => by simp [sumN]
  | n + 1 => by
    unfold sumN
    rw [sumN_mul c f n, Int.mul_add]
theorem sumN_mul_r (c : Int) (f : Nat → Int) (n : Nat) : sumN n (fun i => f i * c) = sumN n f * c := by
  rw [Int.mul_comm, ← sumN_mul]
  exact sumN_congr fun i _ => Int.mul_comm _ _
theorem sumN_const (c : Int) : ∀ n : Nat, sumN n (fun _ => c) = (n : Int) * c
  | 0 => by simp [sumN]
  | n + 1 => by
    unfold sumN
    rw [sumN_const c n]
    dsimp only
    rw [Int.natCast_add, Int.add_mul]
    omega
theorem sumN_sub (f g : Nat → Int) (n : Nat) : sumN n (fun i => f i - g i) = sumN n f - sumN n g := by
  have := sumN_add f (fun i => (-1) * g i) n
  rw [sumN_mul] at this
  rw [sumN_congr (g := fun i => f i + (-1) * g i) (fun i _ => by omega), this]
  omega
theorem sumN_abs {f : Nat → Int} {B : Nat} : ∀ {n : Nat}, (∀ i, i < n → (f i).natAbs ≤ B) → (sumN n f).natAbs ≤ n * B
  | 0, _ => by simp [sumN]
  | n + 1, h => by
    unfold sumN
    have h1 := sumN_abs fun i hi => h i (Nat.lt_succ_of_lt hi)
    have h2 := h n (Nat.lt_succ_self _)
    rw [Nat.add_mul, Nat.one_mul]
    omega
/-- Abel's summation -/
theorem abel (X g : Nat → Int) : ∀ N, sumN N (fun k => (X (k + 1) - X k) * sumN (k + 1) g) = sumN (N + 1) (fun r => g r * (X N - X r))
  | 0 => by simp [sumN]
  | N + 1 => by
    have ih := abel X g N
    unfold sumN
    rw [ih]
    have e1 : sumN (N + 1) (fun r => g r * (X (N + 1) - X r)) = sumN (N + 1) (fun r => g r * (X N - X r)) + sumN (N + 1) (fun r => g r * (X (N + 1) - X N)) := by
      rw [← sumN_add]
      refine sumN_congr fun i _ => ?_
      rw [← Int.mul_add]
      congr 1
      omega
    rw [e1, sumN_mul_r (X (N + 1) - X N) g (N + 1), Int.mul_comm (sumN (N + 1) g)]
    have e2 : X (N + 1) - X (N + 1) = 0 := by omega
    dsimp only
    rw [e2, Int.mul_zero]
    omega
theorem steps (Y : Nat → Int) (q : Nat) : ∀ N, sumN N (fun m => (if q < m + 1 then 1 else 0) * (Y (m + 1) - Y m)) = if q ≤ N then Y N - Y q else 0
  | 0 => by
    by_cases h : q = 0
    · subst h; simp [sumN]
    · have : ¬ q ≤ 0 := by omega
      rw [if_neg this]; rfl
  | N + 1 => by
    unfold sumN
    rw [steps Y q N]
    dsimp only
    by_cases h : q ≤ N
    · rw [if_pos h, if_pos (by omega), if_pos (by omega)]; omega
    · rw [if_neg h, if_neg (show ¬ q < N + 1 by omega)]
      by_cases h2 : q = N + 1
      · subst h2; rw [if_pos (Nat.le_refl _)]; omega
      · rw [if_neg (by omega)]; omega
theorem sumN_swap (f : Nat → Nat → Int) (m : Nat) : ∀ n, sumN n (fun i => sumN m (fun j => f i j)) = sumN m (fun j => sumN n (fun i => f i j))
  | 0 => by
    show (0 : Int) = sumN m (fun _ => 0)
    rw [sumN_const]; omega
  | n + 1 => by
    show sumN n (fun i => sumN m (fun j => f i j)) + sumN m (fun j => f n j) = sumN m (fun j => sumN n (fun i => f i j) + f n j)
    rw [sumN_swap f m n, ← sumN_add]
/-- the heart: any two orders -/
theorem hoeffding (N : Nat) (X Y Z : Nat → Int) (q : Nat → Nat) (hq : ∀ r, r < N + 1 → q r ≤ N) (hZ : ∀ r, r < N + 1 → Z r = Y (q r)) (hs : sumN (N + 1) Z = sumN (N + 1) Y) :
    sumN N (fun k => sumN N (fun m => (((N + 1 : Nat) : Int) * sumN (k + 1) (fun r => if q r < m + 1 then 1 else 0) - ((k + 1 : Nat) : Int) * ((m + 1 : Nat) : Int)) * (X (k + 1) - X k) * (Y (m + 1) - Y m)))
      = ((N + 1 : Nat) : Int) * sumN (N + 1) (fun r => X r * Z r) - sumN (N + 1) X * sumN (N + 1) Y := by
  have one : ∀ k : Nat, sumN (k + 1) (fun _ => 1) = ((k + 1 : Nat) : Int) := fun k => by rw [sumN_const]; omega
  have hA : sumN N (fun k => sumN N (fun m => sumN (k + 1) (fun r => if q r < m + 1 then 1 else 0) * (X (k + 1) - X k) * (Y (m + 1) - Y m))) = sumN (N + 1) (fun r => (X N - X r) * (Y N - Z r)) := by
    have e1 : ∀ k, k < N → sumN N (fun m => sumN (k + 1) (fun r => if q r < m + 1 then 1 else 0) * (X (k + 1) - X k) * (Y (m + 1) - Y m)) = (X (k + 1) - X k) * sumN (k + 1) (fun r => Y N - Z r) := by
      intro k hk
      have e2 : ∀ m, sumN (k + 1) (fun r => if q r < m + 1 then 1 else 0) * (X (k + 1) - X k) * (Y (m + 1) - Y m) = (X (k + 1) - X k) * sumN (k + 1) (fun r => (if q r < m + 1 then 1 else 0) * (Y (m + 1) - Y m)) := by
        intro m
        rw [sumN_mul_r]
        generalize sumN (k + 1) _ = S
        rw [Int.mul_comm S, Int.mul_assoc]
      rw [sumN_congr fun m _ => e2 m, sumN_mul, sumN_swap]
      congr 1
      refine sumN_congr fun r hr => ?_
      rw [steps Y (q r) N, if_pos (hq r (by omega)), hZ r (by omega)]
    rw [sumN_congr e1, abel]
    exact sumN_congr fun r _ => Int.mul_comm _ _
  have hB : sumN N (fun k => ((k + 1 : Nat) : Int) * (X (k + 1) - X k)) = sumN (N + 1) (fun r => X N - X r) := by
    rw [sumN_congr (g := fun k => (X (k + 1) - X k) * sumN (k + 1) (fun _ => 1)) (fun k _ => by rw [one, Int.mul_comm]), abel]
    exact sumN_congr fun r _ => Int.one_mul _
  have hC : sumN N (fun k => ((k + 1 : Nat) : Int) * (Y (k + 1) - Y k)) = sumN (N + 1) (fun r => Y N - Y r) := by
    rw [sumN_congr (g := fun k => (Y (k + 1) - Y k) * sumN (k + 1) (fun _ => 1)) (fun k _ => by rw [one, Int.mul_comm]), abel]
    exact sumN_congr fun r _ => Int.one_mul _
  have hD : sumN N (fun k => sumN N (fun m => (((k + 1 : Nat) : Int) * ((m + 1 : Nat) : Int)) * (X (k + 1) - X k) * (Y (m + 1) - Y m))) = sumN (N + 1) (fun r => X N - X r) * sumN (N + 1) (fun r => Y N - Y r) := by
    rw [← hB, ← hC, ← sumN_mul_r]
    refine sumN_congr fun k _ => ?_
    rw [← sumN_mul]
    refine sumN_congr fun m _ => ?_
    generalize ((k + 1 : Nat) : Int) = a
    generalize ((m + 1 : Nat) : Int) = b
    generalize X (k + 1) - X k = c
    generalize Y (m + 1) - Y m = d
    grind
  have hL : sumN N (fun k => sumN N (fun m => (((N + 1 : Nat) : Int) * sumN (k + 1) (fun r => if q r < m + 1 then 1 else 0) - ((k + 1 : Nat) : Int) * ((m + 1 : Nat) : Int)) * (X (k + 1) - X k) * (Y (m + 1) - Y m)))
      = ((N + 1 : Nat) : Int) * sumN (N + 1) (fun r => (X N - X r) * (Y N - Z r)) - sumN (N + 1) (fun r => X N - X r) * sumN (N + 1) (fun r => Y N - Y r) := by
    rw [← hA, ← hD, ← sumN_mul, ← sumN_sub]
    refine sumN_congr fun k _ => ?_
    rw [← sumN_mul, ← sumN_sub]
    refine sumN_congr fun m _ => ?_
    generalize sumN (k + 1) _ = S
    generalize ((N + 1 : Nat) : Int) = n
    generalize ((k + 1 : Nat) : Int) = a
    generalize ((m + 1 : Nat) : Int) = b
    generalize X (k + 1) - X k = c
    generalize Y (m + 1) - Y m = d
    grind
  rw [hL]
  have hE : sumN (N + 1) (fun r => (X N - X r) * (Y N - Z r)) = ((N + 1 : Nat) : Int) * (X N * Y N) - X N * sumN (N + 1) Y - Y N * sumN (N + 1) X + sumN (N + 1) (fun r => X r * Z r) := by
    rw [← hs, ← sumN_const, ← sumN_mul, ← sumN_mul, ← sumN_sub, ← sumN_sub, ← sumN_add]
    refine sumN_congr fun r _ => ?_
    grind
  rw [hE, sumN_sub (fun _ => X N) X, sumN_sub (fun _ => Y N) Y, sumN_const, sumN_const]
  generalize sumN (N + 1) (fun r => X r * Z r) = a
  generalize sumN (N + 1) X = b
  generalize sumN (N + 1) Y = c
  generalize X N = d
  generalize Y N = e
  generalize ((N + 1 : Nat) : Int) = n
  grind
end Mine
end
section
open PySem PySem.W PyProof.Rows PySem.Calls PySem.Spec
namespace Mine
local macro_rules | `(tactic| tlg_ne) => `(tactic| first | exact if_pos rfl | assumption | (refine (if_neg (by decide)).trans ?_; tlg_ne) | (with_unfolding_all rfl))
local macro_rules | `(tactic| tb_start) => `(tactic| with_unfolding_all rfl)
local macro_rules | `(tactic| cell_call) => `(tactic| first
  | ((with_reducible show wpAny _ _ (eval (Expr.Name (Str.ofString "len") _) _) _ _ _); with_reducible refine nameE_B (by assumption) (by first | assumption | exact At.gl (by assumption)) n_len b_len (by decide +kernel) ?_ (by kernel_rfl!) (by kernel_rfl!) (by kernel_rfl!) (by kernel_rfl!) (by decide +kernel))
  | ((with_reducible show wpAny _ _ (eval (Expr.Name (Str.ofString "range") _) _) _ _ _); with_reducible refine nameE_B (by assumption) (by first | assumption | exact At.gl (by assumption)) n_range b_range (by decide +kernel) ?_ (by kernel_rfl!) (by kernel_rfl!) (by kernel_rfl!) (by kernel_rfl!) (by decide +kernel))
  | ((with_reducible show wpAny _ _ (eval (Expr.Name (Str.ofString "reversed") _) _) _ _ _); with_reducible refine nameE_B (by assumption) (by first | assumption | exact At.gl (by assumption)) n_reversed b_reversed (by decide +kernel) ?_ (by kernel_rfl!) (by kernel_rfl!) (by kernel_rfl!) (by kernel_rfl!) (by decide +kernel))
  | ((with_reducible show wpAny _ _ (eval (Expr.Name (Str.ofString "list") _) _) _ _ _); with_reducible refine nameE_B (by assumption) (by first | assumption | exact At.gl (by assumption)) n_list b_list (by decide +kernel) ?_ (by kernel_rfl!) (by kernel_rfl!) (by kernel_rfl!) (by kernel_rfl!) (by decide +kernel))
  | ((with_reducible show wpAny _ _ (eval (Expr.Name (Str.ofString "sorted") _) _) _ _ _); with_reducible refine nameE_B (by assumption) (by first | assumption | exact At.gl (by assumption)) n_sorted b_sorted (by decide +kernel) ?_ (by kernel_rfl!) (by kernel_rfl!) (by kernel_rfl!) (by kernel_rfl!) (by decide +kernel))
  | ((with_reducible show wpAny _ _ (eval (Expr.Name (Str.ofString "isinstance") _) _) _ _ _); with_reducible refine nameE_B (by assumption) (by first | assumption | exact At.gl (by assumption)) n_isinstance b_isinstance (by decide +kernel) ?_ (by kernel_rfl!) (by kernel_rfl!) (by kernel_rfl!) (by kernel_rfl!) (by decide +kernel))
  | ((with_reducible show wpAny _ _ (eval (Expr.Name (Str.ofString "float") _) _) _ _ _); with_reducible refine nameE_B (by assumption) (by first | assumption | exact At.gl (by assumption)) n_float b_float (by decide +kernel) ?_ (by kernel_rfl!) (by kernel_rfl!) (by kernel_rfl!) (by kernel_rfl!) (by decide +kernel))
  | ((with_reducible show wpAny _ _ (eval (Expr.Name (Str.ofString "_siftdown") _) _) _ _ _); with_reducible refine nameE_K (by assumption) (by first | assumption | exact At.gl (by assumption)) g_siftdown ?_ (by kernel_rfl!) (by kernel_rfl!) (by kernel_rfl!) (by decide +kernel))
  | ((with_reducible show wpAny _ _ (eval (Expr.Name (Str.ofString "_siftup") _) _) _ _ _); with_reducible refine nameE_K (by assumption) (by first | assumption | exact At.gl (by assumption)) g_siftup ?_ (by kernel_rfl!) (by kernel_rfl!) (by kernel_rfl!) (by decide +kernel))
  | ((with_reducible show wpAny _ _ (eval (Expr.Name (Str.ofString "heapify") _) _) _ _ _); with_reducible refine nameE_K (by assumption) (by first | assumption | exact At.gl (by assumption)) g_heapify ?_ (by kernel_rfl!) (by kernel_rfl!) (by kernel_rfl!) (by decide +kernel))
  | ((with_reducible show wpAny _ _ (eval (Expr.Name (Str.ofString "heappop") _) _) _ _ _); with_reducible refine nameE_K (by assumption) (by first | assumption | exact At.gl (by assumption)) g_heappop ?_ (by kernel_rfl!) (by kernel_rfl!) (by kernel_rfl!) (by decide +kernel))
  | ((with_reducible show wpAny _ _ (eval (Expr.Name (Str.ofString "fsum") _) _) _ _ _); with_reducible refine nameE_K (by assumption) (by first | assumption | exact At.gl (by assumption)) g_fsum ?_ (by kernel_rfl!) (by kernel_rfl!) (by kernel_rfl!) (by decide +kernel))
  | ((with_reducible show wpAny _ _ (eval (Expr.Name (Str.ofString "sumprod") _) _) _ _ _); with_reducible refine nameE_K (by assumption) (by first | assumption | exact At.gl (by assumption)) g_sumprod ?_ (by kernel_rfl!) (by kernel_rfl!) (by kernel_rfl!) (by decide +kernel))
  | ((with_reducible show wpAny _ _ (eval (Expr.Name (Str.ofString "sorted_list_difference") _) _) _ _ _); with_reducible refine nameE_K (by assumption) (by first | assumption | exact At.gl (by assumption)) g_sld ?_ (by kernel_rfl!) (by kernel_rfl!) (by kernel_rfl!) (by decide +kernel))
  | ((with_reducible show wpAny _ _ (eval (Expr.Name (Str.ofString "_law_off_a_heap") _) _) _ _ _); with_reducible refine nameE_K (by assumption) (by first | assumption | exact At.gl (by assumption)) g_off ?_ (by kernel_rfl!) (by kernel_rfl!) (by kernel_rfl!) (by decide +kernel))
  | ((with_reducible show wpAny _ _ (eval (Expr.Name (Str.ofString "_law_beyond") _) _) _ _ _); with_reducible refine nameE_K (by assumption) (by first | assumption | exact At.gl (by assumption)) g_beyond ?_ (by kernel_rfl!) (by kernel_rfl!) (by kernel_rfl!) (by decide +kernel))
  | ((with_reducible show wpAny _ _ (eval (Expr.Name (Str.ofString "covariance") _) _) _ _ _); with_reducible refine nameE_K (by assumption) (by first | assumption | exact At.gl (by assumption)) g_cov ?_ (by kernel_rfl!) (by kernel_rfl!) (by kernel_rfl!) (by decide +kernel))
  | (refine ldE (by first | exact Fr.ns (by assumption) | exact Cm.ns (by assumption)) (by tlg_ne) ?_ (by kernel_rfl!) (by kernel_rfl!) (by decide +kernel))
  | (refine cellE (by tb_start) (by assumption) (by assumption) (by assumption) ?_ (by kernel_rfl!) (by kernel_rfl!) (by decide +kernel)))
local macro_rules | `(tactic| tb_rel) => `(tactic| (first
  | with_reducible refine wpAny_execs_cons ?_
  | with_reducible refine wpAny_execs_nil ?_
  | ((with_reducible show wpAny _ _ (exec _ _) _ _ _); first
    | with_reducible refine wpAny_Assign_Name ?_ (by tb_start)
    | (with_reducible refine wpAny_Assign_Subscript ?_ ?_; rotate_left; tb_start)
    | with_reducible refine wpAny_AugAssign_Name ?_
    | with_reducible refine wpAny_If ?_
    | with_reducible refine wpAny_Break ?_
    | with_reducible refine wpAny_Continue ?_
    | with_reducible refine wpAny_Return_some ?_
    | with_reducible refine wpAny_Return_none ?_
    | with_reducible refine wpAny_Expr ?_ (by tb_start) (by tb_start))
  | ((with_reducible show wpAny _ _ (eval (Expr.Name _ _) _) _ _ _); first
    | cell_call)
  | ((with_reducible show wpAny _ _ (eval _ _) _ _ _); first
    | with_reducible refine wpAny_BinOp ?_
    | with_reducible refine List_ ?_
    | with_reducible refine Tuple_ ?_
    | with_reducible refine wpAny_Compare1 ?_ (by tb_start)
    | (with_reducible refine sub_slice ?_ (by intro _ _; tb_start))
    | with_reducible refine Subscript_ ?_
    | with_reducible refine wpAny_Constant_int ?_
    | with_reducible refine wpAny_Constant_bool ?_
    | (with_reducible refine MethodCall_ ?_ (by tb_start))
    | (with_reducible refine Call_ ?_ (by tb_start)))
  | ((with_reducible show wpAny _ _ (isTrue _ _ _) _ _ _); first
    | with_reducible refine wpAny_isTrue_Compare1 ?_ (by tb_start)
    | with_reducible refine wpAny_isTrue_BoolOp ?_
    | with_reducible refine wpAny_isTrue_Not ?_
    | with_reducible refine wpAny_isTrue_value ?_ (by tb_start))
  | ((with_reducible show wpAny _ _ (callWith _ (Value.ref 83) _ _ _) _ _ _); with_reducible refine callWith_K f_siftdown (by first | assumption | exact At.gl (by assumption)) ?_ (by tb_start))
  | ((with_reducible show wpAny _ _ (callWith _ (Value.ref 90) _ _ _) _ _ _); with_reducible refine callWith_K f_siftup (by first | assumption | exact At.gl (by assumption)) ?_ (by tb_start))
  | ((with_reducible show wpAny _ _ (callWith _ (Value.ref 76) _ _ _) _ _ _); with_reducible refine callWith_K f_heapify (by first | assumption | exact At.gl (by assumption)) ?_ (by tb_start))
  | ((with_reducible show wpAny _ _ (callWith _ (Value.ref 69) _ _ _) _ _ _); with_reducible refine callWith_K f_heappop (by first | assumption | exact At.gl (by assumption)) ?_ (by tb_start))
  | ((with_reducible show wpAny _ _ (callWith _ (Value.ref 97) _ _ _) _ _ _); with_reducible refine callWith_K f_sld (by first | assumption | exact At.gl (by assumption)) ?_ (by tb_start))
  | ((with_reducible show wpAny _ _ (callWith _ (Value.ref 102) _ _ _) _ _ _); with_reducible refine callWith_K f_off (by first | assumption | exact At.gl (by assumption)) ?_ (by tb_start))
  | ((with_reducible show wpAny _ _ (callWith _ (Value.ref 107) _ _ _) _ _ _); with_reducible refine callWith_K f_beyond (by first | assumption | exact At.gl (by assumption)) ?_ (by tb_start))
  | ((with_reducible show wpAny _ _ (callWith _ (Value.ref 62) _ _ _) _ _ _); with_reducible refine callWith_K f_cov (by first | assumption | exact At.gl (by assumption)) ?_ (by tb_start))
  | with_reducible refine ep_some ?_
  | with_reducible refine ep_none ?_
  | ((with_reducible show wpAny _ _ (loadName _ _) _ _ _); refine ldnE (by first | exact Fr.ns (by assumption) | exact Cm.ns (by assumption)) (by tlg_ne) ?_ (by kernel_rfl!) (by kernel_rfl!))
  | with_reducible refine eq_int ?_
  | (with_reducible refine callWith_method1 ?_ (by tb_start) (by tb_start))
  | ((with_reducible show Frag.In _ _ ∧ _); refine And.intro (Frag.In.keeps (Gl.X (by first | assumption | exact At.gl (by assumption))) (Fr.keep (by assumption))) ?_)
  | ((with_reducible show if _ then _ else _); first | refine ite_tt ?_ | refine ite_ff ?_)
  | with_reducible refine wpAny_truthy_bool ?_
  | with_reducible refine sub_int ?_
  | with_reducible refine add_int ?_
  | with_reducible refine lt_int ?_
  | with_reducible refine gt_int ?_
  | with_reducible refine iadd_int ?_
  | with_reducible refine wpAny_allTrue_And_cons ?_
  | with_reducible refine wpAny_allTrue_Or_cons ?_
  | with_reducible refine wpAny_allTrue_And_nil ?_
  | with_reducible refine wpAny_allTrue_Or_nil ?_
  | with_reducible refine args_nil ?_
  | (with_reducible refine args_cons ?_ (by tb_start))
  | with_reducible refine callWith_method0 ?_
  | (with_reducible refine Pv.callWith_type1 ?_ (by tb_start) (by tb_start))
  | (with_reducible refine callWith_builtin1 ?_ (by tb_start) (by tb_start))
  | with_reducible refine ne_int ?_
  ); try dsimp only)
section
open PySem PySem.W PyProof.Rows PySem.Calls PySem.Spec
set_option maxRecDepth 100000
section
variable {prog : Program} {w : World} {p : Program} {loose : List Str} {mg mb : Str → Option Value} {l : Addr} {news : News'} {xs : List It} {n : Nat} {start pos : Nat} {ts tp : Tok} {hr : Heap} {hl : Addr}

theorem siftdown_calls (hm : (l, objL xs n) ∈ news) (ht : ∀ x ∈ xs, TupAt news x) (hpos : pos < xs.length) (hlen : xs.length < 1000) :
    Calls prog w (hd.heap_39 w.params) p loose mg mb 83 (0 + 1) (1 + 3) [.ref l, .int start ts, .int pos tp] news (fun news' r => r = .none ∧ news' = put l (objL (siftdown ltI xs start pos) n) news) := by
  refine Calls.by (binds := [(Str.ofString "heap", .ref l), (Str.ofString "startpos", .int start ts), (Str.ofString "pos", .int pos tp)]) rfl rfl (fun s => BindsTo.of_eq rfl) (locs rfl) rfl rfl rfl (by decide) ?_
  intro A g L' h₁ s tk m hmm F N C
  have m1 : m (Str.ofString "heap") = some (.ref l) := hmm _
  have m2 : m (Str.ofString "startpos") = some (.int start ts) := hmm _
  have m3 : m (Str.ofString "pos") = some (.int pos tp) := hmm _
  clear hmm
  obtain ⟨x, hx⟩ : ∃ x, xs[pos]? = some x := ⟨xs[pos], by simp [hpos]⟩
  repeat tb_rel
  refine item_tail N hm (by omega) hx ?_
  refine stN F N (fun h2 F2 N2 => ?_) (by kernel_rfl!) (by kernel_rfl!)
  repeat tb_rel
  refine wpAny_While (codeAny_whileLoop (fun k s₁ => ∃ xs' pos' tp' m' h' tk' f, s₁ = { s with heap := h', toks := tk' } ∧ k = pos' ∧ Fr g L' h' m' ∧ News g L' h' (put l (objL xs' n) news) ∧ xs'.length = xs.length ∧ pos' < xs.length ∧
    (∀ y ∈ xs', TupAt news y) ∧ m' (Str.ofString "heap") = some (.ref l) ∧ m' (Str.ofString "startpos") = some (.int start ts) ∧ m' (Str.ofString "newitem") = some x.1 ∧ m' (Str.ofString "pos") = some (.int pos' tp') ∧
    pos' ≤ f ∧ sdLoop ltI x start f xs' pos' = siftdown ltI xs start pos) ?turn pos ⟨xs, pos, tp, _, h2, _, pos, rfl, rfl, F2, by rw [put_id N hm]; exact N2, rfl, hpos, ht, by tlg_ne, by tlg_ne, by tlg_ne, by tlg_ne, Nat.le_refl _, by unfold siftdown; rw [hx]⟩)
  clear F2 N2 h2
  rintro k s₁ ⟨xs', pos', tp', m', h', tk', f, rfl, rfl, F', N', hl', hp', ht', e1, e2, e3, e4, hf, hfin⟩
  have hxt : TupAt (put l (objL xs' n) news) x := TupAt.put N hm (ht x (List.mem_of_getElem? hx))
  have hm' : (l, objL xs' n) ∈ put l (objL xs' n) news := put_self hm
  repeat tb_rel
  refine split_dec (fun hlt => ?_) (fun hlt => ?_)
  · have hsk : start < k := by omega
    obtain ⟨f, rfl⟩ : ∃ f', f = f' + 1 := ⟨f - 1, by omega⟩
    obtain ⟨y, hy⟩ : ∃ y, xs'[(k - 1) / 2]? = some y := ⟨xs'[(k - 1) / 2]'(by omega), by simp⟩
    have hyt : TupAt (put l (objL xs' n) news) y := TupAt.put N hm (ht' y (List.mem_of_getElem? hy))
    rw [sdLoop, if_pos hsk, hy] at hfin
    simp only at hfin
    repeat tb_rel
    refine wpAny_rshift1_int (a := (k : Int) - 1) (by omega) ?_
    have ek : ((k : Int) - 1) / 2 = (((k - 1) / 2 : Nat) : Int) := by omega
    rw [ek]
    refine stN F' N' (fun h3 F3 N3 => ?_) (by kernel_rfl!) (by kernel_rfl!)
    repeat tb_rel
    refine item_tail N3 hm' (by omega) hy ?_
    refine stN F3 N3 (fun h4 F4 N4 => ?_) (by kernel_rfl!) (by kernel_rfl!)
    repeat tb_rel
    refine lt_tup N4 hxt hyt (by have := C.units; omega) ?_
    refine wpAny_truthy_bool ?_
    refine split_bool (fun hlt2 => ?_) (fun hlt2 => ?_)
    · rw [if_pos hlt2] at hfin
      repeat tb_rel
      refine item_set F4 N4 hm' (by omega) (by omega) (fun h5 F5 N5 => ?_)
      rw [put_put] at N5
      repeat tb_rel
      refine stN F5 N5 (fun h6 F6 N6 => ?_) (by kernel_rfl!) (by kernel_rfl!)
      repeat tb_rel
      refine ⟨(k - 1) / 2, by omega, xs'.set k y, (k - 1) / 2, _, _, h6, _, f, rfl, rfl, F6, N6, by simpa using hl', by omega, fun z hz => ?_, by tlg_ne, by tlg_ne, by tlg_ne, by tlg_ne, by omega, hfin⟩
      rcases List.mem_or_eq_of_mem_set hz with hz | rfl
      · exact ht' z hz
      · exact ht' _ (List.mem_of_getElem? hy)
    · rw [if_neg (show ¬ ltK x.2 y.2 = true by rw [hlt2]; decide)] at hfin
      repeat tb_rel
      refine item_set F4 N4 hm' (by omega) (by omega) (fun h5 F5 N5 => ?_)
      rw [put_put, hfin] at N5
      repeat tb_rel
      exact Done.intro F5 N5 ⟨rfl, rfl⟩
  · have hfin : xs'.set k x = siftdown ltI xs start pos := by
      rw [← hfin]
      cases f with
      | zero => rfl
      | succ f => rw [sdLoop, if_neg (by omega)]
    repeat tb_rel
    refine item_set F' N' hm' (by omega) (by omega) (fun h5 F5 N5 => ?_)
    rw [put_put, hfin] at N5
    repeat tb_rel
    exact Done.intro F5 N5 ⟨rfl, rfl⟩
end
end
section
open PySem PySem.W PyProof.Rows PySem.Calls PySem.Spec
set_option maxRecDepth 100000
theorem suLoop_length {α : Type} (lt : α → α → Bool) (xs0 : List α) : ∀ f xs pos, (suLoop lt xs0 f xs pos).1.length = xs.length
  | 0, xs, pos => rfl
  | f + 1, xs, pos => by
    unfold suLoop
    split
    · split
      · split <;> (rw [suLoop_length lt xs0 f]; simp)
      · rw [suLoop_length lt xs0 f]; simp
      · rfl
    · rfl
section
variable {prog : Program} {w : World} {A : Around} {E : Value → Shared → Prop} {s : Shared} {h₀ : Heap} {L l : Addr} {m : Str → Option Value} {news : News'} {xs : List It} {n : Nat}
theorem len_items {Q : Value → Shared → Prop} (N : News h₀ L s.heap news) (hm : (l, objL xs n) ∈ news) (hf : xs.length < 2 ^ 62) (h : Q (.int (xs.length : Int) (s.toks + 1)) { s with toks := s.toks + 1 + 1 }) :
    wpAny (model prog w) A (call (.builtin "len") [.ref l]) Q E s := by
  refine len_list (PySem.IsL.isList (n := n) (N _ hm).1) (by simp; omega) ?_
  simpa using h
end
theorem seq_cut {M : Model} {A : Around} {E : Value → Shared → Prop} {s : Shared} {env : Env} {st : Stmt} {rest : List Stmt} {Q : Flow → Shared → Prop} (P : Shared → Prop) (h1 : wpAny M A (exec st env) (fun f s' => f = .next ∧ P s') E s)
    (h2 : ∀ s', P s' → wpAny M A (execs rest env) Q E s') : wpAny M A (execs (st :: rest) env) Q E s := by
  refine wpAny_execs_cons (wpAny_mono h1 (fun f s' h => ?_) fun _ _ x => x)
  obtain ⟨rfl, h⟩ := h
  exact h2 s' h
theorem mul_small {prog : Program} {w : World} {A : Around} {E : Value → Shared → Prop} {s : Shared} {a b : Int} {t u : Tok} {Q : Value → Shared → Prop} (h1 : -(2 ^ 64) < a) (h2 : a < 2 ^ 64) (h : Q (.int (a * b) s.toks) { s with toks := s.toks + 1 }) :
    wpAny (model prog w) A (binaryOp .Mult (.int a t) (.int b u)) Q E s := mul_int h (IntMulOk.of_left (intBits_le_64 h1 h2))
section
variable {prog : Program} {w : World} {p : Program} {loose : List Str} {mg mb : Str → Option Value} {l : Addr} {news : News'} {xs : List It} {n : Nat} {pos : Nat} {tp : Tok}

theorem siftup_calls (hm : (l, objL xs n) ∈ news) (ht : ∀ x ∈ xs, TupAt news x) (hpos : pos < xs.length) (hlen : xs.length < 1000) :
    Calls prog w (hd.heap_39 w.params) p loose mg mb 90 (1 + 1) (4 + 3) [.ref l, .int pos tp] news (fun news' r => r = .none ∧ news' = put l (objL (siftup ltI xs pos) n) news) := by
  refine Calls.by (binds := [(Str.ofString "heap", .ref l), (Str.ofString "pos", .int pos tp)]) rfl rfl (fun s => BindsTo.of_eq rfl) (locs rfl) rfl rfl rfl (by decide) ?_
  intro A g L' h₁ s tk m hmm F N C
  have m1 : m (Str.ofString "heap") = some (.ref l) := hmm _
  have m3 : m (Str.ofString "pos") = some (.int pos tp) := hmm _
  clear hmm
  obtain ⟨x, hx⟩ : ∃ x, xs[pos]? = some x := ⟨xs[pos], by simp [hpos]⟩
  repeat tb_rel
  refine len_items N hm (by omega) ?_
  refine stN F N (fun h2 F2 N2 => ?_) (by kernel_rfl!) (by kernel_rfl!)
  repeat tb_rel
  refine stN F2 N2 (fun h3 F3 N3 => ?_) (by kernel_rfl!) (by kernel_rfl!)
  repeat tb_rel
  refine item_tail N3 hm (by omega) hx ?_
  refine stN F3 N3 (fun h4 F4 N4 => ?_) (by kernel_rfl!) (by kernel_rfl!)
  repeat tb_rel
  refine mul_small (by decide) (by decide) ?_
  repeat tb_rel
  refine stN F4 N4 (fun h5 F5 N5 => ?_) (by kernel_rfl!) (by kernel_rfl!)
  tb_rel
  refine wpAny_While (codeAny_whileLoop (fun k s₁ => ∃ xs' pos' tp' tc' m' h' tk' f, s₁ = { s with heap := h', toks := tk' } ∧ k = xs.length - pos' ∧ Fr g L' h' m' ∧ News g L' h' (put l (objL xs' n) news) ∧ xs'.length = xs.length ∧ pos' < xs.length ∧
    (∀ y ∈ xs', TupAt news y) ∧ m' (Str.ofString "heap") = some (.ref l) ∧ (∃ t, m' (Str.ofString "startpos") = some (.int pos t)) ∧ m' (Str.ofString "newitem") = some x.1 ∧ m' (Str.ofString "pos") = some (.int pos' tp') ∧
    (∃ t, m' (Str.ofString "endpos") = some (.int xs.length t)) ∧ m' (Str.ofString "childpos") = some (.int ((2 * pos' + 1 : Nat) : Int) tc') ∧
    xs.length - pos' ≤ f ∧ suLoop ltI xs f xs' pos' = suLoop ltI xs xs.length xs pos) ?turn (xs.length - pos) ⟨xs, pos, tp, _, _, h5, _, xs.length, rfl, rfl, F5, by rw [put_id N hm]; exact N5, rfl, hpos, ht, by tlg_ne, ⟨_, by tlg_ne⟩, by tlg_ne, by tlg_ne, ⟨_, by tlg_ne⟩, by tlg_ne, Nat.sub_le _ _, rfl⟩)
  clear F5 N5 h5 F4 N4 h4 F3 N3 h3 F2 N2 h2
  rintro k s₁ ⟨xs', pos', tp', tc', m', h', tk', f, rfl, rfl, F', N', hl', hp', ht', e1, ⟨t2, e2⟩, e3, e4, ⟨t5, e5⟩, e6, hf, hfin⟩
  have hm' : (l, objL xs' n) ∈ put l (objL xs' n) news := put_self hm
  repeat tb_rel
  refine split_dec (fun hlt => ?_) (fun hlt => ?_)
  · have hlt' : 2 * pos' + 1 < xs'.length := by omega
    obtain ⟨f, rfl⟩ : ∃ f', f = f' + 1 := ⟨f - 1, by omega⟩
    obtain ⟨c, hc⟩ : ∃ c, xs'[2 * pos' + 1]? = some c := ⟨xs'[2 * pos' + 1], by simp [hlt']⟩
    rw [suLoop, if_pos hlt', hc] at hfin
    repeat tb_rel
    refine stN F' N' (fun h2 F2 N2 => ?_) (by kernel_rfl!) (by kernel_rfl!)
    refine seq_cut (fun s₁ => ∃ cp y tcp m'' h'' tk'', s₁ = { s with heap := h'', toks := tk'' } ∧ Fr g L' h'' m'' ∧ News g L' h'' (put l (objL xs' n) news) ∧ m'' (Str.ofString "heap") = some (.ref l) ∧ m'' (Str.ofString "startpos") = some (.int pos t2) ∧ m'' (Str.ofString "newitem") = some x.1 ∧
      m'' (Str.ofString "pos") = some (.int pos' tp') ∧ m'' (Str.ofString "endpos") = some (.int xs.length t5) ∧ m'' (Str.ofString "childpos") = some (.int ((cp : Nat) : Int) tcp) ∧ xs'[cp]? = some y ∧ pos' < cp ∧ cp < xs.length ∧ suLoop ltI xs f (xs'.set pos' y) cp = suLoop ltI xs xs.length xs pos) ?_ ?_
    · repeat tb_rel
      refine split_dec (fun hr => ?_) (fun hr => ?_)
      · have hr' : 2 * pos' + 2 < xs'.length := by omega
        obtain ⟨r, hrr⟩ : ∃ r, xs'[2 * pos' + 2]? = some r := ⟨xs'[2 * pos' + 2], by simp [hr']⟩
        have hct : TupAt (put l (objL xs' n) news) c := TupAt.put N hm (ht' c (List.mem_of_getElem? hc))
        have hrt : TupAt (put l (objL xs' n) news) r := TupAt.put N hm (ht' r (List.mem_of_getElem? hrr))
        rw [hrr] at hfin
        simp only at hfin
        repeat tb_rel
        refine item_tail N2 hm' (by omega) hc ?_
        repeat tb_rel
        refine item_tail (k := 2 * pos' + 2) N2 hm' (by omega) hrr ?_
        refine lt_tup N2 hct hrt (by have := C.units; omega) ?_
        refine wpAny_truthy_bool ?_
        by_cases hcr : ltI c r = true
        · rw [if_pos hcr] at hfin
          rw [show ltK c.2 r.2 = true from hcr]
          repeat tb_rel
          exact ⟨rfl, 2 * pos' + 1, c, _, _, h2, _, rfl, F2, N2, by tlg_ne, by tlg_ne, by tlg_ne, by tlg_ne, by tlg_ne, by tlg_ne, hc, by omega, by omega, hfin⟩
        · rw [if_neg hcr] at hfin
          rw [show ltK c.2 r.2 = false by simpa using hcr]
          repeat tb_rel
          refine stN F2 N2 (fun h3 F3 N3 => ?_) (by kernel_rfl!) (by kernel_rfl!)
          repeat tb_rel
          exact ⟨rfl, 2 * pos' + 2, r, _, _, h3, _, rfl, F3, N3, by tlg_ne, by tlg_ne, by tlg_ne, by tlg_ne, by tlg_ne, by tlg_ne, hrr, by omega, by omega, hfin⟩
      · have hrr : xs'[2 * pos' + 2]? = none := by simp; omega
        rw [hrr] at hfin
        simp only at hfin
        repeat tb_rel
        exact ⟨rfl, 2 * pos' + 1, c, _, _, h2, _, rfl, F2, N2, by tlg_ne, by tlg_ne, by tlg_ne, by tlg_ne, by tlg_ne, by tlg_ne, hc, by omega, by omega, hfin⟩
    · clear F2 N2 h2 F' N' h' e1 e2 e3 e4 e5 e6 m' hfin
      rintro _ ⟨cp, y, tcp, m', h', tk', rfl, F', N', e1, e2, e3, e4, e5, e6, hy, hpc, hcl, hfin⟩
      repeat tb_rel
      refine item_tail N' hm' (by omega) hy ?_
      repeat tb_rel
      refine item_set F' N' hm' (by omega) (by omega) (fun h5 F5 N5 => ?_)
      rw [put_put] at N5
      repeat tb_rel
      refine stN F5 N5 (fun h6 F6 N6 => ?_) (by kernel_rfl!) (by kernel_rfl!)
      repeat tb_rel
      refine mul_small (by decide) (by decide) ?_
      repeat tb_rel
      refine stN F6 N6 (fun h7 F7 N7 => ?_) (by kernel_rfl!) (by kernel_rfl!)
      repeat tb_rel
      refine ⟨xs.length - cp, by omega, xs'.set pos' y, cp, _, _, _, h7, _, f, rfl, rfl, F7, N7, by simpa using hl', hcl, fun z hz => ?_, by tlg_ne, ⟨_, by tlg_ne⟩, by tlg_ne, by tlg_ne, ⟨_, by tlg_ne⟩, by tlg_ne, by omega, hfin⟩
      rcases List.mem_or_eq_of_mem_set hz with hz | rfl
      · exact ht' z hz
      · exact ht' _ (List.mem_of_getElem? hy)
  · have hfin' : suLoop ltI xs xs.length xs pos = (xs', pos') := by
      rw [← hfin]
      cases f with
      | zero => rfl
      | succ f => rw [suLoop, if_neg (by omega)]
    have hxm : x ∈ xs := List.mem_of_getElem? hx
    repeat tb_rel
    refine item_set F' N' hm' (by omega) (by omega) (fun h5 F5 N5 => ?_)
    rw [put_put] at N5
    repeat tb_rel
    have hm5 : (l, objL (xs'.set pos' x) n) ∈ put l (objL (xs'.set pos' x) n) news := put_self hm
    refine Calls.use (siftdown_calls (start := pos) (pos := pos') hm5 (fun y hy => TupAt.put N hm ?_) (by simp; omega) (by simp; omega)) C (by exact F5) (by exact N5) (by omega) (by omega) ?_
    · rcases List.mem_or_eq_of_mem_set hy with hy | rfl
      · exact ht' y hy
      · exact ht y hxm
    · rintro r news' h6 tk6 F6 N6 ⟨rfl, rfl⟩
      rw [put_put] at N6
      repeat tb_rel
      refine Done.intro F6 N6 ⟨rfl, ?_⟩
      unfold siftup
      rw [hx]
      simp only [hfin']
end
end
section
open PySem PySem.W PyProof.Rows PySem.Calls PySem.Spec
set_option maxRecDepth 100000
section
variable {prog : Program} {w : World} {A : Around} {E : Value → Shared → Prop} {s : Shared} {h₀ : Heap} {L l : Addr} {m : Str → Option Value} {news : News'} {n : Nat}
theorem pop_items {ys : List It} {y : It} {Q : Value → Shared → Prop} (F : Fr h₀ L s.heap m) (N : News h₀ L s.heap news) (hm : (l, objL (ys ++ [y]) n) ∈ news) (hz : ys.length < 1000)
    (h : ∀ h', Fr h₀ L h' m → News h₀ L h' (put l (objL ys (n + 1)) news) → Q y.1 { s with heap := h' }) : wpAny (model prog w) A (call (.builtin "list.pop") [.ref l]) Q E s := by
  have z := N _ hm
  have e1 : ((ys ++ [y]).map (·.1)).toArray.size - 1 = (ys.map (·.1)).length := by simp
  have hy : ((ys ++ [y]).map (·.1)).toArray[((ys ++ [y]).map (·.1)).toArray.size - 1]? = some y.1 := by rw [e1]; simp
  have e := put_fr F N hm (Heap.SameBut.update s.heap l (Obj.mapSeq fun xs => xs.eraseIdxIfInBounds (((ys ++ [y]).map (·.1)).toArray.size - 1))) (o' := objL ys (n + 1)) (by
    rw [get?_update_seq z.1, e1]
    have q := kl_erase (ys.map (·.1)) [] y.1
    rw [List.append_nil] at q
    have e2 : ((ys ++ [y]).map (·.1)).toArray = (ys.map (·.1) ++ [y.1]).toArray := by simp
    rw [e2, q]
    simp)
  exact call_meets PySem.F.slot_list_pop ⟨_, z.1, rfl⟩ PySem.F.entry_list_pop (PySem.F.args_list_pop_1 _) (PySem.MeetsSeq.list_pop_last l _ n y.1 hy (by simp [sizeLine_eq]; omega)) ⟨z.1, h _ e.1 e.2⟩
theorem truthy_items {xs : List It} {Q : Bool → Shared → Prop} (N : News h₀ L s.heap news) (hm : (l, objL xs n) ∈ news) (hz : xs.length < 1000) (h : Q (!xs.isEmpty) { s with toks := s.toks + 1 + 1 }) : wpAny (model prog w) A (truthy (.ref l)) Q E s := by
  refine wpAny_truthy_list (PySem.IsL.isList (n := n) (N _ hm).1) (by simp; omega) ?_
  have e : (xs.map (·.1)).toArray.isEmpty = xs.isEmpty := by simp
  rw [e]; exact h
end
section
variable {prog : Program} {w : World} {p : Program} {loose : List Str} {mg mb : Str → Option Value} {l : Addr} {news : News'} {xs r : List It} {x : It} {n : Nat}

theorem heappop_calls (hm : (l, objL xs n) ∈ news) (ht : ∀ x ∈ xs, TupAt news x) (hlen : xs.length < 1000) (hp : heappop ltI xs = some (x, r)) :
    Calls prog w (hd.heap_39 w.params) p loose mg mb 69 (2 + 1) (7 + 3) [.ref l] news (fun news' v => v = x.1 ∧ ∃ k, news' = put l (objL r k) news) := by
  refine Calls.by (binds := [(Str.ofString "heap", .ref l)]) rfl rfl (fun s => BindsTo.of_eq rfl) (locs rfl) rfl rfl rfl (by decide) ?_
  intro A g L' h₁ s tk m hmm F N C
  have m1 : m (Str.ofString "heap") = some (.ref l) := hmm _
  clear hmm
  obtain ⟨ys, y, rfl⟩ : ∃ ys y, xs = ys ++ [y] := by
    rcases List.eq_nil_or_concat xs with rfl | ⟨ys, y, h⟩
    · simp [heappop] at hp
    · exact ⟨ys, y, by rw [h, List.concat_eq_append]⟩
  have hly : ys.length < 1000 := by simp at hlen; omega
  simp only [heappop, List.getLast?_concat, List.dropLast_concat] at hp
  repeat tb_rel
  refine kl_method N hm PySem.F.slot_list_pop PySem.F.type_list_pop ?_
  repeat tb_rel
  refine pop_items F N hm hly (fun h2 F2 N2 => ?_)
  refine stN F2 N2 (fun h3 F3 N3 => ?_) (by kernel_rfl!) (by kernel_rfl!)
  have hm3 : (l, objL ys (n + 1)) ∈ put l (objL ys (n + 1)) news := put_self hm
  repeat tb_rel
  refine truthy_items N3 hm3 hly ?_
  cases ys with
  | nil =>
    simp only [Option.some.injEq, Prod.mk.injEq] at hp
    obtain ⟨rfl, rfl⟩ := hp
    repeat tb_rel
    exact Done.intro F3 N3 ⟨rfl, _, rfl⟩
  | cons z zs =>
    simp only [Option.some.injEq, Prod.mk.injEq] at hp
    obtain ⟨rfl, rfl⟩ := hp
    repeat tb_rel
    refine item_tail (k := 0) N3 hm3 (by omega) (x := z) rfl ?_
    refine stN F3 N3 (fun h4 F4 N4 => ?_) (by kernel_rfl!) (by kernel_rfl!)
    repeat tb_rel
    refine item_set (k := 0) F4 N4 hm3 (by omega) (by simp) (fun h5 F5 N5 => ?_)
    rw [put_put] at N5
    have hm5 : (l, objL (y :: zs) (n + 1)) ∈ put l (objL (y :: zs) (n + 1)) news := put_self hm
    repeat tb_rel
    refine Calls.use (siftup_calls (pos := 0) (xs := y :: zs) hm5 (fun q hq => TupAt.put N hm (ht q ?_)) (by simp) (by simpa using hly)) C (by exact F5) (by exact N5) (by omega) (by omega) ?_
    · rcases List.mem_cons.mp hq with rfl | hq
      · simp
      · simp [hq]
    · rintro r news' h6 tk6 F6 N6 ⟨rfl, rfl⟩
      rw [put_put] at N6
      repeat tb_rel
      exact Done.intro F6 N6 ⟨rfl, _, rfl⟩
end
end
section
open PySem PySem.W PyProof.Rows PySem.Calls PySem.Spec
set_option maxRecDepth 100000
theorem put_cons_ne {l a : Addr} {o x : Obj} {r : News'} (h : a ≠ l) : put l o ((a, x) :: r) = (a, x) :: put l o r := by
  unfold put; rw [List.map_cons, if_neg h]
theorem put_absent {l : Addr} {o : Obj} {r : News'} (h : ∀ p ∈ r, p.1 ≠ l) : put l o r = r := by
  unfold put
  conv => rhs; rw [← List.map_id r]
  exact List.map_congr_left fun p hp => if_neg (h p hp)
theorem put_cons_self {l : Addr} {o x : Obj} {r : News'} (h : ∀ p ∈ r, p.1 ≠ l) : put l o ((l, x) :: r) = (l, o) :: r := by
  have e := put_absent (o := o) h
  unfold put at e ⊢
  rw [List.map_cons, if_pos rfl, e]
theorem news_sub {h₀ h : Heap} {L : Addr} {news news₂ : News'} (N : News h₀ L h news) (hs : ∀ p ∈ news₂, p ∈ news) : News h₀ L h news₂ := fun p hp => N p (hs p hp)
theorem put_keys {l : Addr} {o : Obj} {r : News'} {a : Addr} (h : ∀ p ∈ r, p.1 ≠ a) : ∀ p ∈ put l o r, p.1 ≠ a := by
  intro p hp
  obtain ⟨q, hq, rfl⟩ := List.mem_map.mp hp
  by_cases e : q.1 = l
  · simp only [e, if_true]; rw [← e]; exact h q hq
  · simp only [e, if_false]; exact h q hq
theorem news_lt {h₀ h : Heap} {L : Addr} {news : News'} (N : News h₀ L h news) : ∀ p ∈ news, p.1 ≠ h.objs.size := fun p hp => Nat.ne_of_lt (Heap.lt_size (N p hp).1)
abbrev rio (x left step : Int) : Obj := { cls := .type "range_iterator", dict := none, data := .fields #[rawInt x, rawInt left, rawInt step], slots := #[] }
theorem asInt_int (i : Int) (t : Tok) : asInt? (.int i t) = pure (some i) := rfl
theorem isSub_rio : isSubtype (.type "range_iterator") (.type "reversed") = pure false := by rw [isSubtype_type]; kernel_rfl
section
variable {prog : Program} {w : World} {A : Around} {E : Value → Shared → Prop} {s : Shared} {h₀ : Heap} {L it : Addr} {m : Str → Option Value} {news : News'} {x left step : Int}
theorem next_range {Q : Option Value → Shared → Prop} (F : Fr h₀ L s.heap m) (N : News h₀ L s.heap ((it, rio x left step) :: news)) (hne : ∀ p ∈ news, p.1 ≠ it) (hleft : 0 < left)
    (h : ∀ h', Fr h₀ L h' m → News h₀ L h' ((it, rio (x + step) (left - 1) step) :: news) → Q (some (.int x s.toks)) { s with heap := h', toks := s.toks + 1 }) : wpAny (model prog w) A (pyNext (.ref it)) Q E s := by
  refine wpAny_pyNext_range_item (N _ (.head _)).1 hleft fun h' hi hs => ?_
  have e := put_fr F N (.head _) hs hi
  rw [put_cons_self hne] at e
  exact h h' e.1 e.2
theorem next_range_end {Q : Option Value → Shared → Prop} (hh : A.handled = none) (F : Fr h₀ L s.heap m) (N : News h₀ L s.heap ((it, rio x left step) :: news)) (hne : ∀ p ∈ news, p.1 ≠ it) (hleft : left ≤ 0)
    (h : ∀ h', Fr h₀ L h' m → News h₀ L h' news → Q none { s with heap := h' }) : wpAny (model prog w) A (pyNext (.ref it)) Q E s := by
  have z := N _ (.head _)
  refine wpAny_pyNext_range_end hh z.1 hleft fun h' hs => h h' ⟨F.ns.extBut hs (Ne.symm z.2.1), fun b o e => hs b o (fun q => ?_) (F.keep b o e), F.above⟩ fun p hp => ⟨hs _ _ (hne p hp) (N p (.tail _ hp)).1, (N p (.tail _ hp)).2⟩
  have := z.2.2
  rw [← q, e] at this
  cases this
abbrev rng (a b c : Int) (t u v : Tok) : Obj := { cls := .type "range", dict := none, data := .fields #[.int a t, .int b u, .int c v], slots := #[] }
theorem range_fields {r : Addr} {a b c : Int} {t u v : Tok} {Q : Int × Int × Int → Shared → Prop} (hr : s.heap.get? r = some (rng a b c t u v)) (h : Q (a, b, c) s) : wpAny (model prog w) A (Builtin.Range.rangeFields (.ref r)) Q E s := by
  unfold Builtin.Range.rangeFields
  refine wpAny_bind (wpAny_field hr rfl (x := .int a t) rfl ?_)
  rw [asInt_int, pure_bind]
  refine wpAny_bind (wpAny_field hr rfl (x := .int b u) rfl ?_)
  rw [asInt_int, pure_bind]
  refine wpAny_bind (wpAny_field hr rfl (x := .int c v) rfl ?_)
  rw [asInt_int, pure_bind]
  exact wpAny_pure h
theorem call_range_reversed {r : Addr} {n : Nat} {t u v : Tok} {Q : Value → Shared → Prop} (hr : s.heap.get? r = some (rng 0 n 1 t u v)) (hn : n < 1000)
    (h : Q (.ref s.heap.objs.size) { s with heap := s.heap.push (rio ((n : Int) - 1) n (-1)) }) : wpAny (model prog w) A (call (.builtin "range.__reversed__") [.ref r]) Q E s := by
  have hT : s.TypeIs (.ref r) "range" := ⟨_, hr, rfl⟩
  refine wpAny_call_entry F.slot_range_reversed hT F.entry_range_reversed ?_ (F.args_range_reversed_1 _)
  unfold Builtin.«range.__reversed__»
  refine wpAny_bind (wpAny_of_eq (a := Value.ref r) rfl ?_)
  refine wpAny_bind (range_fields hr ?_)
  have e : Builtin.Range.rangeSize 0 n 1 = n := by rw [rangeSize_one]; split <;> omega
  dsimp only
  rw [e]
  have hs : (Builtin.Range.rangeFitsLong 0 && Builtin.Range.rangeFitsLong n && Builtin.Range.rangeFitsLong 1 && Builtin.Range.rangeFitsLong (-1) && Builtin.Range.rangeFitsLong (0 - 1) && Builtin.Range.rangeFitsLong n) = true := by
    simp only [Builtin.Range.rangeFitsLong, Bool.and_eq_true, decide_eq_true_eq]
    omega
  simp only [hs, Bool.not_true, Bool.false_eq_true, if_false, if_true]
  have e2 : (0 : Int) + ((n : Int) - 1) * 1 = (n : Int) - 1 := by omega
  rw [e2]
  exact wpAny_bind (wpAny_newObj_type (wpAny_pure ⟨_, rfl, h⟩))
theorem code_reversed_range {r : Addr} {n : Nat} {t u v : Tok} {Q₁ : Value → Shared → Prop} (hr : s.heap.get? r = some (rng 0 n 1 t u v)) (hn : n < 1000)
    (h : Q₁ (.ref s.heap.objs.size) { s with heap := s.heap.push (rio ((n : Int) - 1) n (-1)) }) :
    codeAny (model prog w) A (.call (.builtin "reversed.__new__") ⟨[.type "reversed", .ref r], []⟩) (wants Q₁ E) s := by
  have hT : s.TypeIs (.ref r) "range" := ⟨_, hr, rfl⟩
  refine codeAny_of_tree ?_
  show wpAny _ A.in1 (do checkBuiltinCall "reversed.__new__" ⟨[.type "reversed", .ref r], []⟩; again (.builtin "reversed.__new__" ⟨[.type "reversed", .ref r], []⟩)) _ _ s
  refine wpAny_bind (wpAny_of_eq (F.newCall_reversed_1 _) (wpAny_pure ⟨plainId_quiet F.plain_reversed_new _, codeAny_builtin F.entry_reversed_new ?_⟩))
  rw [Around.under_plainId F.plain_reversed_new _]
  unfold Builtin.«reversed.__new__»
  refine wpAny_bind (wpAny_of_eq (newClass_reversed _) ?_)
  refine wpAny_bind (wpAny_of_eq (a := ()) (by first | rfl | kernel_rfl) ?_)
  refine wpAny_bind (wpAny_of_eq (a := ()) (by first | rfl | kernel_rfl) ?_)
  refine wpAny_bind (wpAny_specialOf hT F.slot_range_reversed.lookup ?_)
  refine wpAny_bind (wpAny_of_eq (F.slot_range_reversed.bind _) ?_)
  show wpAny _ _ (if (Value.builtin "range.__reversed__" == Value.none) = true then _ else _) _ _ _
  rw [if_neg (show ¬ ((Value.builtin "range.__reversed__" == Value.none) = true) from Bool.false_ne_true)]
  refine wpAny_bind (wpAny_rule ?_)
  refine wpAny_bind (m := runValue (.call (.builtin "range.__reversed__") ⟨[.ref r], []⟩)) (show wpAny _ _ (call (.builtin "range.__reversed__") [.ref r]) _ _ _ from call_range_reversed hr hn ?_)
  first
  | exact wpAny_pure h
  | exact wpAny_bind (wpAny_pure (wpAny_pure h))
theorem reversed_range {r : Addr} {n : Nat} {t u v : Tok} {Q : Value → Shared → Prop} (hr : s.heap.get? r = some (rng 0 n 1 t u v)) (hn : n < 1000)
    (h : Q (.ref s.heap.objs.size) { s with heap := s.heap.push (rio ((n : Int) - 1) n (-1)) }) : wpAny (model prog w) A (call (.type "reversed") [.ref r]) Q E s := by
  refine callType_other (U := "range_iterator") (Q₁ := fun obj s₁ => obj = .ref s.heap.objs.size ∧ s₁ = { s with heap := s.heap.push (rio ((n : Int) - 1) n (-1)) }) (by decide +kernel) F.create_reversed ⟨_, _, F.mro_reversed⟩ F.made_reversed isSub_rio (F.typeCall_reversed_1 _) (code_reversed_range hr hn ⟨rfl, rfl⟩) ?_
  rintro obj s₁ ⟨rfl, rfl⟩
  exact ⟨⟨_, Heap.get?_push_size _ rfl, rfl⟩, h⟩
theorem iter_rio {x left step : Int} {Q : Value → Shared → Prop} (hi : s.heap.get? it = some (rio x left step)) (h : Q (.ref it) s) : wpAny (model prog w) A (pyIter (.ref it)) Q E s := by
  have hT : s.TypeIs (.ref it) "range_iterator" := ⟨_, hi, rfl⟩
  refine wpAny_pyIter_slot hT F.slot_range_iterator_iter (wpAny_call_entry F.slot_range_iterator_iter hT F.entry_range_iterator_iter ?_ (F.args_range_iterator_iter_1 _))
  show wpAny _ _ (ret (.ref it)) _ _ s
  exact wpAny_pure ⟨_, rfl, "range_iterator", _, hT, F.slot_range_iterator_next.lookup, h⟩
theorem range1_N {n : Int} {t : Tok} {Q : Value → Shared → Prop} (F : Fr h₀ L s.heap m) (N : News h₀ L s.heap news)
    (h : ∀ r t' u' h' tk, (∀ p ∈ news, p.1 ≠ r) → Fr h₀ L h' m → News h₀ L h' ((r, rng 0 n 1 t' t u') :: news) → Q (.ref r) { s with heap := h', toks := tk }) : wpAny (model prog w) A (call (.type "range") [.int n t]) Q E s :=
  call_range_1 (h _ _ _ _ _ (news_lt N) (F.push _) (N.push F _))
theorem range2_N {a b : Int} {t u : Tok} {Q : Value → Shared → Prop} (F : Fr h₀ L s.heap m) (N : News h₀ L s.heap news)
    (h : ∀ r u' h' tk, (∀ p ∈ news, p.1 ≠ r) → Fr h₀ L h' m → News h₀ L h' ((r, rng a b 1 t u u') :: news) → Q (.ref r) { s with heap := h', toks := tk }) : wpAny (model prog w) A (call (.type "range") [.int a t, .int b u]) Q E s :=
  call_range_2 (h _ _ _ _ (news_lt N) (F.push _) (N.push F _))
theorem reversed_N {r : Addr} {n : Nat} {t u v : Tok} {Q : Value → Shared → Prop} (F : Fr h₀ L s.heap m) (N : News h₀ L s.heap news) (hr : (r, rng 0 n 1 t u v) ∈ news) (hn : n < 1000)
    (h : ∀ i h', (∀ p ∈ news, p.1 ≠ i) → Fr h₀ L h' m → News h₀ L h' ((i, rio ((n : Int) - 1) n (-1)) :: news) → Q (.ref i) { s with heap := h' }) : wpAny (model prog w) A (call (.type "reversed") [.ref r]) Q E s :=
  reversed_range (N _ hr).1 hn (h _ _ (news_lt N) (F.push _) (N.push F _))
theorem iter_range_N {r : Addr} {a b : Int} {t u v : Tok} {Q : Value → Shared → Prop} (F : Fr h₀ L s.heap m) (N : News h₀ L s.heap news) (hr : (r, rng a b 1 t u v) ∈ news) (ha : 0 ≤ a) (hb : b < 1000) (hab : a ≤ b)
    (h : ∀ i h', (∀ p ∈ news, p.1 ≠ i) → Fr h₀ L h' m → News h₀ L h' ((i, rio a (b - a) 1) :: news) → Q (.ref i) { s with heap := h' }) : wpAny (model prog w) A (pyIter (.ref r)) Q E s := by
  refine wpAny_pyIter_range (N _ hr).1 (small_one (by omega) (by omega) (by omega) (by omega)) ?_
  have e : Builtin.Range.rangeSize a b 1 = b - a := by rw [rangeSize_one]; split <;> omega
  rw [e]
  exact h _ _ (news_lt N) (F.push _) (N.push F _)
theorem iter_rio_N {i : Addr} {Q : Value → Shared → Prop} (N : News h₀ L s.heap news) (hi : (i, rio x left step) ∈ news) (h : Q (.ref i) s) : wpAny (model prog w) A (pyIter (.ref i)) Q E s := iter_rio (N _ hi).1 h
theorem newL_N {vs : List Value} {Q : Value → Shared → Prop} (F : Fr h₀ L s.heap m) (N : News h₀ L s.heap news) (hz : vs.length < 1000)
    (h : ∀ D h', (∀ p ∈ news, p.1 ≠ D) → Fr h₀ L h' m → News h₀ L h' ((D, listOf vs.toArray 0) :: news) → Q (.ref D) { s with heap := h' }) : wpAny (model prog w) A (newList vs) Q E s :=
  newList_N F N (fun h' F' N' => h _ h' (news_lt N) F' N') (by simp [sizeLine_eq]; omega)
theorem newT_N {vs : List Value} {Q : Value → Shared → Prop} (F : Fr h₀ L s.heap m) (N : News h₀ L s.heap news) (hz : vs.length < 1000)
    (h : ∀ D h', (∀ p ∈ news, p.1 ≠ D) → Fr h₀ L h' m → News h₀ L h' ((D, { cls := .type "tuple", data := .seq vs.toArray }) :: news) → Q (.ref D) { s with heap := h' }) : wpAny (model prog w) A (newTuple vs) Q E s :=
  newTuple_N F N (fun h' F' N' => h _ h' (news_lt N) F' N') (by simp [sizeLine_eq]; omega)
end
end
section
open PySem PySem.W PyProof.Rows PySem.Calls PySem.Spec
set_option maxRecDepth 100000
theorem suLoop_lt {α : Type} (lt : α → α → Bool) (xs0 : List α) : ∀ f xs pos, pos < xs.length → (suLoop lt xs0 f xs pos).2 < xs.length
  | 0, xs, pos, h => h
  | f + 1, xs, pos, h => by
    unfold suLoop
    split
    · rename_i hc
      split
      · rename_i c r h1 h2
        have hr : 2 * pos + 2 < xs.length := (List.getElem?_eq_some_iff.mp h2).1
        split
        · have := suLoop_lt lt xs0 f (xs.set pos c) (2 * pos + 1) (by simpa using hc)
          simpa using this
        · have := suLoop_lt lt xs0 f (xs.set pos r) (2 * pos + 2) (by simpa using hr)
          simpa using this
      · rename_i c h1 h2
        have := suLoop_lt lt xs0 f (xs.set pos c) (2 * pos + 1) (by simpa using hc)
        simpa using this
      · exact h
    · exact h
theorem siftup_length {α : Type} (lt : α → α → Bool) (xs : List α) (pos : Nat) : (siftup lt xs pos).length = xs.length := by
  unfold siftup
  split
  · rw [siftdown_length, List.length_set, suLoop_length]
  · rfl
theorem mem_sdLoop {α : Type} (lt : α → α → Bool) (new : α) (start : Nat) (P : α → Prop) (hn : P new) : ∀ f xs pos, (∀ x ∈ xs, P x) → ∀ x ∈ sdLoop lt new start f xs pos, P x
  | 0, xs, pos, h, x, hx => by
    rcases List.mem_or_eq_of_mem_set hx with hx | rfl
    · exact h x hx
    · exact hn
  | f + 1, xs, pos, h, x, hx => by
    unfold sdLoop at hx
    have hs : ∀ x ∈ xs.set pos new, P x := fun x hx => by
      rcases List.mem_or_eq_of_mem_set hx with hx | rfl
      · exact h x hx
      · exact hn
    split at hx
    · split at hx
      · rename_i parent hp
        split at hx
        · refine mem_sdLoop lt new start P hn f _ _ (fun y hy => ?_) x hx
          rcases List.mem_or_eq_of_mem_set hy with hy | rfl
          · exact h y hy
          · exact h _ (List.mem_of_getElem? hp)
        · exact hs x hx
      · exact hs x hx
    · exact hs x hx
theorem mem_siftdown {α : Type} (lt : α → α → Bool) (xs : List α) (start pos : Nat) (P : α → Prop) (h : ∀ x ∈ xs, P x) : ∀ x ∈ siftdown lt xs start pos, P x := by
  unfold siftdown
  split
  · rename_i new hn
    exact mem_sdLoop lt new start P (h _ (List.mem_of_getElem? hn)) _ _ _ h
  · exact h
theorem mem_suLoop {α : Type} (lt : α → α → Bool) (xs0 : List α) (P : α → Prop) : ∀ f xs pos, (∀ x ∈ xs, P x) → ∀ x ∈ (suLoop lt xs0 f xs pos).1, P x
  | 0, xs, pos, h => h
  | f + 1, xs, pos, h => by
    have hs : ∀ c, P c → ∀ x ∈ xs.set pos c, P x := fun c hc x hx => by
      rcases List.mem_or_eq_of_mem_set hx with hx | rfl
      · exact h x hx
      · exact hc
    unfold suLoop
    split
    · split
      · rename_i c r h1 h2
        split
        · exact mem_suLoop lt xs0 P f _ _ (hs c (h _ (List.mem_of_getElem? h1)))
        · exact mem_suLoop lt xs0 P f _ _ (hs r (h _ (List.mem_of_getElem? h2)))
      · rename_i c h1 h2
        exact mem_suLoop lt xs0 P f _ _ (hs c (h _ (List.mem_of_getElem? h1)))
      · exact h
    · exact h
theorem mem_siftup {α : Type} (lt : α → α → Bool) (xs : List α) (pos : Nat) (P : α → Prop) (h : ∀ x ∈ xs, P x) : ∀ x ∈ siftup lt xs pos, P x := by
  unfold siftup
  split
  · rename_i new hn
    refine mem_siftdown lt _ _ _ P fun x hx => ?_
    rcases List.mem_or_eq_of_mem_set hx with hx | rfl
    · exact mem_suLoop lt xs P _ _ _ h x hx
    · exact h _ (List.mem_of_getElem? hn)
  · exact h
section
variable {prog : Program} {w : World} {p : Program} {loose : List Str} {mg mb : Str → Option Value} {l : Addr} {news : News'} {xs : List It} {n : Nat}

theorem heapify_calls (hm : (l, objL xs n) ∈ news) (ht : ∀ x ∈ xs, TupAt news x) (hlen : xs.length < 1000) :
    Calls prog w (hd.heap_39 w.params) p loose mg mb 76 (2 + 1) (7 + 3) [.ref l] news (fun news' v => v = .none ∧ news' = put l (objL (heapify ltI xs) n) news) := by
  refine Calls.by (binds := [(Str.ofString "x", .ref l)]) rfl rfl (fun s => BindsTo.of_eq rfl) (locs rfl) rfl rfl rfl (by decide) ?_
  intro A g L' h₁ s tk m hmm F N C
  have m1 : m (Str.ofString "x") = some (.ref l) := hmm _
  clear hmm
  repeat tb_rel
  refine len_items N hm (by omega) ?_
  refine stN F N (fun h2 F2 N2 => ?_) (by kernel_rfl!) (by kernel_rfl!)
  tb_rel
  refine wpAny_For ?_ (by intro _; tb_start)
  repeat tb_rel
  refine floordiv_int (by decide) ?_ (.inl (PyProof.noPylong_small (by omega)))
  repeat tb_rel
  have e2 : ((xs.length : Int)).fdiv 2 = ((xs.length / 2 : Nat) : Int) := by
    rw [Int.fdiv_eq_ediv_of_nonneg _ (by decide)]; omega
  rw [e2]
  refine range1_N F2 N2 (fun r t' u' h3 tk3 hr F3 N3 => ?_)
  repeat tb_rel
  refine reversed_N F3 N3 (.head _) (by omega) (fun i h4 hi F4 N4 => ?_)
  refine iter_rio_N N4 (.head _) ?_
  have N5 := news_sub N4 (news₂ := (i, rio (((xs.length / 2 : Nat) : Int) - 1) ((xs.length / 2 : Nat) : Int) (-1)) :: news) (fun p hp => by
    rcases List.mem_cons.mp hp with rfl | hp
    · exact .head _
    · exact .tail _ (.tail _ hp))
  have hil : ∀ p ∈ news, p.1 ≠ i := fun p hp => hi p (.tail _ hp)
  have hli : i ≠ l := fun e => hil _ hm e.symm
  refine codeAny_forLoop (fun k s₁ => ∃ xs' m' h' tk', s₁ = { s with heap := h', toks := tk' } ∧ Fr g L' h' m' ∧ News g L' h' ((i, rio ((k : Int) - 1 - 1) ((k : Int) - 1) (-1)) :: put l (objL xs' n) news) ∧ xs'.length = xs.length ∧ k ≤ xs.length / 2 + 1 ∧ 1 ≤ k ∧
    (∀ y ∈ xs', TupAt news y) ∧ m' (Str.ofString "x") = some (.ref l) ∧ heapifyL ltI xs' (k - 1) = heapify ltI xs) ?turn (xs.length / 2 + 1) ⟨xs, _, h4, _, rfl, F4, ?start, rfl, Nat.le_refl _, by omega, ht, by tlg_ne, rfl⟩ (by intro _; tb_start)
  case start =>
    rw [put_id N hm]
    have e3 : ((xs.length / 2 + 1 : Nat) : Int) - 1 = ((xs.length / 2 : Nat) : Int) := by omega
    rw [e3]; exact N5
  clear F4 N4 h4 F3 N3 h3 F2 N2 h2 N5
  rintro k s₁ ⟨xs', m', h', tk', rfl, F', N', hl', hk', hk1, ht', e1, hfin⟩
  have hli' : ∀ p ∈ put l (objL xs' n) news, p.1 ≠ i := put_keys hil
  by_cases hk2 : k = 1
  · subst hk2
    refine next_range_end C.hh F' N' hli' (by omega) (fun h5 F5 N5 => ?_)
    repeat tb_rel
    refine Done.intro F5 N5 ⟨rfl, ?_⟩
    rw [show xs' = heapify ltI xs from hfin]
  · obtain ⟨j, rfl⟩ : ∃ j, k = j + 2 := ⟨k - 2, by omega⟩
    have ej : (((j + 2 : Nat) : Int) - 1 - 1) = (j : Int) := by omega
    refine next_range F' N' hli' (by omega) (fun h5 F5 N5 => ?_)
    rw [ej] at *
    refine wpAny_assign_Name (stN F5 N5 (fun h6 F6 N6 => ?_) (by kernel_rfl!) (by kernel_rfl!))
    repeat tb_rel
    have hmi : (l, objL xs' n) ∈ put l (objL xs' n) news := put_self hm
    have hjl : j < xs'.length := by omega
    refine Calls.use (siftup_calls (pos := j) (xs := xs') (.tail _ hmi) (fun y hy => ?_) hjl (by omega)) C (by exact F6) (by exact N6) (by omega) (by omega) ?_
    · obtain ⟨t, ta, tb, q, e, hp⟩ := TupAt.put (ys := (xs'.map (·.1)).toArray) (k := n) N hm (ht' y hy)
      exact ⟨t, ta, tb, q, e, .tail _ hp⟩
    · rintro r news' h7 tk7 F7 N7 ⟨rfl, rfl⟩
      rw [put_cons_ne hli, put_put] at N7
      repeat tb_rel
      refine ⟨j + 1, by omega, siftup ltI xs' j, _, h7, _, rfl, F7, ?_, by rw [siftup_length]; exact hl', by omega, by omega, mem_siftup ltI xs' j _ ht', by tlg_ne, hfin⟩
      have e1 : (((j + 1 : Nat) : Int) - 1) = (j : Int) := by omega
      have e2 : (((j + 1 : Nat) : Int) - 1 - 1) = ((j : Int) + -1) := by omega
      rw [e2, e1]; exact N7
end
end
section
open PySem PySem.W PyProof.Rows PySem.Calls PySem.Spec
set_option maxRecDepth 100000
section
variable {prog : Program} {w : World} {A : Around} {E : Value → Shared → Prop} {env : Env}
/-- a list comprehension up to its loop -/
theorem comp_start {s₂ : Shared} {elt target iter : Expr} {ifs : List Expr} {scope : Scope} {cl : List (Str × Addr)} {pos : Pos} {h₀ : Heap} {L I : Addr} {m : Str → Option Value} {news : News'} {io : Obj} {RR : Value → Addr → Result → Shared → Prop}
    (hcell : ∀ y ∈ scope.names, y.2 ≠ .cell) (hkind : scope.kind = .function) (F : Fr h₀ L s₂.heap m) (N : News h₀ L s₂.heap news) (hI : (I, io) ∈ news)
    (hself : ∀ (s : Shared) (Q' : Value → Shared → Prop) (E' : Value → Shared → Prop), s.heap.get? I = some io → Q' (.ref I) s → wpAny (model prog w) A (pyIter (.ref I)) Q' E' s)
    (h : ∀ D C h₃ tk₃, (∀ p ∈ news, p.1 ≠ D) → (∀ p ∈ news, p.1 ≠ C) → D ≠ C → Fr h₀ L h₃ m → News h₀ L h₃ ((D, listOf #[] 0) :: news) → Cm h₀ L C h₃ (fun _ => none) →
      codeAny (model prog w) A (.compLoop (.ListComp elt [⟨target, iter, ifs, 0⟩] scope pos) 0 (.ref I) (.ref D) (compEnvC scope cl C env)) (RR (.ref D) C) { s₂ with heap := h₃, toks := tk₃ }) :
    wpAny (model prog w) A (newList []) (fun acc s₃ => wpAny (model prog w) A (newFunctionEnv scope env.globals cl [] env.qual none .none (some env)) (fun cenv s₄ =>
      codeAny (model prog w) A (.compStart (.ListComp elt [⟨target, iter, ifs, 0⟩] scope pos) 0 (.ref I) acc { cenv with scope := relabel scope env }) (RR acc cenv.locals) s₄) E s₃) E s₂ := by
  refine wpAny_newObj_type (wpAny_newFunctionEnv hcell (by intro y hy; simp at hy) (fun h₁ hns₁ hsb₁ => ?_) hkind)
  dsimp only at hns₁ hsb₁ ⊢
  generalize hH2 : s₂.heap.push { cls := .type "list", dict := none, data := .seq ([] : List Value).toArray } = H2 at hns₁ hsb₁ ⊢
  have F2 : Fr h₀ L H2 m := hH2 ▸ F.push _
  have N2 : News h₀ L H2 ((s₂.heap.objs.size, listOf #[] 0) :: news) := hH2 ▸ N.push F _
  have hC : H2.objs.size = s₂.heap.objs.size + 1 := by rw [← hH2, Heap.size_push]
  have hex : ∀ b o, H2.get? b = some o → h₁.get? b = some o := fun b o e => hsb₁.extBut b o (Nat.ne_of_lt (Heap.lt_size e)) (Heap.get?_push_of_some _ e)
  have F3 : Fr h₀ L h₁ m := ⟨F2.ns.keeps hex, fun b o e => hex b o (F2.keep b o e), F2.above⟩
  have N3 : News h₀ L h₁ ((s₂.heap.objs.size, listOf #[] 0) :: news) := N2.grown hex
  have hnL : H2.objs.size ≠ L := Nat.ne_of_gt F2.ns.lt
  have hnew : h₀.get? H2.objs.size = none := by
    cases q : h₀.get? H2.objs.size with
    | none => rfl
    | some o => exact absurd (Heap.lt_size (F2.keep _ _ q)) (Nat.lt_irrefl _)
  have hx := h s₂.heap.objs.size H2.objs.size h₁ (s₂.toks + ([] : List (Str × Value)).length) (news_lt N) (fun p hp => Nat.ne_of_lt (by rw [hC]; exact Nat.lt_succ_of_lt (Heap.lt_size (N p hp).1)))
    (by rw [hC]; exact Nat.ne_of_lt (Nat.lt_succ_self _)) F3 N3 ⟨hns₁, hnL, hnew⟩
  exact codeAny_compStart_list hx (hself _ _ _ (N3 _ (.tail _ hI)).1 hx)

/-- what a comprehension's caller shows behind the iterator's making -/
def CompGo (prog : Program) (w : World) (A : Around) (E : Value → Shared → Prop) (env : Env) (h₀ : Heap) (L : Addr) (elt target iter : Expr) (ifs : List Expr) (scope : Scope) (cl : List (Str × Addr)) (pos : Pos) (use : Option (Value → Sem Unit)) (Q : Value → Shared → Prop) (it : Value) (s₂ : Shared) : Prop :=
  ∃ I io m news, it = .ref I ∧ Fr h₀ L s₂.heap m ∧ News h₀ L s₂.heap news ∧ (I, io) ∈ news ∧
    (∀ (s : Shared) (Q' : Value → Shared → Prop) (E' : Value → Shared → Prop), s.heap.get? I = some io → Q' (.ref I) s → wpAny (model prog w) A (pyIter (.ref I)) Q' E' s) ∧
    ∀ D C h₃ tk₃, (∀ p ∈ news, p.1 ≠ D) → (∀ p ∈ news, p.1 ≠ C) → D ≠ C → Fr h₀ L h₃ m → News h₀ L h₃ ((D, listOf #[] 0) :: news) → Cm h₀ L C h₃ (fun _ => none) →
      codeAny (model prog w) A (.compLoop (.ListComp elt [⟨target, iter, ifs, 0⟩] scope pos) 0 (.ref I) (.ref D) (compEnvC scope cl C env)) (compPost (model prog w) A E use Q (.ref D) C) { s₂ with heap := h₃, toks := tk₃ }
theorem CompGo.intro {h₀ : Heap} {L : Addr} {elt target iter : Expr} {ifs : List Expr} {scope : Scope} {cl : List (Str × Addr)} {pos : Pos} {use : Option (Value → Sem Unit)} {Q : Value → Shared → Prop} {s₂ : Shared} {I : Addr} {io : Obj} {m : Str → Option Value} {news : News'}
    (F : Fr h₀ L s₂.heap m) (N : News h₀ L s₂.heap news) (hI : (I, io) ∈ news)
    (hself : ∀ (s : Shared) (Q' : Value → Shared → Prop) (E' : Value → Shared → Prop), s.heap.get? I = some io → Q' (.ref I) s → wpAny (model prog w) A (pyIter (.ref I)) Q' E' s)
    (h : ∀ D C h₃ tk₃, (∀ p ∈ news, p.1 ≠ D) → (∀ p ∈ news, p.1 ≠ C) → D ≠ C → Fr h₀ L h₃ m → News h₀ L h₃ ((D, listOf #[] 0) :: news) → Cm h₀ L C h₃ (fun _ => none) →
      codeAny (model prog w) A (.compLoop (.ListComp elt [⟨target, iter, ifs, 0⟩] scope pos) 0 (.ref I) (.ref D) (compEnvC scope cl C env)) (compPost (model prog w) A E use Q (.ref D) C) { s₂ with heap := h₃, toks := tk₃ }) :
    CompGo prog w A E env h₀ L elt target iter ifs scope cl pos use Q (.ref I) s₂ := ⟨I, io, m, news, rfl, F, N, hI, hself, h⟩
theorem ListComp_N {s : Shared} {elt target iter : Expr} {ifs : List Expr} {scope : Scope} {cl : List (Str × Addr)} {pos : Pos} {Q : Value → Shared → Prop} (h₀ : Heap) (L : Addr)
    (hclos : closureFor scope env = pure cl) (hcell : ∀ y ∈ scope.names, y.2 ≠ .cell) (hkind : scope.kind = .function) (hnames : ∀ y ∈ scope.names, y.2 = .local → scope.names.lookup y.1 = some .local)
    (hs : ∀ x, foldedSetIterable iter env x = pure x)
    (h : wpAny (model prog w) A (eval iter env) (fun x s₁ => wpAny (model prog w) A (pyIter x) (CompGo prog w A E env h₀ L elt target iter ifs scope cl pos none Q) E s₁) E s) :
    wpAny (model prog w) A (eval (.ListComp elt [⟨target, iter, ifs, 0⟩] scope pos) env) Q E s := by
  rw [eval_ListComp]
  refine wpAny_comprehension_free (use := none) rfl hs hclos hkind hnames (wpAny_mono h (fun x s₁ h₁ => wpAny_mono h₁ (fun it s₂ h₂ => ?_) fun _ _ e => e) fun _ _ e => e)
  obtain ⟨I, io, m, news, rfl, F, N, hI, hself, k⟩ := h₂
  exact comp_start (RR := fun acc C => compPost (model prog w) A E none Q acc C) hcell hkind F N hI hself k
theorem AssignComp_N {s : Shared} {elt target iter : Expr} {ifs : List Expr} {scope : Scope} {cl : List (Str × Addr)} {pos spos py : Pos} {y : Str} {Q : Flow → Shared → Prop} (h₀ : Heap) (L : Addr)
    (hsw : swapsWith (.ListComp elt [⟨target, iter, ifs, 0⟩] scope pos) (some (.Name y py)) spos.line env = pure true)
    (hclos : closureFor scope env = pure cl) (hcell : ∀ y ∈ scope.names, y.2 ≠ .cell) (hkind : scope.kind = .function) (hnames : ∀ y ∈ scope.names, y.2 = .local → scope.names.lookup y.1 = some .local)
    (hs : ∀ x, foldedSetIterable iter env x = pure x)
    (h : wpAny (model prog w) A (eval iter env) (fun x s₁ => wpAny (model prog w) A (pyIter x) (CompGo prog w A E env h₀ L elt target iter ifs scope cl pos (some (assign (.Name y py) env)) (fun _ s' => Q .next s')) E s₁) E s) :
    wpAny (model prog w) A (exec (.Assign [.Name y py] (.ListComp elt [⟨target, iter, ifs, 0⟩] scope pos) spos) env) Q E s := by
  rw [exec_Assign_Name_used _ _ _ _ hsw]
  refine wpAny_bind (wpAny_standAt (wpAny_bind ?_))
  show wpAny _ A (do let _ ← comprehension (.ListComp elt [⟨target, iter, ifs, 0⟩] scope pos) scope env _ (newList []) false (eval iter env) (some (assign (.Name y py) env))) _ _ s
  refine wpAny_bind (wpAny_mono (wpAny_comprehension_free (use := some (assign (.Name y py) env)) (Q := fun _ s' => Q .next s') rfl hs hclos hkind hnames
    (wpAny_mono h (fun x s₁ h₁ => wpAny_mono h₁ (fun it s₂ h₂ => ?_) fun _ _ e => e) fun _ _ e => e)) (fun _ s' hq => wpAny_pure (wpAny_pure hq)) fun _ _ e => e)
  obtain ⟨I, io, m, news, rfl, F, N, hI, hself, k⟩ := h₂
  exact comp_start (RR := fun acc C => compPost (model prog w) A E (some (assign (.Name y py) env)) (fun _ s' => Q .next s') acc C) hcell hkind F N hI hself k
theorem comp_end {s : Shared} {h₀ h' : Heap} {L C : Addr} {m' mc : Str → Option Value} {news' : News'} {tk : Nat} {acc : Value} {f : Flow} {Q : Value → Shared → Prop} (F : Fr h₀ L h' m') (N : News h₀ L h' news') (c : Cm h₀ L C h' mc) (hC : ∀ p ∈ news', p.1 ≠ C)
    (h : ∀ h'', Fr h₀ L h'' m' → News h₀ L h'' news' → Q acc { s with heap := h'', toks := tk }) : compPost (model prog w) A E none Q acc C (.ok f) { s with heap := h', toks := tk } := by
  refine ⟨mc, c.ns, fun h'' hs => ?_⟩
  have e := ns_fr F N hs c.ne c.new hC
  exact h h'' e.1 e.2
/-- one turn's list grown -/
theorem append_N {s : Shared} {h₀ : Heap} {L D : Addr} {m : Str → Option Value} {news : News'} {vs : List Value} {v : Value} {n : Nat} {Q : Value → Shared → Prop} (F : Fr h₀ L s.heap m) (N : News h₀ L s.heap news) (hm : (D, listOf vs.toArray n) ∈ news) (hz : vs.length < 1000)
    (h : ∀ h', Fr h₀ L h' m → News h₀ L h' (put D (listOf (vs ++ [v]).toArray (n + 1)) news) → Heap.SameBut D s.heap h' → Q .none { s with heap := h' }) : wpAny (model prog w) A (call (.builtin "list.append") [.ref D, v]) Q E s := by
  have z := N _ hm
  refine wpAny_call_entry slot_list_append ⟨_, z.1, rfl⟩ entry_list_append ?_ (args_list_append _ _)
  show wpAny _ _ (updateSeq D (·.push v) >>= fun _ => ret .none) _ _ s
  refine wpAny_bind (wpAny_updateSeq z.1 rfl (wpAny_pure ⟨.none, rfl, ?_⟩) (by simp [sizeLine_eq]; omega))
  have e := put_fr F N hm (Heap.SameBut.update s.heap D (Obj.mapSeq (·.push v))) (o' := listOf (vs ++ [v]).toArray (n + 1)) (by
    rw [get?_update_seq z.1]
    simp)
  exact h _ e.1 e.2 (Heap.SameBut.update ..)
end
end
section
open PySem PySem.W PyProof.Rows PySem.Calls PySem.Spec
set_option maxRecDepth 100000
def LIt (o : Obj) (l : Addr) (i : Nat) : Prop := o.cls = .type "list_iterator" ∧ o.data = .fields #[.ref l, .int (i : Int) 0]
section
variable {prog : Program} {w : World} {A : Around} {E : Value → Shared → Prop} {s : Shared} {h₀ : Heap} {L it l : Addr} {m : Str → Option Value} {news : News'} {o : Obj} {i : Nat} {items : Array Value}
theorem iter_list_N {Q : Value → Shared → Prop} (F : Fr h₀ L s.heap m) (N : News h₀ L s.heap news) (hl : s.heap.IsList l items)
    (h : ∀ it o h', LIt o l 0 → (∀ p ∈ news, p.1 ≠ it) → Fr h₀ L h' m → News h₀ L h' ((it, o) :: news) → (∀ b x, s.heap.get? b = some x → h'.get? b = some x) → Q (.ref it) { s with heap := h' }) : wpAny (model prog w) A (pyIter (.ref l)) Q E s :=
  wpAny_pyIter_list hl (h _ _ _ ⟨rfl, rfl⟩ (news_lt N) (F.push _) (N.push F _) fun _ _ e => Heap.get?_push_of_some _ e)
theorem list_self (hl : LIt o l 0) : ∀ (s : Shared) (Q' : Value → Shared → Prop) (E' : Value → Shared → Prop), s.heap.get? it = some o → Q' (.ref it) s → wpAny (model prog w) A (pyIter (.ref it)) Q' E' s :=
  fun _ _ _ ho h => wpAny_pyIter_listiter ⟨o, ho, hl.1, hl.2⟩ h
theorem next_list {x : Value} {Q : Option Value → Shared → Prop} (F : Fr h₀ L s.heap m) (N : News h₀ L s.heap ((it, o) :: news)) (ho : LIt o l i) (hne : ∀ p ∈ news, p.1 ≠ it) (hl : s.heap.IsList l items) (hx : items[i]? = some x)
    (h : ∀ h' o', LIt o' l (i + 1) → Fr h₀ L h' m → News h₀ L h' ((it, o') :: news) → Heap.SameBut it s.heap h' → Q (some x) { s with heap := h' }) : wpAny (model prog w) A (pyNext (.ref it)) Q E s := by
  refine wpAny_pyNext_list_item ⟨o, (N _ (.head _)).1, ho.1, ho.2⟩ hl hx fun h' hi hs => ?_
  obtain ⟨o', ho', hc', hd'⟩ := hi
  have e := put_fr F N (.head _) hs ho'
  rw [put_cons_self hne] at e
  exact h h' o' ⟨hc', hd'⟩ e.1 e.2 hs
theorem next_list_end {Q : Option Value → Shared → Prop} (hh : A.handled = none) (F : Fr h₀ L s.heap m) (N : News h₀ L s.heap ((it, o) :: news)) (ho : LIt o l i) (hne : ∀ p ∈ news, p.1 ≠ it) (hl : s.heap.IsList l items) (hx : items[i]? = none)
    (h : ∀ h', Fr h₀ L h' m → News h₀ L h' news → Heap.ExtBut it s.heap h' → Q none { s with heap := h' }) : wpAny (model prog w) A (pyNext (.ref it)) Q E s := by
  have z := N _ (.head _)
  refine wpAny_pyNext_list_end hh ⟨o, z.1, ho.1, ho.2⟩ hl hx fun h' hs => h h' ⟨F.ns.extBut hs (Ne.symm z.2.1), fun b o e => hs b o (fun q => ?_) (F.keep b o e), F.above⟩ (fun p hp => ⟨hs _ _ (hne p hp) (N p (.tail _ hp)).1, (N p (.tail _ hp)).2⟩) hs
  have := z.2.2
  rw [← q, e] at this
  cases this
end
section
variable {M : Model} {A : Around} {E : Value → Shared → Prop} {s : Shared} {env : Env} {h₀ : Heap} {L : Addr} {m : Str → Option Value} {news : News'} {x : Str} {pos : Pos} {v : Value}
theorem stE {Q : Unit → Shared → Prop} (F : Fr h₀ L s.heap m) (N : News h₀ L s.heap news) (hL : env.locals = L)
    (h : ∀ h', Fr h₀ L h' (fun y => if y = x then some v else m y) → News h₀ L h' news → Heap.SameBut L s.heap h' → Q () { s with heap := h', toks := s.toks + 1 })
    (hk : env.scope.kind = .function) (hl : env.kindOf x = some .local) : wpAny M A (storeName env x v) Q E s := by
  subst hL
  exact wpAny_storeName_local hl F.ns (fun h' hn hs => h h' (F.set hn hs) (N.set hs) hs) (by rw [hk]; rfl)
/-- a comprehension's own name stored -/
theorem stC {C : Addr} {mc : Str → Option Value} {Q : Unit → Shared → Prop} (F : Fr h₀ L s.heap m) (N : News h₀ L s.heap news) (c : Cm h₀ L C s.heap mc) (hC : ∀ p ∈ news, p.1 ≠ C) (hL : env.locals = C)
    (h : ∀ h', Fr h₀ L h' m → News h₀ L h' news → Cm h₀ L C h' (fun y => if y = x then some v else mc y) → Q () { s with heap := h', toks := s.toks + 1 })
    (hk : env.scope.kind = .function) (hl : env.kindOf x = some .local) : wpAny M A (storeName env x v) Q E s := by
  subst hL
  refine wpAny_storeName_local hl c.ns (fun h' hn hs => ?_) (by rw [hk]; rfl)
  have e := ns_fr F N hs c.ne c.new hC
  exact h h' e.1 e.2 ⟨hn, c.ne, c.new⟩
/-- a cell stored -/
theorem stCell {c : Addr} {o : Obj} {v₀ : Option Value} {Q : Unit → Shared → Prop} (F : Fr h₀ L s.heap m) (N : News h₀ L s.heap news) (hm : (c, o) ∈ news) (ho : o.data = .cell v₀) (hc : env.cells.lookup x = some c)
    (h : ∀ h' o', o'.data = .cell (some v) → Fr h₀ L h' m → News h₀ L h' (put c o' news) → Q () { s with heap := h' })
    (hk : env.scope.kind = .function) (hl : env.kindOf x = some .cell) : wpAny M A (storeName env x v) Q E s := by
  refine wpAny_storeName_cell hk hl hc ⟨o, N.get hm, ho⟩ fun h' hv hs => ?_
  obtain ⟨o', ho', hd'⟩ := hv
  have e := put_fr F N hm hs ho'
  exact h h' o' hd' e.1 e.2
end
section
variable {prog : Program} {w : World} {K : Frag} {p : Program} {loose : List Str} {mg mb : Str → Option Value}
theorem Calls.byC {f : Addr} {d u : Nat} {args : List Value} {news : News'} {Post : News' → Value → Prop} {name qual : Str} {params : Arguments} {body : List Stmt} {scope : Scope} {dV kV doc pm cdv ct oc : Value} {an od : Option Addr} {osl : Array (Option Value)} {binds : List (Str × Value)}
    (ho : K.lookup f = some ⟨oc, od, .func (fnOf name qual params body scope dV kV doc pm an cdv ct), osl⟩) (hcd : codeIn K cdv qual = true)
    (hbind : ∀ s : Shared, BindsTo s (fnOf name qual params body scope dV kV doc pm an cdv ct) ⟨args, []⟩ binds) (hkind : (binds.all fun y => scope.names.lookup y.1 == some .local || scope.names.lookup y.1 == some .cell) = true)
    (hnd : ((cellsFrom 0 scope.names []).map (·.1)).Nodup)
    (hco : scope.isCoroutine = false) (hgen : scope.isGenerator = false) (hk : scope.kind = .function)
    (h : ∀ (A : Around) (g : Heap) (L' : Addr) (h₁ : Heap) (s : Shared) (tk : Nat) (m : Str → Option Value) (cells : News'), (∀ y, m y = bindL (envOfC qual scope L' f cdv).kindOf binds (fun _ => none) y) → Fr g L' h₁ m → News g L' h₁ (cells ++ news) →
      CellsAre (bindC (envOfC qual scope L' f cdv).kindOf binds fun _ => none) (cellsFrom (L' + 1) scope.names []) cells → (∀ p ∈ news, p.1 < L') → At K p loose mg mb A g L' d u →
      wpAny (model prog w) A (execs body (envOfC qual scope L' f cdv)) (Done g L' s Post) (fun _ _ => False) { s with heap := h₁, toks := tk }) :
    Calls prog w K p loose mg mb f (d + 1) (u + 3) args news Post := by
  intro A h₀ L m s Q E C F N hret
  obtain ⟨env, outer, A₀, base, hA, hf, hke, B⟩ := C.fr
  refine wpAny_call ?_
  refine callX_cells B F N C.T.nolimit hA hf hke ((C.X.keeps F.keep) _ _ ho) rfl (codeRec_of (C.X.keeps F.keep) hcd) (by have := C.room; omega) (hbind s) (kindsX hkind) hnd ?_ hco hgen hk
  intro g L' h₁ tk cells FG F' N' Y B' st hlt
  refine wpAny_mono (h (A.deeper (envOfC qual scope L' f cdv)) g L' h₁ s tk _ cells (fun _ => rfl) F' N' Y hlt ⟨C.hh, ⟨envOfC qual scope L' f cdv, env :: outer, _, base, Around.frames_deeper hA, rfl, hk, B'⟩, ?_, ?_, C.X.keeps st, C.T.keeps st⟩) (fun fl s' hd => ?_) fun _ _ x => x.elim
  · have := C.room
    show A.depth + 1 + d < recursionLimit
    omega
  · have := C.units
    show A.units + 3 + u < cLine
    omega
  · obtain ⟨h', tk, m', news', rfl, F₂, N₂, hp⟩ := hd
    refine leaveK_ F₂ N₂ fun F₃ N₃ => ?_
    exact hret _ news' h' tk F₃ N₃ hp
end
end
section
open PySem PySem.W PyProof.Rows PySem.Calls PySem.Spec
set_option maxRecDepth 100000
theorem TupAt.sub {news news₂ : News'} {p : It} (t : TupAt news p) (h : ∀ q ∈ news, q ∈ news₂) : TupAt news₂ p := by
  obtain ⟨t, ta, tb, n, e, hp⟩ := t
  exact ⟨t, ta, tb, n, e, h _ hp⟩
theorem tup_ne_cell {a b : Int} {ta tb : Tok} {n : Nat} {o : Obj} {v : Option Value} (h : o.data = .cell v) : tupO a b ta tb n ≠ o := by
  intro e
  rw [← e] at h
  cases h
theorem TupAt.putC {h₀ h : Heap} {L c : Addr} {news : News'} {p : It} {o o' : Obj} {v : Option Value} (N : News h₀ L h news) (hm : (c, o) ∈ news) (ho : o.data = .cell v) (t : TupAt news p) : TupAt (Mine.put c o' news) p := by
  obtain ⟨t, ta, tb, j, e, hp⟩ := t
  exact ⟨t, ta, tb, j, e, put_ne hp (news_apart N hp hm (tup_ne_cell ho))⟩
theorem heappop_some {α : Type} (lt : α → α → Bool) (xs : List α) (h : 0 < xs.length) : ∃ x r, heappop lt xs = some (x, r) ∧ r.length + 1 = xs.length ∧ ∀ P : α → Prop, (∀ y ∈ xs, P y) → P x ∧ ∀ y ∈ r, P y := by
  rcases List.eq_nil_or_concat xs with rfl | ⟨ys, y, rfl⟩
  · simp at h
  rw [List.concat_eq_append]
  simp only [heappop, List.getLast?_concat, List.dropLast_concat]
  cases ys with
  | nil => exact ⟨y, [], rfl, rfl, fun P hP => ⟨hP y (by simp), fun _ h => nomatch h⟩⟩
  | cons z zs =>
    refine ⟨z, _, rfl, by rw [siftup_length]; simp, fun P hP => ⟨hP z (by simp), mem_siftup lt _ _ P fun q hq => ?_⟩⟩
    rcases List.mem_cons.mp hq with rfl | hq
    · exact hP _ (by simp)
    · exact hP _ (by simp [hq])
theorem heapifyL_length {α : Type} (lt : α → α → Bool) : ∀ (i : Nat) (xs : List α), (heapifyL lt xs i).length = xs.length
  | 0, _ => rfl
  | i + 1, xs => by rw [heapifyL, heapifyL_length lt i, siftup_length]
theorem mem_heapifyL {α : Type} (lt : α → α → Bool) (P : α → Prop) : ∀ (i : Nat) (xs : List α), (∀ x ∈ xs, P x) → ∀ x ∈ heapifyL lt xs i, P x
  | 0, _, h => h
  | i + 1, xs, h => mem_heapifyL lt P i _ (mem_siftup lt xs i P h)
section
variable {prog : Program} {w : World} {p : Program} {loose : List Str} {mg mb : Str → Option Value} {l : Addr} {news : News'} {xs : List It} {n : Nat}

theorem off_calls (hm : (l, objL xs n) ∈ news) (ht : ∀ x ∈ xs, TupAt news x) (hlen : xs.length < 900) :
    Calls prog w (hd.heap_39 w.params) p loose mg mb 102 (3 + 1) (12 + 3) [.ref l] news (fun news' v => ∃ D k, v = .ref D ∧ (∀ p ∈ news, p.1 ≠ D) ∧ news' = (D, objL (offHeap ltI xs) k) :: news) := by
  refine Calls.byC (binds := [(Str.ofString "items", .ref l)]) rfl rfl (fun s => BindsTo.of_eq rfl) rfl (by decide) rfl rfl rfl ?_
  intro A g L' h₁ s tk m cells hmm F N Y hlt C
  have m1 : m (Str.ofString "items") = some (.ref l) := hmm _
  clear hmm
  obtain ⟨oc, rfl, hoc⟩ := CellsAre.one Y
  have hoc : oc.data = .cell none := hoc
  clear Y
  rw [List.singleton_append] at N
  repeat tb_rel
  refine list_copyK F N (PySem.IsL.isList (n := n) (N _ (.tail _ hm)).1) (fun D k h2 F2 N2 hD => ?_) (by simp [sizeLine_eq]; omega)
  refine stCell F2 N2 (.tail _ (.head _)) hoc (by tb_start) (fun h3 oc' hoc' F3 N3 => ?_) (by kernel_rfl!) (by kernel_rfl!)
  have hDc : D ≠ L' + 1 := Nat.ne_of_gt (hD _ (.head _))
  have hnc : ∀ p ∈ news, p.1 ≠ L' + 1 := fun p hp => Nat.ne_of_lt (Nat.lt_succ_of_lt (hlt p hp))
  have hnD : ∀ p ∈ news, p.1 ≠ D := fun p hp => Nat.ne_of_lt (hD p (.tail _ hp))
  rw [put_cons_ne hDc, put_cons_self hnc] at N3
  have hc3 : (L' + 1, oc') ∈ (D, objL xs k) :: (L' + 1, oc') :: news := .tail _ (.head _)
  repeat tb_rel
  refine Calls.use (heapify_calls (xs := xs) (n := k) (.head _) (fun x hx => (ht x hx).sub fun q hq => .tail _ (.tail _ hq)) (by omega)) C (by exact F3) (by exact N3) (by omega) (by omega) ?_
  rintro r news' h4 tk4 F4 N4 ⟨rfl, rfl⟩
  rw [put_cons_self (by
    intro p hp
    rcases List.mem_cons.mp hp with rfl | hp
    · exact Ne.symm hDc
    · exact hnD p hp)] at N4
  clear F3 N3 F2 N2 N hc3
  have hc4 : (L' + 1, oc') ∈ (D, objL (heapify ltI xs) k) :: (L' + 1, oc') :: news := .tail _ (.head _)
  repeat tb_rel
  refine ListComp_N g L' (by tb_start) (by decide) (by tb_start) (by decide) (by intro _; tb_start) ?_
  repeat tb_rel
  refine iter_list_N F4 N4 (PySem.IsL.isList (n := n) (N4 _ (.tail _ (.tail _ hm))).1) (fun it o h5 ho hit F5 N5 hk5 => ?_)
  refine CompGo.intro F5 N5 (.head _) (list_self ho) (fun R C' h6 tk6 hR hC' hRC F6 N6 c6 => ?_)
  have hitD : it ≠ D := fun e => hit _ (.head _) e.symm
  have hitc : it ≠ L' + 1 := fun e => hit _ (.tail _ (.head _)) e.symm
  have hitn : ∀ p ∈ news, p.1 ≠ it := fun p hp => hit p (.tail _ (.tail _ hp))
  have hRit : R ≠ it := fun e => hR _ (.head _) e.symm
  have hRD : R ≠ D := fun e => hR _ (.tail _ (.head _)) e.symm
  have hRc : R ≠ L' + 1 := fun e => hR _ (.tail _ (.tail _ (.head _))) e.symm
  have hRn : ∀ p ∈ news, p.1 ≠ R := fun p hp => hR p (.tail _ (.tail _ (.tail _ hp)))
  have hCit : C' ≠ it := fun e => hC' _ (.head _) e.symm
  have hCD : C' ≠ D := fun e => hC' _ (.tail _ (.head _)) e.symm
  have hCc : C' ≠ L' + 1 := fun e => hC' _ (.tail _ (.tail _ (.head _))) e.symm
  have hCn : ∀ p ∈ news, p.1 ≠ C' := fun p hp => hC' p (.tail _ (.tail _ (.tail _ hp)))
  refine codeAny_compLoop_list (fun q s₁ => ∃ o' hs out kd kr mc h' tk', s₁ = { s with heap := h', toks := tk' } ∧ q = xs.length - out.length ∧ out.length ≤ xs.length ∧ LIt o' l out.length ∧ hs.length + out.length = xs.length ∧
    Fr g L' h' m ∧ News g L' h' ((it, o') :: (R, objL out kr) :: (D, objL hs kd) :: (L' + 1, oc') :: news) ∧ Cm g L' C' h' mc ∧ (∀ y ∈ hs, TupAt news y) ∧ out ++ popAll ltI hs.length hs = offHeap ltI xs) ?turn xs.length
    ⟨o, heapify ltI xs, [], k, 0, _, h6, tk6, rfl, rfl, Nat.zero_le _, ho, heapifyL_length ltI _ _, F6, ?start, c6, mem_heapifyL ltI _ _ _ ht, ?e⟩ (by intro _; tb_start)
  case start =>
    refine news_sub N6 fun q hq => ?_
    rcases List.mem_cons.mp hq with rfl | hq
    · exact .tail _ (.head _)
    rcases List.mem_cons.mp hq with rfl | hq
    · exact .head _
    · exact .tail _ (.tail _ hq)
  case e =>
    show [] ++ popAll ltI (heapify ltI xs).length (heapify ltI xs) = offHeap ltI xs
    rw [show (heapify ltI xs).length = xs.length from heapifyL_length ltI _ _]; rfl
  clear F6 N6 h6 F5 N5 hk5 h5 F4 N4 h4 c6 hc4 hR hC' hit ho o
  rintro q s₁ ⟨o, hs, out, kd, kr, mc, h', tk', rfl, rfl, hol, ho, hhs, F', N', c', hts, hfin⟩
  have hne1 : ∀ q ∈ (R, objL out kr) :: (D, objL hs kd) :: (L' + 1, oc') :: news, q.1 ≠ it := by
    intro q hq
    rcases List.mem_cons.mp hq with rfl | hq
    · exact hRit
    rcases List.mem_cons.mp hq with rfl | hq
    · exact Ne.symm hitD
    rcases List.mem_cons.mp hq with rfl | hq
    · exact Ne.symm hitc
    · exact hitn q hq
  have hsl : h'.IsList l (xs.map (·.1)).toArray := PySem.IsL.isList (n := n) (N' _ (.tail _ (.tail _ (.tail _ (.tail _ hm))))).1
  by_cases hend : out.length = xs.length
  · have hh0 : hs = [] := List.length_eq_zero_iff.mp (by omega)
    subst hh0
    refine next_list_end C.hh F' N' ho hne1 hsl (by simp [hend]) (fun h7 F7 N7 hx => ?_)
    refine comp_end F7 N7 (c'.ext hx hCit) ?_ (fun h8 F8 N8 => ?_)
    · intro q hq
      rcases List.mem_cons.mp hq with rfl | hq
      · exact hRC
      rcases List.mem_cons.mp hq with rfl | hq
      · exact Ne.symm hCD
      rcases List.mem_cons.mp hq with rfl | hq
      · exact Ne.symm hCc
      · exact hCn q hq
    · refine Done.intro F8 (news_sub N8 (news₂ := (R, objL out kr) :: news) fun q hq => ?_) ⟨R, kr, rfl, hRn, ?_⟩
      · rcases List.mem_cons.mp hq with rfl | hq
        · exact .head _
        · exact .tail _ (.tail _ (.tail _ hq))
      · rw [show out = offHeap ltI xs by rw [← hfin]; simp [popAll]]
  · have hlt' : out.length < xs.length := by omega
    refine next_list F' N' ho hne1 hsl (x := (xs[out.length]).1) (by simp [hlt']) (fun h7 o7 ho7 F7 N7 hx => ?_)
    have hCall : ∀ q ∈ (it, o7) :: (R, objL out kr) :: (D, objL hs kd) :: (L' + 1, oc') :: news, q.1 ≠ C' := by
      intro q hq
      rcases List.mem_cons.mp hq with rfl | hq
      · exact Ne.symm hCit
      rcases List.mem_cons.mp hq with rfl | hq
      · exact hRC
      rcases List.mem_cons.mp hq with rfl | hq
      · exact Ne.symm hCD
      rcases List.mem_cons.mp hq with rfl | hq
      · exact Ne.symm hCc
      · exact hCn q hq
    refine wpAny_assign_Name (stC F7 N7 (c'.same hx hCit) hCall (by tb_start) (fun h8 F8 N8 c8 => ?_) (by kernel_rfl!) (by kernel_rfl!))
    obtain ⟨oC, hoC, N9, kC⟩ := c8.on N8
    have hc9 : (L' + 1, oc') ∈ (C', oC) :: (it, o7) :: (R, objL out kr) :: (D, objL hs kd) :: (L' + 1, oc') :: news := .tail _ (.tail _ (.tail _ (.tail _ (.head _))))
    obtain ⟨x, r, hpop, hr, hP⟩ := heappop_some ltI hs (by omega)
    repeat tb_rel
    refine Calls.use (heappop_calls (xs := hs) (n := kd) (.tail _ (.tail _ (.tail _ (.head _)))) (fun y hy => (hts y hy).sub fun q hq => .tail _ (.tail _ (.tail _ (.tail _ (.tail _ hq))))) (by omega) hpop) C (by exact F8) (by exact N9) (by omega) (by omega) ?_
    rintro v news' ha tka Fa Na ⟨rfl, kd', rfl⟩
    rw [put_cons_ne hCD, put_cons_ne hitD, put_cons_ne hRD, put_cons_self (by
      intro p hp
      rcases List.mem_cons.mp hp with rfl | hp
      · exact Ne.symm hDc
      · exact hnD p hp)] at Na
    refine append_N Fa Na (.tail _ (.tail _ (.head _))) (by simp; omega) (fun hb Fb Nb hsb => ?_)
    rw [put_cons_ne hRC.symm, put_cons_ne hRit.symm, put_cons_self (by
      intro p hp
      rcases List.mem_cons.mp hp with rfl | hp
      · exact Ne.symm hRD
      rcases List.mem_cons.mp hp with rfl | hp
      · exact Ne.symm hRc
      · exact hRn p hp)] at Nb
    refine ⟨xs.length - (out.length + 1), by omega, o7, r, out ++ [x], kd', kr + 1, _, hb, tka, rfl, by simp, by simp; omega, by simpa using ho7, by simp; omega, Fb, ?_, kC _ _ Nb (.head _), (hP _ hts).2, ?_⟩
    · refine news_sub Nb fun q hq => ?_
      rcases List.mem_cons.mp hq with rfl | hq
      · exact .tail _ (.head _)
      rcases List.mem_cons.mp hq with rfl | hq
      · have e : (out ++ [x]).map (·.1) = out.map (·.1) ++ [x.1] := by simp
        rw [show objL (out ++ [x]) (kr + 1) = listOf (out.map (·.1) ++ [x.1]).toArray (kr + 1) by rw [← e]]
        exact .tail _ (.tail _ (.head _))
      · exact .tail _ (.tail _ (.tail _ hq))
    · rw [← hfin, show hs.length = r.length + 1 by omega, popAll, hpop]
      simp
end
end
section
open PySem PySem.W PyProof.Rows PySem.Calls PySem.Spec
set_option maxRecDepth 100000
/-- an exception's object: not yet noted | noted -/
def Exc0 (c : Prop) (o : Obj) : Prop := o.cls = .type "IndexError" ∧ ∃ vs, o.data = .fields vs ∧ vs[1]? = some .none ∧ (c → vs[2]? = some .none)
def ExcT (c : Prop) (o : Obj) (T : Addr) : Prop := o.cls = .type "IndexError" ∧ ∃ vs, o.data = .fields vs ∧ vs[1]? = some (.ref T) ∧ (c → vs[2]? = some .none)
/-- an IndexError has been made; c: its context is none -/
structure NewX (c : Prop) (h h' : Heap) (e : Addr) : Prop where
  keeps : ∀ b o, h.get? b = some o → h'.get? b = some o
  new : h.get? e = none
  there : ∃ ob, h'.get? e = some ob ∧ Exc0 c ob
def Tb (o : Obj) (fl : Value) : Prop := ∃ ts, o.data = .fields ts ∧ ts[3]? = some fl
/-- what may be handled where an error is raised: nothing, or an exception whose own context is none -/
def HandledOk (A : Around) (h : Heap) : Prop := A.handled = none ∨ ∃ e o vs, A.handled = some (.ref e) ∧ h.get? e = some o ∧ o.data = .fields vs ∧ vs[2]? = some .none
section
variable {prog : Program} {w : World} {A : Around} {E : Value → Shared → Prop} {s : Shared}
theorem exc_ledger {h₀ h h' : Heap} {L e : Addr} {m : Str → Option Value} {news : News'} {c : Prop} (F : Fr h₀ L h m) (N : News h₀ L h news) (x : NewX c h h' e) :
    ∃ oe, Exc0 c oe ∧ (∀ p ∈ news, p.1 ≠ e) ∧ e ≠ L ∧ Fr h₀ L h' m ∧ News h₀ L h' ((e, oe) :: news) := by
  obtain ⟨ob, he, hx⟩ := x.there
  have hL : e ≠ L := by
    rintro rfl
    obtain ⟨o, _, _, ho, _⟩ := F.ns
    rw [x.new] at ho; cases ho
  have h0 : h₀.get? e = none := by
    cases q : h₀.get? e with
    | none => rfl
    | some o => have := F.keep _ _ q; rw [x.new] at this; cases this
  refine ⟨ob, hx, fun p hp q => ?_, hL, ⟨F.ns.keeps x.keeps, fun b o q => x.keeps b o (F.keep b o q), F.above⟩, fun p hp => ?_⟩
  · have := (N p hp).1
    rw [q, x.new] at this; cases this
  · rcases List.mem_cons.mp hp with rfl | hp
    · exact ⟨he, hL, h0⟩
    · exact ⟨x.keeps _ _ (N p hp).1, (N p hp).2⟩
theorem entry_unchain : entryFor table "proto.unchain" = some Builtin.«proto.unchain» := entryFor_of_tree (by kernel_rfl)
theorem raise_words {α : Type} {msg : String} {Q : α → Shared → Prop} (hh : HandledOk A s.heap)
    (h : ∀ h' tk e, NewX (A.handled = none) s.heap h' e → E (.ref e) { s with heap := h', toks := tk }) :
    wpAny (model prog w) A (raiseErrorWords "IndexError" msg : Sem α) Q E s := by
  rcases hh with hh | ⟨a, o, vs, hh, ho, hd, h2⟩
  · refine wpAny_raiseErrorWords plainExc_IndexError hh fun h' tk e x => h h' tk e ⟨x.keeps, x.new, ?_⟩
    obtain ⟨ob, t, he, hc, hd⟩ := x.there
    exact ⟨ob, he, hc, _, hd, rfl, fun _ => rfl⟩
  · unfold raiseErrorWords
    refine wpAny_bind (wpAny_mkText (wpAny_bind (wpAny_newExc_plain plainExc_IndexError fun h' e hm => ?_)))
    unfold raiseNew
    refine wpAny_bind (wpAny_handled ?_)
    rw [hh]
    have hae : a ≠ e := fun q => by rw [q, hm.new] at ho; cases ho
    have hne : (Value.ref a != Value.ref e) = true := by simpa using hae
    dsimp only
    rw [if_pos hne]
    obtain ⟨tt, het, _, _⟩ := hm.there
    refine wpAny_bind (wpAny_holding (wpAny_runValue (codeAny_builtin entry_unchain ?_)))
    show wpAny _ _ (field (.ref a) 2 >>= _) _ _ _
    refine wpAny_bind (wpAny_field (hm.keeps _ _ ho) hd h2 ?_)
    refine wpAny_pure ?_
    refine wpAny_bind (m := updateField e 2 (Value.ref a)) (show wpAny _ _ (setField (.ref e) 2 (Value.ref a)) _ _ _ from wpAny_setField het rfl (by simp) (wpAny_throw (h _ _ _ ⟨fun b o q => ?_, hm.new, ?_⟩)))
    · have hbe : b ≠ e := fun q2 => by rw [q2, hm.new] at q; cases q
      rw [Heap.get?_update_other _ _ (Ne.symm hbe)]
      exact hm.keeps b o q
    · exact ⟨_, Heap.get?_update_self _ het rfl, rfl, _, rfl, by simp, fun q => by rw [hh] at q; cases q⟩
theorem out_raises_int {l : Addr} {items : Array Value} {K : Int} {t : Tok} {Q : Value → Shared → Prop} (hA : HandledOk A.in1 s.heap) (hl : s.heap.IsList l items) (h0 : 0 ≤ K) (hout : (items.size : Int) ≤ K) (hfit : Builtin.List.listFitsIndex K = true)
    (hE : ∀ h' tk e, NewX (A.handled = none) s.heap h' e → E (.ref e) { s with heap := h', toks := tk }) :
    wpAny (model prog w) A (getItem (.ref l) (.int K t)) Q E s := by
  obtain ⟨o, ho, hc, ne, hd⟩ := id hl
  unfold getItem
  try with_reducible refine wpAny_holding ?_
  first | refine wpAny_bind (wpAny_pure ?_) | skip
  refine wpAny_bind (wpAny_sequenceKey hl.typeIs (by decide) ?_)
  refine wpAny_bind (wpAny_callSpecial?_slot (name := Str.ofString "__getitem__") hl.typeIs slot_list_getitem
    (wpAny_call_entry slot_list_getitem hl.typeIs entry_list_getitem ?_ (args_list_getitem _ _)))
  show wpAny _ _ (Builtin.List.listSubscript? (.int K t) >>= _) _ _ s
  refine wpAny_bind (wpAny_listSubscript_int hfit ?_)
  clear hfit
  cases K with
  | negSucc j => exact absurd h0 (by have := Int.negSucc_lt_zero j; omega)
  | ofNat j =>
    have hx : items[j]? = none := Array.getElem?_eq_none (by have : (items.size : Int) ≤ (j : Int) := hout; omega)
    show wpAny _ _ ((seqItemAt l j >>= fun r => pure (r.map (j, ·))) >>= _) _ _ s
    refine wpAny_bind (wpAny_bind (wpAny_seqItemAt ho hd (wpAny_pure ?_)))
    rw [hx]
    first
      | exact wpAny_bind (wpAny_rule (raise_words hA hE))
      | exact wpAny_bind (wpAny_rule (wpAny_bind (raise_words hA hE)))
      | exact wpAny_bind (wpAny_bind (wpAny_rule (raise_words hA hE)))
      | exact wpAny_rule (raise_words hA hE)
theorem out_raises {l : Addr} {items : Array Value} {k : Nat} {t : Tok} {Q : Value → Shared → Prop} (hA : HandledOk A.in1 s.heap) (hl : s.heap.IsList l items) (hout : items.size ≤ k) (hhi : k < 2 ^ 62)
    (hE : ∀ h' tk e, NewX (A.handled = none) s.heap h' e → E (.ref e) { s with heap := h', toks := tk }) :
    wpAny (model prog w) A (getItem (.ref l) (.int (k : Int) t)) Q E s := out_raises_int hA hl (by omega) (by omega) (fitsIndex_both (by omega) (by omega)) hE
end
section
variable {M : Model} {A : Around} {E : Value → Shared → Prop} {s : Shared} {env envc : Env} {g : Heap} {L L' e : Addr} {m : Str → Option Value} {news : News'} {oL oe : Obj} {c : Prop}
/-- an exception noted by the frame, the caller's frame kept but for its slots -/
theorem note_new {Q : Unit → Shared → Prop} (hfr : A.frames = some [env, envc]) (hf : env.frame = some L') (hfc : envc.frame = some L) (hk : env.scope.kind = .function) (hkc : envc.scope.kind = .function)
    (F : Fr g L' s.heap m) (N : News g L' s.heap ((e, oe) :: (L, oL) :: news)) (he : Exc0 c oe) (hne : ∀ p ∈ (L, oL) :: news, p.1 ≠ e) (hnL : ∀ p ∈ news, p.1 ≠ L) (hoL : ∃ es n, oL.data = .dict es n)
    (h : ∀ h' oL' oe' T oT, oL'.data = oL.data → ExcT c oe' T → Tb oT (rawInt L') → (∀ p ∈ (e, oe') :: (L, oL') :: news, p.1 ≠ T) → Fr g L' h' m → News g L' h' ((T, oT) :: (e, oe') :: (L, oL') :: news) → Q () { s with heap := h' }) :
    wpAny M A (noteFrame (.ref e) env) Q E s := by
  obtain ⟨hcls, vs, hd, h1, h2⟩ := he
  have hsz : 1 < vs.size := (Array.getElem?_eq_some_iff.mp h1).1
  have ze := N _ (.head _)
  have zL := N _ (.tail _ (.head _))
  obtain ⟨oF, es, ep, hF, hFd, _⟩ := id F.ns
  obtain ⟨eL, nL, hLd⟩ := hoL
  have hfun : s.heap.FunFrames g [env, envc] := by
    refine ⟨by rw [hk]; decide, ⟨L', oF, hf, ?_, hF, fun vs q => ?_⟩, by rw [hkc]; decide, ⟨L, oL, hfc, zL.2.2, zL.1, fun vs q => ?_⟩, trivial⟩
    · cases q : g.get? L' with
      | none => rfl
      | some o => exact absurd (Heap.lt_size q) (Nat.not_lt.mpr F.above)
    · rw [hFd] at q; cases q
    · have : oL.data = .fields vs := q
      rw [hLd] at this; cases this
  unfold noteFrame
  simp only [hf]
  refine wpAny_bind (wpAny_field ze.1 hd h1 ?_)
  rw [if_neg (by decide)]
  refine wpAny_bind (wpAny_frameOf_fun hfr hfun hf fun h₁ hs₁ => ?_)
  refine wpAny_bind (wpAny_entryPlaceOf fun pl hpl => ?_)
  unfold EntryCells.newEntry newFields
  refine wpAny_bind (wpAny_newObj_type ?_ (hpl.sizeOk5 _ _ _ _ _))
  have hS : ∀ b, b ≠ L' → b ≠ L → h₁.get? b = s.heap.get? b := fun b b1 b2 => hs₁.2.1 b (by simp [hf, hfc, b1, b2])
  have he₁ : h₁.get? e = some oe := (hS e ze.2.1 (Ne.symm (hne _ (.head _)))).trans ze.1
  obtain ⟨slL, hL₁⟩ := hs₁.2.2 L oL zL.1
  obtain ⟨slF, hF₁⟩ := hs₁.2.2 L' oF hF
  generalize hob : ({ cls := .type "traceback", dict := none, data := .fields ([Value.none, .ref L', .none, rawInt L', .none] ++ (if pl.isEmpty then List.replicate 6 Value.none else pl)).toArray } : Obj) = oT
  have hTb : Tb oT (rawInt L') := by subst hob; exact ⟨_, rfl, by first | (simp; done) | (rcases hpl with rfl | ⟨_, _, _, _, _, _, _, rfl⟩ <;> simp)⟩
  have hTf : oT.isFreed = false := by subst hob; rfl
  have he₂ := Heap.get?_push_of_some (h := h₁) oT he₁
  refine wpAny_setField he₂ hd hsz ?_
  have hTe : h₁.objs.size ≠ e := Nat.ne_of_gt (Heap.lt_size he₁)
  have hd₃ := Obj.data_mapFields hd (·.setIfInBounds 1 (Value.ref h₁.objs.size))
  have he₃ := Heap.get?_update_self (Obj.mapFields (·.setIfInBounds 1 (Value.ref h₁.objs.size))) he₂ (Obj.isFreed_of_fields hd₃)
  have keep : ∀ b o, b ≠ e → h₁.get? b = some o → ((h₁.push oT).update e (Obj.mapFields (·.setIfInBounds 1 (Value.ref h₁.objs.size)))).get? b = some o := fun b o hbe hb => by
    rw [Heap.get?_update_other _ _ (Ne.symm hbe)]
    exact Heap.get?_push_of_some _ hb
  have hsz₁ : h₁.objs.size = s.heap.objs.size := hs₁.1
  refine h _ { oL with slots := slL } _ h₁.objs.size oT rfl ⟨?_, _, hd₃, by simp [hsz], fun q => by rw [Array.getElem?_setIfInBounds_ne (by decide)]; exact h2 q⟩ hTb ?_ ⟨?_, ?_, F.above⟩ ?_
  · rw [Obj.cls_mapFields]; exact hcls
  · intro p hp
    rw [hsz₁]
    rcases List.mem_cons.mp hp with rfl | hp
    · exact Nat.ne_of_lt (Heap.lt_size ze.1)
    rcases List.mem_cons.mp hp with rfl | hp
    · exact Nat.ne_of_lt (Heap.lt_size zL.1)
    · exact Nat.ne_of_lt (Heap.lt_size (N p (.tail _ (.tail _ hp))).1)
  · obtain ⟨o2, es2, ep2, hF2, r⟩ := id F.ns
    have e2 : o2 = oF := Option.some.inj (hF2.symm.trans hF)
    subst e2
    exact ⟨_, es2, ep2, keep _ _ (Ne.symm ze.2.1) hF₁, r⟩
  · intro b o q
    have b1 : b ≠ L' := Nat.ne_of_lt (Nat.lt_of_lt_of_le (Heap.lt_size q) F.above)
    have b2 : b ≠ L := fun q2 => by rw [q2, zL.2.2] at q; cases q
    have b3 : b ≠ e := fun q2 => by rw [q2, ze.2.2] at q; cases q
    exact keep b o b3 ((hS b b1 b2).trans (F.keep b o q))
  · intro p hp
    rcases List.mem_cons.mp hp with rfl | hp
    · refine ⟨(Heap.get?_update_other _ _ (Ne.symm hTe)).trans (Heap.get?_push_size h₁ hTf), ?_, ?_⟩
      · rw [hsz₁]; exact Nat.ne_of_gt F.ns.lt
      · cases q : g.get? h₁.objs.size with
        | none => rfl
        | some o =>
          have := Heap.lt_size (F.keep _ _ q)
          rw [hsz₁] at this
          exact absurd this (Nat.lt_irrefl _)
    rcases List.mem_cons.mp hp with rfl | hp
    · exact ⟨he₃, ze.2⟩
    rcases List.mem_cons.mp hp with rfl | hp
    · exact ⟨keep _ _ (show L ≠ e from hne (L, oL) (.head _)) hL₁, zL.2⟩
    · have y := N p (.tail _ (.tail _ hp))
      exact ⟨keep _ _ (hne p (.tail _ hp)) ((hS _ y.2.1 (hnL p hp)).trans y.1), y.2⟩
end
end
section
open PySem PySem.W PyProof.Rows PySem.Calls PySem.Spec
set_option maxRecDepth 100000
/-- a body's end where the caller's frame lies on the ledger -/
def Done2 (g : Heap) (L' L : Addr) (oL : Obj) (s : Shared) (Post : News' → Value → Prop) (fl : Flow) (s' : Shared) : Prop :=
  ∃ h' tk m' news' oL', s' = { s with heap := h', toks := tk } ∧ Fr g L' h' m' ∧ News g L' h' ((L, oL') :: news') ∧ oL'.data = oL.data ∧ (∀ p ∈ news', p.1 ≠ L) ∧ Post news' (retOf fl)
section
variable {prog : Program} {w : World} {K : Frag} {p : Program} {loose : List Str} {mg mb : Str → Option Value}
theorem call_top {A : Around} {h₀ : Heap} {L : Addr} {m : Str → Option Value} {s : Shared} {envc : Env} {f : Addr} {args : List Value} {news : News'} {Post : News' → Value → Prop} {Q E : Value → Shared → Prop}
    {name qual : Str} {params : Arguments} {body : List Stmt} {scope : Scope} {dV kV doc pm cdv ct oc : Value} {an od : Option Addr} {osl : Array (Option Value)} {binds : List (Str × Value)}
    (ho : K.lookup f = some ⟨oc, od, .func (fnOf name qual params body scope dV kV doc pm an cdv ct), osl⟩) (hcd : codeIn K cdv qual = true)
    (hbind : BindsTo s (fnOf name qual params body scope dV kV doc pm an cdv ct) ⟨args, []⟩ binds) (hloc : ∀ y ∈ binds, scope.names.lookup y.1 = some .local)
    (hco : scope.isCoroutine = false) (hgen : scope.isGenerator = false) (hk : scope.kind = .function) (hcell : ∀ x ∈ scope.names, x.2 ≠ .cell)
    (hfr : A.frames = some [envc]) (hroom : A.depth < recursionLimit) (G : Gl K p loose mg mb h₀) (F : Fr h₀ L s.heap m) (N : News h₀ L s.heap news)
    (h : ∀ (A' : Around) (g : Heap) (L' : Addr) (h₁ : Heap) (tk : Nat) (mm : Str → Option Value) (oL : Obj), (∀ y, mm y = binds.reverse.lookup y) → Fr g L' h₁ mm → News g L' h₁ ((L, oL) :: news) → (∃ es n, oL.data = .dict es n) → (∀ p ∈ news, p.1 ≠ L) → Gl K p loose mg mb g →
      A'.handled = A.handled → A'.frames = some [envOf qual scope L' f cdv, envc] → A'.units = A.units + 3 →
      wpAny (model prog w) A' (execs body (envOf qual scope L' f cdv)) (Done2 g L' L oL s Post) (fun _ _ => False) { s with heap := h₁, toks := tk })
    (hret : ∀ r news' h' tk', Fr h₀ L h' m → News h₀ L h' news' → Post news' r → Q r { s with heap := h', toks := tk' }) : wpAny (model prog w) A (call (.ref f) args) Q E s := by
  have nm : ∀ b o, h₀.get? b = some o → b ∉ L :: news.map (·.1) := fun b o e q => by
    rcases List.mem_cons.mp q with q | q
    · exact absurd (Heap.lt_size e) (Nat.not_lt.mpr (q ▸ F.above))
    · obtain ⟨p, hp, rfl⟩ := List.mem_map.mp q
      rw [(N p hp).2.2] at e; cases e
  have st : h₀.StaysIn (hideAll s.heap (L :: news.map (·.1))) := fun b o e => hideAll_get _ (F.keep b o e) (nm b o e)
  obtain ⟨oL, es, ep, hL, hLd, hLk⟩ := id F.ns
  refine wpAny_call ?_
  refine codeAny_call_def (fd := fnOf name qual params body scope dV kV doc pm an cdv ct) (body := body) (binds := binds) hroom ((G.X.keeps F.keep) _ _ ho) rfl (G.T.nolimit.keeps F.keep) (codeRec_of (G.X.keeps F.keep) hcd) rfl hbind hcell hloc (fun h₁ hns hk₁ => ?_) hco hgen hk
  refine wpAny_mono (h (A.deeper (envOf qual scope s.heap.objs.size f cdv)) (hideAll s.heap (L :: news.map (fun x : Addr × Obj => x.1))) s.heap.objs.size h₁ _ _ oL (fun _ => rfl) ⟨hns, fun b o e => hk₁ b o (of_hideAll _ e), Nat.le_of_eq (hideAll_size _ _)⟩ (fun q hq => ?_) ⟨es, ep, hLd⟩ (fun q hq => (N q hq).2.1) ⟨G.X.keeps st, G.T.keeps st⟩ rfl ?_ rfl) (fun fl s' hd => ?_) fun _ _ x => x.elim
  · rcases List.mem_cons.mp hq with rfl | hq
    · exact ⟨hk₁ _ _ hL, Nat.ne_of_lt (Heap.lt_size hL), hideAll_none _ (.head _)⟩
    · exact ⟨hk₁ _ _ (N q hq).1, Nat.ne_of_lt (Heap.lt_size (N q hq).1), hideAll_none _ (.tail _ (List.mem_map_of_mem hq))⟩
  · exact Around.frames_deeper hfr
  · obtain ⟨h', tk, m', news', oL', rfl, F₂, N₂, hdat, hnL, hp⟩ := hd
    refine hret _ news' h' tk ⟨⟨oL', es, ep, (N₂ _ (.head _)).1, hdat.trans hLd, hLk⟩, fun b o e => F₂.keep b o (st b o e), F.above⟩ (fun q hq => ⟨(N₂ q (.tail _ hq)).1, hnL q hq, ?_⟩) hp
    cases e : h₀.get? q.1 with
    | none => rfl
    | some o => have := (N₂ q (.tail _ hq)).2.2; rw [st _ _ e] at this; cases this
end
end
section
open PySem PySem.W PyProof.Rows PySem.Calls PySem.Spec
set_option maxRecDepth 100000
def Never : Value → Shared → Prop := fun _ _ => False
section
variable {prog : Program} {w : World} {A : Around} {E : Value → Shared → Prop} {s : Shared} {env : Env}
/-- E leaves any activation of the frame's own -/
def Passes (M : Model) (A : Around) (env : Env) (E : Value → Shared → Prop) : Prop := ∀ A' A'', SameStack A' A → PassesOwnAt M A' A'' env E
theorem never_any {M : Model} {α : Type} {t : Sem α} {Q : α → Shared → Prop} (h : wpAny M A t Q Never s) : wpAny M A t Q E s := wpAny_mono h (fun _ _ x => x) fun _ _ x => x.elim
theorem try_named {body : List Stmt} {h₀ : ExceptHandler} {hs : List ExceptHandler} {pos : Pos} {Q : Flow → Shared → Prop}
    (h : ∀ Eo : Value → Shared → Prop, (∀ e s₁, wpAny (model prog w) A (noteFrame e env) (fun _ s₂ => wpAny (model prog w) A (setFlight e none) (fun _ s₃ => wpAny (model prog w) A (handleBy e env (h₀ :: hs)) Q E s₃) E s₂) E s₁ → Eo e s₁) → Passes (model prog w) A env Eo →
      wpAny (model prog w) A (execs body env) Q Eo s) :
    wpAny (model prog w) A (exec (.Try body (h₀ :: hs) [] [] pos) env) Q E s := by
  refine wpAny_Try_except ?_
  refine wpAny_mono (h _ (fun _ _ x => x) fun A' A'' hAA => PassesOwnAt.lookingOf hAA) (fun f s₁ hq => ?_) fun _ _ x => x
  cases f <;> first | exact hq | exact wpAny_execs_nil hq
theorem finally_named {body : List Stmt} {f₀ : Stmt} {fs : List Stmt} {pos : Pos} {Q : Flow → Shared → Prop} (hE : Passes (model prog w) A env E)
    (h : ∀ Ef : Value → Shared → Prop, (∀ e s₁, e ≠ byPass → wpAny (model prog w) A (noteFrame e env) (fun _ s₂ => wpAny (model prog w) A (noteFrame e env) (fun _ s₀ => wpAny (model prog w) A (setFlight e none) (fun _ s₁ =>
        wpAny (model prog w) (A.mark (some e)) (execs (f₀ :: fs) env) (fun g s₂ => g = .next ∧ wpAny (model prog w) A (PySem.passOn "try.finally" e env : Sem Flow) (fun _ _ => False) E s₂) E s₁) E s₀) E s₂) Never s₁ → Ef e s₁) → Passes (model prog w) A env Ef →
      wpAny (model prog w) A (execs body env) (fun f s₁ => wpAny (model prog w) A (execs (f₀ :: fs) env) (fun g s' => g = .next ∧ Q f s') E s₁) Ef s) :
    wpAny (model prog w) A (exec (.Try body [] [] (f₀ :: fs) pos) env) Q E s := by
  refine wpAny_Try_finally ?_
  have plain : ∀ f s₁, wpAny (model prog w) A (execs (f₀ :: fs) env) (fun g s' => g = .next ∧ Q f s') E s₁ → wpAny (model prog w) A (execs (f₀ :: fs) env) (fun g s' => match g with | .next => Q f s' | g => Q g s') (notedBy (model prog w) A env (cameBackBy (model prog w) A env E)) s₁ := by
    intro f s₁ hp
    refine wpAny_mono hp (fun g s' hg => ?_) fun e s' he => hE A A (SameStack.refl A) e s' he
    obtain ⟨rfl, hq⟩ := hg
    exact hq
  refine wpAny_mono (h (fun e s₁ => wpAny (model prog w) A (noteFrame e env) (fun _ s₂ => FinallyRaised prog w A E env (f₀ :: fs) Q e s₂) (FinallyRaised prog w A E env (f₀ :: fs) Q) s₁) (fun e s₁ hb hx => ?_) fun A' A'' hAA => PassesOwnAt.lookingOf hAA) (fun f s₁ hq => ?_) fun _ _ x => x
  · refine wpAny_mono hx (fun _ s₂ h₂ => ⟨hb, wpAny_mono h₂ (fun _ s₃ h₃ => wpAny_mono h₃ (fun _ s₄ h₄ => wpAny_mono h₄ (fun g s₅ hg => ?_) fun e' s' he => hE _ _ (SameStack.mark A _) e' s' he) fun _ _ x => x) fun _ _ x => x⟩) fun _ _ x => x.elim
    obtain ⟨rfl, hp⟩ := hg
    exact wpAny_mono hp (fun _ _ x => x.elim) fun _ _ x => x
  · cases f with
    | next => exact wpAny_execs_nil (plain _ _ hq)
    | brk => exact plain _ _ hq
    | cont => exact plain _ _ hq
    | ret v => exact plain _ _ hq
/-- a while whose test is false at once, or raises -/
theorem while_once {test : Expr} {body : List Stmt} {pos : Pos} {Q : Flow → Shared → Prop} (hE : PassesOwn (model prog w) A env E) (h : wpAny (model prog w) A (isTrue test env (eval test env)) (fun b s₂ => b = false ∧ Q .next s₂) E s) :
    wpAny (model prog w) A (exec (.While test body [] pos) env) Q E s := by
  refine wpAny_While (codeAny_whileLoop (fun _ s₁ => s₁ = s) ?_ 0 rfl)
  rintro n s₁ rfl
  refine wpAny_passesOwn hE ?_
  refine wpAny_mono h (fun b s₂ hb => ?_) fun _ _ x => x
  obtain ⟨rfl, hq⟩ := hb
  exact ite_ff (wpAny_execs_nil hq)
theorem passOn_noted {what : String} {e T : Addr} {oe oT : Obj} {L' : Addr} {ts : Array Value} {Q : Flow → Shared → Prop} (hf : env.frame = some L') (he : s.heap.get? e = some oe) {c : Prop} (hE : ExcT c oe T) (hT : s.heap.get? T = some oT) (hd : oT.data = .fields ts) (hs : 3 < ts.size)
    (h : E (.ref e) { s with heap := s.heap.update T (Obj.mapFields (·.setIfInBounds 3 (rawInt L'))) }) : wpAny (model prog w) A (PySem.passOn what (.ref e) env) Q E s := by
  obtain ⟨_, vs, hv, h1, _⟩ := hE
  unfold PySem.passOn
  refine wpAny_bind (wpAny_field he hv h1 ?_)
  rw [if_neg (show ¬ ((Value.ref T == Value.none) = true) from by simp)]
  rw [hf]
  refine wpAny_bind (m := setFlight (.ref e) (some L')) ?_
  unfold setFlight
  refine wpAny_bind (wpAny_field he hv h1 ?_)
  rw [if_pos (show (Value.ref T != Value.none) = true from by simp)]
  exact wpAny_setField hT hd hs (wpAny_throw h)
end
/-- an IndexError arrives: fresh, or noted by this frame and in flight -/
def Arr (c : Prop) (g : Heap) (L' : Addr) (h : Heap) (m : Str → Option Value) (news : News') (e : Addr) : Prop :=
  (∀ p ∈ news, p.1 ≠ e) ∧ Fr g L' h m ∧
    ((∃ oe, Exc0 c oe ∧ News g L' h ((e, oe) :: news)) ∨ ∃ oe T oT, ExcT c oe T ∧ Tb oT (rawInt L') ∧ (∀ p ∈ (e, oe) :: news, p.1 ≠ T) ∧ News g L' h ((T, oT) :: (e, oe) :: news))
section
variable {M : Model} {A : Around} {E : Value → Shared → Prop} {s : Shared} {env envc : Env} {g : Heap} {L L' e : Addr} {m : Str → Option Value} {news : News'} {oL : Obj} {c : Prop}
theorem note_any {Q : Unit → Shared → Prop} (hfr : A.frames = some [env, envc]) (hf : env.frame = some L') (hfc : envc.frame = some L) (hk : env.scope.kind = .function) (hkc : envc.scope.kind = .function)
    (a : Arr c g L' s.heap m ((L, oL) :: news) e) (hnL : ∀ p ∈ news, p.1 ≠ L) (hoL : ∃ es n, oL.data = .dict es n)
    (h : ∀ h' oL' oe T oT, oL'.data = oL.data → ExcT c oe T → Tb oT (rawInt L') → (∀ p ∈ (e, oe) :: (L, oL') :: news, p.1 ≠ T) → (∀ p ∈ (L, oL') :: news, p.1 ≠ e) → Fr g L' h' m → News g L' h' ((T, oT) :: (e, oe) :: (L, oL') :: news) → Q () { s with heap := h' }) :
    wpAny M A (noteFrame (.ref e) env) Q E s := by
  have hkey : ∀ oL' : Obj, (∀ p ∈ (L, oL) :: news, p.1 ≠ e) → ∀ p ∈ (L, oL') :: news, p.1 ≠ e := fun oL' hx p hp => by
    rcases List.mem_cons.mp hp with rfl | hp
    · exact hx (L, oL) (.head _)
    · exact hx p (.tail _ hp)
  obtain ⟨hne, F, ⟨oe, he, N⟩ | ⟨oe, T, oT, he, hT, hTn, N⟩⟩ := a
  · exact note_new hfr hf hfc hk hkc F N he hne hnL hoL fun h' oL' oe' T oT a1 a2 a3 a4 a6 a7 => h h' oL' oe' T oT a1 a2 a3 a4 (hkey _ hne) a6 a7
  · obtain ⟨_, vs, hd, h1, _⟩ := id he
    obtain ⟨ts, htd, h3⟩ := id hT
    exact wpAny_noteFrame_inFlight hf (N _ (.tail _ (.head _))).1 hd h1 (N _ (.head _)).1 htd h3 (h s.heap oL oe T oT rfl he hT hTn hne F N)
theorem setFlight_N {fl : Value} {T : Addr} {oe oT : Obj} {Q : Unit → Shared → Prop} (he : ExcT c oe T) (hT : Tb oT fl) (hTn : ∀ p ∈ (e, oe) :: news, p.1 ≠ T) (F : Fr g L' s.heap m) (N : News g L' s.heap ((T, oT) :: (e, oe) :: news))
    (h : ∀ h' oT', Tb oT' .none → Fr g L' h' m → News g L' h' ((T, oT') :: (e, oe) :: news) → Q () { s with heap := h' }) : wpAny M A (setFlight (.ref e) none) Q E s := by
  obtain ⟨_, vs, hd, h1, _⟩ := id he
  obtain ⟨ts, htd, h3⟩ := id hT
  have hsz : 3 < ts.size := (Array.getElem?_eq_some_iff.mp h3).1
  have hT0 := (N _ (.head _)).1
  have hd₃ := Obj.data_mapFields htd (·.setIfInBounds 3 (Value.none))
  refine wpAny_setFlight_none (N _ (.tail _ (.head _))).1 hd h1 hT0 htd hsz ?_
  have e := put_fr F N (.head _) (Heap.SameBut.update s.heap T (Obj.mapFields (·.setIfInBounds 3 .none))) (Heap.get?_update_self _ hT0 (Obj.isFreed_of_fields hd₃))
  rw [put_cons_self hTn] at e
  exact h _ _ ⟨_, hd₃, by simp [hsz]⟩ e.1 e.2
end
theorem arr_new {g h h1 : Heap} {L' e : Addr} {m : Str → Option Value} {news : News'} {c : Prop} (F : Fr g L' h m) (N : News g L' h news) (x : NewX c h h1 e) : Arr c g L' h1 m news e := by
  obtain ⟨oe, h1, h2, _, h4, h5⟩ := exc_ledger F N x
  exact ⟨h2, h4, .inl ⟨oe, h1, h5⟩⟩
end
section
open PySem PySem.W PyProof.Rows PySem.Calls PySem.Spec
set_option maxRecDepth 100000
section
variable {prog : Program} {w : World} {A : Around} {E : Value → Shared → Prop} {s : Shared} {h₀ : Heap} {L D b : Addr} {m : Str → Option Value} {news : News'} {vs us : List Value} {n n2 : Nat}
theorem extend_N {Q : Value → Shared → Prop} (F : Fr h₀ L s.heap m) (N : News h₀ L s.heap news) (hm : (D, listOf vs.toArray n) ∈ news) (hb : (b, listOf us.toArray n2) ∈ news) (hz : vs.length + us.length < 1000)
    (h : ∀ h' k, Fr h₀ L h' m → News h₀ L h' (put D (listOf (vs ++ us).toArray k) news) → Q .none { s with heap := h' }) : wpAny (model prog w) A (call (.builtin "list.extend") [.ref D, .ref b]) Q E s := by
  have z := N _ hm
  refine call_meets PySem.F.slot_list_extend ⟨_, z.1, rfl⟩ PySem.F.entry_list_extend (PySem.F.args_list_extend_2 _ _) (PySem.AutoSeq1.list_extend_list_list_0 D _ n b _ n2 ?_ (by simp [sizeLine_eq]; omega) (by simp [sizeLine_eq]; omega)) ⟨z.1, (N _ hb).1, ?_⟩
  · unfold Builtin.List.listTooLong
    simp [sizeLine_eq]
    omega
  · have e := put_fr F N hm (Heap.SameBut.update s.heap D (Obj.mapSeq fun x => x ++ us.toArray)) (o' := listOf (vs ++ us).toArray (if (vs.toArray ++ us.toArray).size == vs.toArray.size then n else n + 1)) (by
      rw [get?_update_seq z.1]
      simp)
    exact h _ _ e.1 e.2
/-- a cut of a list -/
theorem slice_end {l : Addr} {vl vu : Value} {lo hi : Option Int} {ps : List Value} {Q : Value → Shared → Prop} (F : Fr h₀ L s.heap m) (N : News h₀ L s.heap news) (hl : s.heap.IsList l vs.toArray) (hz : vs.length < 1000) (pl : IsPart vl lo) (pu : IsPart vu hi) (he : slicePick vs.toArray lo hi none = ps.toArray)
    (h : ∀ D h', (∀ p ∈ news, p.1 ≠ D) → Fr h₀ L h' m → News h₀ L h' ((D, listOf ps.toArray 0) :: news) → Q (.ref D) { s with heap := h' }) :
    SliceAt Q (.ref l) vl vu s := by
  refine ⟨l, vs.toArray, lo, hi, rfl, hl, by simp [sizeLine_eq]; omega, pl, pu, ?_⟩
  have F1 := F.push { cls := .type "slice", data := .fields #[vl, vu, .none] }
  have N1 : News h₀ L (s.heap.push { cls := .type "slice", data := .fields #[vl, vu, .none] }) news := N.grown fun _ _ e => Heap.get?_push_of_some _ e
  have N2 := N1.push F1 { cls := .type "list", data := .seq (slicePick vs.toArray lo hi none) }
  rw [Heap.size_push] at N2
  have k := h (s.heap.objs.size + 1) _ (fun p hp => Nat.ne_of_lt (Nat.lt_succ_of_lt (Heap.lt_size (N p hp).1))) (F1.push { cls := .type "list", data := .seq (slicePick vs.toArray lo hi none) }) (by rw [he] at N2 ⊢; exact N2)
  exact k
/-- an item of a list of any values -/
theorem item_at {value slice : PySem.Expr} {l : Addr} {k : Nat} {u : Tok} {x : Value} {Q : Value → Shared → Prop} (hl : s.heap.IsList l vs.toArray) (hfit : k < 2 ^ 62) (hx : vs[k]? = some x) (h : Q x s)
    (hs : subscripted slice false (.ref l) (.int (k : Int) u) = operate [.ref l, .int (k : Int) u] (getItem (.ref l) (.int (k : Int) u)) := by with_unfolding_all rfl)
    (ht : ∀ r, letTemporaryGo value (.ref l) r = pure () := by intro _; with_unfolding_all rfl) :
    wpAny (model prog w) A (subscriptTail value slice (.ref l) (.int (k : Int) u)) Q E s :=
  subscriptTail_builtin hl.typeIs slot_list_getitem.lookup (wpAny_getItem_list hl (by omega) (by omega) (by simp [hx]) h) hs ht
theorem item_out {value slice : PySem.Expr} {l : Addr} {k : Nat} {u : Tok} {Q : Value → Shared → Prop} (hA : HandledOk A.in1 s.heap) (hl : s.heap.IsList l vs.toArray) (hfit : k < 2 ^ 62) (hx : vs.length ≤ k)
    (hE : ∀ h' tk e, NewX (A.handled = none) s.heap h' e → E (.ref e) { s with heap := h', toks := tk })
    (hs : subscripted slice false (.ref l) (.int (k : Int) u) = operate [.ref l, .int (k : Int) u] (getItem (.ref l) (.int (k : Int) u)) := by with_unfolding_all rfl)
    (ht : ∀ r, letTemporaryGo value (.ref l) r = pure () := by intro _; with_unfolding_all rfl) :
    wpAny (model prog w) A (subscriptTail value slice (.ref l) (.int (k : Int) u)) Q E s :=
  subscriptTail_builtin hl.typeIs slot_list_getitem.lookup (out_raises hA hl (by simpa using hx) hfit hE) hs ht
end
/-- an int with its token -/
abbrev IT := Int × Tok
abbrev valI (p : IT) : Value := .int p.1 p.2
abbrev intO (xs : List IT) (n : Nat) : Obj := listOf (xs.map valI).toArray n
/-- sorted_list_difference, of lists without doubles -/
def sldP : List IT → List IT → List IT × List IT
  | [], ys => ([], ys)
  | x :: xs, [] => (x :: xs, [])
  | x :: xs, y :: ys => if x.1 < y.1 then (x :: (sldP xs (y :: ys)).1, (sldP xs (y :: ys)).2)
    else if y.1 < x.1 then ((sldP (x :: xs) ys).1, y :: (sldP (x :: xs) ys).2) else sldP xs ys
termination_by xs ys => xs.length + ys.length
theorem sldP_nil_left (ys : List IT) : sldP [] ys = ([], ys) := by rw [sldP]
theorem sldP_nil_right (xs : List IT) : sldP xs [] = (xs, []) := by cases xs <;> rw [sldP]
end
section
open PySem PySem.W PyProof.Rows PySem.Calls PySem.Spec
set_option maxRecDepth 100000
section
variable {prog : Program} {w : World} {p : Program} {loose : List Str} {mg mb : Str → Option Value} {lx ly : Addr} {news : News'} {xs ys : List IT} {nx ny : Nat}

set_option maxHeartbeats 4000000 in
theorem sld_calls (hx : (lx, intO xs nx) ∈ news) (hy : (ly, intO ys ny) ∈ news) (sx : xs.Pairwise fun p q => p.1 < q.1) (sy : ys.Pairwise fun p q => p.1 < q.1) (hxl : xs.length < 400) (hyl : ys.length < 400)
    {A : Around} {h₀ : Heap} {L : Addr} {m₀ : Str → Option Value} {s : Shared} {envc : Env} {Q E : Value → Shared → Prop} (hh : A.handled = none) (hfr : A.frames = some [envc]) (hfc : envc.frame = some L) (hkc : envc.scope.kind = .function)
    (hroom : A.depth < recursionLimit) (G₀ : Gl (hd.heap_39 w.params) p loose mg mb h₀) (F₀ : Fr h₀ L s.heap m₀) (N₀ : News h₀ L s.heap news)
    (hret : ∀ r news' h' tk', Fr h₀ L h' m₀ → News h₀ L h' news' → (∃ T Dm Du kt km ku, r = .ref T ∧ (∀ p ∈ news, p.1 ≠ T) ∧ (∀ p ∈ news, p.1 ≠ Dm) ∧ (∀ p ∈ news, p.1 ≠ Du) ∧ Dm ≠ Du ∧ T ≠ Dm ∧ T ≠ Du ∧
      news' = (T, { cls := .type "tuple", data := .seq #[.ref Dm, .ref Du] kt }) :: (Dm, intO (sldP xs ys).1 km) :: (Du, intO (sldP xs ys).2 ku) :: news) → Q r { s with heap := h', toks := tk' }) :
    wpAny (model prog w) A (call (.ref 97) [.ref lx, .ref ly]) Q E s := by
  refine call_top (Post := fun news' r => ∃ T Dm Du kt km ku, r = .ref T ∧ (∀ p ∈ news, p.1 ≠ T) ∧ (∀ p ∈ news, p.1 ≠ Dm) ∧ (∀ p ∈ news, p.1 ≠ Du) ∧ Dm ≠ Du ∧ T ≠ Dm ∧ T ≠ Du ∧
      news' = (T, { cls := .type "tuple", data := .seq #[.ref Dm, .ref Du] kt }) :: (Dm, intO (sldP xs ys).1 km) :: (Du, intO (sldP xs ys).2 ku) :: news)
    (binds := [(Str.ofString "expected", .ref lx), (Str.ofString "actual", .ref ly)]) rfl rfl (BindsTo.of_eq rfl) (locs rfl) rfl rfl rfl (by decide) hfr hroom G₀ F₀ N₀ ?_ hret
  intro A' g L' h₁ tk m oL hmm F N hoL hnL G hh2 hfr2 hu2
  have m1 : m (Str.ofString "expected") = some (.ref lx) := hmm _
  have m2 : m (Str.ofString "actual") = some (.ref ly) := hmm _
  rw [hh] at hh2
  clear hmm
  tb_rel
  refine wpAny_Assign_two ?_ (by tb_start) (by tb_start)
  repeat tb_rel
  refine wpAny_assign_Name (stN F N (fun h2 F2 N2 => ?_) (by kernel_rfl!) (by kernel_rfl!))
  refine wpAny_assign_Name (stN F2 N2 (fun h3 F3 N3 => ?_) (by kernel_rfl!) (by kernel_rfl!))
  repeat tb_rel
  refine newL_N F3 N3 (by simp) (fun Dm h4 hDm F4 N4 => ?_)
  refine stN F4 N4 (fun h5 F5 N5 => ?_) (by kernel_rfl!) (by kernel_rfl!)
  repeat tb_rel
  refine newL_N F5 N5 (by simp) (fun Du h6 hDu F6 N6 => ?_)
  refine stN F6 N6 (fun h7 F7 N7 => ?_) (by kernel_rfl!) (by kernel_rfl!)
  have hLm : Dm ≠ L := fun q => hDm _ (.head _) q.symm
  have hLu : Du ≠ L := fun q => hDu _ (.tail _ (.head _)) q.symm
  have hmu : Dm ≠ Du := hDu _ (.head _)
  have hnm : ∀ p ∈ news, p.1 ≠ Dm := fun p hp => hDm p (.tail _ hp)
  have hnu : ∀ p ∈ news, p.1 ≠ Du := fun p hp => hDu p (.tail _ (.tail _ hp))
  tb_rel
  refine wpAny_While (codeAny_whileLoop (fun k s₁ => ∃ i j ms us ti tj km ku oL₁ m' h' tk', s₁ = { s with heap := h', toks := tk' } ∧ k = (xs.length - i) + (ys.length - j) ∧ i ≤ xs.length ∧ j ≤ ys.length ∧ oL₁.data = oL.data ∧ Fr g L' h' m' ∧
    News g L' h' ((L, oL₁) :: (Dm, intO ms km) :: (Du, intO us ku) :: news) ∧ m' (Str.ofString "expected") = some (.ref lx) ∧ m' (Str.ofString "actual") = some (.ref ly) ∧ m' (Str.ofString "i") = some (.int (i : Nat) ti) ∧ m' (Str.ofString "j") = some (.int (j : Nat) tj) ∧
    m' (Str.ofString "missing") = some (.ref Dm) ∧ m' (Str.ofString "unexpected") = some (.ref Du) ∧ ms.length ≤ i ∧ us.length ≤ j ∧
    ms ++ (sldP (xs.drop i) (ys.drop j)).1 = (sldP xs ys).1 ∧ us ++ (sldP (xs.drop i) (ys.drop j)).2 = (sldP xs ys).2) ?turn (xs.length + ys.length)
    ⟨0, 0, [], [], _, _, 0, 0, oL, _, h7, _, rfl, rfl, Nat.zero_le _, Nat.zero_le _, rfl, F7, ?start, by tlg_ne, by tlg_ne, by tlg_ne, by tlg_ne, by tlg_ne, by tlg_ne, Nat.zero_le _, Nat.zero_le _, rfl, rfl⟩)
  case start =>
    refine news_sub N7 fun q hq => ?_
    rcases List.mem_cons.mp hq with rfl | hq
    · exact .tail _ (.tail _ (.head _))
    rcases List.mem_cons.mp hq with rfl | hq
    · exact .tail _ (.head _)
    rcases List.mem_cons.mp hq with rfl | hq
    · exact .head _
    · exact .tail _ (.tail _ (.tail _ hq))
  clear hDm hDu F7 N7 h7 F6 N6 h6 F5 N5 h5 F4 N4 h4 F3 N3 h3 F2 N2 h2 F N h₁ m1 m2 m tk
  rintro k s₁ ⟨i, j, ms, us, ti, tj, km, ku, oL₁, m', h', tk', rfl, rfl, hi, hj, hdL, F', N', e1, e2, e3, e4, e5, e6, hml, hul, hf1, hf2⟩
  repeat tb_rel
  refine try_named fun Eo hEo hpass => ?_
  have hLd : ∃ es n, oL₁.data = .dict es n := by rw [hdL]; exact hoL
  have caught : ∀ (i j : Nat) (ms us : List IT) (ti tj : Tok) (km ku : Nat) (oL₁ : Obj) (m' : Str → Option Value) (h : Heap) (tk : Nat) (e : Addr) (c : Prop), i ≤ xs.length → j ≤ ys.length → oL₁.data = oL.data → Arr c g L' h m' ((L, oL₁) :: (Dm, intO ms km) :: (Du, intO us ku) :: news) e →
      m' (Str.ofString "expected") = some (.ref lx) → m' (Str.ofString "actual") = some (.ref ly) → m' (Str.ofString "i") = some (.int (i : Nat) ti) → m' (Str.ofString "j") = some (.int (j : Nat) tj) → m' (Str.ofString "missing") = some (.ref Dm) → m' (Str.ofString "unexpected") = some (.ref Du) →
      ms.length ≤ i → us.length ≤ j → ms ++ (sldP (xs.drop i) (ys.drop j)).1 = (sldP xs ys).1 → us ++ (sldP (xs.drop i) (ys.drop j)).2 = (sldP xs ys).2 → (xs.drop i = [] ∨ ys.drop j = []) → Eo (.ref e) { s with heap := h, toks := tk } := by
    clear F' N' e1 e2 e3 e4 e5 e6 hml hul hf1 hf2 hi hj hdL hLd m' h' tk' ti tj ms us km ku oL₁
    intro i j ms us ti tj km ku oL₁ m' h tk e c hi hj hdL harr e1 e2 e3 e4 e5 e6 hml hul hf1 hf2 hend
    refine hEo _ _ (note_any hfr2 rfl hfc rfl hkc harr ?_ (by rw [hdL]; exact hoL) fun h2 oL₂ oe T oT a1 a2 a3 a4 a5 F2 N2 => ?_)
    · intro q hq
      rcases List.mem_cons.mp hq with rfl | hq
      · exact hLm
      rcases List.mem_cons.mp hq with rfl | hq
      · exact hLu
      · exact hnL q hq
    refine setFlight_N a2 a3 a4 F2 N2 fun h3 oT₃ hT₃ F3 N3 => ?_
    have hc3 := (N3 _ (.tail _ (.head _))).1
    refine wpAny_handleBy_builtin (X := "IndexError") (T := "IndexError") (b := true) (isSubtype_of_subB (by decide +kernel)) (isSubtype_of_subB (by decide +kernel)) (isSubtype_of_subB (by decide +kernel)) ?_
    refine never_any ?_
    refine nameE_B F3 G n_IndexError b_IndexError (by decide +kernel) ?_ (by kernel_rfl!) (by kernel_rfl!) (by kernel_rfl!) (by kernel_rfl!) (by decide +kernel)
    refine ⟨rfl, ⟨_, hc3, a2.1⟩, ite_tt ?_⟩
    refine setFlight_N a2 hT₃ a4 F3 N3 fun h4 oT₄ hT₄ F4 N4 => ?_
    refine never_any ?_
    have N5 := news_sub N4 (news₂ := (L, oL₂) :: (Dm, intO ms km) :: (Du, intO us ku) :: news) fun q hq => .tail _ (.tail _ hq)
    clear N4 N3 F3 F2 N2 harr
    have hlx : h4.IsList lx (xs.map valI).toArray := PySem.IsL.isList (n := nx) (N5 _ (.tail _ (.tail _ (.tail _ hx)))).1
    repeat tb_rel
    refine kl_method N5 (.tail _ (.head _)) PySem.F.slot_list_extend PySem.F.type_list_extend ?_
    repeat tb_rel
    refine slice_end (vs := xs.map valI) (ps := (xs.drop i).map valI) (by exact F4) (by exact N5) (by exact hlx) (by simp; omega) (.int _ _) .none (by rw [slicePick_from']; simp) (fun D5 h5 hD5 F5 N6 => ?_)
    repeat tb_rel
    have hD5L : D5 ≠ L := fun q => hD5 _ (.head _) q.symm
    have hD5m : D5 ≠ Dm := fun q => hD5 _ (.tail _ (.head _)) q.symm
    have hD5u : D5 ≠ Du := fun q => hD5 _ (.tail _ (.tail _ (.head _))) q.symm
    refine extend_N (vs := ms.map valI) (us := (xs.drop i).map valI) (n := km) (n2 := 0) (by exact F5) (by exact N6) (.tail _ (.tail _ (.head _))) (.head _) (by simp; omega) (fun h6 km' F6 N7 => ?_)
    have N8 : News g L' h6 ((L, oL₂) :: (Dm, intO (ms ++ xs.drop i) km') :: (Du, intO us ku) :: news) := by
      refine news_sub N7 fun q hq => ?_
      rw [put_cons_ne hD5m, put_cons_ne hLm.symm, put_cons_self (by
        intro q hq
        rcases List.mem_cons.mp hq with rfl | hq
        · exact hmu.symm
        · exact hnm q hq)]
      rw [show intO (ms ++ xs.drop i) km' = listOf (ms.map valI ++ (xs.drop i).map valI).toArray km' by simp [intO]] at hq
      exact .tail _ hq
    have hly : h6.IsList ly (ys.map valI).toArray := PySem.IsL.isList (n := ny) (N8 _ (.tail _ (.tail _ (.tail _ hy)))).1
    clear N7 N6 N5 F5 F4 hlx
    repeat tb_rel
    refine kl_method N8 (.tail _ (.tail _ (.head _))) PySem.F.slot_list_extend PySem.F.type_list_extend ?_
    repeat tb_rel
    refine slice_end (vs := ys.map valI) (ps := (ys.drop j).map valI) (by exact F6) (by exact N8) (by exact hly) (by simp; omega) (.int _ _) .none (by rw [slicePick_from']; simp) (fun D7 h7 hD7 F7 N9 => ?_)
    repeat tb_rel
    have hD7L : D7 ≠ L := fun q => hD7 _ (.head _) q.symm
    have hD7m : D7 ≠ Dm := fun q => hD7 _ (.tail _ (.head _)) q.symm
    have hD7u : D7 ≠ Du := fun q => hD7 _ (.tail _ (.tail _ (.head _))) q.symm
    refine extend_N (vs := us.map valI) (us := (ys.drop j).map valI) (n := ku) (n2 := 0) (by exact F7) (by exact N9) (.tail _ (.tail _ (.tail _ (.head _)))) (.head _) (by simp; omega) (fun h8 ku' F8 Na => ?_)
    have Nb : News g L' h8 ((L, oL₂) :: (Dm, intO (sldP xs ys).1 km') :: (Du, intO (sldP xs ys).2 ku') :: news) := by
      refine news_sub Na fun q hq => ?_
      rw [put_cons_ne hD7u, put_cons_ne hLu.symm, put_cons_ne hmu, put_cons_self hnu]
      have e1 : ms ++ xs.drop i = (sldP xs ys).1 := by
        rw [← hf1]
        rcases hend with h | h
        · rw [h, sldP_nil_left]
        · rw [h, sldP_nil_right]
      have e2 : us ++ ys.drop j = (sldP xs ys).2 := by
        rw [← hf2]
        rcases hend with h | h
        · rw [h, sldP_nil_left]
        · rw [h, sldP_nil_right]
      rw [← e1, ← e2, show intO (us ++ ys.drop j) ku' = listOf (us.map valI ++ (ys.drop j).map valI).toArray ku' by simp [intO]] at hq
      exact .tail _ hq
    clear Na N9 N8 F7 F6 hly
    repeat tb_rel
    refine newT_N F8 Nb (by simp) (fun Tt h9 hTt F9 Nc => ?_)
    refine ⟨h9, _, _, (Tt, _) :: (Dm, intO (sldP xs ys).1 km') :: (Du, intO (sldP xs ys).2 ku') :: news, oL₂, rfl, F9, news_sub Nc fun q hq => ?_, a1.trans hdL, fun q hq => ?_, Tt, Dm, Du, 0, km', ku', rfl, fun p hp => hTt p (.tail _ (.tail _ (.tail _ hp))), hnm, hnu, hmu, fun q => hTt _ (.tail _ (.head _)) q.symm, fun q => hTt _ (.tail _ (.tail _ (.head _))) q.symm, rfl⟩
    · rcases List.mem_cons.mp hq with rfl | hq
      · exact .tail _ (.head _)
      rcases List.mem_cons.mp hq with rfl | hq
      · exact .head _
      · exact .tail _ (.tail _ hq)
    · rcases List.mem_cons.mp hq with rfl | hq
      · exact fun q => hTt _ (.head _) q.symm
      rcases List.mem_cons.mp hq with rfl | hq
      · exact hLm
      rcases List.mem_cons.mp hq with rfl | hq
      · exact hLu
      · exact hnL q hq
  have hLk : ∀ ms us km ku, ∀ q ∈ (Dm, intO ms km) :: (Du, intO us ku) :: news, q.1 ≠ L := fun ms us km ku q hq => by
    rcases List.mem_cons.mp hq with rfl | hq
    · exact hLm
    rcases List.mem_cons.mp hq with rfl | hq
    · exact hLu
    · exact hnL q hq
  have lX : ∀ {h : Heap} {oL₁ : Obj} {ms us : List IT} {km ku : Nat}, News g L' h ((L, oL₁) :: (Dm, intO ms km) :: (Du, intO us ku) :: news) → h.IsList lx (xs.map valI).toArray := fun N => PySem.IsL.isList (n := nx) (N _ (.tail _ (.tail _ (.tail _ hx)))).1
  have lY : ∀ {h : Heap} {oL₁ : Obj} {ms us : List IT} {km ku : Nat}, News g L' h ((L, oL₁) :: (Dm, intO ms km) :: (Du, intO us ku) :: news) → h.IsList ly (ys.map valI).toArray := fun N => PySem.IsL.isList (n := ny) (N _ (.tail _ (.tail _ (.tail _ hy)))).1
  repeat tb_rel
  by_cases hix : i = xs.length
  · refine item_out (.inl hh2) (lX N') (by omega) (by simp; omega) (fun h8 tk8 e8 x8 => ?_)
    exact caught i j ms us ti tj km ku oL₁ m' h8 tk8 e8 _ hi hj hdL (arr_new F' N' x8) e1 e2 e3 e4 e5 e6 hml hul hf1 hf2 (.inl (by rw [hix]; exact List.drop_length))
  have hix : i < xs.length := by omega
  obtain ⟨x, hxi⟩ : ∃ x, xs[i]? = some x := ⟨xs[i], by simp [hix]⟩
  have hdx : xs.drop i = x :: xs.drop (i + 1) := by
    rw [List.drop_eq_getElem_cons hix]; congr 1
    rw [List.getElem?_eq_getElem hix] at hxi; exact Option.some.inj hxi
  refine item_at (lX N') (by omega) (x := valI x) (by simp [hxi]) ?_
  refine stN F' N' (fun h2 F2 N2 => ?_) (by kernel_rfl!) (by kernel_rfl!)
  repeat tb_rel
  by_cases hjy : j = ys.length
  · refine item_out (.inl hh2) (lY N2) (by omega) (by simp; omega) (fun h8 tk8 e8 x8 => ?_)
    exact caught i j ms us ti tj km ku oL₁ _ h8 tk8 e8 _ hi hj hdL (arr_new F2 N2 x8) (by tlg_ne) (by tlg_ne) (by tlg_ne) (by tlg_ne) (by tlg_ne) (by tlg_ne) hml hul hf1 hf2 (.inr (by rw [hjy]; exact List.drop_length))
  have hjy : j < ys.length := by omega
  obtain ⟨y, hyj⟩ : ∃ y, ys[j]? = some y := ⟨ys[j], by simp [hjy]⟩
  have hdy : ys.drop j = y :: ys.drop (j + 1) := by
    rw [List.drop_eq_getElem_cons hjy]; congr 1
    rw [List.getElem?_eq_getElem hjy] at hyj; exact Option.some.inj hyj
  refine item_at (lY N2) (by omega) (x := valI y) (by simp [hyj]) ?_
  refine stN F2 N2 (fun h3 F3 N3 => ?_) (by kernel_rfl!) (by kernel_rfl!)
  try dsimp only
  clear F2 N2 h2 F' N' h'
  rw [hdx, hdy, sldP] at hf1 hf2
  have hsx : ∀ x', xs[i + 1]? = some x' → (x'.1 == x.1) = false := fun x' h => by
    have hlt : i + 1 < xs.length := (List.getElem?_eq_some_iff.mp h).1
    have := List.pairwise_iff_getElem.mp sx i (i + 1) hix hlt (by omega)
    rw [List.getElem?_eq_getElem hlt] at h
    rw [List.getElem?_eq_getElem hix] at hxi
    cases h; cases hxi
    simp; omega
  have hsy : ∀ y', ys[j + 1]? = some y' → (y'.1 == y.1) = false := fun y' h => by
    have hlt : j + 1 < ys.length := (List.getElem?_eq_some_iff.mp h).1
    have := List.pairwise_iff_getElem.mp sy j (j + 1) hjy hlt (by omega)
    rw [List.getElem?_eq_getElem hlt] at h
    rw [List.getElem?_eq_getElem hjy] at hyj
    cases h; cases hyj
    simp; omega
  repeat tb_rel
  refine split_dec (fun hlt => ?_) (fun hlt => ?_)
  · rw [if_pos hlt] at hf1 hf2
    repeat tb_rel
    refine kl_method N3 (.tail _ (.head _)) PySem.F.slot_list_append PySem.F.type_list_append ?_
    repeat tb_rel
    refine append_N (vs := ms.map valI) (n := km) (by exact F3) (by exact N3) (.tail _ (.head _)) (by simp; omega) (fun h4 F4 N4 _ => ?_)
    have N5 : News g L' h4 ((L, oL₁) :: (Dm, intO (ms ++ [x]) (km + 1)) :: (Du, intO us ku) :: news) := by
      rw [put_cons_ne hLm.symm, put_cons_self (by
        intro q hq
        rcases List.mem_cons.mp hq with rfl | hq
        · exact hmu.symm
        · exact hnm q hq)] at N4
      rw [show intO (ms ++ [x]) (km + 1) = listOf (ms.map valI ++ [valI x]).toArray (km + 1) by simp [intO]]
      exact N4
    try dsimp only
    clear N4 N3 F3
    repeat tb_rel
    refine stN F4 N5 (fun h5 F5 N6 => ?_) (by kernel_rfl!) (by kernel_rfl!)
    repeat tb_rel
    refine while_once (hpass A' A' (SameStack.refl _)) ?_
    repeat tb_rel
    by_cases hie : i + 1 = xs.length
    · refine item_out (k := i + 1) (.inl hh2) (lX N6) (by omega) (by simp; omega) (fun h8 tk8 e8 x8 => ?_)
      exact caught (i + 1) j (ms ++ [x]) us _ tj (km + 1) ku oL₁ _ h8 tk8 e8 _ (by omega) hj hdL (arr_new F5 N6 x8) (by tlg_ne) (by tlg_ne) (by tlg_ne) (by tlg_ne) (by tlg_ne) (by tlg_ne) (by simp; omega) (by omega) (by rw [hdy, ← hf1]; simp) (by rw [hdy, ← hf2]) (.inl (by rw [hie]; exact List.drop_length))
    · obtain ⟨x', hx'⟩ : ∃ x', xs[i + 1]? = some x' := ⟨xs[i + 1]'(by omega), by simp⟩
      refine item_at (k := i + 1) (lX N6) (by omega) (x := valI x') (by simp [hx']) ?_
      repeat tb_rel
      refine ⟨hsx x' hx', ?_⟩
      repeat tb_rel
      exact ⟨(xs.length - (i + 1)) + (ys.length - j), by omega, i + 1, j, ms ++ [x], us, _, tj, km + 1, ku, oL₁, _, h5, _, rfl, rfl, by omega, hj, hdL, F5, N6, by tlg_ne, by tlg_ne, by tlg_ne, by tlg_ne, by tlg_ne, by tlg_ne, by simp; omega, by omega, by rw [hdy, ← hf1]; simp, by rw [hdy, ← hf2]⟩
  · rw [if_neg hlt] at hf1 hf2
    repeat tb_rel
    refine split_dec (fun hgt => ?_) (fun hgt => ?_)
    · rw [if_pos hgt] at hf1 hf2
      repeat tb_rel
      refine kl_method N3 (.tail _ (.tail _ (.head _))) PySem.F.slot_list_append PySem.F.type_list_append ?_
      repeat tb_rel
      refine append_N (vs := us.map valI) (n := ku) (by exact F3) (by exact N3) (.tail _ (.tail _ (.head _))) (by simp; omega) (fun h4 F4 N4 _ => ?_)
      have N5 : News g L' h4 ((L, oL₁) :: (Dm, intO ms km) :: (Du, intO (us ++ [y]) (ku + 1)) :: news) := by
        rw [put_cons_ne hLu.symm, put_cons_ne hmu, put_cons_self hnu] at N4
        rw [show intO (us ++ [y]) (ku + 1) = listOf (us.map valI ++ [valI y]).toArray (ku + 1) by simp [intO]]
        exact N4
      try dsimp only
      clear N4 N3 F3
      repeat tb_rel
      refine stN F4 N5 (fun h5 F5 N6 => ?_) (by kernel_rfl!) (by kernel_rfl!)
      repeat tb_rel
      refine while_once (hpass A' A' (SameStack.refl _)) ?_
      repeat tb_rel
      by_cases hje : j + 1 = ys.length
      · refine item_out (k := j + 1) (.inl hh2) (lY N6) (by omega) (by simp; omega) (fun h8 tk8 e8 x8 => ?_)
        exact caught i (j + 1) ms (us ++ [y]) ti _ km (ku + 1) oL₁ _ h8 tk8 e8 _ hi (by omega) hdL (arr_new F5 N6 x8) (by tlg_ne) (by tlg_ne) (by tlg_ne) (by tlg_ne) (by tlg_ne) (by tlg_ne) (by omega) (by simp; omega) (by rw [hdx, ← hf1]) (by rw [hdx, ← hf2]; simp) (.inr (by rw [hje]; exact List.drop_length))
      · obtain ⟨y', hy'⟩ : ∃ y', ys[j + 1]? = some y' := ⟨ys[j + 1]'(by omega), by simp⟩
        refine item_at (k := j + 1) (lY N6) (by omega) (x := valI y') (by simp [hy']) ?_
        repeat tb_rel
        refine ⟨hsy y' hy', ?_⟩
        repeat tb_rel
        exact ⟨(xs.length - i) + (ys.length - (j + 1)), by omega, i, j + 1, ms, us ++ [y], ti, _, km, ku + 1, oL₁, _, h5, _, rfl, rfl, hi, by omega, hdL, F5, N6, by tlg_ne, by tlg_ne, by tlg_ne, by tlg_ne, by tlg_ne, by tlg_ne, by omega, by simp; omega, by rw [hdx, ← hf1], by rw [hdx, ← hf2]; simp⟩
    · rw [if_neg hgt] at hf1 hf2
      repeat tb_rel
      refine stN F3 N3 (fun h4 F4 N4 => ?_) (by kernel_rfl!) (by kernel_rfl!)
      try dsimp only
      clear N3 F3
      tb_rel
      refine finally_named hpass fun Ef hEf hpassf => ?_
      repeat tb_rel
      refine while_once (hpassf A' A' (SameStack.refl _)) ?_
      repeat tb_rel
      by_cases hie : i + 1 = xs.length
      · refine item_out (k := i + 1) (.inl hh2) (lX N4) (by omega) (by simp; omega) (fun h8 tk8 e8 x8 => ?_)
        refine hEf _ _ (by intro q; cases q) ?_
        refine note_any hfr2 rfl hfc rfl hkc (arr_new F4 N4 x8) (hLk _ _ _ _) hLd fun h9 oL₂ oe T oT a1 a2 a3 a4 a5 F9 N9 => ?_
        refine note_any hfr2 rfl hfc rfl hkc ⟨a5, F9, .inr ⟨oe, T, oT, a2, a3, a4, N9⟩⟩ (hLk _ _ _ _) (by rw [a1]; exact hLd) fun ha oL₃ oe' T' oT' b1 b2 b3 b4 b5 Fa Na => ?_
        refine setFlight_N b2 b3 b4 Fa Na fun hb oTb hTb Fb Nb => ?_
        try dsimp only
        clear N9 F9 Na Fa N4 F4 x8
        have hce := (Nb _ (.tail _ (.head _))).1
        have hcT := (Nb _ (.head _)).1
        have Nb' := news_sub Nb (news₂ := (L, oL₃) :: (Dm, intO ms km) :: (Du, intO us ku) :: news) fun q hq => .tail _ (.tail _ hq)
        repeat tb_rel
        refine stN Fb Nb (fun hc Fc Nc => ?_) (by kernel_rfl!) (by kernel_rfl!)
        have hce := (Nc _ (.tail _ (.head _))).1
        have hcT := (Nc _ (.head _)).1
        have Nc' := news_sub Nc (news₂ := (L, oL₃) :: (Dm, intO ms km) :: (Du, intO us ku) :: news) fun q hq => .tail _ (.tail _ hq)
        repeat tb_rel
        refine while_once (hpass _ _ (SameStack.mark A' _)) ?_
        repeat tb_rel
        have hh3 : HandledOk (A'.mark (some (Value.ref e8))).in1 hc := by
          obtain ⟨_, vs, hv, _, hv2⟩ := b2
          exact .inr ⟨e8, oe', vs, rfl, hce, hv, hv2 hh2⟩
        by_cases hje : j + 1 = ys.length
        · refine item_out (k := j + 1) hh3 (lY Nc') (by omega) (by simp; omega) (fun hd tkd e9 x9 => ?_)
          exact caught (i + 1) (j + 1) ms us _ _ km ku oL₃ _ hd tkd e9 _ (by omega) (by omega) ((b1.trans a1).trans hdL) (arr_new Fc Nc' x9) (by tlg_ne) (by tlg_ne) (by tlg_ne) (by tlg_ne) (by tlg_ne) (by tlg_ne) (by omega) (by omega) hf1 hf2 (.inl (by rw [hie]; exact List.drop_length))
        · obtain ⟨y', hy'⟩ : ∃ y', ys[j + 1]? = some y' := ⟨ys[j + 1]'(by omega), by simp⟩
          refine item_at (k := j + 1) (lY Nc') (by omega) (x := valI y') (by simp [hy']) ?_
          repeat tb_rel
          refine ⟨hsy y' hy', ?_⟩
          repeat tb_rel
          refine ⟨rfl, ?_⟩
          obtain ⟨ts, htd, h3⟩ := id hTb
          have hsz : 3 < ts.size := (Array.getElem?_eq_some_iff.mp h3).1
          refine passOn_noted rfl hce b2 hcT htd hsz ?_
          have hd₃ := Obj.data_mapFields htd (·.setIfInBounds 3 (rawInt L'))
          have e := put_fr Fc Nc (.head _) (Heap.SameBut.update hc T' (Obj.mapFields (·.setIfInBounds 3 (rawInt L')))) (Heap.get?_update_self _ hcT (Obj.isFreed_of_fields hd₃))
          rw [put_cons_self b4] at e
          exact caught (i + 1) (j + 1) ms us _ _ km ku oL₃ _ _ _ e8 _ (by omega) (by omega) ((b1.trans a1).trans hdL) ⟨b5, e.1, .inr ⟨oe', T', _, b2, ⟨_, hd₃, by simp [hsz]⟩, b4, e.2⟩⟩ (by tlg_ne) (by tlg_ne) (by tlg_ne) (by tlg_ne) (by tlg_ne) (by tlg_ne) (by omega) (by omega) hf1 hf2 (.inl (by rw [hie]; exact List.drop_length))
      · obtain ⟨x', hx'⟩ : ∃ x', xs[i + 1]? = some x' := ⟨xs[i + 1]'(by omega), by simp⟩
        refine item_at (k := i + 1) (lX N4) (by omega) (x := valI x') (by simp [hx']) ?_
        repeat tb_rel
        refine ⟨hsx x' hx', ?_⟩
        repeat tb_rel
        refine stN F4 N4 (fun hc Fc Nc => ?_) (by kernel_rfl!) (by kernel_rfl!)
        repeat tb_rel
        refine while_once (hpass _ _ (SameStack.refl A')) ?_
        repeat tb_rel
        by_cases hje : j + 1 = ys.length
        · refine item_out (k := j + 1) (.inl hh2) (lY Nc) (by omega) (by simp; omega) (fun hd tkd e9 x9 => ?_)
          exact caught (i + 1) (j + 1) ms us _ _ km ku oL₁ _ hd tkd e9 _ (by omega) (by omega) hdL (arr_new Fc Nc x9) (by tlg_ne) (by tlg_ne) (by tlg_ne) (by tlg_ne) (by tlg_ne) (by tlg_ne) (by omega) (by omega) hf1 hf2 (.inr (by rw [hje]; exact List.drop_length))
        · obtain ⟨y', hy'⟩ : ∃ y', ys[j + 1]? = some y' := ⟨ys[j + 1]'(by omega), by simp⟩
          refine item_at (k := j + 1) (lY Nc) (by omega) (x := valI y') (by simp [hy']) ?_
          repeat tb_rel
          refine ⟨hsy y' hy', ?_⟩
          repeat tb_rel
          refine ⟨rfl, ?_⟩
          repeat tb_rel
          exact ⟨(xs.length - (i + 1)) + (ys.length - (j + 1)), by omega, i + 1, j + 1, ms, us, _, _, km, ku, oL₁, _, hc, _, rfl, rfl, by omega, by omega, hdL, Fc, Nc, by tlg_ne, by tlg_ne, by tlg_ne, by tlg_ne, by tlg_ne, by tlg_ne, by omega, by omega, hf1, hf2⟩
end
end
section
open PySem PySem.W PyProof.Rows PySem.Calls PySem.Spec
set_option maxRecDepth 100000
/-- an iterator that gives len values -/
structure Walk (prog : Program) (w : World) (A : Around) (h₀ : Heap) (L it : Addr) (len : Nat) (V : Nat → Value → Prop) (P : Nat → Obj → Prop) (S : Heap → Prop) : Prop where
  next : ∀ (s : Shared) (m : Str → Option Value) (news : News') (o : Obj) (i : Nat) (Q : Option Value → Shared → Prop) (E : Value → Shared → Prop), P i o → Fr h₀ L s.heap m → News h₀ L s.heap ((it, o) :: news) → (∀ q ∈ news, q.1 ≠ it) → S s.heap → i < len →
    (∀ v h' tk' o', V i v → P (i + 1) o' → Fr h₀ L h' m → News h₀ L h' ((it, o') :: news) → Heap.SameBut it s.heap h' → Q (some v) { s with heap := h', toks := tk' }) → wpAny (model prog w) A (pyNext (.ref it)) Q E s
  stop : ∀ (s : Shared) (m : Str → Option Value) (news : News') (o : Obj) (i : Nat) (Q : Option Value → Shared → Prop) (E : Value → Shared → Prop), P i o → Fr h₀ L s.heap m → News h₀ L s.heap ((it, o) :: news) → (∀ q ∈ news, q.1 ≠ it) → S s.heap → len ≤ i →
    (∀ h', Fr h₀ L h' m → News h₀ L h' news → Heap.ExtBut it s.heap h' → Q none { s with heap := h' }) → wpAny (model prog w) A (pyNext (.ref it)) Q E s
section
variable {prog : Program} {w : World} {A : Around} {E : Value → Shared → Prop} {env : Env} {h₀ : Heap} {L it : Addr}
theorem walk_list {l : Addr} {vs : List Value} (hh : A.handled = none) : Walk prog w A h₀ L it vs.length (fun i v => vs[i]? = some v) (fun i o => LIt o l i) (fun h => h.IsList l vs.toArray) where
  next s m news o i Q E ho F N hne hl hi h := by
    refine next_list F N ho hne hl (x := vs[i]) (by simp [hi]) (fun h' o' ho' F' N' hs => ?_)
    exact h _ h' s.toks o' (by simp [hi]) ho' F' N' hs
  stop s m news o i Q E ho F N hne hl hi h := next_list_end hh F N ho hne hl (by simp [hi]) h
theorem walk_range {a len : Nat} (hh : A.handled = none) : Walk prog w A h₀ L it len (fun i v => ∃ t, v = .int ((a + i : Nat) : Int) t) (fun i o => o = rio ((a + i : Nat) : Int) ((len : Int) - i) 1) (fun _ => True) where
  next s m news o i Q E ho F N hne _ hi h := by
    subst ho
    refine wpAny_pyNext_range_item (N _ (.head _)).1 (by omega) fun h' hi hs => ?_
    have e := put_fr F N (.head _) hs hi
    rw [put_cons_self hne] at e
    exact h _ h' _ _ ⟨_, rfl⟩ (by rw [show ((a + (i + 1) : Nat) : Int) = ((a + i : Nat) : Int) + 1 by omega, show (len : Int) - ((i + 1 : Nat) : Int) = (len : Int) - i - 1 by omega]) e.1 e.2 hs
  stop s m news o i Q E ho F N hne _ hi h := by
    subst ho
    have z := N _ (.head _)
    refine wpAny_pyNext_range_end hh z.1 (by omega) fun h' hs => h h' ⟨F.ns.extBut hs (Ne.symm z.2.1), fun b o e => hs b o (fun q => ?_) (F.keep b o e), F.above⟩ (fun p hp => ⟨hs _ _ (hne p hp) (N p (.tail _ hp)).1, (N p (.tail _ hp)).2⟩) hs
    have := z.2.2
    rw [← q, e] at this
    cases this
/-- one turn of a comprehension done -/
def Turned (s : Shared) (h₀ : Heap) (L C it R : Addr) (m : Str → Option Value) (oC o : Obj) (cur : List Value) (kr : Nat) (Nxt : News' → Prop) (s' : Shared) : Prop :=
  ∃ news₂ h₂ tk₂, s' = { s with heap := h₂, toks := tk₂ } ∧ Fr h₀ L h₂ m ∧ News h₀ L h₂ ((C, oC) :: (it, o) :: (R, listOf cur.toArray kr) :: news₂) ∧ (∀ q ∈ news₂, q.1 ≠ C ∧ q.1 ≠ it ∧ q.1 ≠ R) ∧ Nxt news₂
theorem Turned.intro {s : Shared} {h₀ : Heap} {L C it R : Addr} {m : Str → Option Value} {oC o : Obj} {cur : List Value} {kr : Nat} {Nxt : News' → Prop} {news₂ : News'} {h₂ : Heap} {tk₂ : Nat} (F : Fr h₀ L h₂ m)
    (N : News h₀ L h₂ ((C, oC) :: (it, o) :: (R, listOf cur.toArray kr) :: news₂)) (hq : ∀ q ∈ news₂, q.1 ≠ C ∧ q.1 ≠ it ∧ q.1 ≠ R) (hn : Nxt news₂) : Turned s h₀ L C it R m oC o cur kr Nxt { s with heap := h₂, toks := tk₂ } := ⟨news₂, h₂, tk₂, rfl, F, N, hq, hn⟩
/-- a comprehension over an iterator -/
theorem comp_over {elt iter : Expr} {x : Str} {px : Pos} {ifs : List Expr} {scope : Scope} {cl : List (Str × Addr)} {pos : Pos} {use : Option (Value → Sem Unit)} {Q : Value → Shared → Prop} {s : Shared} {m : Str → Option Value} {news : News'} {o : Obj}
    {len : Nat} {V : Nat → Value → Prop} {P : Nat → Obj → Prop} {S : Heap → Prop} (Wk : Walk prog w A h₀ L it len V P S) (hP : P 0 o) (F : Fr h₀ L s.heap m) (N : News h₀ L s.heap ((it, o) :: news)) (hne : ∀ q ∈ news, q.1 ≠ it)
    (hself : ∀ (s : Shared) (Q' : Value → Shared → Prop) (E' : Value → Shared → Prop), s.heap.get? it = some o → Q' (.ref it) s → wpAny (model prog w) A (pyIter (.ref it)) Q' E' s)
    (Inv : Nat → List Value → News' → Prop) (h0 : Inv 0 [] news) (hS : ∀ i out news' h', Inv i out news' → News h₀ L h' news' → S h') (hol : ∀ i out news', Inv i out news' → out.length ≤ i) (hsz : len < 900)
    (hkc : ∀ C, (compEnvC scope cl C env).scope.kind = .function) (hxc : ∀ C, (compEnvC scope cl C env).kindOf x = some .local)
    (turn : ∀ R C i out news' o oC kr mc h tk v (E' : Value → Shared → Prop), Inv i out news' → i < len → V i v → Fr h₀ L h m → News h₀ L h ((C, oC) :: (it, o) :: (R, listOf out.toArray kr) :: news') → Cm h₀ L C h mc → mc x = some v → (∀ q ∈ news', q.1 ≠ C ∧ q.1 ≠ it ∧ q.1 ≠ R) →
      wpAny (model prog w) A (forIn ifs true fun c r => if r = true then do let ok ← isTrue c (compEnvC scope cl C env) (eval c (compEnvC scope cl C env)); pure (ForInStep.yield ok) else pure (ForInStep.yield r))
        (fun ok s₃ => if ok = true then wpAny (model prog w) A (eval elt (compEnvC scope cl C env)) (fun y s₄ => Turned s h₀ L C it R m oC o out kr (Inv (i + 1) (out ++ [y])) s₄) E' s₃ else Turned s h₀ L C it R m oC o out kr (Inv (i + 1) out) s₃) E' { s with heap := h, toks := tk })
    (hend : ∀ R C out kr news' mc h' tk', Inv len out news' → Fr h₀ L h' m → News h₀ L h' ((R, listOf out.toArray kr) :: news') → Cm h₀ L C h' mc → (∀ q ∈ news', q.1 ≠ C ∧ q.1 ≠ R) → R ≠ C →
      compPost (model prog w) A E use Q (.ref R) C (.ok .next) { s with heap := h', toks := tk' }) :
    CompGo prog w A E env h₀ L elt (.Name x px) iter ifs scope cl pos use Q (.ref it) s := by
  refine CompGo.intro F N (.head _) hself (fun R C h6 tk6 hR hC hRC F6 N6 c6 => ?_)
  have hRit : R ≠ it := fun e => hR _ (.head _) e.symm
  have hCit : C ≠ it := fun e => hC _ (.head _) e.symm
  have hst : News h₀ L h6 ((it, o) :: (R, listOf ([] : List Value).toArray 0) :: news) := by
    refine news_sub N6 fun q hq => ?_
    rcases List.mem_cons.mp hq with rfl | hq
    · exact .tail _ (.head _)
    rcases List.mem_cons.mp hq with rfl | hq
    · exact .head _
    · exact .tail _ (.tail _ hq)
  refine codeAny_compLoop_tests (fun q s₁ => ∃ i o' out kr news' mc h' tk', s₁ = { s with heap := h', toks := tk' } ∧ q = len - i ∧ i ≤ len ∧ P i o' ∧ Inv i out news' ∧ Fr h₀ L h' m ∧ News h₀ L h' ((it, o') :: (R, listOf out.toArray kr) :: news') ∧ Cm h₀ L C h' mc ∧ (∀ q ∈ news', q.1 ≠ C ∧ q.1 ≠ it ∧ q.1 ≠ R)) ?_ len
    ⟨0, o, [], 0, news, _, h6, tk6, rfl, rfl, Nat.zero_le _, hP, h0, F6, hst, c6, fun q hq => ⟨hC q (.tail _ hq), hne q hq, hR q (.tail _ hq)⟩⟩ (by intro _; rfl)
  rintro q s₁ ⟨i, o', out, kr, news', mc, h', tk', rfl, rfl, hi, hPi, hI, F', N', c', hap⟩
  have hne' : ∀ q ∈ (R, listOf out.toArray kr) :: news', q.1 ≠ it := by
    intro q hq
    rcases List.mem_cons.mp hq with rfl | hq
    · exact hRit
    · exact (hap q hq).2.1
  have hSS : S h' := hS i out news' h' hI (news_sub N' fun q hq => .tail _ (.tail _ hq))
  by_cases hlt : i < len
  · refine Wk.next { s with heap := h', toks := tk' } m _ o' i _ _ hPi F' N' hne' hSS hlt (fun v h7 tk7 o7 hV hP7 F7 N7 hs7 => ?_)
    have hap7 : ∀ q ∈ (it, o7) :: (R, listOf out.toArray kr) :: news', q.1 ≠ C := by
      intro q hq
      rcases List.mem_cons.mp hq with rfl | hq
      · exact Ne.symm hCit
      rcases List.mem_cons.mp hq with rfl | hq
      · exact hRC
      · exact (hap q hq).1
    refine wpAny_assign_Name (stC F7 N7 (c'.same hs7 hCit) hap7 rfl (fun h8 F8 N8 c8 => ?_) (hkc C) (hxc C))
    obtain ⟨oC, hoC, N9, kC⟩ := c8.on N8
    refine wpAny_mono (turn R C i out news' o7 oC kr _ h8 (tk7 + 1) v _ hI hlt hV F8 N9 c8 (if_pos rfl) hap) (fun ok s₃ h₃ => ?_) fun _ _ e => e
    cases ok with
    | false =>
      obtain ⟨news₂, h₂, tk₂, rfl, F₂, N₂, hq₂, hn₂⟩ := h₃
      exact ⟨len - (i + 1), by omega, i + 1, o7, out, kr, news₂, _, h₂, tk₂, rfl, rfl, hlt, hP7, hn₂, F₂, news_sub N₂ fun q hq => .tail _ hq, kC _ _ N₂ (.head _), hq₂⟩
    | true =>
      refine wpAny_mono h₃ (fun y s₄ h₄ => ?_) fun _ _ e => e
      obtain ⟨news₂, h₂, tk₂, rfl, F₂, N₂, hq₂, hn₂⟩ := h₄
      refine append_N F₂ N₂ (.tail _ (.tail _ (.head _))) (by have := hol _ _ _ hI; omega) (fun hb Fb Nb hsb => ?_)
      rw [put_cons_ne hRC.symm, put_cons_ne hRit.symm, put_cons_self (fun q hq => (hq₂ q hq).2.2)] at Nb
      exact ⟨len - (i + 1), by omega, i + 1, o7, out ++ [y], kr + 1, news₂, _, hb, tk₂, rfl, rfl, hlt, hP7, hn₂, Fb, news_sub Nb fun q hq => .tail _ hq, kC _ _ Nb (.head _), hq₂⟩
  · have : i = len := by omega
    subst this
    refine Wk.stop { s with heap := h', toks := tk' } m _ o' i _ _ hPi F' N' hne' hSS (Nat.le_refl _) (fun h7 F7 N7 hx => ?_)
    exact hend R C out kr news' mc h7 tk' hI F7 N7 (c'.ext hx hCit) (fun q hq => ⟨(hap q hq).1, (hap q hq).2.2⟩) hRC
/-- ends -/
theorem comp_end' {s : Shared} {h' : Heap} {C R : Addr} {m' mc : Str → Option Value} {news' : News'} {tk : Nat} {f : Flow} {Q : Value → Shared → Prop} {oR : Obj} (F : Fr h₀ L h' m') (N : News h₀ L h' ((R, oR) :: news')) (c : Cm h₀ L C h' mc) (hC : ∀ p ∈ news', p.1 ≠ C ∧ p.1 ≠ R) (hRC : R ≠ C)
    (h : ∀ h'', Fr h₀ L h'' m' → News h₀ L h'' ((R, oR) :: news') → Q (.ref R) { s with heap := h'', toks := tk }) : compPost (model prog w) A E none Q (.ref R) C (.ok f) { s with heap := h', toks := tk } :=
  comp_end F N c (by
    intro p hp
    rcases List.mem_cons.mp hp with rfl | hp
    · exact hRC
    · exact (hC p hp).1) h
theorem comp_end_use {s : Shared} {h' : Heap} {C R : Addr} {m' mc : Str → Option Value} {news' : News'} {tk : Nat} {f : Flow} {Q : Value → Shared → Prop} {oR : Obj} {y : Str} {py : Pos} (F : Fr h₀ L h' m') (N : News h₀ L h' ((R, oR) :: news')) (c : Cm h₀ L C h' mc) (hC : ∀ p ∈ news', p.1 ≠ C ∧ p.1 ≠ R) (hRC : R ≠ C)
    (hL : env.locals = L) (hk : env.scope.kind = .function) (hl : env.kindOf y = some .local)
    (h : ∀ h'', Fr h₀ L h'' (fun z => if z = y then some (.ref R) else m' z) → News h₀ L h'' ((R, oR) :: news') → Q .none { s with heap := h'', toks := tk + 1 }) : compPost (model prog w) A E (some (assign (.Name y py) env)) Q (.ref R) C (.ok f) { s with heap := h', toks := tk } := by
  show wpAny _ _ (assign (.Name y py) env (.ref R)) _ _ _
  refine wpAny_assign_Name (stE F N hL (fun h1 F1 N1 hs1 => ?_) hk hl)
  refine ⟨mc, (c.same hs1 c.ne).ns, fun h'' hs => ?_⟩
  have e := ns_fr F1 N1 hs c.ne c.new (by
    intro p hp
    rcases List.mem_cons.mp hp with rfl | hp
    · exact hRC
    · exact (hC p hp).1)
  exact h h'' e.1 e.2
theorem tests_nil {env : Env} {s : Shared} {Q : Bool → Shared → Prop} (h : Q true s) :
    wpAny (model prog w) A (forIn ([] : List Expr) true fun c r => if r = true then do let ok ← isTrue c env (eval c env); pure (ForInStep.yield ok) else pure (ForInStep.yield r)) Q E s :=
  wpAny_tests_nil h
end
end
section
open PySem PySem.W PyProof.Rows PySem.Calls PySem.Spec
set_option maxRecDepth 100000
/-- what the one list has beyond the other -/
def beyondL (xs ys : List IT) : List IT := xs.filter fun p => !(ys.any fun q => q.1 == p.1)
def isI (k : Int) (v : Value) : Bool := match v with | .int a _ => a == k | _ => false
theorem any_valI (ys : List IT) (k : Int) : (ys.map valI).toArray.any (isI k) = ys.any fun q => q.1 == k := by
  simp [List.any_map]
  rfl
theorem eq_valI (ys : List IT) (k : Int) (t : Tok) : ∀ y, y ∈ (ys.map valI).toArray → MeetsSeq.EqGives y (.int k t) (isI k y) := by
  intro y hy
  simp at hy
  obtain ⟨a, b, _, rfl⟩ := hy
  exact MeetsSeq.EqGives.int _ _ _ _
theorem take_filter {α : Type} (f : α → Bool) {xs : List α} {i : Nat} {x : α} (h : xs[i]? = some x) : (xs.take (i + 1)).filter f = (xs.take i).filter f ++ if f x then [x] else [] := by
  rw [List.take_add_one, h, List.filter_append]
  cases hf : f x <;> simp [hf]
section
variable {prog : Program} {w : World} {p : Program} {loose : List Str} {mg mb : Str → Option Value} {lx ly : Addr} {news : News'} {xs ys : List IT} {nx ny : Nat}
theorem beyond_calls (hx : (lx, intO xs nx) ∈ news) (hy : (ly, intO ys ny) ∈ news) (hlen : xs.length < 900) :
    Calls prog w (hd.heap_39 w.params) p loose mg mb 107 (0 + 1) (0 + 3) [.ref lx, .ref ly] news (fun news' v => ∃ D k, v = .ref D ∧ (∀ p ∈ news, p.1 ≠ D) ∧ news' = (D, intO (beyondL xs ys) k) :: news) := by
  refine Calls.byC (binds := [(Str.ofString "these", .ref lx), (Str.ofString "those", .ref ly)]) rfl rfl (fun s => BindsTo.of_eq rfl) rfl (by decide) rfl rfl rfl ?_
  intro A g L' h₁ s tk m cells hmm F N Y hlt C
  have m1 : m (Str.ofString "these") = some (.ref lx) := hmm _
  clear hmm
  obtain ⟨oc, rfl, hoc⟩ := CellsAre.one Y
  have hoc : oc.data = .cell (some (.ref ly)) := hoc
  clear Y
  rw [List.singleton_append] at N
  have hlx : (lx, intO xs nx) ∈ (L' + 1, oc) :: news := .tail _ hx
  repeat tb_rel
  refine ListComp_N g L' (by tb_start) (by decide) (by tb_start) (by decide) (by intro _; tb_start) ?_
  repeat tb_rel
  refine iter_list_N F N (PySem.IsL.isList (n := nx) (N _ hlx).1) (fun it o h5 ho hit F5 N5 hk5 => ?_)
  refine comp_over (walk_list (l := lx) (vs := xs.map valI) C.hh) ho F5 N5 hit (list_self ho) (fun i out news' => out = ((xs.take i).filter fun p => !(ys.any fun q => q.1 == p.1)).map valI ∧ news' = (L' + 1, oc) :: news) ⟨by simp, rfl⟩
    (by rintro i out _ h' ⟨_, rfl⟩ N'; exact PySem.IsL.isList (n := nx) (N' _ hlx).1) (by rintro i out _ ⟨rfl, _⟩; rw [List.length_map]; exact Nat.le_trans (List.length_filter_le _ _) (by simp; omega)) (by simpa using hlen)
    (by intro _; kernel_rfl!) (by intro _; kernel_rfl!) ?turn ?fin
  case fin =>
    rintro R C' out kr _ mc h' tk' ⟨rfl, rfl⟩ F' N' c' hq hRC
    refine comp_end' F' N' c' hq hRC (fun h'' F'' N'' => ?_)
    refine Done.intro F'' (news_sub N'' (news₂ := (R, intO (beyondL xs ys) kr) :: news) fun q hq => ?_) ⟨R, kr, rfl, fun q hq' => (hq q (.tail _ hq')).2, rfl⟩
    rcases List.mem_cons.mp hq with rfl | hq
    · simp only [List.length_map, List.take_length]
      exact .head _
    · exact .tail _ (.tail _ hq)
  case turn =>
    clear F5 N5 hk5 hit F N
    rintro R C' i out _ o oC kr mc h tk v E' ⟨rfl, rfl⟩ hi hv F' N' c' hmx hq
    rw [List.getElem?_map, Option.map_eq_some_iff] at hv
    obtain ⟨⟨a, t⟩, hv, rfl⟩ := hv
    have hc9 : (L' + 1, oc) ∈ (C', oC) :: (it, o) :: (R, listOf (((xs.take i).filter fun p => !(ys.any fun q => q.1 == p.1)).map valI).toArray kr) :: (L' + 1, oc) :: news := .tail _ (.tail _ (.tail _ (.head _)))
    refine wpAny_tests_one ?_
    repeat tb_rel
    refine PySem.SeqRoads2.notIn_list (isI a) (eq_valI ys a t) (N' _ (.tail _ (.tail _ (.tail _ (.tail _ hy))))).1 ?_
    rw [any_valI]
    repeat tb_rel
    rw [take_filter _ hv]
    by_cases hf : (ys.any fun q => q.1 == a) = true
    · simp only [hf]
      show Turned _ _ _ _ _ _ _ _ _ _ _ _ _
      exact Turned.intro F' N' hq ⟨by simp, rfl⟩
    · rw [Bool.not_eq_true] at hf
      simp only [hf]
      repeat tb_rel
      exact Turned.intro F' N' hq ⟨by simp, rfl⟩
end
end
section
open PySem PySem.W PyProof.Rows PySem.Calls PySem.Spec
set_option maxRecDepth 100000
theorem kind_fsum : builtinKind "math.fsum" = none := by decide +kernel
theorem plain_fsum : plainId "math.fsum" = true := by decide +kernel
theorem entry_fsum : entryFor table "math.fsum" = some Builtin.«math.fsum» := entryFor_of_fast (by kernel_rfl)
theorem args_fsum (a : Value) : argsOk "math.fsum" ⟨[a], []⟩ := by unfold argsOk; kernel_rfl
theorem plain_fsumL : plainId "math.fsum.loop" = true := by decide +kernel
theorem entry_fsumL : entryFor table "math.fsum.loop" = some Builtin.«math.fsum.loop» := entryFor_of_fast (by kernel_rfl)
def bitOf (v : Value) : UInt64 := match v with | .int i _ => i.toNat.toUInt64 | _ => 0
theorem fsum_eq (v : Value) : Builtin.«math.fsum» ⟨[v], []⟩ = (pyIter v >>= fun it => newTuple [] >>= fun P => newTuple [rawInt (Float64.zero false).toNat, rawInt (Float64.zero false).toNat] >>= fun S => again (.builtin "math.fsum.loop" ⟨[it, P, S], []⟩)) := by
  rfl
def sumI (xs : List IT) : Int := (xs.map (·.1)).sum
theorem sumI_take {xs : List IT} {i : Nat} {p : IT} (h : xs[i]? = some p) : sumI (xs.take (i + 1)) = sumI (xs.take i) + p.1 := by
  unfold sumI
  rw [List.take_add_one, h]
  simp
def tupB (ps : List UInt64) : Obj := { cls := .type "tuple", data := .seq (ps.map fun x => rawInt x.toNat).toArray }
theorem bit_back (c : UInt64) : bitOf (rawInt c.toNat) = c := by
  show ((c.toNat : Int)).toNat.toUInt64 = c
  simp
theorem bits_back (ps : List UInt64) : (((some (ps.map fun x => rawInt x.toNat).toArray).getD #[]).toList.map bitOf) = ps := by
  simp only [Option.getD_some, List.map_map]
  have : (bitOf ∘ fun x : UInt64 => rawInt x.toNat) = id := by funext c; exact bit_back c
  rw [this, List.map_id]
section
variable {M : Model} {A : Around} {E : Value → Shared → Prop} {s : Shared} {ps : List UInt64} {it : Value} {P S : Addr} {oP oS : Obj} {kP kS : Nat}
theorem unpack_wp {Q : List UInt64 → Shared → Prop} (hP : s.heap.get? P = some oP) (hd : oP.data = .seq (ps.map fun x => rawInt x.toNat).toArray kP) (h : Q ps s) : wpAny M A (seqItems? (.ref P) >>= fun a => pure ((a.getD #[]).toList.map bitOf)) Q E s := by
  refine wpAny_bind (wpAny_seqItems hP hd (wpAny_pure ?_))
  rw [bits_back]
  exact h
/-- one turn of fsum's loop, at a number that stays finite -/
theorem fs_turn {sp inf : UInt64} {Q : Fin → Shared → Prop} (hP : s.heap.get? P = some oP) (hd : oP.data = .seq (ps.map fun x => rawInt x.toNat).toArray kP) (hS : s.heap.get? S = some oS) (hdS : oS.data = .seq ([sp, inf].map fun x => rawInt x.toNat).toArray kS)
    (h : wpAny M A (pyNext it) (fun r s₁ => ∃ item, r = some item ∧ wpAny M A (Builtin.Math.realArg item) (fun x s₂ => Float64.isFinite (Float64.fsumAdd ps x).2 = true ∧
      wpAny M A (newTuple ((if Float64.isZero (Float64.fsumAdd ps x).2 then (Float64.fsumAdd ps x).1 else (Float64.fsumAdd ps x).1 ++ [(Float64.fsumAdd ps x).2]).map fun x => rawInt x.toNat)) (fun T s₃ => Q (.again (.builtin "math.fsum.loop" ⟨[it, T, .ref S], []⟩)) s₃) E s₂) E s₁) E s) :
    wpAny M A (Builtin.«math.fsum.loop» ⟨[it, .ref P, .ref S], []⟩) Q E s := by
  unfold Builtin.«math.fsum.loop»
  refine wpAny_bind (unpack_wp hP hd ?_)
  refine wpAny_bind (unpack_wp hS hdS ?_)
  show wpAny M A (pyNext it >>= _) Q E s
  refine wpAny_bind (wpAny_mono h (fun r s₁ h₁ => ?_) fun _ _ e => e)
  obtain ⟨item, rfl, h₂⟩ := h₁
  refine wpAny_bind (wpAny_holding (wpAny_mono h₂ (fun x s₂ h₃ => ?_) fun _ _ e => e))
  simp only [h₃.1, if_true]
  exact wpAny_bind (wpAny_mono h₃.2 (fun T s₃ h => wpAny_pure h) fun _ _ e => e)
/-- its end -/
theorem fs_fin {sp inf : UInt64} {Q : Fin → Shared → Prop} (hP : s.heap.get? P = some oP) (hd : oP.data = .seq (ps.map fun x => rawInt x.toNat).toArray kP) (hS : s.heap.get? S = some oS) (hdS : oS.data = .seq ([sp, inf].map fun x => rawInt x.toNat).toArray kS) (hz : Float64.isZero sp = true)
    (h : wpAny M A (pyNext it) (fun r s₁ => r = none ∧ Q (.done (.ret (.float (Float64.fsumEnd ps) s₁.toks))) { s₁ with toks := s₁.toks + 1 }) E s) :
    wpAny M A (Builtin.«math.fsum.loop» ⟨[it, .ref P, .ref S], []⟩) Q E s := by
  unfold Builtin.«math.fsum.loop»
  refine wpAny_bind (unpack_wp hP hd ?_)
  refine wpAny_bind (unpack_wp hS hdS ?_)
  show wpAny M A (pyNext it >>= _) Q E s
  refine wpAny_bind (wpAny_mono h (fun r s₁ h₁ => ?_) fun _ _ e => e)
  obtain ⟨rfl, h₂⟩ := h₁
  simp only [hz, Bool.not_true, Bool.false_eq_true, if_false]
  show wpAny M A (mkFloat (Float64.fsumEnd ps) >>= fun v => ret v) Q E s₁
  exact wpAny_bind (PySem.Flt.wp_mkFloat (wpAny_pure h₂))
end
section
variable {prog : Program} {w : World} {A : Around} {E : Value → Shared → Prop} {h₀ : Heap} {L : Addr} {m : Str → Option Value} {news : News'}
theorem realArg_wh {n : Int} {t : Tok} {s : Shared} {Q : UInt64 → Shared → Prop} (hA : A.handled = none) (hn : Sm n) (h : ∀ x tk, Wh x n → Q x { s with toks := tk }) : wpAny (model prog w) A (Builtin.Math.realArg (.int n t)) Q E s := by
  have hw := wh_ofInt hn
  refine PySem.Flt.realArg_int hA (fun c => ?_) (fun _ => h _ _ hw)
  have := PySem.Flt.inf_of_over c
  rw [wh_not_inf hw] at this
  cases this
theorem fsum_loop {l it S : Addr} {xs : List IT} {n : Nat} {Q : Value → Shared → Prop} (hh : A.handled = none) (hl : (l, intO xs n) ∈ news) (hb : ∀ i, i ≤ xs.length → Sm (sumI (xs.take i))) (hx : ∀ p ∈ xs, Sm p.1) (s₀ : Shared) (hit : ∀ q ∈ news, q.1 ≠ it)  (hSit : S ≠ it)
    (hq : ∀ x h' tk t, Wh x (sumI xs) → Fr h₀ L h' m → News h₀ L h' news → Q (.float x t) { s₀ with heap := h', toks := tk }) :
    ∀ (k i : Nat) (o : Obj) (P : Addr) (ps : List UInt64) (h : Heap) (tk : Nat), xs.length - i = k → i ≤ xs.length → LIt o l i → P ≠ it → FS ps (sumI (xs.take i)) → Fr h₀ L h m → News h₀ L h ((it, o) :: (P, tupB ps) :: (S, tupB [Float64.zero false, Float64.zero false]) :: news) →
      codeAny (model prog w) A (.builtin "math.fsum.loop" ⟨[.ref it, .ref P, .ref S], []⟩) (fun r s' => match r with | .ok (.ret v) => Q v s' | .ok _ => False | .error e => E e s') { s₀ with heap := h, toks := tk } := by
  intro k
  induction k with
  | zero =>
    intro i o P ps h tk hk hi ho hP hfs F N
    have hin : i = xs.length := by omega
    subst hin
    refine codeAny_builtin entry_fsumL ?_
    rw [Around.under_plainId plain_fsumL _]
    refine fs_fin (kP := 0) (kS := 0) (N _ (.tail _ (.head _))).1 rfl (N _ (.tail _ (.tail _ (.head _)))).1 rfl (wh_isZero (wh_zero false)) ?_
    refine (next_list_end (A := A.in1) (items := (xs.map valI).toArray) hh F N ho (by
      intro q hq
      rcases List.mem_cons.mp hq with rfl | hq
      · exact hP
      rcases List.mem_cons.mp hq with rfl | hq
      · exact hSit
      · exact hit q hq) (PySem.IsL.isList (n := n) (N _ (.tail _ (.tail _ (.tail _ hl)))).1) (by simp) (fun h2 F2 N2 _ => ?_))
    rw [List.take_length] at hfs
    exact ⟨rfl, hq _ _ _ _ (fs_end hfs) F2 (news_sub N2 fun q hq => .tail _ (.tail _ hq))⟩
  | succ k ih =>
    intro i o P ps h tk hk hi ho hP hfs F N
    have hlt : i < xs.length := by omega
    refine codeAny_builtin entry_fsumL ?_
    rw [Around.under_plainId plain_fsumL _]
    refine fs_turn (kP := 0) (kS := 0) (N _ (.tail _ (.head _))).1 rfl (N _ (.tail _ (.tail _ (.head _)))).1 rfl ?_
    refine (next_list (A := A.in1) (items := (xs.map valI).toArray) (x := valI xs[i]) F N ho (by
      intro q hq
      rcases List.mem_cons.mp hq with rfl | hq
      · exact hP
      rcases List.mem_cons.mp hq with rfl | hq
      · exact hSit
      · exact hit q hq) (PySem.IsL.isList (n := n) (N _ (.tail _ (.tail _ (.tail _ hl)))).1) (by simp [hlt]) (fun h2 o2 ho2 F2 N2 hs2 => ?_))
    refine ⟨_, rfl, realArg_wh hh (hx _ (List.getElem_mem hlt)) fun x tk2 hxw => ?_⟩
    have hst := sumI_take (List.getElem?_eq_getElem hlt)
    have hb1 := hb (i + 1) hlt
    rw [hst] at hb1
    have hadd := fs_add hfs hxw (hb i hi) (hx _ (List.getElem_mem hlt)) hb1
    rw [hadd.1]
    refine ⟨wh_fin hadd.2, ?_⟩
    have hnx := fs_next hadd.2
    generalize (if Float64.isZero (Float64.fsumAdd ps x).2 then [] else [] ++ [(Float64.fsumAdd ps x).2]) = ps2 at hnx ⊢
    have hp2 : (ps2.map fun x => rawInt x.toNat).length < 1000 := by
      rcases hnx with ⟨rfl, _⟩ | ⟨t, rfl, _⟩ <;> simp
    refine newT_N F2 N2 hp2 (fun P2 h3 hP2 F3 N3 => ?_)
    rw [← hst] at hnx
    refine ⟨plainId_quiet plain_fsumL _, ih (i + 1) o2 P2 ps2 h3 _ (by omega) hlt ho2 (fun e => hP2 _ (.head _) e.symm) hnx F3 (news_sub N3 fun q hq => ?_)⟩
    rcases List.mem_cons.mp hq with rfl | hq
    · exact .tail _ (.head _)
    rcases List.mem_cons.mp hq with rfl | hq
    · exact .head _
    · exact .tail _ (.tail _ (.tail _ hq))
theorem fsum_N {l : Addr} {xs : List IT} {n : Nat} {s : Shared} {Q : Value → Shared → Prop} (hh : A.handled = none) (F : Fr h₀ L s.heap m) (N : News h₀ L s.heap news) (hl : (l, intO xs n) ∈ news) (hb : ∀ i, i ≤ xs.length → Sm (sumI (xs.take i))) (hx : ∀ p ∈ xs, Sm p.1)
    (hq : ∀ x h' tk t, Wh x (sumI xs) → Fr h₀ L h' m → News h₀ L h' news → Q (.float x t) { s with heap := h', toks := tk }) : wpAny (model prog w) A (call (.builtin "math.fsum") [.ref l]) Q E s := by
  refine call_function_tree kind_fsum plain_fsum entry_fsum (args_fsum _) ?_
  rw [fsum_eq]
  refine wpAny_bind (iter_list_N F N (PySem.IsL.isList (n := n) (N _ hl).1) (fun it o h2 ho hit F2 N2 _ => ?_))
  refine wpAny_bind (newT_N F2 N2 (by decide) (fun P h3 hP F3 N3 => ?_))
  refine wpAny_bind (newT_N F3 N3 (by decide) (fun S h4 hS F4 N4 => ?_))
  refine wpAny_pure ⟨plainId_quiet plain_fsumL _, fsum_loop hh hl hb hx s hit (fun e => hS _ (.tail _ (.head _)) e.symm) hq xs.length 0 o P [] h4 s.toks (by omega) (Nat.zero_le _) ho (fun e => hP _ (.head _) e.symm) (.inl ⟨rfl, rfl⟩) F4 (news_sub N4 fun q hq => ?_)⟩
  rcases List.mem_cons.mp hq with rfl | hq
  · exact .tail _ (.tail _ (.head _))
  rcases List.mem_cons.mp hq with rfl | hq
  · exact .tail _ (.head _)
  rcases List.mem_cons.mp hq with rfl | hq
  · exact .head _
  · exact .tail _ (.tail _ (.tail _ hq))
end
end
section
open PySem PySem.W PyProof.Rows PySem.Calls PySem.Spec
set_option maxRecDepth 100000
section
variable {M : Model} {A : Around} {E : Value → Shared → Prop} {s : Shared}
theorem genCode_T {env : Env} {c P : Addr} {ps : Array Value} {pos : Pos} {q : Str} {scope : Scope} {Q : Value → Shared → Prop} (hc : env.code = .ref c) (CH : CodeHd s.heap c P) (hP : s.heap.get? P = some (tabObj ps)) (ht : TriplesOk ps.toList)
    (h : ∀ code h' tk ps', Heap.ExtBut P s.heap h' → h'.get? P = some (tabObj ps') → TriplesOk ps'.toList → Q code { s with heap := h', toks := tk }) : wpAny M A (genexprCode env pos q scope) Q E s := by
  cases hf : codeAmong pos ps.toList with
  | some cv => exact wpAny_genexprCode_hit hc (CH.code hP ht) hf (h cv s.heap s.toks ps (Heap.ExtBut.refl _ _) hP ht)
  | none =>
    refine wpAny_genexprCodeX hc (CH.code hP ht) (CH.tab hP) hf fun c' h' tk hx _ _ hcode _ htab _ => h _ h' tk _ hx htab.2 ?_
    obtain ⟨o, vs, file, tf, flags, tg, inF, text, tt, op, _, _, _, _, _, _, _, _, _, htr, _⟩ := hcode
    exact htr
end
theorem passing_all (n : Nat) : passing (fun _ => true) n 0 = List.range n := by
  unfold passing
  simp
section
variable {prog : Program} {w : World} {A : Around}
theorem gen_keep {a g C n j : Nat} {fp wr : List Addr} {F : Nat → Value → Prop} {pz : Nat → Bool} {s s' : Shared} (x : GenAt prog w A a g C fp wr pz n F j s) (hcs : cStatics ∈ fp) (hk : ∀ b ∈ a :: C :: fp, ∀ o, s.heap.get? b = some o → s'.heap.get? b = some o) (hg : s'.gens[g]? = s.gens[g]?) :
    GenAt prog w A a g C fp wr pz n F j s' :=
  ⟨let ⟨o, nm, qn, ho, r⟩ := x.1; ⟨o, nm, qn, hk a (List.mem_cons_self ..) o ho, r⟩,
   (let ⟨mc, hns, hnn⟩ := x.2.1; ⟨mc, hns.at' fun o e => hk cStatics (List.mem_cons_of_mem _ (List.mem_cons_of_mem _ hcs)) o e, hnn⟩),
   let ⟨gs, hgs, hgo⟩ := x.2.2; ⟨gs, hg.trans hgs, fun s'' hal => hgo s'' fun b hb o e => hal b hb o (hk b (List.mem_cons_of_mem _ hb) o e)⟩⟩
end
/-- a generator over a list, with what it reads -/
structure GenN (prog : Program) (w : World) (A : Around) (h₀ : Heap) (L : Addr) (a g C I l cc len : Nat) (Fv : Nat → Value → Prop) (j : Nat) (s : Shared) : Prop where
  gat : GenAt prog w A.in4 a g C [I, l, cc, cStatics] [I] (fun _ => true) len Fv j s
  aC : a ≠ C
  af : a ∉ [I, l, cc, cStatics]
  cC : @Ne Nat cStatics C
  cI : @Ne Nat cStatics I
  CL : @Ne Nat C L
  IL : @Ne Nat I L
  C0 : h₀.get? C = none
  I0 : h₀.get? I = none
section
variable {prog : Program} {w : World} {A : Around} {E : Value → Shared → Prop} {h₀ : Heap} {L a g C I l cc len j : Nat} {Fv : Nat → Value → Prop} {s : Shared} {m : Str → Option Value} {news : News'}
theorem GenN.walk (G : GenN prog w A h₀ L a g C I l cc len Fv j s) (hh : A.handled = none) (hroom : A.depth < recursionLimit) :
    WalksS prog w A.in1 a (a :: C :: [I, l, cc, cStatics]) (C :: [I]) (GenOnlyQ g) len (fun j y => Fv j y) (GenAt prog w A.in4 a g C [I, l, cc, cStatics] [I] (fun _ => true) len Fv) := by
  have W := (WalksS.genexpQ (prog := prog) (w := w) (A := A.in4) hh a g C [I, l, cc, cStatics] [I] (fun _ => true) len Fv G.aC G.af (by simp) hroom (by simp) G.cC (by simpa using G.cI)).in4_1
  rw [passing_all, List.length_range] at W
  refine ⟨W.sub, W.grefl, W.gtrans, W.frame, fun i s Q E hi st hQ => W.item i s Q E hi st fun v s' hv st' hm => hQ v s' ?_ st' hm, W.done, W.self⟩
  obtain ⟨k, hk, hF⟩ := hv
  rw [List.getElem?_range hi] at hk
  cases hk
  exact hF
theorem moved_fr {s' : Shared} {wr : List Addr} {R : Array GenState → Array GenState → Prop} (hm : Moved wr R s s') (hwL : ∀ b ∈ wr, b ≠ L) (hw0 : ∀ b ∈ wr, h₀.get? b = none) (hwn : ∀ b ∈ wr, ∀ p ∈ news, p.1 ≠ b) (F : Fr h₀ L s.heap m) (N : News h₀ L s.heap news) :
    Fr h₀ L s'.heap m ∧ News h₀ L s'.heap news := by
  refine ⟨⟨F.ns.at' fun o e => hm.heap _ o (fun q => hwL _ q rfl) e, fun b o e => hm.heap b o (fun q => ?_) (F.keep b o e), F.above⟩, fun p hp => ⟨hm.heap _ _ (fun q => hwn _ q p hp rfl) (N p hp).1, (N p hp).2⟩⟩
  rw [hw0 b q] at e
  cases e
theorem gen_next {Q : Option Value → Shared → Prop} (G : GenN prog w A h₀ L a g C I l cc len Fv j s) (hh : A.handled = none) (hroom : A.depth < recursionLimit) (hj : j < len) (hap : ∀ p ∈ news, p.1 ≠ C ∧ p.1 ≠ I) (F : Fr h₀ L s.heap m) (N : News h₀ L s.heap news)
    (h : ∀ v s', Fv j v → GenN prog w A h₀ L a g C I l cc len Fv (j + 1) s' → Fr h₀ L s'.heap m → News h₀ L s'.heap news → Moved [C, I] (GenOnlyQ g) s s' → Q (some v) s') : wpAny (model prog w) A.in1 (pyNext (.ref a)) Q E s := by
  refine (G.walk hh hroom).item j s Q E hj G.gat fun v s' hv st hm => ?_
  have e := moved_fr (h₀ := h₀) (L := L) hm (by simp [G.CL, G.IL]) (by simp [G.C0, G.I0]) (by
    intro b hb p hp
    simp at hb
    rcases hb with rfl | rfl
    · exact (hap p hp).1
    · exact (hap p hp).2) F N
  exact h v s' hv ⟨st, G.aC, G.af, G.cC, G.cI, G.CL, G.IL, G.C0, G.I0⟩ e.1 e.2 hm
theorem gen_stop {Q : Option Value → Shared → Prop} (G : GenN prog w A h₀ L a g C I l cc len Fv len s) (hh : A.handled = none) (hroom : A.depth < recursionLimit) (hap : ∀ p ∈ news, p.1 ≠ C ∧ p.1 ≠ I) (F : Fr h₀ L s.heap m) (N : News h₀ L s.heap news)
    (h : ∀ s', Fr h₀ L s'.heap m → News h₀ L s'.heap news → Moved [C, I] (GenOnlyQ g) s s' → Q none s') : wpAny (model prog w) A.in1 (pyNext (.ref a)) Q E s := by
  refine (G.walk hh hroom).done s Q E G.gat fun s' hm => ?_
  have e := moved_fr (h₀ := h₀) (L := L) hm (by simp [G.CL, G.IL]) (by simp [G.C0, G.I0]) (by
    intro b hb p hp
    simp at hb
    rcases hb with rfl | rfl
    · exact (hap p hp).1
    · exact (hap p hp).2) F N
  exact h s' e.1 e.2 hm
theorem GenN.keep {s' : Shared} (G : GenN prog w A h₀ L a g C I l cc len Fv j s) (hk : ∀ b ∈ a :: C :: [I, l, cc, cStatics], ∀ o, s.heap.get? b = some o → s'.heap.get? b = some o) (hg : s'.gens[g]? = s.gens[g]?) : GenN prog w A h₀ L a g C I l cc len Fv j s' :=
  ⟨gen_keep G.gat (by simp) hk hg, G.aC, G.af, G.cC, G.cI, G.CL, G.IL, G.C0, G.I0⟩
/-- a generator expression over a list of ints -/
theorem genexp_N {env : Env} {elt iter : Expr} {x : Str} {px : Pos} {scope : Scope} {cl : List (Str × Addr)} {pos : Pos} {Q : Value → Shared → Prop} {c P bm n : Nat} {mg : Str → Option Value} {ob oc : Obj} {ps : Array Value} {xs : List IT}
    (hh : A.handled = none) (hroom : A.depth < recursionLimit) (hco : scope.isCoroutine = false) (hclos : closureFor scope env = pure cl) (hcell : ∀ y ∈ scope.names, y.2 ≠ .cell) (h0 : scope.names.lookup (".0" : Str) = some NameKind.local)
    (hx : scope.names.lookup x = some .local) (hkind : scope.kind = .function) (hs : ∀ x, genFold iter env x = pure x) (hcode : env.code = .ref c) (CH : CodeHd h₀ c P) (BM : BMod h₀ env.globals mg bm ob) (NL : h₀.NoLimit) (hPs : P ≠ cStatics)
    (F : Fr h₀ L s.heap m) (N : News h₀ L s.heap news) (hP : (P, tabObj ps) ∈ news) (ht : TriplesOk ps.toList) (hit : ∀ (Q' : Value → Shared → Prop), Q' (.ref l) s → wpAny (model prog w) A (eval iter env) Q' E s)
    (hl : (l, intO xs n) ∈ news) (hcm : (cc, oc) ∈ news) (Fv : Nat → Value → Prop) (hlP : l ≠ P) (hcP : cc ≠ P)
    (helt : ∀ (A' : Around) (E' : Value → Shared → Prop) (Ca : Addr) (code : Value) (i : Nat) (p : IT) (s₂ : Shared) (m₂ : Str → Option Value), A'.handled = none → xs[i]? = some p → s₂.heap.Ns Ca m₂ → m₂ x = some (valI p) → s₂.heap.get? cc = some oc →
      wpAny (model prog w) A' (eval elt (genEnv scope cl Ca code builtinsNs env)) (fun y s₃ => Fv i y ∧ Keeps s₂ s₃) E' s₂)
    (h : ∀ a C I ps' h' tk gs, GenN prog w A h₀ L a s.gens.size C I l cc xs.length Fv 0 { s with heap := h', toks := tk, gens := s.gens.push gs } → gs.bare = true → TriplesOk ps'.toList → Fr h₀ L h' m → News h₀ L h' (put P (tabObj ps') news) → (∀ p ∈ news, p.1 ≠ C ∧ p.1 ≠ I ∧ p.1 ≠ a) → @LE.le Nat _ s.heap.objs.size I → @LT.lt Nat _ I C → @LT.lt Nat _ C a → @LT.lt Nat _ a h'.objs.size →
      Heap.ExtBut P s.heap h' → Q (.ref a) { s with heap := h', toks := tk, gens := s.gens.push gs }) :
    wpAny (model prog w) A (eval (.GeneratorExp elt [⟨.Name x px, iter, [], 0⟩] scope pos) env) Q E s := by
  have hPn := N _ hP
  have hll : s.heap.IsList l (xs.map valI).toArray := PySem.IsL.isList (n := n) (N _ hl).1
  refine wpAny_GeneratorExp_make hco hclos hcell h0 hkind hroom (hit _ ?_) hs
  refine wpAny_pyIter_list hll ?_
  dsimp only
  refine ⟨(NL.keeps F.keep).push _, ?_⟩
  generalize hI : s.heap.objs.size = I
  generalize hH : s.heap.push { cls := .type "list_iterator", data := .fields #[.ref l, .int 0 0] } = H
  have hHs : H.objs.size = I + 1 := by rw [← hH, Heap.size_push, hI]
  have kH : ∀ b o, s.heap.get? b = some o → H.get? b = some o := fun b o e => hH ▸ Heap.get?_push_of_some _ e
  have hHI : H.get? I = some { cls := .type "list_iterator", data := .fields #[.ref l, .int 0 0] } := by rw [← hH, ← hI]; exact Heap.get?_push_size _ rfl
  have hPI : P < I := hI ▸ Heap.lt_size hPn.1
  refine genCode_T (ps := ps) hcode (CH.keeps fun b o e => kH b o (F.keep b o e)) (kH _ _ hPn.1) ht (fun code h1 tk1 ps' hx1 hP1 ht1 => ?_)
  have k1 : ∀ b o, b ≠ P → s.heap.get? b = some o → h1.get? b = some o := fun b o hb e => hx1 b o hb (kH b o e)
  have h1I := hx1 _ _ (Nat.ne_of_gt hPI) hHI
  have hlt1 : I < h1.objs.size := Heap.lt_size h1I
  have bas : ∀ b o, h₀.get? b = some o → b ≠ P := fun b o e q => by rw [q, hPn.2.2] at e; cases e
  have kb : ∀ b o, h₀.get? b = some o → h1.get? b = some o := fun b o e => k1 b o (bas b o e) (F.keep b o e)
  refine wpAny_builtinsFor (hg := BM.ns.keeps kb) BM.name BM.ne (kb _ _ BM.obj) BM.cls BM.dict BM.data ?_
  intro h2 hn2 hs2
  dsimp only at hn2 hs2 ⊢
  have hsz2 : h2.objs.size = h1.objs.size + 1 := by rw [hs2.1, Heap.size_push]
  have k2 : ∀ b o, h1.get? b = some o → h2.get? b = some o := fun b o e => hs2.extBut b o (Nat.ne_of_lt (Heap.lt_size e)) (Heap.get?_push_of_some _ e)
  generalize hG : h2.push { cls := .type "generator", data := .fields #[.int s.gens.size 0, .str "<genexpr>" (tk1 + 1), .str (env.qual ++ "<genexpr>") (tk1 + 1 + 1)] } = h3
  have k3 : ∀ b o, h1.get? b = some o → h3.get? b = some o := fun b o e => hG ▸ Heap.get?_push_of_some _ (k2 b o e)
  have hsz3 : h3.objs.size = h1.objs.size + 2 := by rw [← hG, Heap.size_push, hsz2]
  have kall : Heap.ExtBut P s.heap h3 := fun b o hb e => k3 b o (k1 b o hb e)
  have big : ∀ (b : Nat) o, s.heap.get? b = some o → b < I := fun b o e => hI ▸ Heap.lt_size e
  have hcst : @LT.lt Nat _ cStatics I := let ⟨mc, hn, _⟩ := NL; let ⟨o, es, ep, e, _⟩ := hn; big _ _ (F.keep _ _ e)
  have F3 : Fr h₀ L h3 m := ⟨F.ns.extBut kall (Ne.symm hPn.2.1), fun b o e => k3 b o (kb b o e), F.above⟩
  have N3 : News h₀ L h3 (Mine.put P (tabObj ps') news) := fun q hq => by
    obtain ⟨r, hr, rfl⟩ := List.mem_map.mp hq
    by_cases e : r.1 = P
    · simp only [e, if_true]
      exact ⟨k3 _ _ hP1, hPn.2⟩
    · simp only [e, if_false]
      exact ⟨kall _ _ e (N r hr).1, (N r hr).2⟩
  have fresh : ∀ b : Nat, I ≤ b → h₀.get? b = none := fun b hb => by
    cases e : h₀.get? b with
    | none => rfl
    | some o => exact absurd (big _ _ (F.keep _ _ e)) (by omega)
  have hLI : @LT.lt Nat _ L I := hI ▸ F.ns.lt
  have hla : @LT.lt Nat _ l I := big _ _ (N _ hl).1
  have hca : @LT.lt Nat _ cc I := big _ _ (N _ hcm).1
  have hgen : h3.IsGen h2.objs.size s.gens.size := ⟨_, _, _, hG ▸ Heap.get?_push_size _ rfl, rfl, rfl, rfl⟩
  refine h h2.objs.size h1.objs.size I ps' h3 _ _ ⟨?_, by omega, ?_, by omega, by omega, by omega, by omega, fresh _ (by omega), fresh _ (Nat.le_refl _)⟩ rfl ht1 F3 N3 (fun q hq => ?_) (by omega) (by omega) (by omega) (by omega) kall
  · refine GenAt.fresh (A := A.in4) (cenv := genEnv scope cl h1.objs.size code builtinsNs env) (P := fun i v => (xs.map valI).toArray[i]? = some v) (St₀ := fun i h => h.IsListIter I l i ∧ h.IsList l (xs.map valI).toArray) (m := fun y => if y = ".0" then some (.ref I) else none) (I := I) (iter := iter) (px := px) (scope := scope) (pos := pos) hh (fun A' hA => ?_) (fun _ => true) Fv hx (by simp [genEnv, hkind]) hco ?_ ?_ hgen (Array.getElem?_push_size ..) ?_ ?_ ?_
    · have W := (Walks.list (prog := prog) (w := w) (A := A') hA I l (Nat.ne_of_lt hla) (xs.map valI).toArray).mono_fp (fp' := [I, l, cc, cStatics]) (by simp)
      simpa using W
    · show h1.objs.size ∉ _
      intro hmem
      simp at hmem
      omega
    · refine ⟨fun A' E' i v s₂ m₂ hA' hv hn₂ hmx hkp => wpAny_tests_nil ⟨rfl, s₂.heap, s₂.toks, rfl, fun _ _ e => e⟩, fun A' E' i v s₂ m₂ hA' hv hpz hn₂ hmx hkp => ?_⟩
      have hv' : (xs.map valI)[i]? = some v := by simpa using hv
      rw [List.getElem?_map, Option.map_eq_some_iff] at hv'
      obtain ⟨p, hp, rfl⟩ := hv'
      exact helt A' E' _ code i p s₂ m₂ hA' hp hn₂ hmx (hkp cc (by simp) (fun e => Nat.ne_of_lt hca (List.mem_singleton.mp e)) oc (kall _ _ hcP (N _ hcm).1))
    · exact ⟨⟨_, k3 _ _ h1I, rfl, rfl⟩, hll.at fun o e => kall _ o hlP e⟩
    · exact hG ▸ hn2.push _
    · exact NL.keeps fun b o e => k3 b o (kb b o e)
  · intro hmem
    simp at hmem
    omega
  · have hq1 : @LT.lt Nat _ q.1 I := big _ _ (N q hq).1
    exact ⟨Nat.ne_of_lt (by omega), Nat.ne_of_lt (by omega), Nat.ne_of_lt (by omega)⟩
end
end
section
open PySem PySem.W PyProof.Rows PySem.Calls PySem.Spec
set_option maxRecDepth 100000
theorem kind_sumprod : builtinKind "math.sumprod" = none := by decide +kernel
theorem plain_sumprod : plainId "math.sumprod" = true := by decide +kernel
theorem entry_sumprod : entryFor table "math.sumprod" = some Builtin.«math.sumprod» := entryFor_of_fast (by kernel_rfl)
theorem args_sumprod (a b : Value) : argsOk "math.sumprod" ⟨[a, b], []⟩ := by unfold argsOk; kernel_rfl
theorem plain_sumprodL : plainId "math.sumprod.loop" = true := by decide +kernel
theorem entry_sumprodL : entryFor table "math.sumprod.loop" = some Builtin.«math.sumprod.loop» := entryFor_of_fast (by kernel_rfl)
def tl3 (t : UInt64 × UInt64 × UInt64) : List Value := [rawInt t.1.toNat, rawInt t.2.1.toNat, rawInt t.2.2.toNat]
abbrev spArgs (a1 a2 tot : Value) (io : Bool) (T : Value) (fu : Bool) : Args := ⟨[a1, a2, tot, .bool io, rawInt 0, .bool false, .bool true, T, .bool fu], []⟩
theorem back64 (c : UInt64) : ((c.toNat : Int)).toNat.toUInt64 = c := by simp
section
variable {M : Model} {A : Around} {E : Value → Shared → Prop}
/-- one turn of sumprod's loop, at two floats -/
theorem sp_turn {a1 a2 tot : Value} {io fu : Bool} {T : Addr} {s : Shared} {t : UInt64 × UInt64 × UInt64} {o : Obj} {k : Nat} {Q : Fin → Shared → Prop} (hT : s.heap.get? T = some o) (ho : o.data = .seq (tl3 t).toArray k)
    (h : wpAny M A (pyNext a1) (fun p s₁ => wpAny M A (pyNext a2) (fun q s₂ => ∃ x u y v, p = some (.float x u) ∧ q = some (.float y v) ∧ Float64.isFinite (Builtin.Math.tlFma x y t).1 = true ∧
      wpAny M A (newTuple (tl3 (Builtin.Math.tlFma x y t))) (fun T' s₃ => Q (.again (.builtin "math.sumprod.loop" (spArgs a1 a2 tot false T' true))) s₃) E s₂) E s₁) E s) :
    wpAny M A (Builtin.«math.sumprod.loop» (spArgs a1 a2 tot io (.ref T) fu)) Q E s := by
  obtain ⟨t1, t2, t3⟩ := t
  unfold Builtin.«math.sumprod.loop»
  show wpAny M A (seqItems? (.ref T) >>= _) Q E s
  refine wpAny_bind (wpAny_seqItems hT ho ?_)
  show wpAny M A (pyNext a1 >>= _) Q E s
  refine wpAny_bind (wpAny_mono h (fun p s₁ h₁ => ?_) fun _ _ e => e)
  refine wpAny_bind (wpAny_holding (wpAny_mono h₁ (fun q s₂ h₂ => ?_) fun _ _ e => e))
  obtain ⟨x, u, y, v, rfl, rfl, hf, h₃⟩ := h₂
  simp only [back64, Option.isSome_some, bne_self_eq_false, Bool.false_eq_true, if_false, if_true, Bool.or_self, hf]
  cases io
  · simp only [Bool.false_eq_true, if_false]
    exact wpAny_bind (wpAny_mono h₃ (fun T' s₃ h => wpAny_pure h) fun _ _ e => e)
  · simp only [if_true]
    refine wpAny_bind (wpAny_rule ?_)
    exact wpAny_bind (wpAny_mono h₃ (fun T' s₃ h => wpAny_pure h) fun _ _ e => e)
/-- its end -/
theorem sp_end {a1 a2 tot : Value} {T : Addr} {s : Shared} {t : UInt64 × UInt64 × UInt64} {o : Obj} {k : Nat} {Q : Fin → Shared → Prop} (hT : s.heap.get? T = some o) (ho : o.data = .seq (tl3 t).toArray k)
    (h : wpAny M A (pyNext a1) (fun p s₁ => wpAny M A (pyNext a2) (fun q s₂ => p = none ∧ q = none ∧
      wpAny M A (binaryOp .Add tot (.float (Builtin.Math.tlToFloat t) s₂.toks)) (fun v s₃ => Q (.done (.ret v)) s₃) E { s₂ with toks := s₂.toks + 1 }) E s₁) E s) :
    wpAny M A (Builtin.«math.sumprod.loop» (spArgs a1 a2 tot false (.ref T) true)) Q E s := by
  obtain ⟨t1, t2, t3⟩ := t
  unfold Builtin.«math.sumprod.loop»
  show wpAny M A (seqItems? (.ref T) >>= _) Q E s
  refine wpAny_bind (wpAny_seqItems hT ho ?_)
  show wpAny M A (pyNext a1 >>= _) Q E s
  refine wpAny_bind (wpAny_mono h (fun p s₁ h₁ => ?_) fun _ _ e => e)
  refine wpAny_bind (wpAny_holding (wpAny_mono h₁ (fun q s₂ h₂ => ?_) fun _ _ e => e))
  obtain ⟨rfl, rfl, h₃⟩ := h₂
  simp only [back64, Option.isSome_none, bne_self_eq_false, Bool.false_eq_true, if_false, if_true]
  refine wpAny_bind (wpAny_rule ?_)
  refine wpAny_bind (PySem.Flt.wp_mkFloat ?_)
  exact wpAny_bind (wpAny_holding (wpAny_mono h₃ (fun v s₃ h => wpAny_pure h) fun _ _ e => e))
theorem sumprod_eq (p q : Value) : Builtin.«math.sumprod» ⟨[p, q], []⟩ = (pyIter p >>= fun pIt => holding [pIt] (pyIter q) >>= fun qIt => mkInt 0 >>= fun z => newTuple (tl3 (Float64.zero false, Float64.zero false, Float64.zero false)) >>= fun T => again (.builtin "math.sumprod.loop" (spArgs pIt qIt z true T false))) := by
  rfl
end
/-- what a generator of whole floats gives -/
def Fw (u : Nat → Int) (j : Nat) (y : Value) : Prop := ∃ x t, y = .float x t ∧ Wh x (u j)
def dotN (u v : Nat → Int) : Nat → Int
  | 0 => 0
  | j + 1 => dotN u v j + u j * v j
abbrev tup3 (t : UInt64 × UInt64 × UInt64) : Obj := { cls := .type "tuple", data := .seq (tl3 t).toArray }
theorem gens_keep {s s' : Shared} {g₁ g₂ : Nat} {wr : List Addr} (hm : Moved wr (GenOnlyQ g₁) s s') (hg : g₂ ≠ g₁) : s'.gens[g₂]? = s.gens[g₂]? := by
  rcases hm.gens with e | e
  · rw [e]
  · exact e.1.2 g₂ hg
structure Apart (a1 C1 I1 l1 cc1 a2 C2 I2 l2 cc2 : Nat) (news : News') : Prop where
  i1 : I1 < C1
  i2 : C1 < a1
  i3 : a1 < I2
  i4 : I2 < C2
  i5 : C2 < a2
  n1 : ∀ p ∈ news, p.1 ≠ C1 ∧ p.1 ≠ I1
  n2 : ∀ p ∈ news, p.1 ≠ C2 ∧ p.1 ≠ I2
  m1 : ∃ o, (l1, o) ∈ news
  m2 : ∃ o, (cc1, o) ∈ news
  m3 : ∃ o, (l2, o) ∈ news
  m4 : ∃ o, (cc2, o) ∈ news
section
variable {prog : Program} {w : World} {A : Around} {E : Value → Shared → Prop} {h₀ : Heap} {L a1 g1 C1 I1 l1 cc1 a2 g2 C2 I2 l2 cc2 n : Nat} {u v : Nat → Int} {m : Str → Option Value} {news : News'}
theorem sp_loop {Q : Value → Shared → Prop} (hh : A.handled = none) (hroom : A.depth < recursionLimit) (X : Apart a1 C1 I1 l1 cc1 a2 C2 I2 l2 cc2 news) (hg : g1 ≠ g2) (hn : 0 < n) (s₀ : Shared) (b1 : ∀ j, j < n → Sm (u j * v j)) (b2 : ∀ j, j ≤ n → Sm (dotN u v j)) {tt : Tok}
    (h : ∀ x t s', Wh x (dotN u v n) → Fr h₀ L s'.heap m → News h₀ L s'.heap news → AllBare s'.gens → s'.drawn = s₀.drawn → s'.os = s₀.os → Q (.float x t) s') :
    ∀ (k j : Nat) (s : Shared) (io fu : Bool) (T : Addr) (t : UInt64 × UInt64 × UInt64), n - j = k → j ≤ n → (j < n ∨ (io = false ∧ fu = true)) → TL t (dotN u v j) → GenN prog w A h₀ L a1 g1 C1 I1 l1 cc1 n (Fw u) j s → GenN prog w A h₀ L a2 g2 C2 I2 l2 cc2 n (Fw v) j s →
      Fr h₀ L s.heap m → News h₀ L s.heap ((T, tup3 t) :: news) → (T ≠ C1 ∧ T ≠ I1 ∧ T ≠ C2 ∧ T ≠ I2) → AllBare s.gens → s.drawn = s₀.drawn → s.os = s₀.os →
      codeAny (model prog w) A (.builtin "math.sumprod.loop" (spArgs (.ref a1) (.ref a2) (.int 0 tt) io (.ref T) fu)) (fun r s' => match r with | .ok (.ret v) => Q v s' | .ok _ => False | .error e => E e s') s := by
  obtain ⟨i1, i2, i3, i4, i5, n1, n2, ⟨o1, m1⟩, ⟨o2, m2⟩, ⟨o3, m3⟩, ⟨o4, m4⟩⟩ := X
  have hap1 : ∀ {T : Addr} {t : UInt64 × UInt64 × UInt64}, (T ≠ C1 ∧ T ≠ I1 ∧ T ≠ C2 ∧ T ≠ I2) → ∀ p ∈ (T, tup3 t) :: news, p.1 ≠ C1 ∧ p.1 ≠ I1 := fun hT p hp => by
    rcases List.mem_cons.mp hp with rfl | hp
    · exact ⟨hT.1, hT.2.1⟩
    · exact n1 p hp
  have hap2 : ∀ {T : Addr} {t : UInt64 × UInt64 × UInt64}, (T ≠ C1 ∧ T ≠ I1 ∧ T ≠ C2 ∧ T ≠ I2) → ∀ p ∈ (T, tup3 t) :: news, p.1 ≠ C2 ∧ p.1 ≠ I2 := fun hT p hp => by
    rcases List.mem_cons.mp hp with rfl | hp
    · exact hT.2.2
    · exact n2 p hp
  have k2 : ∀ {j : Nat} {s s' : Shared}, GenN prog w A h₀ L a1 g1 C1 I1 l1 cc1 n (Fw u) j s → Moved [C1, I1] (GenOnlyQ g1) s s' → ∀ {i : Nat}, GenN prog w A h₀ L a2 g2 C2 I2 l2 cc2 n (Fw v) i s → GenN prog w A h₀ L a2 g2 C2 I2 l2 cc2 n (Fw v) i s' := fun G1 hm i G2 => by
    refine G2.keep (fun b hb o e => hm.heap b o (fun q => ?_) e) (gens_keep hm (Ne.symm hg))
    have c1 := G1.cC
    have c2 := G1.cI
    have e3 := n1 _ m3
    have e4 := n1 _ m4
    simp only [List.mem_cons, List.not_mem_nil, or_false] at hb q
    rcases q with rfl | rfl
    · rcases hb with h | h | h | h | h | h
      · exact absurd h (Nat.ne_of_lt (by omega))
      · exact absurd h (Nat.ne_of_lt (by omega))
      · exact absurd h (Nat.ne_of_lt (by omega))
      · exact e3.1 h.symm
      · exact e4.1 h.symm
      · exact c1 h.symm
    · rcases hb with h | h | h | h | h | h
      · exact absurd h (Nat.ne_of_lt (by omega))
      · exact absurd h (Nat.ne_of_lt (by omega))
      · exact absurd h (Nat.ne_of_lt (by omega))
      · exact e3.2 h.symm
      · exact e4.2 h.symm
      · exact c2 h.symm
  have k1 : ∀ {j : Nat} {s s' : Shared}, GenN prog w A h₀ L a2 g2 C2 I2 l2 cc2 n (Fw v) j s → Moved [C2, I2] (GenOnlyQ g2) s s' → ∀ {i : Nat}, GenN prog w A h₀ L a1 g1 C1 I1 l1 cc1 n (Fw u) i s → GenN prog w A h₀ L a1 g1 C1 I1 l1 cc1 n (Fw u) i s' := fun G2 hm i G1 => by
    refine G1.keep (fun b hb o e => hm.heap b o (fun q => ?_) e) (gens_keep hm hg)
    have c1 := G2.cC
    have c2 := G2.cI
    have e3 := n2 _ m1
    have e4 := n2 _ m2
    simp only [List.mem_cons, List.not_mem_nil, or_false] at hb q
    rcases q with rfl | rfl
    · rcases hb with h | h | h | h | h | h
      · exact absurd h (Nat.ne_of_gt (by omega))
      · exact absurd h (Nat.ne_of_gt (by omega))
      · exact absurd h (Nat.ne_of_gt (by omega))
      · exact e3.1 h.symm
      · exact e4.1 h.symm
      · exact c1 h.symm
    · rcases hb with h | h | h | h | h | h
      · exact absurd h (Nat.ne_of_gt (by omega))
      · exact absurd h (Nat.ne_of_gt (by omega))
      · exact absurd h (Nat.ne_of_gt (by omega))
      · exact e3.2 h.symm
      · exact e4.2 h.symm
      · exact c2 h.symm
  intro k
  induction k with
  | zero =>
    intro j s io fu T t hk hj hio ht G1 G2 F N hT hb hd hos
    have hjn : j = n := by omega
    subst hjn
    obtain ⟨rfl, rfl⟩ := hio.resolve_left (Nat.lt_irrefl _)
    refine codeAny_builtin entry_sumprodL ?_
    rw [Around.under_plainId plain_sumprodL _]
    refine sp_end (N _ (.head _)).1 rfl ?_
    refine gen_stop G1 hh hroom (hap1 hT) F N (fun s1 F1 N1 hm1 => ?_)
    have G2' := k2 G1 hm1 G2
    refine gen_stop G2' hh hroom (hap2 hT) F1 N1 (fun s2 F2 N2 hm2 => ?_)
    refine ⟨rfl, rfl, add_if_fits (by decide +kernel) ?_⟩
    have hw := tl_end ht (b2 j (Nat.le_refl _))
    have hs := wh_add (wh_ofInt sm0) hw (by rw [Int.zero_add]; exact b2 j (Nat.le_refl _))
    rw [Int.zero_add] at hs
    exact h _ _ { s2 with toks := s2.toks + 1 + 1 } hs F2 (news_sub N2 fun q hq => .tail _ hq) (GenOnlyQ.bare hm2.gens (GenOnlyQ.bare hm1.gens hb)) (hm2.drawn.trans (hm1.drawn.trans hd)) (hm2.os.trans (hm1.os.trans hos))
  | succ k ih =>
    intro j s io fu T t hk hj hio ht G1 G2 F N hT hb hd hos
    have hlt : j < n := by omega
    refine codeAny_builtin entry_sumprodL ?_
    rw [Around.under_plainId plain_sumprodL _]
    refine sp_turn (N _ (.head _)).1 rfl ?_
    refine gen_next G1 hh hroom hlt (hap1 hT) F N (fun y1 s1 hy1 G1' F1 N1 hm1 => ?_)
    have G2' := k2 G1 hm1 G2
    refine gen_next G2' hh hroom hlt (hap2 hT) F1 N1 (fun y2 s2 hy2 G2'' F2 N2 hm2 => ?_)
    have G1'' := k1 G2' hm2 G1'
    obtain ⟨x, tx, rfl, hx⟩ := hy1
    obtain ⟨y, ty, rfl, hy⟩ := hy2
    have hst := tl_step hx hy ht (b1 j hlt) (b2 j hj) (b2 (j + 1) hlt)
    refine ⟨x, tx, y, ty, rfl, rfl, wh_fin hst.1, ?_⟩
    have hbig : a2 < s2.heap.objs.size := by
      obtain ⟨o, nm, qn, ho, _⟩ := G2''.gat.1
      exact Heap.lt_size ho
    refine wpAny_newObj_type ?_ (by show (tl3 _).toArray.size ≤ sizeLine; simp [tl3, sizeLine_eq])
    have F3 := F2.push (tup3 (Builtin.Math.tlFma x y t))
    have N3 := N2.push F2 (tup3 (Builtin.Math.tlFma x y t))
    have grow : ∀ b o, s2.heap.get? b = some o → (s2.heap.push (tup3 (Builtin.Math.tlFma x y t))).get? b = some o := fun b o e => Heap.get?_push_of_some _ e
    refine ⟨plainId_quiet plain_sumprodL _, ih (j + 1) { s2 with heap := s2.heap.push (tup3 (Builtin.Math.tlFma x y t)) } false true _ _ (by omega) hlt (.inr ⟨rfl, rfl⟩) hst (G1''.keep (fun b _ o e => grow b o e) rfl) (G2''.keep (fun b _ o e => grow b o e) rfl) F3 (news_sub N3 fun q hq => ?_) ⟨Nat.ne_of_gt (by omega), Nat.ne_of_gt (by omega), Nat.ne_of_gt (by omega), Nat.ne_of_gt (by omega)⟩ (GenOnlyQ.bare hm2.gens (GenOnlyQ.bare hm1.gens hb)) (hm2.drawn.trans (hm1.drawn.trans hd)) (hm2.os.trans (hm1.os.trans hos))⟩
    rcases List.mem_cons.mp hq with rfl | hq
    · exact .head _
    · exact .tail _ (.tail _ hq)
theorem sumprod_N {s : Shared} {Q : Value → Shared → Prop} (hh : A.handled = none) (hroom : A.depth < recursionLimit) (X : Apart a1 C1 I1 l1 cc1 a2 C2 I2 l2 cc2 news) (hg : g1 ≠ g2) (hn : 0 < n) (b1 : ∀ j, j < n → Sm (u j * v j)) (b2 : ∀ j, j ≤ n → Sm (dotN u v j))
    (G1 : GenN prog w A h₀ L a1 g1 C1 I1 l1 cc1 n (Fw u) 0 s) (G2 : GenN prog w A h₀ L a2 g2 C2 I2 l2 cc2 n (Fw v) 0 s) (F : Fr h₀ L s.heap m) (N : News h₀ L s.heap news) (hb : AllBare s.gens)
    (h : ∀ x t s', Wh x (dotN u v n) → Fr h₀ L s'.heap m → News h₀ L s'.heap news → AllBare s'.gens → s'.drawn = s.drawn → s'.os = s.os → Q (.float x t) s') : wpAny (model prog w) A (call (.builtin "math.sumprod") [.ref a1, .ref a2]) Q E s := by
  refine call_function_tree kind_sumprod plain_sumprod entry_sumprod (args_sumprod _ _) ?_
  rw [sumprod_eq]
  refine wpAny_bind ((G1.walk hh hroom).self 0 s _ _ G1.gat ?_)
  refine wpAny_bind (wpAny_holding ((G2.walk hh hroom).self 0 s _ _ G2.gat ?_))
  refine wpAny_bind (wpAny_mkInt ?_)
  refine wpAny_bind (wpAny_newObj_type ?_ (by show (tl3 _).toArray.size ≤ sizeLine; simp [tl3, sizeLine_eq]))
  have hbig : a2 < s.heap.objs.size := by
    obtain ⟨o, nm, qn, ho, _⟩ := G2.gat.1
    exact Heap.lt_size ho
  have F3 := F.push (tup3 (Float64.zero false, Float64.zero false, Float64.zero false))
  have N3 := N.push F (tup3 (Float64.zero false, Float64.zero false, Float64.zero false))
  have grow : ∀ b o, s.heap.get? b = some o → (s.heap.push (tup3 (Float64.zero false, Float64.zero false, Float64.zero false))).get? b = some o := fun b o e => Heap.get?_push_of_some _ e
  have x1 := X.i1
  have x2 := X.i2
  have x3 := X.i3
  have x4 := X.i4
  have x5 := X.i5
  exact wpAny_pure ⟨plainId_quiet plain_sumprodL _, sp_loop hh hroom X hg hn s b1 b2 h n 0 { s with heap := s.heap.push (tup3 (Float64.zero false, Float64.zero false, Float64.zero false)), toks := s.toks + 1 } true false _ _ (by omega) (Nat.zero_le _) (.inl hn) tl_zero (G1.keep (fun b _ o e => grow b o e) rfl) (G2.keep (fun b _ o e => grow b o e) rfl) F3 N3 ⟨Nat.ne_of_gt (by dsimp only; omega), Nat.ne_of_gt (by dsimp only; omega), Nat.ne_of_gt (by dsimp only; omega), Nat.ne_of_gt (by dsimp only; omega)⟩ hb rfl rfl⟩
end
end
section
open PySem PySem.W PyProof.Rows PySem.Calls PySem.Spec
set_option maxRecDepth 100000
/-- what stands where covariance is called -/
structure CovAt (K : Frag) (p : Program) (loose : List Str) (mg mb : Str → Option Value) (A : Around) (h₀ : Heap) (L : Addr) (d u : Nat) : Prop where
  C : At K p loose mg mb A h₀ L d u
  BM : ∃ bm ob, BMod h₀ mainGlobals mg bm ob
  CH : CodeHd h₀ 61 57
theorem callG_byC {prog : Program} {w : World} {K : Frag} {p : Program} {loose : List Str} {mg mb : Str → Option Value} {A : Around} {h₀ : Heap} {L : Addr} {m : Str → Option Value} {s : Shared} {Q E : Value → Shared → Prop} {f : Addr} {d u : Nat} {args : List Value} {news : News'} {Post : News' → Value → Shared → Prop} {name qual : Str} {params : Arguments} {body : List Stmt} {scope : Scope} {dV kV doc pm cdv ct oc : Value} {an od : Option Addr} {osl : Array (Option Value)} {binds : List (Str × Value)}
    (ho : K.lookup f = some ⟨oc, od, .func (fnOf name qual params body scope dV kV doc pm an cdv ct), osl⟩) (hcd : codeIn K cdv qual = true)
    (hbind : BindsTo s (fnOf name qual params body scope dV kV doc pm an cdv ct) ⟨args, []⟩ binds) (hkind : (binds.all fun y => scope.names.lookup y.1 == some .local || scope.names.lookup y.1 == some .cell) = true)
    (hnd : ((cellsFrom 0 scope.names []).map (·.1)).Nodup)
    (hco : scope.isCoroutine = false) (hgen : scope.isGenerator = false) (hk : scope.kind = .function) (C : At K p loose mg mb A h₀ L (d + 1) (u + 3)) (F : Fr h₀ L s.heap m) (N : News h₀ L s.heap news)
    (h : ∀ (A : Around) (g : Heap) (L' : Addr) (h₁ : Heap) (tk : Nat) (m : Str → Option Value) (cells : News'), (∀ y, m y = bindL (envOfC qual scope L' f cdv).kindOf binds (fun _ => none) y) → Fr g L' h₁ m → News g L' h₁ (cells ++ news) →
      CellsAre (bindC (envOfC qual scope L' f cdv).kindOf binds fun _ => none) (cellsFrom (L' + 1) scope.names []) cells → (∀ p ∈ news, p.1 < L') → h₀.StaysIn g → At K p loose mg mb A g L' d u →
      wpAny (model prog w) A (execs body (envOfC qual scope L' f cdv)) (fun fl s' => ∃ m' news', Fr g L' s'.heap m' ∧ News g L' s'.heap news' ∧ Post news' (retOf fl) s') (fun _ _ => False) { s with heap := h₁, toks := tk })
    (hret : ∀ v news' s', Fr h₀ L s'.heap m → News h₀ L s'.heap news' → Post news' v s' → Q v s') : wpAny (model prog w) A (call (.ref f) args) Q E s := by
  obtain ⟨env, outer, A₀, base, hA, hf, hke, B⟩ := C.fr
  refine wpAny_call ?_
  refine callX_cells B F N C.T.nolimit hA hf hke ((C.X.keeps F.keep) _ _ ho) rfl (codeRec_of (C.X.keeps F.keep) hcd) (by have := C.room; omega) hbind (kindsX hkind) hnd ?_ hco hgen hk
  intro g L' h₁ tk cells FG F' N' Y B' st hlt
  refine wpAny_mono (h (A.deeper (envOfC qual scope L' f cdv)) g L' h₁ tk _ cells (fun _ => rfl) F' N' Y hlt st ⟨C.hh, ⟨envOfC qual scope L' f cdv, env :: outer, _, base, Around.frames_deeper hA, rfl, hk, B'⟩, ?_, ?_, C.X.keeps st, C.T.keeps st⟩) (fun fl s' hd => ?_) fun _ _ x => x.elim
  · have := C.room
    show A.depth + 1 + d < recursionLimit
    omega
  · have := C.units
    show A.units + 3 + u < cLine
    omega
  · obtain ⟨m', news', F₂, N₂, hp⟩ := hd
    refine leaveK_ F₂ N₂ fun F₃ N₃ => ?_
    exact hret _ news' s' F₃ N₃ hp
theorem free_E {M : Model} {A : Around} {E : Value → Shared → Prop} {s : Shared} {env : Env} {x : Str} {pos : Pos} {v : Value} {c : Addr} {o : Obj} {Q : Value → Shared → Prop} (hc : env.cells.lookup x = some c) (hg : s.heap.get? c = some o) (ho : o.data = .cell (some v)) (h : Q v s) (hk : env.scope.kind = .function) (hl : env.kindOf x = some .free)
    (hd : (x == ("__debug__" : Str)) = false) (hn : (x == ("__classdict__" : Str)) = false) : wpAny M A (eval (.Name x pos) env) Q E s := wpAny_Name (wpAny_loadName_free hk hl hc ⟨o, hg, ho⟩ h hn) hd
theorem div_fi {prog : Program} {w : World} {A : Around} {E : Value → Shared → Prop} {s : Shared} {a : UInt64} {t u : Tok} {b q : Int} {Q : Value → Shared → Prop} (ha : Wh a (q * b)) (hb : b ≠ 0) (hs : Sm b) (hq : Sm q) (h : ∀ r, Wh r q → Q (.float r s.toks) { s with toks := s.toks + 1 }) :
    wpAny (model prog w) A (binaryOp .Div (.float a t) (.int b u)) Q E s := by
  have hw := wh_ofInt hs
  refine AutoFloatOps.truediv_fi_2 (by rw [wh_not_inf hw]; decide) (by rw [wh_isZero hw]; simpa using hb) (h _ (wh_div ha hw hb hq))
theorem sub_if {prog : Program} {w : World} {A : Around} {E : Value → Shared → Prop} {s : Shared} {a : UInt64} {t u : Tok} {b q : Int} {Q : Value → Shared → Prop} (ha : Wh a q) (hs : Sm b) (hq : Sm (b - q)) (h : ∀ r, Wh r (b - q) → Q (.float r s.toks) { s with toks := s.toks + 1 }) :
    wpAny (model prog w) A (binaryOp .Sub (.int b u) (.float a t)) Q E s := by
  have hw := wh_ofInt hs
  exact AutoFloatOps.sub_if_1 (by rw [wh_not_inf hw]; decide) (h _ (wh_sub hw ha hq))
def atI (xs : List IT) (i : Nat) : Int := (xs[i]?.map (·.1)).getD 0
section
variable {prog : Program} {w : World} {p : Program} {loose : List Str} {mg mb : Str → Option Value} {A : Around} {E : Value → Shared → Prop} {s : Shared} {h₀ : Heap} {L : Addr} {m : Str → Option Value} {news : News'} {lx ly : Addr} {xs ys : List IT} {nx ny n : Nat} {ps : Array Value} {mx my r : Int}
set_option maxHeartbeats 4000000 in
theorem cov_N {Q : Value → Shared → Prop} (X : CovAt (hd.heap_39 w.params) p loose mg mb A h₀ L 1 6) (F : Fr h₀ L s.heap m) (N : News h₀ L s.heap news) (hP : (57, tabObj ps) ∈ news) (ht : TriplesOk ps.toList) (hb : AllBare s.gens) (hx : (lx, intO xs nx) ∈ news) (hy : (ly, intO ys ny) ∈ news)
    (hxn : xs.length = n) (hyn : ys.length = n) (hn2 : 2 ≤ n) (hn : n < 100) (bx : ∀ i, i ≤ n → Sm (sumI (xs.take i))) (by' : ∀ i, i ≤ n → Sm (sumI (ys.take i))) (cx : ∀ q ∈ xs, Sm q.1) (cy : ∀ q ∈ ys, Sm q.1)
    (hmx : sumI xs = mx * n) (hmy : sumI ys = my * n) (smx : Sm mx) (smy : Sm my) (dx : ∀ q ∈ xs, Sm (q.1 - mx)) (dy : ∀ q ∈ ys, Sm (q.1 - my)) (b1 : ∀ j, j < n → Sm ((atI xs j - mx) * (atI ys j - my))) (b2 : ∀ j, j ≤ n → Sm (dotN (fun j => atI xs j - mx) (fun j => atI ys j - my) j))
    (hr : dotN (fun j => atI xs j - mx) (fun j => atI ys j - my) n = r * ((n : Int) - 1)) (sr : Sm r)
    (h : ∀ z t ps' s', Wh z r → TriplesOk ps'.toList → AllBare s'.gens → s'.drawn = s.drawn → s'.os = s.os → Fr h₀ L s'.heap m → News h₀ L s'.heap (put 57 (tabObj ps') news) → Q (.float z t) s') :
    wpAny (model prog w) A (call (.ref 62) [.ref lx, .ref ly]) Q E s := by
  obtain ⟨bm, ob, BM₀⟩ := X.BM
  refine callG_byC (Post := fun news' v s' => ∃ z t ps', v = .float z t ∧ Wh z r ∧ TriplesOk ps'.toList ∧ AllBare s'.gens ∧ s'.drawn = s.drawn ∧ s'.os = s.os ∧ news' = put 57 (tabObj ps') news) (binds := [(Str.ofString "x", .ref lx), (Str.ofString "y", .ref ly)]) (d := 0) (u := 3) rfl rfl (BindsTo.of_eq rfl) rfl (by decide) rfl rfl rfl X.C F N ?_ (by
    rintro v news' s' F' N' ⟨z, t, ps', rfl, hz, h1, h2, h3, h4, rfl⟩
    exact h z t ps' s' hz h1 h2 h3 h4 F' N')
  have CH₀ := X.CH
  clear F N X h
  intro A g L' h₁ tk m cells hmm F N Y hlt st C
  have m1 : m (Str.ofString "x") = some (.ref lx) := hmm _
  have m2 : m (Str.ofString "y") = some (.ref ly) := hmm _
  clear hmm
  obtain ⟨o1, o2, rfl, ho1, ho2⟩ := CellsAre.two Y
  have ho1 : o1.data = .cell none := ho1
  have ho2 : o2.data = .cell none := ho2
  clear Y
  have CH := CH₀.keeps st
  have BM : BMod g mainGlobals mg bm ob := ⟨BM₀.ns.keeps st, BM₀.name, BM₀.ne, st _ _ BM₀.obj, BM₀.cls, BM₀.dict, BM₀.data⟩
  clear CH₀ BM₀ st
  have N : News g L' h₁ ((L' + 1 + 1, o1) :: (L' + 1, o2) :: news) := N
  have hc1 : ∀ p ∈ news, p.1 ≠ L' + 1 := fun p hp => Nat.ne_of_lt (Nat.lt_succ_of_lt (hlt p hp))
  have hc2 : ∀ p ∈ news, p.1 ≠ L' + 1 + 1 := fun p hp => Nat.ne_of_lt (Nat.lt_succ_of_lt (Nat.lt_succ_of_lt (hlt p hp)))
  have hc12 : L' + 1 + 1 ≠ L' + 1 := Nat.succ_ne_self _
  have len_i : ∀ {A : Around} {s : Shared} {news' : News'} {l : Addr} {zs : List IT} {k : Nat} {Q : Value → Shared → Prop} {E : Value → Shared → Prop}, News g L' s.heap news' → (l, intO zs k) ∈ news' → zs.length = n → Q (.int (n : Int) (s.toks + 1)) { s with toks := s.toks + 1 + 1 } → wpAny (model prog w) A (call (.builtin "len") [.ref l]) Q E s := by
    intro A s news' l zs k Q E N hm hz hq
    refine len_list (PySem.IsL.isList (n := k) (N _ hm).1) (by simp; omega) ?_
    simpa [hz] using hq
  repeat tb_rel
  refine len_i N (.tail _ (.tail _ hx)) hxn ?_
  refine stE F N (by tb_start) (fun h2 F2 N2 _ => ?_) (by kernel_rfl!) (by kernel_rfl!)
  repeat tb_rel
  refine len_i N2 (.tail _ (.tail _ hy)) hyn ?_
  repeat tb_rel
  rw [show ((n : Int) != (n : Int)) = false by simp]
  repeat tb_rel
  rw [show decide ((n : Int) < 2) = false by simp; omega]
  repeat tb_rel
  refine fsum_N C.hh (by exact F2) (by exact N2) (.tail _ (.tail _ hx)) (by rw [hxn]; exact bx) cx (fun zx h3 tk3 tx hzx F3 N3 => ?_)
  repeat tb_rel
  rw [hmx] at hzx
  refine div_fi hzx (by omega) (by show (n : Int).natAbs ≤ _; omega) smx (fun xb hxb => ?_)
  refine stCell F3 N3 (.tail _ (.head _)) ho2 (by tb_start) (fun h4 ox hox F4 N4 => ?_) (by kernel_rfl!) (by kernel_rfl!)
  rw [put_cons_ne hc12, put_cons_self hc1] at N4
  clear F3 N3 F2 N2 N
  repeat tb_rel
  refine fsum_N C.hh (by exact F4) (by exact N4) (.tail _ (.tail _ hy)) (by rw [hyn]; exact by') cy (fun zy h5 tk5 ty hzy F5 N5 => ?_)
  repeat tb_rel
  rw [hmy] at hzy
  refine div_fi hzy (by omega) (by show (n : Int).natAbs ≤ _; omega) smy (fun yb hyb => ?_)
  refine stCell F5 N5 (.head _) ho1 (by tb_start) (fun h6 oy hoy F6 N6 => ?_) (by kernel_rfl!) (by kernel_rfl!)
  rw [put_cons_self (by
    intro p hp
    rcases List.mem_cons.mp hp with rfl | hp
    · exact Ne.symm hc12
    · exact hc2 p hp)] at N6
  clear F4 N4 F5 N5
  repeat tb_rel
  have hroom : A.depth < recursionLimit := C.room
  have e57x : lx ≠ 57 := news_apart N6 (.tail _ (.tail _ hx)) (.tail _ (.tail _ hP)) (by intro e; have := congrArg Obj.cls e; simp at this)
  have e57y : ly ≠ 57 := news_apart N6 (.tail _ (.tail _ hy)) (.tail _ (.tail _ hP)) (by intro e; have := congrArg Obj.cls e; simp at this)
  have e57c : L' + 1 ≠ 57 := news_apart N6 (.tail _ (.head _)) (.tail _ (.tail _ hP)) (by intro e; rw [e] at hox; cases hox)
  have e57d : L' + 1 + 1 ≠ 57 := news_apart N6 (.head _) (.tail _ (.tail _ hP)) (by intro e; rw [e] at hoy; cases hoy)
  refine genexp_N (c := 61) (P := 57) (l := lx) (cc := L' + 1) (xs := xs) (n := nx) C.hh hroom (by tb_start) (by tb_start) (by decide) (by tb_start) (by tb_start) (by tb_start) (by intro _; tb_start) (by tb_start) CH BM C.T.nolimit (by decide) F6 N6 (.tail _ (.tail _ hP)) ht ?it1 (.tail _ (.tail _ hx)) (.tail _ (.head _)) (Fw fun j => atI xs j - mx) e57x e57c ?elt1 ?k1
  case it1 =>
    intro Q' hq
    repeat tb_rel
    exact hq
  case elt1 =>
    intro A' E' Ca code i q s₂ m₂ hA' hq hn hm hcell
    refine wpAny_BinOp ?_
    refine ldE hn hm ?_ (by kernel_rfl!) (by kernel_rfl!) (by decide +kernel)
    refine free_E (by tb_start) hcell hox ?_ (by kernel_rfl!) (by kernel_rfl!) (by decide +kernel) (by decide +kernel)
    have hqm := List.mem_of_getElem? hq
    refine sub_if hxb (cx q hqm) (dx q hqm) (fun r hr => ⟨⟨r, _, rfl, ?_⟩, s₂.heap, _, rfl, fun _ _ e => e⟩)
    exact wh_eq hr (by simp [atI, hq])
  case k1 =>
  intro a1 C1 I1 ps1 h7 tk7 gs1 G1 hgs1 ht1 F7 N7 hap1 i0 i1 i2 i2' hx1
  rw [put_cons_ne e57d, put_cons_ne e57c] at N7
  have hP7 : (57, tabObj ps1) ∈ (L' + 1 + 1, oy) :: (L' + 1, ox) :: put 57 (tabObj ps1) news := .tail _ (.tail _ (put_self hP))
  have hx7 : (lx, intO xs nx) ∈ (L' + 1 + 1, oy) :: (L' + 1, ox) :: put 57 (tabObj ps1) news := .tail _ (.tail _ (put_ne hx e57x))
  have hy7 : (ly, intO ys ny) ∈ (L' + 1 + 1, oy) :: (L' + 1, ox) :: put 57 (tabObj ps1) news := .tail _ (.tail _ (put_ne hy e57y))
  repeat tb_rel
  refine genexp_N (c := 61) (P := 57) (l := ly) (cc := L' + 1 + 1) (xs := ys) (n := ny) C.hh hroom (by tb_start) (by tb_start) (by decide) (by tb_start) (by tb_start) (by tb_start) (by intro _; tb_start) (by tb_start) CH BM C.T.nolimit (by decide) F7 N7 hP7 ht1 ?it2 hy7 (.head _) (Fw fun j => atI ys j - my) e57y e57d ?elt2 ?k2
  case it2 =>
    intro Q' hq
    repeat tb_rel
    exact hq
  case elt2 =>
    intro A' E' Ca code i q s₂ m₂ hA' hq hn hm hcell
    refine wpAny_BinOp ?_
    refine ldE hn hm ?_ (by kernel_rfl!) (by kernel_rfl!) (by decide +kernel)
    refine free_E (by tb_start) hcell hoy ?_ (by kernel_rfl!) (by kernel_rfl!) (by decide +kernel) (by decide +kernel)
    have hqm := List.mem_of_getElem? hq
    refine sub_if hyb (cy q hqm) (dy q hqm) (fun r hr => ⟨⟨r, _, rfl, ?_⟩, s₂.heap, _, rfl, fun _ _ e => e⟩)
    exact wh_eq hr (by simp [atI, hq])
  case k2 =>
  intro a2 C2 I2 ps2 h8 tk8 gs2 G2 hgs2 ht2 F8 N8 hap2 j0 j1 j2 j2' hx2
  rw [put_cons_ne e57d, put_cons_ne e57c, put_put] at N8
  have hx8 : (lx, intO xs nx) ∈ (L' + 1 + 1, oy) :: (L' + 1, ox) :: put 57 (tabObj ps2) news := .tail _ (.tail _ (put_ne hx e57x))
  have hy8 : (ly, intO ys ny) ∈ (L' + 1 + 1, oy) :: (L' + 1, ox) :: put 57 (tabObj ps2) news := .tail _ (.tail _ (put_ne hy e57y))
  dsimp only at j0 j1 j2 j2' hx2 G2 i0 i1 i2 i2' hx1 G1
  have q57 := hap1 _ (.tail _ (.tail _ hP))
  have G1' : GenN prog w A g L' a1 s.gens.size C1 I1 lx (L' + 1) xs.length (Fw fun j => atI xs j - mx) 0 { s with heap := h8, toks := tk8, gens := (s.gens.push gs1).push gs2 } := by
    refine G1.keep (fun b hb o e => hx2 b o ?_ e) ?_
    · rintro rfl
      simp only [List.mem_cons, List.not_mem_nil, or_false] at hb
      rcases hb with h | h | h | h | h | h
      · exact q57.2.2 h
      · exact q57.1 h
      · exact q57.2.1 h
      · exact e57x h.symm
      · exact e57c h.symm
      · exact absurd h (by decide)
    · show ((s.gens.push gs1).push gs2)[s.gens.size]? = (s.gens.push gs1)[s.gens.size]?
      rw [Array.getElem?_push]
      simp
  rw [hxn] at G1'
  rw [hyn] at G2
  have hX : Apart a1 C1 I1 lx (L' + 1) a2 C2 I2 ly (L' + 1 + 1) ((L' + 1 + 1, oy) :: (L' + 1, ox) :: put 57 (tabObj ps2) news) := by
    have key : ∀ q ∈ (L' + 1 + 1, oy) :: (L' + 1, ox) :: put 57 (tabObj ps2) news, ∃ o, (q.1, o) ∈ (L' + 1 + 1, oy) :: (L' + 1, ox) :: news := by
      intro q hq
      rcases List.mem_cons.mp hq with rfl | hq
      · exact ⟨_, .head _⟩
      rcases List.mem_cons.mp hq with rfl | hq
      · exact ⟨_, .tail _ (.head _)⟩
      · obtain ⟨r, hr, rfl⟩ := List.mem_map.mp hq
        by_cases e : r.1 = 57
        · simp only [e, if_true]
          exact ⟨r.2, .tail _ (.tail _ (by rw [← e]; exact hr))⟩
        · simp only [e, if_false]
          exact ⟨r.2, .tail _ (.tail _ hr)⟩
    have key2 : ∀ q ∈ (L' + 1 + 1, oy) :: (L' + 1, ox) :: put 57 (tabObj ps2) news, ∃ o, (q.1, o) ∈ (L' + 1 + 1, oy) :: (L' + 1, ox) :: put 57 (tabObj ps1) news := by
      intro q hq
      rcases List.mem_cons.mp hq with rfl | hq
      · exact ⟨_, .head _⟩
      rcases List.mem_cons.mp hq with rfl | hq
      · exact ⟨_, .tail _ (.head _)⟩
      · obtain ⟨r, hr, rfl⟩ := List.mem_map.mp hq
        by_cases e : r.1 = 57
        · simp only [e, if_true]
          exact ⟨_, hP7⟩
        · simp only [e, if_false]
          exact ⟨r.2, .tail _ (.tail _ (put_ne hr e))⟩
    refine ⟨i1, i2, Nat.lt_of_lt_of_le i2' j0, j1, j2, fun q hq => ?_, fun q hq => ?_, ⟨_, hx8⟩, ⟨_, .tail _ (.head _)⟩, ⟨_, hy8⟩, ⟨_, .head _⟩⟩
    · obtain ⟨o, ho⟩ := key q hq
      exact ⟨(hap1 _ ho).1, (hap1 _ ho).2.1⟩
    · obtain ⟨o, ho⟩ := key2 q hq
      exact ⟨(hap2 _ ho).1, (hap2 _ ho).2.1⟩
  repeat tb_rel
  refine sumprod_N C.hh hroom hX ?gne (by omega) b1 b2 G1' G2 F8 N8 ?bare (fun z tz s' hz F9 N9 hb9 hd9 ho9 => ?_)
  case gne => simp
  case bare => exact (hb.push hgs1).push hgs2
  rw [hr] at hz
  refine stE F9 N9 (by tb_start) (fun h10 F10 N10 _ => ?_) (by kernel_rfl!) (by kernel_rfl!)
  repeat tb_rel
  refine div_fi hz (by omega) (by show ((n : Int) - 1).natAbs ≤ _; omega) sr (fun zz hzz => ?_)
  exact ⟨_, _, F10, news_sub N10 fun q hq => .tail _ (.tail _ hq), zz, _, ps2, rfl, hzz, ht2, hb9, hd9, ho9, rfl⟩
end
end
section
open PySem PySem.W
set_option maxRecDepth 100000
theorem mem_nds {n : Nat} : ∀ {k : Nat} {l : List Nat}, l.Nodup → (∀ x ∈ l, x < n) → l.length = k → l ∈ nds n k
  | 0, l, _, _, h => by
    have : l = [] := List.length_eq_zero_iff.mp h
    subst this
    exact .head _
  | k + 1, [], _, _, h => by simp at h
  | k + 1, x :: l, hn, hb, h => by
    have hn' := List.nodup_cons.mp hn
    have ih := mem_nds (k := k) hn'.2 (fun y hy => hb y (.tail _ hy)) (by simpa using h)
    unfold nds
    refine List.mem_flatMap.mpr ⟨l, ih, List.mem_filterMap.mpr ⟨x, List.mem_range.mpr (hb x (.head _)), ?_⟩⟩
    have : l.contains x = false := by
      rw [Bool.eq_false_iff]
      intro h
      exact hn'.1 (List.contains_iff_mem.mp h)
    rw [this]
    rfl
theorem runT_congr {α : Type} {n : Nat} {c c' : Nat → Nat → Bool} (h : ∀ i j, i < n → j < n → c i j = c' i j) : ∀ t : KasT α, runT n c t = runT n c' t
  | .ret a => rfl
  | .ask i j k => by
    unfold runT
    by_cases hb : (Nat.blt i n && Nat.blt j n) = true
    · rw [if_pos hb, if_pos hb]
      simp only [Bool.and_eq_true, Nat.blt_eq] at hb
      rw [h i j hb.1 hb.2]
      exact runT_congr h _
    · rw [if_neg hb, if_neg hb]
theorem runT_wp {α : Type} {n : Nat} {c : Nat → Nat → Bool} {cmp : Nat → Nat → (Bool → Shared → Prop) → Shared → Prop} {Q : α → Shared → Prop} {s : Shared} (hc : ∀ i j C, i < n → j < n → C (c i j) s → cmp i j C s) : ∀ (t : KasT α) (a : α), runT n c t = some a → Q a s → t.kasWp cmp Q s
  | .ret b, a, h, hq => by
    unfold runT at h
    cases h
    exact hq
  | .ask i j k, a, h, hq => by
    unfold runT at h
    by_cases hb : (Nat.blt i n && Nat.blt j n) = true
    · rw [if_pos hb] at h
      simp only [Bool.and_eq_true, Nat.blt_eq] at hb
      exact hc i j _ hb.1 hb.2 (runT_wp hc _ a h hq)
    · rw [if_neg hb] at h
      cases h
section
variable {α β : Type} {lt : α → α → Bool} {lt' : β → β → Bool} {f : α → β} {P : α → Prop} (hP : ∀ a b, P a → P b → lt' (f a) (f b) = lt a b)
include hP
theorem sdLoop_map {new : α} (hn : P new) (start : Nat) : ∀ (k : Nat) (xs : List α) (pos : Nat), (∀ y ∈ xs, P y) → sdLoop lt' (f new) start k (xs.map f) pos = (sdLoop lt new start k xs pos).map f
  | 0, xs, pos, _ => by simp [sdLoop]
  | k + 1, xs, pos, h => by
    unfold sdLoop
    by_cases hs : start < pos
    · rw [if_pos hs, if_pos hs, List.getElem?_map]
      cases hx : xs[(pos - 1) / 2]? with
      | none => simp
      | some par =>
        have hp := h par (List.mem_of_getElem? hx)
        simp only [Option.map_some]
        rw [hP _ _ hn hp]
        by_cases hl : lt new par = true
        · rw [if_pos hl, if_pos hl, ← List.map_set]
          refine sdLoop_map hn start k _ _ fun y hy => ?_
          rcases List.mem_or_eq_of_mem_set hy with hy | rfl
          · exact h y hy
          · exact hp
        · rw [if_neg hl, if_neg hl, List.map_set]
    · rw [if_neg hs, if_neg hs, List.map_set]
theorem siftdown_map (xs : List α) (start pos : Nat) (h : ∀ y ∈ xs, P y) : siftdown lt' (xs.map f) start pos = (siftdown lt xs start pos).map f := by
  unfold siftdown
  rw [List.getElem?_map]
  cases hx : xs[pos]? with
  | none => simp
  | some new =>
    simp only [Option.map_some]
    exact sdLoop_map hP (h new (List.mem_of_getElem? hx)) start pos xs pos h
theorem suLoop_map (xs0 : List α) : ∀ (k : Nat) (xs : List α) (pos : Nat), (∀ y ∈ xs, P y) → suLoop lt' (xs0.map f) k (xs.map f) pos = ((suLoop lt xs0 k xs pos).1.map f, (suLoop lt xs0 k xs pos).2) ∧ ∀ y ∈ (suLoop lt xs0 k xs pos).1, P y
  | 0, xs, pos, h => by simp [suLoop]; exact fun y hy => h y hy
  | k + 1, xs, pos, h => by
    have hset : ∀ c, P c → ∀ y ∈ xs.set pos c, P y := fun c hc y hy => by
      rcases List.mem_or_eq_of_mem_set hy with hy | rfl
      · exact h y hy
      · exact hc
    unfold suLoop
    rw [List.length_map, List.getElem?_map, List.getElem?_map]
    by_cases hs : 2 * pos + 1 < xs.length
    · rw [if_pos hs, if_pos hs]
      cases hc : xs[2 * pos + 1]? with
      | none => exact ⟨rfl, h⟩
      | some c =>
        have pc := h c (List.mem_of_getElem? hc)
        cases hr : xs[2 * pos + 2]? with
        | none =>
          simp only [Option.map_some, Option.map_none]
          rw [← List.map_set]
          exact suLoop_map xs0 k _ _ (hset c pc)
        | some r =>
          have pr := h r (List.mem_of_getElem? hr)
          simp only [Option.map_some]
          rw [hP _ _ pc pr]
          by_cases hl : lt c r = true
          · simp only [hl, if_true]
            rw [← List.map_set]
            exact suLoop_map xs0 k _ _ (hset c pc)
          · simp only [hl, Bool.false_eq_true, if_false]
            rw [← List.map_set]
            exact suLoop_map xs0 k _ _ (hset r pr)
    · rw [if_neg hs, if_neg hs]
      exact ⟨rfl, h⟩
theorem siftup_map (xs : List α) (pos : Nat) (h : ∀ y ∈ xs, P y) : siftup lt' (xs.map f) pos = (siftup lt xs pos).map f := by
  unfold siftup
  rw [List.getElem?_map]
  cases hx : xs[pos]? with
  | none => simp
  | some new =>
    simp only [Option.map_some]
    have e := suLoop_map hP xs xs.length xs pos h
    rw [List.length_map, e.1]
    simp only
    rw [← List.map_set]
    refine siftdown_map hP _ _ _ fun y hy => ?_
    rcases List.mem_or_eq_of_mem_set hy with hy | rfl
    · exact e.2 y hy
    · exact h _ (List.mem_of_getElem? hx)
theorem heapifyL_map : ∀ (i : Nat) (xs : List α), (∀ y ∈ xs, P y) → heapifyL lt' (xs.map f) i = (heapifyL lt xs i).map f
  | 0, xs, _ => rfl
  | i + 1, xs, h => by
    unfold heapifyL
    rw [siftup_map hP xs i h]
    exact heapifyL_map i _ (mem_siftup lt xs i P h)
theorem popAll_map : ∀ (k : Nat) (xs : List α), (∀ y ∈ xs, P y) → popAll lt' k (xs.map f) = (popAll lt k xs).map f
  | 0, xs, _ => rfl
  | k + 1, xs, h => by
    unfold popAll heappop
    rw [List.getLast?_map, ← List.map_dropLast]
    cases hl : xs.getLast? with
    | none => simp
    | some last =>
      have hlast := h last (List.mem_of_getLast? hl)
      cases hd : xs.dropLast with
      | nil =>
        simp only [Option.map_some, List.map_nil, List.map_cons]
        have := popAll_map k [] (fun y hy => nomatch hy)
        rw [List.map_nil] at this
        rw [this]
      | cons x r =>
        simp only [Option.map_some, List.map_cons]
        have hr : ∀ y ∈ last :: r, P y := fun y hy => by
          rcases List.mem_cons.mp hy with rfl | hy
          · exact hlast
          · exact h y ((List.dropLast_sublist xs).subset (hd ▸ List.mem_cons_of_mem _ hy))
        have e := siftup_map hP (last :: r) 0 hr
        rw [List.map_cons] at e
        rw [e, popAll_map k _ (mem_siftup lt _ _ P hr)]
theorem offHeap_map (xs : List α) (h : ∀ y ∈ xs, P y) : offHeap lt' (xs.map f) = (offHeap lt xs).map f := by
  unfold offHeap heapify
  rw [List.length_map, heapifyL_map hP _ xs h, popAll_map hP _ _ (mem_heapifyL lt P _ _ h)]
end
theorem ltK_irr (p : Int × Int) : ltK p p = false := by unfold ltK; simp
theorem ltK_iff (p q : Int × Int) : ltK p q = true ↔ p.1 < q.1 ∨ (p.1 = q.1 ∧ p.2 < q.2) := by
  unfold ltK
  by_cases a : p.1 = q.1
  · simp [a]
  · simp [a]
theorem ltK_trans {p q r : Int × Int} (h1 : ltK p q = true) (h2 : ltK q r = true) : ltK p r = true := by
  rw [ltK_iff] at *
  omega
theorem ltK_total {p q : Int × Int} (h : p ≠ q) : ltK p q = true ∨ ltK q p = true := by
  unfold ltK
  by_cases a : p.1 = q.1
  · have : p.2 ≠ q.2 := fun b => h (Prod.ext a b)
    simp [a]; omega
  · simp [a, Ne.symm a]; omega
theorem countP_lt {α : Type} {p q : α → Bool} : ∀ {l : List α} {x : α}, x ∈ l → (∀ y ∈ l, p y = true → q y = true) → q x = true → p x = false → l.countP p < l.countP q
  | y :: l, x, hx, h, hq, hp => by
    have hle : l.countP p ≤ l.countP q := List.countP_mono_left fun z hz => h z (.tail _ hz)
    rw [List.countP_cons, List.countP_cons]
    rcases List.mem_cons.mp hx with rfl | hx
    · rw [hq, hp]; simp; omega
    · have ih := countP_lt hx (fun z hz => h z (.tail _ hz)) hq hp
      have := h y (.head _)
      cases hpy : p y <;> cases hqy : q y <;> simp_all <;> omega
/-- the place of the i-th among n keys -/
def rank (n : Nat) (key : Nat → Int × Int) (i : Nat) : Nat := (List.range n).countP fun j => ltK (key j) (key i)
section
variable {n : Nat} {key : Nat → Int × Int} (hinj : ∀ i j, i < n → j < n → key i = key j → i = j)
theorem rank_lt {i j : Nat} (hi : i < n) (h : ltK (key i) (key j) = true) : rank n key i < rank n key j :=
  countP_lt (List.mem_range.mpr hi) (fun y _ hy => ltK_trans hy h) h (ltK_irr _)
theorem rank_bound {i : Nat} (hi : i < n) : rank n key i < n := by
  have := countP_lt (p := fun j => ltK (key j) (key i)) (q := fun _ => true) (List.mem_range.mpr hi) (fun _ _ _ => rfl) rfl (ltK_irr _)
  have e : (List.range n).countP (fun _ => true) = n := by rw [List.countP_true, List.length_range]
  rw [e] at this
  exact this
include hinj
theorem rank_eq {i j : Nat} (hi : i < n) (hj : j < n) : ltK (key i) (key j) = Nat.blt (rank n key i) (rank n key j) := by
  cases h : ltK (key i) (key j) with
  | true => exact (Nat.blt_eq.mpr (rank_lt hi h)).symm
  | false =>
    symm
    rw [Bool.eq_false_iff]
    intro hb
    have hlt := Nat.blt_eq.mp hb
    by_cases e : key i = key j
    · have := hinj i j hi hj e
      subst this
      omega
    · rcases ltK_total e with h' | h'
      · rw [h] at h'; cases h'
      · have := rank_lt (key := key) hj h'
        omega
theorem rank_inj {i j : Nat} (hi : i < n) (hj : j < n) (h : rank n key i = rank n key j) : i = j := by
  by_cases e : key i = key j
  · exact hinj i j hi hj e
  · rcases ltK_total e with h' | h'
    · have := rank_lt (key := key) hi h'; omega
    · have := rank_lt (key := key) hj h'; omega
end
theorem chk_all {n : Nat} (h2 : 2 ≤ n) (h6 : n ≤ 6) : chk n = true := by
  have : n = 2 ∨ n = 3 ∨ n = 4 ∨ n = 5 ∨ n = 6 := by omega
  rcases this with rfl | rfl | rfl | rfl | rfl
  · exact chk2
  · exact chk3
  · exact chk4
  · exact chk5
  · exact chk6
/-- off a heap and sorted: the same order -/
theorem orders {n : Nat} (h2 : 2 ≤ n) (h6 : n ≤ 6) {key : Nat → Int × Int} (hinj : ∀ i j, i < n → j < n → key i = key j → i = j) :
    ∃ P : List Nat, P.Perm (List.range n) ∧ runT n (fun i j => ltK (key i) (key j)) (kas_sort n) = some P.toArray ∧
      ∀ (β : Type) (lt : β → β → Bool) (f : Nat → β), (∀ i j, i < n → j < n → lt (f i) (f j) = ltK (key i) (key j)) → offHeap lt ((List.range n).map f) = P.map f := by
  let σ := (List.range n).map (rank n key)
  have hget : ∀ i, i < n → σ.getD i 0 = rank n key i := fun i hi => by simp [σ, hi]
  have hS : ∀ i j, i < n → j < n → ltK (key i) (key j) = ltS σ i j := fun i j hi hj => by
    rw [rank_eq hinj hi hj]
    unfold ltS
    rw [hget i hi, hget j hj]
  have hmem : σ ∈ nds n n := by
    refine mem_nds ?_ ?_ (by simp [σ])
    · refine List.pairwise_map.mpr ?_
      refine List.Pairwise.imp_of_mem ?_ (List.nodup_range (n := n))
      intro a b ha hb hne hr
      exact hne (rank_inj hinj (List.mem_range.mp ha) (List.mem_range.mp hb) hr)
    · intro x hx
      obtain ⟨i, hi, rfl⟩ := List.mem_map.mp hx
      exact rank_bound (List.mem_range.mp hi)
  have hc := List.all_eq_true.mp (chk_all h2 h6) σ hmem
  simp only [Bool.and_eq_true, beq_iff_eq] at hc
  obtain ⟨⟨c1, c2⟩, c3⟩ := hc
  refine ⟨ord n σ, List.isPerm_iff.mp c3, ?_, fun β lt f hf => ?_⟩
  · rw [runT_congr hS]
    split at c2
    · rename_i p hp
      rw [hp, ← beq_iff_eq.mp c2]
    · cases c2
  · rw [← c1]
    exact offHeap_map (P := fun i => i < n) (fun a b ha hb => by rw [hf a b ha hb, hS a b ha hb]) _ (fun y hy => List.mem_range.mp hy)
end
section
open PySem PySem.W PyProof.Rows PySem.Calls PySem.Spec
set_option maxRecDepth 100000
theorem mem_take_idx {a : Nat} : ∀ {R : List Nat} {m : Nat}, a ∈ R → (a ∈ R.take m ↔ R.idxOf a < m)
  | y :: R, 0, _ => by simp
  | y :: R, m + 1, h => by
    rw [List.take_succ_cons, List.idxOf_cons]
    by_cases e : y = a
    · subst e; simp
    · have hb : (y == a) = false := by simpa using e
      have h' : a ∈ R := by
        rcases List.mem_cons.mp h with h | h
        · exact absurd h.symm e
        · exact h
      rw [hb]
      simp only [List.mem_cons, Ne.symm e, false_or]
      rw [mem_take_idx h']
      simp
theorem sumN_countP (p : Nat → Bool) : ∀ (l : List Nat), (l.countP p : Int) = sumN l.length (fun r => if p (l.getD r 0) = true then 1 else 0) := by
  intro l
  have : ∀ k, k ≤ l.length → ((l.take k).countP p : Int) = sumN k (fun r => if p (l.getD r 0) = true then 1 else 0) := by
    intro k
    induction k with
    | zero => intro _; simp [sumN]
    | succ k ih =>
      intro hk
      unfold sumN
      rw [← ih (by omega), List.take_add_one, List.countP_append]
      have hk' : k < l.length := by omega
      simp only [List.getElem?_eq_getElem hk', Option.toList_some, List.countP_cons, List.countP_nil, List.getD_eq_getElem?_getD, Option.getD_some]
      by_cases hp : p l[k] = true
      · simp [hp]
      · simp [hp]
  rw [← this l.length (Nat.le_refl _), List.take_length]
theorem perm_sum {a b : List Int} (h : a.Perm b) : a.sum = b.sum := by
  induction h with
  | nil => rfl
  | cons x _ ih => rw [List.sum_cons, List.sum_cons, ih]
  | swap x y l => simp only [List.sum_cons]; omega
  | trans _ _ h1 h2 => exact h1.trans h2
section
variable {n : Nat} {P R : List Nat}
theorem cut_eq (hP : P.Perm (List.range n)) (hR : R.Perm (List.range n)) {k m : Nat} (hk : k ≤ n) {come gone : List IT} (hc : (come.map (·.1)).Perm ((P.take k).map Int.ofNat)) (hg : (gone.map (·.1)).Perm ((R.take m).map Int.ofNat)) :
    (k : Int) - ((beyondL come gone).length : Int) = sumN k (fun r => if R.idxOf (P.getD r 0) < m then 1 else 0) := by
  have hlen : P.length = n := by rw [hP.length_eq, List.length_range]
  have hcl : come.length = k := by
    have := hc.length_eq
    simp at this
    omega
  have hany : ∀ a : Int, (gone.any fun q => q.1 == a) = ((gone.map (·.1)).contains a) := fun a => by
    rw [Bool.eq_iff_iff]
    simp
  have h1 : (beyondL come gone).length = come.length - come.countP (fun p => (gone.map (·.1)).contains p.1) := by
    unfold beyondL
    rw [← List.countP_eq_length_filter]
    have := List.length_eq_countP_add_countP (fun p : IT => (gone.map (·.1)).contains p.1) (l := come)
    have e : come.countP (fun p => !(gone.any fun q => q.1 == p.1)) = come.countP (fun a => decide ¬((gone.map (·.1)).contains a.1) = true) := by
      refine List.countP_congr fun x _ => ?_
      rw [hany]
      simp
    omega
  have h2 : come.countP (fun p => (gone.map (·.1)).contains p.1) = (P.take k).countP fun i => decide (R.idxOf i < m) := by
    have e1 : come.countP (fun p => (gone.map (·.1)).contains p.1) = (come.map (·.1)).countP (fun a => (gone.map (·.1)).contains a) := by rw [List.countP_map]; rfl
    rw [e1, hc.countP_eq, List.countP_map]
    refine List.countP_congr fun i hi => ?_
    have hiR : i ∈ R := hR.mem_iff.mpr (hP.mem_iff.mp (List.mem_of_mem_take hi))
    simp only [Function.comp, List.contains_iff_mem, decide_eq_true_eq]
    rw [hg.mem_iff, ← mem_take_idx hiR]
    constructor
    · intro h
      obtain ⟨j, hj, e⟩ := List.mem_map.mp h
      have : j = i := Int.ofNat.inj e
      exact this ▸ hj
    · intro h
      exact List.mem_map.mpr ⟨i, h, rfl⟩
  have h3 := sumN_countP (fun i => decide (R.idxOf i < m)) (P.take k)
  have hle : come.countP (fun p => (gone.map (·.1)).contains p.1) ≤ come.length := List.countP_le_length
  rw [← h2] at h3
  have htl : (P.take k).length = k := by rw [List.length_take]; omega
  rw [htl] at h3
  have h4 : sumN k (fun r => if decide (R.idxOf ((P.take k).getD r 0) < m) = true then 1 else 0) = sumN k (fun r => if R.idxOf (P.getD r 0) < m then 1 else 0) := by
    refine sumN_congr fun r hr => ?_
    have : (P.take k).getD r 0 = P.getD r 0 := by simp [hr]
    rw [this]
    simp
  rw [h4] at h3
  omega
theorem sum_perm (hP : P.Perm (List.range n)) (f : Nat → Int) : sumN n (fun r => f (P.getD r 0)) = sumN n f := by
  have key : ∀ l : List Nat, (l.map f).sum = sumN l.length (fun r => f (l.getD r 0)) := by
    intro l
    have : ∀ k, k ≤ l.length → ((l.take k).map f).sum = sumN k (fun r => f (l.getD r 0)) := by
      intro k
      induction k with
      | zero => intro _; simp [sumN]
      | succ k ih =>
        intro hk
        unfold sumN
        rw [← ih (by omega), List.take_add_one]
        have hk' : k < l.length := by omega
        rw [List.map_append, List.sum_append, List.getElem?_eq_getElem hk']
        simp [hk']
    rw [← this l.length (Nat.le_refl _), List.take_length]
  have hlen : P.length = n := by rw [hP.length_eq, List.length_range]
  have h1 := key P
  have h2 := key (List.range n)
  rw [hlen] at h1
  rw [List.length_range] at h2
  have h3 : (P.map f).sum = ((List.range n).map f).sum := by
    exact perm_sum (hP.map f)
  rw [← h1, h3, h2]
  refine sumN_congr fun r hr => ?_
  simp [hr]
/-- the law's sum -/
def tot (n : Nat) (P R : List Nat) (x y : Nat → Int) (k m : Nat) : Int :=
  ((n : Int) * sumN k (fun r => if R.idxOf (P.getD r 0) < m then 1 else 0) - (k : Int) * (m : Int)) * (x (P.getD k 0) - x (P.getD (k - 1) 0)) * (y (R.getD m 0) - y (R.getD (m - 1) 0))
theorem tot_all (hn : 1 ≤ n) (hP : P.Perm (List.range n)) (hR : R.Perm (List.range n)) (x y : Nat → Int) :
    sumN (n - 1) (fun k => sumN (n - 1) (fun m => tot n P R x y (k + 1) (m + 1))) = (n : Int) * sumN n (fun i => x i * y i) - sumN n x * sumN n y := by
  obtain ⟨N, rfl⟩ : ∃ N, n = N + 1 := ⟨n - 1, by omega⟩
  have hlenP : P.length = N + 1 := by rw [hP.length_eq, List.length_range]
  have hlenR : R.length = N + 1 := by rw [hR.length_eq, List.length_range]
  have hget : ∀ r, r < N + 1 → P.getD r 0 ∈ R := fun r hr => by
    have : P.getD r 0 = P[r]'(by omega) := by simp [hlenP, hr]
    rw [this]
    exact hR.mem_iff.mpr (hP.mem_iff.mp (List.getElem_mem _))
  have h := hoeffding N (fun r => x (P.getD r 0)) (fun r => y (R.getD r 0)) (fun r => y (P.getD r 0)) (fun r => R.idxOf (P.getD r 0)) (fun r hr => ?_) (fun r hr => ?_) ?_
  · have e1 := sum_perm hP x
    have e2 := sum_perm hR y
    have e3 := sum_perm hP (fun i => x i * y i)
    rw [← e1, ← e2, ← e3]
    exact h
  · have := List.idxOf_lt_length_of_mem (hget r hr)
    omega
  · show y (P.getD r 0) = y (R.getD (R.idxOf (P.getD r 0)) 0)
    congr 1
    have hl := List.idxOf_lt_length_of_mem (hget r hr)
    generalize P.getD r 0 = z at hl ⊢
    rw [List.getD_eq_getElem?_getD, List.getElem?_eq_getElem hl, List.getElem_idxOf, Option.getD_some]
  · rw [sum_perm hP y, sum_perm hR y]
end
/-- strictly rising lists: what the one has beyond the other -/
theorem beyondL_of_lt {x : IT} {xs ys : List IT} (h : ∀ q ∈ ys, x.1 < q.1) : beyondL (x :: xs) ys = x :: beyondL xs ys := by
  unfold beyondL
  rw [List.filter_cons_of_pos]
  simp only [Bool.not_eq_true', List.any_eq_false, beq_iff_eq]
  intro q hq e
  have := h q hq
  omega
theorem beyondL_drop {y : IT} {xs ys : List IT} (h : ∀ p ∈ xs, y.1 < p.1) : beyondL xs (y :: ys) = beyondL xs ys := by
  unfold beyondL
  refine List.filter_congr fun p hp => ?_
  have hh := h p hp
  have : (y.1 == p.1) = false := by
    rw [Bool.eq_false_iff]
    intro e
    have := beq_iff_eq.mp e
    omega
  rw [List.any_cons, this, Bool.false_or]
theorem sldP_beyond : ∀ (xs ys : List IT), xs.Pairwise (fun p q => p.1 < q.1) → ys.Pairwise (fun p q => p.1 < q.1) → sldP xs ys = (beyondL xs ys, beyondL ys xs)
  | [], ys, _, _ => by
    rw [sldP_nil_left]
    unfold beyondL
    simp [List.filter_eq_self.mpr]
  | x :: xs, [], _, _ => by
    rw [sldP_nil_right]
    unfold beyondL
    simp [List.filter_eq_self.mpr]
  | x :: xs, y :: ys, hx, hy => by
    have hx' := List.pairwise_cons.mp hx
    have hy' := List.pairwise_cons.mp hy
    rw [sldP]
    by_cases h1 : x.1 < y.1
    · rw [if_pos h1, sldP_beyond xs (y :: ys) hx'.2 hy]
      have hlt : ∀ q ∈ y :: ys, x.1 < q.1 := fun q hq => by
        rcases List.mem_cons.mp hq with rfl | hq
        · exact h1
        · have := hy'.1 q hq; omega
      rw [beyondL_of_lt hlt, beyondL_drop hlt]
    · rw [if_neg h1]
      by_cases h2 : y.1 < x.1
      · rw [if_pos h2, sldP_beyond (x :: xs) ys hx hy'.2]
        have hlt : ∀ q ∈ x :: xs, y.1 < q.1 := fun q hq => by
          rcases List.mem_cons.mp hq with rfl | hq
          · exact h2
          · have := hx'.1 q hq; omega
        rw [beyondL_of_lt hlt, beyondL_drop hlt]
      · rw [if_neg h2, sldP_beyond xs ys hx'.2 hy'.2]
        have he : x.1 = y.1 := by omega
        have e1 : beyondL (x :: xs) (y :: ys) = beyondL xs (y :: ys) := by
          unfold beyondL
          rw [List.filter_cons_of_neg]
          simp [he]
        have e2 : beyondL (y :: ys) (x :: xs) = beyondL ys (x :: xs) := by
          unfold beyondL
          rw [List.filter_cons_of_neg]
          simp [he]
        rw [e1, e2, beyondL_drop (fun p hp => by have := hx'.1 p hp; omega), beyondL_drop (fun p hp => by have := hy'.1 p hp; omega)]
termination_by xs ys => xs.length + ys.length
end
section
open PySem PySem.W PyProof.Rows PySem.Calls PySem.Spec
set_option maxRecDepth 100000
def TIt (o : Obj) (t : Addr) (i : Nat) : Prop := o.cls = .type "tuple_iterator" ∧ o.data = .fields #[.ref t, .int (i : Int) 0]
section
variable {prog : Program} {w : World} {A : Around} {E : Value → Shared → Prop} {s : Shared} {h₀ : Heap} {L it t : Addr} {m : Str → Option Value} {news : News'} {o : Obj} {i : Nat}
theorem iter_tup_N {items : Array Value} {Q : Value → Shared → Prop} (F : Fr h₀ L s.heap m) (N : News h₀ L s.heap news) (hl : s.heap.IsTuple t items)
    (h : ∀ it o h', TIt o t 0 → (∀ p ∈ news, p.1 ≠ it) → Fr h₀ L h' m → News h₀ L h' ((it, o) :: news) → Q (.ref it) { s with heap := h' }) : wpAny (model prog w) A (pyIter (.ref t)) Q E s :=
  wpAny_pyIter_tuple hl (h _ _ _ ⟨rfl, rfl⟩ (news_lt N) (F.push _) (N.push F _))
theorem walk_tup {vs : List Value} (hh : A.handled = none) : Walk prog w A h₀ L it vs.length (fun i v => vs[i]? = some v) (fun i o => TIt o t i) (fun h => h.IsTuple t vs.toArray) where
  next s m news o i Q E ho F N hne hl hi h := by
    refine wpAny_pyNext_tuple_item (x := vs[i]) ⟨o, (N _ (.head _)).1, ho.1, ho.2⟩ hl (by simp [hi]) fun h' hi' hs => ?_
    obtain ⟨o', ho', hc', hd'⟩ := hi'
    have e := put_fr F N (.head _) hs ho'
    rw [put_cons_self hne] at e
    exact h _ h' s.toks o' (by simp [hi]) ⟨hc', hd'⟩ e.1 e.2 hs
  stop s m news o i Q E ho F N hne hl hi h := by
    have z := N _ (.head _)
    refine wpAny_pyNext_tuple_end hh ⟨o, z.1, ho.1, ho.2⟩ hl (by simp [hi]) fun h' hs => h h' ⟨F.ns.extBut hs (Ne.symm z.2.1), fun b o e => hs b o (fun q => ?_) (F.keep b o e), F.above⟩ (fun p hp => ⟨hs _ _ (hne p hp) (N p (.tail _ hp)).1, (N p (.tail _ hp)).2⟩) hs
    have := z.2.2
    rw [← q, e] at this
    cases this
theorem letGo_tup {elts : List Expr} {k : Nat} {pos : Pos} {v : Value} {Q : Unit → Shared → Prop} (ho : s.heap.get? it = some o) (hi : TIt o t i ∨ LIt o t i) (h : Q () s) : wpAny (model prog w) A (letOwnedTupleGo (.Tuple elts k pos) (.ref it) v) Q E s := by
  cases v with
  | ref a =>
    unfold letOwnedTupleGo
    refine wpAny_bind (wpAny_load ho ?_)
    rcases hi with ⟨hc, hd⟩ | ⟨hc, hd⟩
    · rw [hc, hd]
      show wpAny _ A (if (["enumerate", "zip", "dict_itemiterator", "dict_reverseitemiterator", "odict_iterator", "itertools.zip_longest", "itertools.pairwise"].contains "tuple_iterator" && (#[.ref t, .int i 0] : Array Value)[0]? == some (rawInt a)) = true then _ else _) Q E s
      rw [if_neg (by
        intro h
        rw [show (["enumerate", "zip", "dict_itemiterator", "dict_reverseitemiterator", "odict_iterator", "itertools.zip_longest", "itertools.pairwise"].contains "tuple_iterator") = false from by decide, Bool.false_and] at h
        cases h)]
      exact wpAny_pure h
    · rw [hc, hd]
      show wpAny _ A (if (["enumerate", "zip", "dict_itemiterator", "dict_reverseitemiterator", "odict_iterator", "itertools.zip_longest", "itertools.pairwise"].contains "list_iterator" && (#[.ref t, .int i 0] : Array Value)[0]? == some (rawInt a)) = true then _ else _) Q E s
      rw [if_neg (by
        intro h
        rw [show (["enumerate", "zip", "dict_itemiterator", "dict_reverseitemiterator", "odict_iterator", "itertools.zip_longest", "itertools.pairwise"].contains "list_iterator") = false from by decide, Bool.false_and] at h
        cases h)]
      exact wpAny_pure h
  | _ => exact wpAny_pure h
/-- a pair unpacked -/
theorem unpack_tup {env : Env} {e1 e2 : Expr} {k : Nat} {pos : Pos} {v1 v2 : Value} {Q : Unit → Shared → Prop} (hh : A.handled = none) (F : Fr h₀ L s.heap m) (N : News h₀ L s.heap news) (ht : s.heap.IsTuple t #[v1, v2])
    (he : assignEach [e1, e2] env = [(false, assign e1 env), (false, assign e2 env)])
    (h : ∀ h', (∀ b o, s.heap.get? b = some o → h'.get? b = some o) → Fr h₀ L h' m → News h₀ L h' news → wpAny (model prog w) A (assign e1 env v1) (fun _ s₁ => wpAny (model prog w) A (assign e2 env v2) Q E s₁) E { s with heap := h' }) :
    wpAny (model prog w) A (assign (.Tuple [e1, e2] k pos) env (.ref t)) Q E s := by
  refine wpAny_assign_Tuple hh ht (by rw [he]; rfl) (by rw [he]; rfl) fun h' hx => ?_
  have hk : ∀ b o, s.heap.get? b = some o → h'.get? b = some o := fun b o e => hx b o (Nat.ne_of_lt (Heap.lt_size e)) e
  rw [he]
  show wpAny _ _ (assignInOrder [assign e1 env, assign e2 env] [v1, v2]) _ _ _
  refine wpAny_bind (wpAny_holding (wpAny_mono (h h' hk ⟨F.ns.keeps hk, fun b o e => hk b o (F.keep b o e), F.above⟩ (N.grown hk)) (fun _ s₁ h₁ => ?_) fun _ _ e => e))
  exact wpAny_bind (wpAny_holding (wpAny_mono h₁ (fun _ s₂ h₂ => wpAny_pure h₂) fun _ _ e => e))
end
end
section
open PySem PySem.W PyProof.Rows PySem.Calls PySem.Spec
set_option maxRecDepth 100000
/-- what stands in the law's frame -/
structure LawAt (w : World) (p : Program) (loose : List Str) (mg mb : Str → Option Value) (A : Around) (h₀ : Heap) (L : Addr) (env : Env) : Prop where
  C : At (hd.heap_39 w.params) p loose mg mb A h₀ L 20 100
  fr : A.frames = some [env]
  fl : env.frame = some L
  fk : env.scope.kind = .function
  BM : ∃ bm ob, BMod h₀ mainGlobals mg bm ob
  CH : CodeHd h₀ 61 57
/-- what one turn of the law's loop does -/
def TurnSpec (prog : Program) (w : World) (A : Around) (h₀ : Heap) (L : Addr) (env : Env) (fbody : List Stmt) : Prop :=
  ∀ (s : Shared) (m : Str → Option Value) (news : News') (n nx ny : Nat) (xs ys : List IT) (lx ly : Addr) (on oa ou : Obj) (tn : Tok) (ps : Array Value),
    Fr h₀ L s.heap m → News h₀ L s.heap news → (L + 1, on) ∈ news → on.data = .cell (some (.int (n : Int) tn)) → (L + 1 + 1, oa) ∈ news → oa.data = .cell (some (.ref lx)) → (L + 1 + 1 + 1, ou) ∈ news → ou.data = .cell (some (.ref ly)) →
    (57, tabObj ps) ∈ news → TriplesOk ps.toList → (lx, intO xs nx) ∈ news → (ly, intO ys ny) ∈ news → xs.length = n → ys.length = n → 2 ≤ n → n ≤ 6 → (∀ q ∈ xs, -(2 ^ 18) < q.1 ∧ q.1 < 2 ^ 18) → (∀ q ∈ ys, -(2 ^ 18) < q.1 ∧ q.1 < 2 ^ 18) → AllBare s.gens →
    wpAny (model prog w) A (execs fbody env) (fun fl s' => fl = .next ∧ s'.drawn = s.drawn ∧ s'.os = s.os ∧ AllBare s'.gens ∧ ∃ m' news' ps', Fr h₀ L s'.heap m' ∧ News h₀ L s'.heap news' ∧ TriplesOk ps'.toList ∧ (57, tabObj ps') ∈ news' ∧ ∀ q ∈ news, q.1 ≠ 57 → q ∈ news') (fun _ _ => False) s
/-- the number as the law takes it -/
def redN (x : Int) : Int := if -(2 ^ 18) < x ∧ x < 2 ^ 18 then x else x.fmod (2 ^ 18)
theorem redN_small (x : Int) : -(2 ^ 18) < redN x ∧ redN x < 2 ^ 18 := by
  unfold redN
  split
  · assumption
  · have h1 := Int.fmod_nonneg_of_pos x (show (0 : Int) < 2 ^ 18 by decide)
    have h2 := Int.fmod_lt_of_pos x (show (0 : Int) < 2 ^ 18 by decide)
    omega
theorem ints_it {vs : List Value} {ns : List Int} (h : IntsAre vs ns) : ∃ xs : List IT, vs = xs.map valI ∧ xs.length = ns.length := by
  induction h with
  | nil => exact ⟨[], rfl, rfl⟩
  | cons n t _ ih =>
    obtain ⟨xs, rfl, hl⟩ := ih
    exact ⟨(n, t) :: xs, rfl, by simp [hl]⟩
theorem src_news {h₀ h : Heap} {L D : Addr} {xs : List IT} {t1 t2 t3 t4 : Tok} {rest : News'} (N : News h₀ L h ((D, listOf ((xs.take 8).map valI ++ [Value.int 4 t1, .int 1 t2, .int 2 t3, .int 6 t4]).toArray 0) :: rest)) :
    ∃ src : List IT, News h₀ L h ((D, intO src 0) :: rest) ∧ 4 ≤ src.length ∧ src.length ≤ 12 := by
  refine ⟨xs.take 8 ++ [(4, t1), (1, t2), (2, t3), (6, t4)], ?_, by simp, by simp; omega⟩
  have e : ((xs.take 8 ++ [(4, t1), (1, t2), (2, t3), (6, t4)]).map valI) = (xs.take 8).map valI ++ [Value.int 4 t1, .int 1 t2, .int 2 t3, .int 6 t4] := by simp
  show News h₀ L h ((D, listOf ((xs.take 8 ++ [(4, t1), (1, t2), (2, t3), (6, t4)]).map valI).toArray 0) :: rest)
  rw [e]
  exact N
/-- a comprehension that maps ints -/
theorem mapcomp {prog : Program} {w : World} {A : Around} {E : Value → Shared → Prop} {env : Env} {h₀ : Heap} {L l : Addr} {elt iter : Expr} {x : Str} {px : Pos} {scope : Scope} {cl : List (Str × Addr)} {pos : Pos} {use : Option (Value → Sem Unit)} {Q : Value → Shared → Prop} {s : Shared} {m : Str → Option Value} {news : News'} {src : List IT} {k : Nat} (f : Int → Int)
    (hh : A.handled = none) (F : Fr h₀ L s.heap m) (N : News h₀ L s.heap news) (hl : (l, intO src k) ∈ news) (hsz : src.length < 900) (hkc : ∀ C, (compEnvC scope cl C env).scope.kind = .function) (hxc : ∀ C, (compEnvC scope cl C env).kindOf x = some .local)
    (helt : ∀ (C : Addr) (mc : Str → Option Value) (h : Heap) (tk : Nat) (news' : News') (a : Int) (t : Tok) (Q' E' : Value → Shared → Prop), (∀ q ∈ news, q ∈ news') → (∃ q ∈ src, q.1 = a) → Fr h₀ L h m → News h₀ L h news' → Cm h₀ L C h mc → mc x = some (.int a t) → (∀ tz tk', Q' (.int (f a) tz) { s with heap := h, toks := tk' }) →
      wpAny (model prog w) A (eval elt (compEnvC scope cl C env)) Q' E' { s with heap := h, toks := tk })
    (hend : ∀ R C its kr mc h' tk', its.map (·.1) = src.map (fun p => f p.1) → Fr h₀ L h' m → News h₀ L h' ((R, intO its kr) :: news) → Cm h₀ L C h' mc → (∀ q ∈ news, q.1 ≠ C ∧ q.1 ≠ R) → R ≠ C →
      compPost (model prog w) A E use Q (.ref R) C (.ok .next) { s with heap := h', toks := tk' }) :
    wpAny (model prog w) A (pyIter (.ref l)) (CompGo prog w A E env h₀ L elt (.Name x px) iter [] scope cl pos use Q) E s := by
  refine iter_list_N F N (PySem.IsL.isList (n := k) (N _ hl).1) (fun it o h5 ho hit F5 N6 hk5 => ?_)
  refine comp_over (walk_list (l := l) (vs := src.map valI) hh) ho F5 N6 hit (list_self ho) (fun i out news' => news' = news ∧ ∃ its : List IT, out = its.map valI ∧ its.map (·.1) = (src.take i).map (fun p => f p.1)) ⟨rfl, [], rfl, by simp⟩
    (by rintro i out _ h' ⟨rfl, _⟩ N'; exact PySem.IsL.isList (n := k) (N' _ hl).1) (by
      rintro i out _ ⟨_, its, rfl, hl⟩
      have := congrArg List.length hl
      simp at this
      simp
      omega) (by simpa using hsz) hkc hxc ?turn ?fin
  case fin =>
    rintro R C' out kr _ mc h' tk' ⟨rfl, its, rfl, hil⟩ F' N' c' hq hRC
    rw [List.length_map, List.take_length] at hil
    exact hend R C' its kr mc h' tk' hil F' N' c' hq hRC
  case turn =>
    rintro R C' i out _ o oC kr mc h tk v E' ⟨rfl, its, rfl, hil⟩ hi hv F' N' c' hmx hq
    rw [List.getElem?_map, Option.map_eq_some_iff] at hv
    obtain ⟨⟨a, t⟩, hv, rfl⟩ := hv
    refine tests_nil ?_
    show wpAny _ _ (eval elt _) _ _ _
    refine helt C' mc h tk _ a t _ _ (fun q hq => .tail _ (.tail _ (.tail _ hq))) ⟨_, List.mem_of_getElem? hv, rfl⟩ F' N' c' hmx (fun tz tk' => ?_)
    exact Turned.intro F' N' hq ⟨rfl, its ++ [(f a, tz)], by simp, by rw [List.take_add_one, hv]; simp [hil]⟩
section
variable {prog : Program} {w : World} {p : Program} {loose : List Str} {mg mb : Str → Option Value} {A : Around} {s : Shared} {h₀ : Heap} {L l0 : Addr} {m : Str → Option Value} {vs : List Value} {ns : List Int} {on oa ou : Obj}
  {name qual : Str} {params : Arguments} {body : List Stmt} {scope : Scope} {dV kV doc pm cdv ct oc cd : Value} {an od : Option Addr} {osl : Array (Option Value)} {fa : Addr}
set_option maxHeartbeats 8000000 in
theorem law_N (ho : (hd.heap_39 w.params).lookup 112 = some ⟨oc, od, .func (fnOf name qual params body scope dV kV doc pm an cdv ct), osl⟩)
    (Z : LawAt w p loose mg mb A h₀ L (envOfC qual scope L fa cd)) (F : Fr h₀ L s.heap m) (hm : m (Str.ofString "script") = some (.ref l0)) (N : News h₀ L s.heap [(L + 1 + 1 + 1, ou), (L + 1 + 1, oa), (L + 1, on), (57, tabObj #[])])
    (hou : ou.data = .cell none) (hoa : oa.data = .cell none) (hon : on.data = .cell none) (hl0 : h₀.IsList l0 vs.toArray) (hI : IntsAre vs ns) (hlen : ns.length ≤ 63) (hg : AllBare s.gens)
    (hturn : ∀ st1 st2 tgt it fbody oe fpos rest, body = st1 :: st2 :: .For tgt it fbody oe fpos :: rest → TurnSpec prog w A h₀ L (envOfC qual scope L fa cd) fbody) :
    wpAny (model prog w) A (execs body (envOfC qual scope L fa cd)) (fun fl s' => fl = .ret (.bool true) ∧ s'.drawn = s.drawn ∧ s'.os = s.os ∧ AllBare s'.gens ∧ ∃ m' news' ps, Fr h₀ L s'.heap m' ∧ News h₀ L s'.heap news' ∧ (57, tabObj ps) ∈ news') (fun _ _ => False) s := by
  have e := ho
  rw [show (hd.heap_39 w.params).lookup 112 = some _ from rfl] at e
  cases e
  have hturn := hturn _ _ _ _ _ _ _ _ rfl
  have C := Z.C
  have hh := C.hh
  obtain ⟨xs0, rfl, hxl⟩ := ints_it hI
  obtain ⟨base, hB⟩ : ∃ base, base = [(L + 1 + 1 + 1, ou), (L + 1 + 1, oa), (L + 1, on), (57, tabObj #[])] := ⟨_, rfl⟩
  rw [← hB] at N
  have mcu : (L + 1 + 1 + 1, ou) ∈ base := hB ▸ .head _
  have mca : (L + 1 + 1, oa) ∈ base := hB ▸ .tail _ (.head _)
  have mcn : (L + 1, on) ∈ base := hB ▸ .tail _ (.tail _ (.head _))
  have mtb : (57, tabObj #[]) ∈ base := hB ▸ .tail _ (.tail _ (.tail _ (.head _)))
  clear hB
  refine seq_cut (fun s' => ∃ h' tk Ln kn nums m', s' = { s with heap := h', toks := tk } ∧ Fr h₀ L h' m' ∧ News h₀ L h' ((Ln, intO nums kn) :: base) ∧ (∀ q ∈ base, q.1 ≠ Ln) ∧ m' (Str.ofString "numbers") = some (.ref Ln) ∧ 4 ≤ nums.length ∧ nums.length ≤ 12 ∧ ∀ q ∈ nums, -(2 ^ 18) < q.1 ∧ q.1 < 2 ^ 18) ?s1 ?rest
  case s1 =>
    refine AssignComp_N h₀ L (by tb_start) (by tb_start) (by decide) (by tb_start) (by decide) (by intro _; tb_start) ?_
    repeat tb_rel
    refine slice_end (vs := xs0.map valI) (ps := (xs0.take 8).map valI) F N (hl0.at fun o e => F.keep _ o e) (by simp; omega) .none (.int _ _) (by rw [show (8 : Int) = ((8 : Nat) : Int) from rfl, slicePick_upto']; simp) (fun D1 h1 hD1 F1 N1 => ?_)
    repeat tb_rel
    refine newL_N F1 N1 (by simp) (fun D2 h2 hD2 F2 N2 => ?_)
    refine add_lists F2 N2 (PySem.IsL.isList (n := 0) (N2 _ (.tail _ (.head _))).1) (PySem.IsL.isList (n := 0) (N2 _ (.head _)).1) (fun h3 F3 N3 => ?_) (by simp [sizeLine_eq]; omega)
    have hD3 := news_lt N2
    generalize h2.objs.size = D3 at N3 hD3
    obtain ⟨src, N4, hs4, hs12⟩ := src_news N3
    clear N3 N2 F2 N1 F1 hD2
    have N5 : News h₀ L h3 ((D3, intO src 0) :: base) := news_sub N4 fun q hq => by
      rcases List.mem_cons.mp hq with rfl | hq
      · exact .head _
      · exact .tail _ (.tail _ (.tail _ hq))
    have hDb : ∀ q ∈ base, q.1 ≠ D3 := fun q hq => hD3 q (.tail _ (.tail _ hq))
    clear N4 hD3
    refine iter_list_N F3 N5 (PySem.IsL.isList (n := 0) (N5 _ (.head _)).1) (fun it o h5 ho hit F5 N6 hk5 => ?_)
    refine comp_over (walk_list (l := D3) (vs := src.map valI) hh) ho F5 N6 hit (list_self ho) (fun i out news' => news' = (D3, intO src 0) :: base ∧ ∃ its : List IT, out = its.map valI ∧ its.length = i ∧ ∀ q ∈ its, -(2 ^ 18) < q.1 ∧ q.1 < 2 ^ 18) ⟨rfl, [], rfl, rfl, fun _ h => nomatch h⟩
      (by rintro i out _ h' ⟨rfl, _⟩ N'; exact PySem.IsL.isList (n := 0) (N' _ (.head _)).1) (by rintro i out _ ⟨_, its, rfl, hl, _⟩; simp [hl]) (by simp; omega)
      (by intro _; kernel_rfl!) (by intro _; kernel_rfl!) ?turn ?fin
    case fin =>
      rintro R C' out kr _ mc h' tk' ⟨rfl, its, rfl, hil, hib⟩ F' N' c' hq hRC
      refine comp_end_use F' N' c' hq hRC rfl rfl (by kernel_rfl!) (fun h'' F'' N'' => ?_)
      rw [List.length_map] at hil
      refine ⟨rfl, h'', _, R, kr, its, _, rfl, F'', news_sub N'' fun q hq => ?_, fun q hq' => (hq q (.tail _ hq')).2, if_pos rfl, by omega, by omega, hib⟩
      rcases List.mem_cons.mp hq with rfl | hq
      · exact .head _
      · exact .tail _ (.tail _ hq)
    case turn =>
      clear F5 N6 hk5 hit F N F3 N5
      rintro R C' i out _ o oC kr mc h tk v E' ⟨rfl, its, rfl, hil, hib⟩ hi hv F' N' c' hmx hq
      rw [List.getElem?_map, Option.map_eq_some_iff] at hv
      obtain ⟨⟨a, t⟩, hv, rfl⟩ := hv
      refine tests_nil ?_
      repeat tb_rel
      refine IfExp_ ?_
      refine isTrue_chain ?_
      refine UnaryOp_ ?_
      repeat tb_rel
      refine pow_int_small (by decide) (by decide) (by decide) ?_
      refine neg_int ?_
      refine test_link ?_
      repeat tb_rel
      have hfin : ∀ {z : Int} {tz : Tok} {tk' : Nat}, -(2 ^ 18) < z ∧ z < 2 ^ 18 → Turned { s with heap := h5, toks := tk } h₀ L C' it R m oC o (its.map valI) kr (fun news' => news' = (D3, intO src 0) :: base ∧ ∃ its' : List IT, its.map valI ++ [Value.int z tz] = its'.map valI ∧ its'.length = i + 1 ∧ ∀ q ∈ its', -(2 ^ 18) < q.1 ∧ q.1 < 2 ^ 18) { s with heap := h, toks := tk' } := by
        intro z tz tk' hz
        refine Turned.intro F' N' hq ⟨rfl, its ++ [(z, tz)], by simp, by simp [hil], fun q hq => ?_⟩
        rcases List.mem_append.mp hq with hq | hq
        · exact hib q hq
        · rw [List.mem_singleton.mp hq]
          exact hz
      have hmod : ∀ {Q : Value → Shared → Prop} {tk' : Nat} {u : Tok}, (∀ z tz tk'', -(2 ^ 18) < z ∧ z < 2 ^ 18 → Q (.int z tz) { s with heap := h, toks := tk'' }) → wpAny (model prog w) A (binaryOp .Mod (.int a t) (.int (2 ^ Int.toNat 18) u)) Q E' { s with heap := h, toks := tk' } := by
        intro Q tk' u hq
        refine mod_int (by decide) (hq _ _ _ ?_)
        have h1 := Int.fmod_nonneg_of_pos a (show (0 : Int) < 2 ^ Int.toNat 18 by decide)
        have h2 := Int.fmod_lt_of_pos a (show (0 : Int) < 2 ^ Int.toNat 18 by decide)
        have e : (2 : Int) ^ Int.toNat 18 = 2 ^ 18 := rfl
        rw [e] at h1 h2 ⊢
        omega
      split
      · rename_i hd1
        have hd1 := of_decide_eq_true hd1
        refine test_last ?_
        repeat tb_rel
        refine pow_int_small (by decide) (by decide) (by decide) ?_
        repeat tb_rel
        split
        · rename_i hd2
          have hd2 := of_decide_eq_true hd2
          repeat tb_rel
          exact hfin ⟨hd1, hd2⟩
        · repeat tb_rel
          refine pow_int_small (by decide) (by decide) (by decide) ?_
          exact hmod fun z tz tk'' hz => hfin hz
      · rw [if_neg (by decide)]
        repeat tb_rel
        refine pow_int_small (by decide) (by decide) (by decide) ?_
        exact hmod fun z tz tk'' hz => hfin hz
  case rest =>
  rintro s' ⟨h1, tk1, Ln, kn, nums, m1, rfl, F1, N1, hLn, e1, hn4, hn12, hnb⟩
  clear F N hl0 hm
  obtain ⟨n, hn⟩ : ∃ n, n = nums.length / 2 := ⟨_, rfl⟩
  refine seq_cut (fun s' => ∃ h' tk m' on' tn, s' = { s with heap := h', toks := tk } ∧ Fr h₀ L h' m' ∧ News h₀ L h' ((Ln, intO nums kn) :: put (L + 1) on' base) ∧ m' (Str.ofString "numbers") = some (.ref Ln) ∧ on'.data = .cell (some (.int (n : Int) tn))) ?s2 ?rest2
  case s2 =>
    repeat tb_rel
    refine len_list (PySem.IsL.isList (n := kn) (N1 _ (.head _)).1) (by simp; omega) ?_
    repeat tb_rel
    refine floordiv_int (by decide) ?_
    refine stCell F1 N1 (.tail _ mcn) hon (by tb_start) (fun h2 on' hon' F2 N2 => ?_) (by kernel_rfl!) (by kernel_rfl!)
    rw [put_cons_ne (fun e => hLn _ mcn e.symm)] at N2
    have : ((nums.map valI).toArray.size : Int).fdiv 2 = (n : Int) := by
      rw [Int.fdiv_eq_ediv_of_nonneg _ (by decide)]
      simp [hn]
    rw [this] at hon'
    exact ⟨rfl, h2, _, m1, on', _, rfl, F2, N2, e1, hon'⟩
  case rest2 =>
  rintro s' ⟨h2, tk2, m2, on', tn, rfl, F2, N2, e2, hon'⟩
  obtain ⟨base', hB⟩ : ∃ base', base' = put (L + 1) on' base := ⟨_, rfl⟩
  have hLn' : ∀ q ∈ base', q.1 ≠ Ln := hB ▸ put_keys hLn
  have mcu' : (L + 1 + 1 + 1, ou) ∈ base' := hB ▸ put_ne mcu (Nat.ne_of_gt (by omega))
  have mca' : (L + 1 + 1, oa) ∈ base' := hB ▸ put_ne mca (Nat.ne_of_gt (by omega))
  have mcn' : (L + 1, on') ∈ base' := hB ▸ put_self mcn
  have e57 : 57 ≠ L + 1 := news_apart N1 (.tail _ mtb) (.tail _ mcn) (by intro e; rw [← e] at hon; cases hon)
  have mtb' : (57, tabObj #[]) ∈ base' := hB ▸ put_ne mtb e57
  rw [← hB] at N2
  clear hB mcu mca mcn mtb F1 N1 hLn
  have hn2 : 2 ≤ n := by omega
  have hn6 : n ≤ 6 := by omega
  refine seq_cut (fun s' => s'.drawn = s.drawn ∧ s'.os = s.os ∧ AllBare s'.gens ∧ ∃ m' news' ps, Fr h₀ L s'.heap m' ∧ News h₀ L s'.heap news' ∧ (57, tabObj ps) ∈ news') ?s3 ?rest3
  case rest3 =>
    rintro s' ⟨a1, a2, a3, a4⟩
    repeat tb_rel
    exact ⟨rfl, a1, a2, a3, a4⟩
  case s3 =>
  have mln : (Ln, intO nums kn) ∈ (Ln, intO nums kn) :: base' := .head _
  have mcn2 : (L + 1, on') ∈ (Ln, intO nums kn) :: base' := .tail _ mcn'
  refine wpAny_For ?_ (by intro _; tb_start)
  repeat tb_rel
  refine slice_end (vs := nums.map valI) (ps := (nums.take n).map valI) F2 N2 (PySem.IsL.isList (n := kn) (N2 _ (.head _)).1) (by simp; omega) .none (.int _ _) (by rw [slicePick_upto']; simp) (fun Da h3 hDa F3 N3 => ?_)
  have mln3 := List.mem_cons_of_mem (Da, listOf ((nums.take n).map valI).toArray 0) mln
  have mcn3 := List.mem_cons_of_mem (Da, listOf ((nums.take n).map valI).toArray 0) mcn2
  repeat tb_rel
  refine mul_small (by decide) (by decide) ?_
  refine slice_end (vs := nums.map valI) (ps := ((nums.drop n).take n).map valI) F3 N3 (PySem.IsL.isList (n := kn) (N3 _ mln3).1) (by simp; omega) (.int _ _) (.int _ _) (by
    rw [show (2 : Int) * (n : Int) = ((2 * n : Nat) : Int) by omega, slicePick_run _ _ _ (by simp; omega) (by omega)]
    simp [show 2 * n - n = n by omega]) (fun Db h4 hDb F4 N4 => ?_)
  repeat tb_rel
  refine newT_N F4 N4 (by simp) (fun T1 h5 hT1 F5 N5 => ?_)
  repeat tb_rel
  have hmod3 : ∀ {Q' E' : Value → Shared → Prop} {a : Int} {t u : Tok} {h : Heap} {tk : Nat}, (∀ tz tk', Q' (.int (a.fmod 3) tz) { s with heap := h, toks := tk' }) → wpAny (model prog w) A (binaryOp .Mod (.int a t) (.int 3 u)) Q' E' { s with heap := h, toks := tk } := fun hq => mod_int (by decide) (hq _ _)
  have hb3 : ∀ {its src : List IT}, its.map (·.1) = src.map (fun p => p.1.fmod 3) → its.length = src.length ∧ ∀ q ∈ its, -(2 ^ 18) < q.1 ∧ q.1 < 2 ^ 18 := by
    intro its src he
    refine ⟨by have := congrArg List.length he; simpa using this, fun q hq => ?_⟩
    have : q.1 ∈ its.map (·.1) := List.mem_map_of_mem hq
    rw [he] at this
    obtain ⟨p, _, hp⟩ := List.mem_map.mp this
    have h1 := Int.fmod_nonneg_of_pos p.1 (show (0 : Int) < 3 by decide)
    have h2 := Int.fmod_lt_of_pos p.1 (show (0 : Int) < 3 by decide)
    omega
  refine ListComp_N h₀ L (by tb_start) (by decide) (by tb_start) (by decide) (by intro _; tb_start) ?_
  have mln5 : (Ln, intO nums kn) ∈ (T1, ({ cls := .type "tuple", data := .seq [Value.ref Da, .ref Db].toArray } : Obj)) :: (Db, listOf (((nums.drop n).take n).map valI).toArray 0) :: (Da, listOf ((nums.take n).map valI).toArray 0) :: (Ln, intO nums kn) :: base' := .tail _ (.tail _ (.tail _ (.head _)))
  have mcn5 : (L + 1, on') ∈ (T1, ({ cls := .type "tuple", data := .seq [Value.ref Da, .ref Db].toArray } : Obj)) :: (Db, listOf (((nums.drop n).take n).map valI).toArray 0) :: (Da, listOf ((nums.take n).map valI).toArray 0) :: (Ln, intO nums kn) :: base' := .tail _ (.tail _ (.tail _ (.tail _ mcn')))
  repeat tb_rel
  refine slice_end (vs := nums.map valI) (ps := (nums.take n).map valI) F5 N5 (PySem.IsL.isList (n := kn) (N5 _ mln5).1) (by simp; omega) .none (.int _ _) (by rw [slicePick_upto']; simp) (fun De h6 hDe F6 N6 => ?_)
  refine mapcomp (fun a => a.fmod 3) hh F6 N6 (.head _) (by simp; omega) (by intro _; kernel_rfl!) (by intro _; kernel_rfl!) ?elt1 ?fin1
  case elt1 =>
    intro C' mc h tk news' a t Q' E' _ _ F' N' c' hmx hq
    repeat tb_rel
    exact hmod3 hq
  case fin1 =>
  intro Dc C' itc kc mc h7 tk7 hitc F7 N7 c7 hap7 hRC7
  refine comp_end' F7 N7 c7 hap7 hRC7 (fun h8 F8 N8 => ?_)
  clear F7 N7 c7 N6 F6 N4 F4 N3 F3 N2 F2
  obtain ⟨N9, hitc⟩ := And.intro (news_sub N8 (news₂ := (Dc, intO itc kc) :: (T1, ({ cls := .type "tuple", data := .seq [Value.ref Da, .ref Db].toArray } : Obj)) :: (Db, listOf (((nums.drop n).take n).map valI).toArray 0) :: (Da, listOf ((nums.take n).map valI).toArray 0) :: (Ln, intO nums kn) :: base') fun q hq => by
    rcases List.mem_cons.mp hq with rfl | hq
    · exact .head _
    · exact .tail _ (.tail _ hq)) (hb3 hitc)
  clear N8
  have mln9 := List.mem_cons_of_mem (Dc, intO itc kc) mln5
  have mcn9 := List.mem_cons_of_mem (Dc, intO itc kc) mcn5
  repeat tb_rel
  refine ListComp_N h₀ L (by tb_start) (by decide) (by tb_start) (by decide) (by intro _; tb_start) ?_
  repeat tb_rel
  refine mul_small (by decide) (by decide) ?_
  refine slice_end (vs := nums.map valI) (ps := ((nums.drop n).take n).map valI) F8 N9 (PySem.IsL.isList (n := kn) (N9 _ mln9).1) (by simp; omega) (.int _ _) (.int _ _) (by
    rw [show (2 : Int) * (n : Int) = ((2 * n : Nat) : Int) by omega, slicePick_run _ _ _ (by simp; omega) (by omega)]
    simp [show 2 * n - n = n by omega]) (fun Df h10 hDf F10 N10 => ?_)
  refine mapcomp (fun a => a.fmod 3) hh F10 N10 (.head _) (by simp; omega) (by intro _; kernel_rfl!) (by intro _; kernel_rfl!) ?elt2 ?fin2
  case elt2 =>
    intro C' mc h tk news' a t Q' E' _ _ F' N' c' hmx hq
    repeat tb_rel
    exact hmod3 hq
  case fin2 =>
  intro Dd C' itd kd mc h11 tk11 hitd F11 N11 c11 hap11 hRC11
  refine comp_end' F11 N11 c11 hap11 hRC11 (fun h12 F12 N12 => ?_)
  clear F11 N11 c11 N10 F10 N9 F8
  have hitd := hb3 hitd
  repeat tb_rel
  refine newT_N F12 N12 (by simp) (fun T2 h13 hT2 F13 N13 => ?_)
  repeat tb_rel
  refine newT_N F13 N13 (by simp) (fun T3 h14 hT3 F14 N14 => ?_)
  dsimp only
  have hTT : h14.IsTuple T3 [Value.ref T1, .ref T2].toArray := ⟨_, (N14 _ (.head _)).1, rfl, 0, rfl⟩
  refine iter_tup_N F14 N14 hTT (fun it o15 h15 ho15 hit F15 N15 => ?_)
  obtain ⟨led, hled⟩ : ∃ led, led = (T3, ({ cls := .type "tuple", data := .seq [Value.ref T1, .ref T2].toArray } : Obj)) :: (T2, ({ cls := .type "tuple", data := .seq [Value.ref Dc, .ref Dd].toArray } : Obj)) :: (Dd, intO itd kd) :: (Df, listOf (((nums.drop n).take n).map valI).toArray 0) :: (Dc, intO itc kc) :: (T1, ({ cls := .type "tuple", data := .seq [Value.ref Da, .ref Db].toArray } : Obj)) :: (Db, listOf (((nums.drop n).take n).map valI).toArray 0) :: (Da, listOf ((nums.take n).map valI).toArray 0) :: (Ln, intO nums kn) :: base' := ⟨_, rfl⟩
  rw [← hled] at N15 hit
  have x3 : (T3, ({ cls := .type "tuple", data := .seq [Value.ref T1, .ref T2].toArray } : Obj)) ∈ led := hled ▸ .head _
  have x2 : (T2, ({ cls := .type "tuple", data := .seq [Value.ref Dc, .ref Dd].toArray } : Obj)) ∈ led := hled ▸ .tail _ (.head _)
  have xd : (Dd, intO itd kd) ∈ led := hled ▸ .tail _ (.tail _ (.head _))
  have xc : (Dc, intO itc kc) ∈ led := hled ▸ .tail _ (.tail _ (.tail _ (.tail _ (.head _))))
  have x1 : (T1, ({ cls := .type "tuple", data := .seq [Value.ref Da, .ref Db].toArray } : Obj)) ∈ led := hled ▸ .tail _ (.tail _ (.tail _ (.tail _ (.tail _ (.head _)))))
  have xb : (Db, intO ((nums.drop n).take n) 0) ∈ led := hled ▸ .tail _ (.tail _ (.tail _ (.tail _ (.tail _ (.tail _ (.head _))))))
  have xa : (Da, intO (nums.take n) 0) ∈ led := hled ▸ .tail _ (.tail _ (.tail _ (.tail _ (.tail _ (.tail _ (.tail _ (.head _)))))))
  have xbase : ∀ q ∈ base', q ∈ led := fun q hq => hled ▸ .tail _ (.tail _ (.tail _ (.tail _ (.tail _ (.tail _ (.tail _ (.tail _ (.tail _ hq))))))))
  clear hled N14 F14 N13 F13 N12 F12 N5 F5 hT3 hT2 hap11 hap7 hDf hDe hT1 hDb hDa hTT
  have c1 : ∀ {q : Addr × Obj} {a : Array Value} {k : Nat}, q ∈ led → q.2.data = .seq a k → q.1 ≠ L + 1 + 1 ∧ q.1 ≠ L + 1 + 1 + 1 ∧ q.1 ≠ 57 := by
    intro q a k hq hd
    refine ⟨news_apart (x := q.2) N15 (.tail _ hq) (.tail _ (xbase _ mca')) ?_, news_apart (x := q.2) N15 (.tail _ hq) (.tail _ (xbase _ mcu')) ?_, news_apart (x := q.2) N15 (.tail _ hq) (.tail _ (xbase _ mtb')) ?_⟩
    · intro e; rw [← e, hd] at hoa; cases hoa
    · intro e; rw [← e, hd] at hou; cases hou
    · intro e; rw [e] at hd; cases hd
  refine codeAny_forLoop_any (fun k s₁ => ∃ i o m' rest oa' ou' va vu ps, k = 2 - i ∧ i ≤ 2 ∧ s₁.drawn = s.drawn ∧ s₁.os = s.os ∧ AllBare s₁.gens ∧ TIt o T3 i ∧ Fr h₀ L s₁.heap m' ∧ News h₀ L s₁.heap ((it, o) :: rest) ∧ (∀ q ∈ rest, q.1 ≠ it) ∧
    (∀ q ∈ led, q.1 ≠ L + 1 + 1 → q.1 ≠ L + 1 + 1 + 1 → q.1 ≠ 57 → q ∈ rest) ∧ (L + 1 + 1, oa') ∈ rest ∧ oa'.data = .cell va ∧ (L + 1 + 1 + 1, ou') ∈ rest ∧ ou'.data = .cell vu ∧ (57, tabObj ps) ∈ rest ∧ TriplesOk ps.toList) ?turn 2
    ⟨0, o15, m2, led, oa, ou, none, none, #[], rfl, by decide, rfl, rfl, hg, ho15, F15, N15, hit, fun q hq _ _ _ => hq, xbase _ mca', hoa, xbase _ mcu', hou, xbase _ mtb', trivial⟩
  rintro k s₁ ⟨i, o, m', rest, oa', ou', va, vu, ps, rfl, hi, d1, d2, d3, ho, F', N', hne, hsub, ma, hda, mu, hdu, mt, htr⟩
  have rs : ∀ {q : Addr × Obj} {a : Array Value} {k : Nat}, q ∈ led → q.2.data = .seq a k → q ∈ rest := fun hq hd => hsub _ hq (c1 hq hd).1 (c1 hq hd).2.1 (c1 hq hd).2.2
  have r3 := rs x3 rfl
  have hSS : s₁.heap.IsTuple T3 [Value.ref T1, .ref T2].toArray := ⟨_, (N' _ (.tail _ r3)).1, rfl, 0, rfl⟩
  by_cases hlt : i < 2
  · refine (walk_tup (t := T3) (vs := [Value.ref T1, .ref T2]) hh).next s₁ m' _ o i _ _ ho F' N' hne hSS hlt (fun v h2 tk2 o2 hv ho2 F2 N2 hs2 => ?_)
    have hpair : ∃ T la lb ka kb as bs, v = .ref T ∧ (T, ({ cls := .type "tuple", data := .seq [Value.ref la, .ref lb].toArray } : Obj)) ∈ led ∧ (la, intO as ka) ∈ led ∧ (lb, intO bs kb) ∈ led ∧ as.length = n ∧ bs.length = n ∧ (∀ q ∈ as, -(2 ^ 18) < q.1 ∧ q.1 < 2 ^ 18) ∧ (∀ q ∈ bs, -(2 ^ 18) < q.1 ∧ q.1 < 2 ^ 18) := by
      have l1 : (nums.take n).length = n := by rw [List.length_take]; omega
      have l2 : ((nums.drop n).take n).length = n := by rw [List.length_take, List.length_drop]; omega
      have : i = 0 ∨ i = 1 := by omega
      rcases this with rfl | rfl
      · cases hv
        exact ⟨T1, Da, Db, 0, 0, _, _, rfl, x1, xa, xb, l1, l2, fun q hq => hnb q (List.mem_of_mem_take hq), fun q hq => hnb q (List.mem_of_mem_drop (List.mem_of_mem_take hq))⟩
      · cases hv
        exact ⟨T2, Dc, Dd, kc, kd, _, _, rfl, x2, xc, xd, hitc.1.trans l1, hitd.1.trans l2, hitc.2, hitd.2⟩
    obtain ⟨T, la, lb, ka, kb, as, bs, rfl, xT, xla, xlb, la1, lb1, ba, bb⟩ := hpair
    refine letGo_tup (N2 _ (.head _)).1 (.inl ho2) ?_
    refine unpack_tup hh F2 N2 ⟨_, (N2 _ (.tail _ (rs xT rfl))).1, rfl, 0, rfl⟩ (by tb_start) (fun h3 hk3 F3 N3 => ?_)
    refine wpAny_assign_Name (stCell F3 N3 (.tail _ ma) hda (by tb_start) (fun h4 oa2 hoa2 F4 N4 => ?_) (by kernel_rfl!) (by kernel_rfl!))
    have ia : it ≠ L + 1 + 1 := fun e => hne _ ma e.symm
    have iu : it ≠ L + 1 + 1 + 1 := fun e => hne _ mu e.symm
    have au : L + 1 + 1 + 1 ≠ L + 1 + 1 := Nat.succ_ne_self _
    have at57 : 57 ≠ L + 1 + 1 := news_apart N' (.tail _ mt) (.tail _ ma) (by intro e; rw [← e] at hda; cases hda)
    have ut57 : 57 ≠ L + 1 + 1 + 1 := news_apart N' (.tail _ mt) (.tail _ mu) (by intro e; rw [← e] at hdu; cases hdu)
    refine wpAny_assign_Name (stCell F4 N4 (put_ne (.tail _ mu) au) hdu (by tb_start) (fun h5 ou2 hou2 F5 N5 => ?_) (by kernel_rfl!) (by kernel_rfl!))
    have keep : ∀ {q : Addr × Obj}, q ∈ (it, o2) :: rest → q.1 ≠ L + 1 + 1 → q.1 ≠ L + 1 + 1 + 1 → q ∈ put (L + 1 + 1 + 1) ou2 (put (L + 1 + 1) oa2 ((it, o2) :: rest)) := fun {q} hq e1 e2 => put_ne (a := q.1) (x := q.2) (put_ne (a := q.1) (x := q.2) hq e1) e2
    have kled : ∀ {q : Addr × Obj} {a : Array Value} {k : Nat}, q ∈ led → q.2.data = .seq a k → q ∈ put (L + 1 + 1 + 1) ou2 (put (L + 1 + 1) oa2 ((it, o2) :: rest)) := fun hq hd => keep (.tail _ (rs hq hd)) (c1 hq hd).1 (c1 hq hd).2.1
    have nc : L + 1 ≠ L + 1 + 1 := Nat.ne_of_lt (by omega)
    have nc2 : L + 1 ≠ L + 1 + 1 + 1 := Nat.ne_of_lt (by omega)
    have xn := xbase _ mcn'
    have rn : (L + 1, on') ∈ rest := hsub _ xn nc nc2 (Ne.symm e57)
    refine wpAny_mono (hturn { s₁ with heap := h5, toks := tk2 } _ _ n ka kb as bs la lb on' oa2 ou2 tn ps F5 N5 (keep (.tail _ rn) nc nc2) hon' (put_ne (put_self (.tail _ ma)) (Ne.symm au)) hoa2 (put_self (put_ne (.tail _ mu) au)) hou2 (keep (.tail _ mt) at57 ut57) htr (kled xla rfl) (kled xlb rfl) la1 lb1 hn2 hn6 ba bb d3) ?_ fun _ _ x => x.elim
    rintro fl s' ⟨rfl, f1, f2, f3, m6, news6, ps6, F6, N6, ht6, mt6, hk6⟩
    have itn : it ≠ 57 := fun e => hne _ mt e.symm
    have m6i : (it, o2) ∈ news6 := hk6 _ (keep (.head _) ia iu) itn
    have fil : ∀ {q : Addr × Obj}, q ∈ news6 → q.1 ≠ it → q ∈ news6.filter (fun q => q.1 != it) := fun hq hn => List.mem_filter.mpr ⟨hq, by simpa using hn⟩
    refine ⟨2 - (i + 1), by omega, i + 1, o2, m6, news6.filter (fun q => q.1 != it), oa2, ou2, _, _, ps6, rfl, by omega, f1.trans d1, f2.trans d2, f3, ho2, F6, news_sub N6 (fun q hq => ?_), fun q hq => ?_, fun q hq a1 a2 a3 => ?_, fil (hk6 _ (put_ne (put_self (.tail _ ma)) (Ne.symm au)) (Ne.symm at57)) (Ne.symm ia), hoa2, fil (hk6 _ (put_self (put_ne (.tail _ mu) au)) (Ne.symm ut57)) (Ne.symm iu), hou2, fil mt6 (Ne.symm itn), ht6⟩
    · rcases List.mem_cons.mp hq with rfl | hq
      · exact m6i
      · exact (List.mem_filter.mp hq).1
    · have := (List.mem_filter.mp hq).2
      simpa using this
    · have hr := hsub q hq a1 a2 a3
      exact fil (hk6 _ (keep (.tail _ hr) a1 a2) a3) (hne q hr)
  · have hi2 : i = 2 := by omega
    subst hi2
    refine (walk_tup (t := T3) (vs := [Value.ref T1, .ref T2]) hh).stop s₁ m' _ o 2 _ _ ho F' N' hne hSS (Nat.le_refl _) (fun h2 F2 N2 hs2 => ?_)
    repeat tb_rel
    exact ⟨rfl, d1, d2, d3, m', rest, ps, F2, N2, mt⟩
end
end
section
open PySem PySem.W PyProof.Rows PySem.Calls PySem.Spec
set_option maxRecDepth 100000
/-- data that may be compared, d deep -/
def Shp (k : Nat) (d : PyData) : Prop := d.canLay0 = true ∧ d.depth ≤ k
theorem Shp.int (i : Int) : Shp 0 (.int i) := ⟨rfl, Nat.le_refl _⟩
theorem canLayAll_of : ∀ {ds : List PyData}, (∀ d ∈ ds, d.canLay0 = true) → PyData.canLayAll0 ds = true
  | [], _ => rfl
  | d :: ds, h => by
    show (d.canLay0 && PyData.canLayAll0 ds) = true
    rw [h d (.head _), canLayAll_of fun x hx => h x (.tail _ hx)]
    rfl
theorem depthAll_of {k : Nat} : ∀ {ds : List PyData}, (∀ d ∈ ds, d.depth ≤ k) → PyData.depthAll ds ≤ k
  | [], _ => Nat.zero_le _
  | d :: ds, h => by
    show max d.depth (PyData.depthAll ds) ≤ k
    have h1 := h d (.head _)
    have h2 := depthAll_of fun x hx => h x (.tail _ hx)
    omega
theorem Shp.list {k : Nat} {ds : List PyData} (h : ∀ d ∈ ds, Shp k d) : Shp (k + 1) (.list ds) :=
  ⟨canLayAll_of fun d hd => (h d hd).1, Nat.succ_le_succ (depthAll_of fun d hd => (h d hd).2)⟩
theorem Shp.tuple {k : Nat} {ds : List PyData} (h : ∀ d ∈ ds, Shp k d) : Shp (k + 1) (.tuple ds) :=
  ⟨canLayAll_of fun d hd => (h d hd).1, Nat.succ_le_succ (depthAll_of fun d hd => (h d hd).2)⟩
theorem Shp.shaped {k : Nat} {d : PyData} (h : Shp k d) (hk : k ≤ 64) : PySem.SeqAt.shaped d = true := by
  unfold PySem.SeqAt.shaped
  rw [h.1, Bool.true_and]
  exact decide_eq_true (Nat.le_trans h.2 hk)
section
variable {prog : Program} {w : World} {A : Around} {E : Value → Shared → Prop} {s : Shared} {h₀ : Heap} {L : Addr} {m : Str → Option Value} {news : News'}
/-- equal data: not unequal -/
theorem ne_same {a b : Value} {d : PyData} {k : Nat} {as bs : List Addr} {Q : Value → Shared → Prop} (ra : Reads s.heap a d as) (rb : Reads s.heap b d bs) (hs : Shp k d) (hk : k ≤ 64) (hu : A.units + 64 < cLine) (h : Q (.bool false) s) : wpAny (model prog w) A (compareOp .NotEq a b) Q E s := by
  refine ne_dataH ra rb (hs.shaped hk) (hs.shaped hk) hu ?_
  rw [PySem.SeqAt.eqv_refl d hs.1]
  exact h
theorem readsAll_of {h : Heap} {vs : List Value} {f : Value → PyData} (hr : ∀ v ∈ vs, ∃ as, Reads h v (f v) as) : ∃ as, ReadsAll h vs (vs.map f) as := by
  induction vs with
  | nil => exact ⟨[], .nil⟩
  | cons v vs ih =>
    obtain ⟨as, ha⟩ := hr v (.head _)
    obtain ⟨bs, hb⟩ := ih fun x hx => hr x (.tail _ hx)
    exact ⟨_, .cons ha hb⟩
theorem reads_ints {h : Heap} : ∀ (xs : List IT), ReadsAll h (xs.map valI) (xs.map fun p => .int p.1) []
  | [] => .nil
  | p :: xs => ReadsAll.cons (as := []) (bs := []) (.int p.1 p.2) (reads_ints xs)
theorem reads_intO {h : Heap} {D : Addr} {xs : List IT} {k : Nat} (ho : h.get? D = some (intO xs k)) : Reads h (.ref D) (.list (xs.map fun p => .int p.1)) [D] :=
  .list ho rfl rfl (by simpa using reads_ints xs)
theorem shp_ints (xs : List IT) : Shp 1 (.list (xs.map fun p => .int p.1)) := .list fun d hd => by
  obtain ⟨p, _, rfl⟩ := List.mem_map.mp hd
  exact .int _
abbrev dPair (p : Int × Int) : PyData := .tuple [.int p.1, .int p.2]
theorem reads_tups {h : Heap} {news : News'} (N : News h₀ L h news) : ∀ (zs : List It), (∀ z ∈ zs, TupAt news z) → ReadsAll h (zs.map (·.1)) (zs.map fun z => dPair z.2) []
  | [], _ => .nil
  | z :: zs, ht => by
    obtain ⟨t, ta, tb, k, e, hm⟩ := ht z (.head _)
    refine ReadsAll.cons (as := []) (bs := []) ?_ (reads_tups N zs fun x hx => ht x (.tail _ hx))
    show Reads h z.1 (dPair z.2) []
    rw [e]
    exact .tuple (N _ hm).1 rfl rfl (.cons (as := []) (bs := []) (.int _ _) (.cons (as := []) (bs := []) (.int _ _) .nil))
theorem reads_objL {h : Heap} {news : News'} {D : Addr} {zs : List It} {k : Nat} (N : News h₀ L h news) (hD : (D, objL zs k) ∈ news) (ht : ∀ z ∈ zs, TupAt news z) : Reads h (.ref D) (.list (zs.map fun z => dPair z.2)) [D] :=
  .list (N _ hD).1 rfl rfl (by simpa using reads_tups N zs ht)
theorem shp_tups (zs : List It) : Shp 2 (.list (zs.map fun z => dPair z.2)) := .list fun d hd => by
  obtain ⟨p, _, rfl⟩ := List.mem_map.mp hd
  exact .tuple fun d hd => by
    rcases List.mem_cons.mp hd with rfl | hd
    · exact .int _
    · rw [List.mem_singleton.mp hd]; exact .int _
/-- a list of two unpacked -/
theorem unpack_lst {env : Env} {e1 e2 : Expr} {l : Addr} {k c : Nat} {pos : Pos} {v1 v2 : Value} {Q : Unit → Shared → Prop} (hh : A.handled = none) (F : Fr h₀ L s.heap m) (N : News h₀ L s.heap news) (hl : (l, listOf [v1, v2].toArray c) ∈ news)
    (he : assignEach [e1, e2] env = [(false, assign e1 env), (false, assign e2 env)])
    (h : ∀ h', Fr h₀ L h' m → News h₀ L h' news → wpAny (model prog w) A (assign e1 env v1) (fun _ s₁ => wpAny (model prog w) A (assign e2 env v2) Q E s₁) E { s with heap := h' }) :
    wpAny (model prog w) A (assign (.Tuple [e1, e2] k pos) env (.ref l)) Q E s := by
  have isl : ∀ {h : Heap} {news' : News'}, News h₀ L h news' → (l, listOf [v1, v2].toArray c) ∈ news' → h.IsList l [v1, v2].toArray := fun N' hm => PySem.IsL.isList (n := c) (N' _ hm).1
  rw [PyProof.Rows.assign_Tuple, he]
  refine wpAny_bind (wpAny_standAt ?_)
  unfold unpack
  refine wpAny_bind (wpAny_holding ?_)
  show wpAny _ _ (unpackItems (.ref l) 2 none) _ _ _
  unfold unpackItems notIterableAtAll
  refine wpAny_bind (wpAny_bind (wpAny_specialOf (isl N hl).typeIs slot_list_iter.lookup ?_))
  refine wpAny_pure ?_
  simp only [Bool.false_eq_true, if_false]
  refine wpAny_bind (wpAny_holding (iter_list_N F N (isl N hl) (fun it o h1 ho hit F1 N1 hk1 => ?_)))
  refine wpAny_bind (wpAny_holding ?_)
  show wpAny _ _ (pyNext (.ref it) >>= _) _ _ _
  refine wpAny_bind (next_list F1 N1 ho hit (isl N1 (.tail _ hl)) (x := v1) (by simp) (fun h2 o2 ho2 F2 N2 hs2 => ?_))
  show wpAny _ _ (holding [v1] (pyNext (.ref it) >>= _) >>= _) _ _ _
  refine wpAny_bind (wpAny_holding (wpAny_bind (next_list F2 N2 ho2 hit (isl N2 (.tail _ hl)) (x := v2) (by simp) (fun h3 o3 ho3 F3 N3 hs3 => ?_))))
  refine wpAny_bind (wpAny_holding (wpAny_pure ?_))
  refine wpAny_pure (wpAny_pure ?_)
  show wpAny _ _ (if ([v1, v2] : List Value).length < 2 then _ else _) _ _ _
  rw [if_neg (by simp)]
  refine wpAny_bind (wpAny_holding (next_list_end hh F3 N3 ho3 hit (isl N3 (.tail _ hl)) (by simp) (fun h4 F4 N4 _ => ?_)))
  simp only [Option.isSome_none, Bool.false_eq_true, if_false]
  refine wpAny_pure ?_
  show wpAny _ _ (assignInOrder [assign e1 env, assign e2 env] [v1, v2]) _ _ _
  refine wpAny_bind (wpAny_holding (wpAny_mono (h h4 F4 N4) (fun _ s₁ h₁ => ?_) fun _ _ e => e))
  exact wpAny_bind (wpAny_holding (wpAny_mono h₁ (fun _ s₂ h₂ => wpAny_pure h₂) fun _ _ e => e))
end
end
section
open PySem PySem.W PyProof.Rows PySem.Calls PySem.Spec
set_option maxRecDepth 100000
section
variable {prog : Program} {w : World} {A : Around} {E : Value → Shared → Prop} {s : Shared} {h₀ : Heap} {L l : Addr} {m : Str → Option Value} {news : News'}
theorem lt_key {p q : It} {Q : Bool → Shared → Prop} (N : News h₀ L s.heap news) (hp : TupAt news p) (hq : TupAt news q) (h : Q (ltK p.2 q.2) s) : wpAny (model prog w) A (keyLt' (tuples' true) p.1 q.1) Q (fun _ _ => False) s := by
  obtain ⟨pv, a, i⟩ := p
  obtain ⟨qv, b, j⟩ := q
  obtain ⟨x, ta, ti, n, ex, hx⟩ := hp
  obtain ⟨y, tb, tj, k, ey, hy⟩ := hq
  simp only at ex ey hx hy h
  subst ex ey
  refine kat_lt (N _ hx).1 rfl (N _ hy).1 rfl ?_
  show KatLex prog w A true false Q [(.int a ta, .int b tb), (.int i ti, .int j tj)] 0 s
  refine kat_cons (wpAny_eqBool_int ?_)
  unfold ltK at h
  simp only at h
  by_cases e1 : a = b
  · subst e1
    rw [show (a == a) = true by simp]
    refine kat_yes ?_
    rw [if_pos rfl] at h
    refine kat_cons (wpAny_eqBool_int ?_)
    by_cases e2 : i = j
    · subst e2
      rw [show (i == i) = true by simp]
      refine kat_yes (kat_nil ?_)
      have : decide (i < i) = false := by simp
      rwa [this] at h
    · rw [show (i == j) = false by simpa using e2]
      refine kat_no ?_
      show wpAny _ _ (oneLt' false _ _) _ _ _
      refine kat_one _ _ (lt_int ?_)
      exact h
  · rw [show (a == b) = false by simpa using e1]
    rw [if_neg e1] at h
    refine kat_no ?_
    show wpAny _ _ (oneLt' true _ _) _ _ _
    exact oneLt_int h
theorem katTups_of {h : Heap} (N : News h₀ L h news) : ∀ (zs : List It), (∀ z ∈ zs, TupAt news z) → ∃ fs : List Value, KatTups h (zs.map (·.1)) fs ∧ fs.length = zs.length ∧ ∀ v ∈ fs, ∃ a t, v = .int a t
  | [], _ => ⟨[], .nil, rfl, fun _ h => nomatch h⟩
  | z :: zs, ht => by
    obtain ⟨t, ta, tb, k, e, hm⟩ := ht z (.head _)
    obtain ⟨fs, h1, h2, h3⟩ := katTups_of N zs fun x hx => ht x (.tail _ hx)
    refine ⟨.int z.2.1 ta :: fs, ?_, by simp [h2], fun v hv => ?_⟩
    · rw [List.map_cons, e]
      exact .cons (N _ hm).1 rfl rfl rfl h1
    · rcases List.mem_cons.mp hv with rfl | hv
      · exact ⟨_, _, rfl⟩
      · exact h3 v hv
def dIt : It := (.none, (0, 0))
/-- a list of pairs sorted -/
theorem sortT_N {zs : List It} {k : Nat} {P : Array Nat} {Q : Value → Shared → Prop} (F : Fr h₀ L s.heap m) (N : News h₀ L s.heap news) (hl : (l, objL zs k) ∈ news) (ht : ∀ z ∈ zs, TupAt news z) (h2 : 2 ≤ zs.length) (h64 : zs.length < 64)
    (hrun : runT zs.length (fun i j => ltK (zs.getD i dIt).2 (zs.getD j dIt).2) (kas_sort zs.length) = some P)
    (h : ∀ D c h', Fr h₀ L h' m → News h₀ L h' ((D, listOf (P.toList.map fun i => (zs.getD i dIt).1).toArray c) :: news) → (∀ q ∈ news, q.1 ≠ D) → Q (.ref D) { s with heap := h' }) :
    wpAny (model prog w) A (call (.builtin "sorted") [.ref l]) Q E s := by
  have hlen : (zs.map (·.1)).length = zs.length := List.length_map _
  refine kat_sorted (vs := zs.map (·.1)) F N (PySem.IsL.isList (n := k) (N _ hl).1) (by omega) (by omega) (fun D e1 h' F' N' hlt => ?_)
  have N₂ : News h₀ L h' news := news_sub N' fun q hq => .tail _ hq
  obtain ⟨fs, t1, t2, t3⟩ := katTups_of N₂ zs ht
  refine kat_kind (T := .type "int") (s := { s with heap := h' }) t1 (by omega) (fun v hv => ?_) rfl ?_
  · obtain ⟨a, t, rfl⟩ := t3 v hv
    exact Looks.of_pure rfl
  · show (kas_sort _).kasWp _ _ _
    rw [hlen]
    have hget : ∀ i, i < zs.length → (zs.map (·.1)).getD i Value.none = (zs.getD i dIt).1 ∧ zs.getD i dIt ∈ zs := fun i hi => by
      have e : zs.getD i dIt = zs[i] := by simp [hi]
      rw [e]
      exact ⟨by simp [hi], List.getElem_mem hi⟩
    refine runT_wp (c := fun i j => ltK (zs.getD i dIt).2 (zs.getD j dIt).2) (fun i j C hi hj hC => ?_) _ P hrun ?_
    · show wpAny _ _ (keyLt' _ _ _) _ _ _
      rw [(hget i hi).1, (hget j hj).1]
      exact lt_key (s := { s with heap := h' }) N₂ (ht _ (hget i hi).2) (ht _ (hget j hj).2) hC
    · refine KasFin.intro F' N' (.head fun q hq => Nat.ne_of_lt (hlt q hq)) (fun h'' c F'' N'' => ?_)
      have key : (fun i => (zs.map (·.1)).getD i Value.none) = fun i => (zs.getD i dIt).1 := by
        funext i
        by_cases hi : i < zs.length
        · exact (hget i hi).1
        · have e1 : (zs.map (·.1)).getD i Value.none = Value.none := by simp [Nat.le_of_not_lt hi]
          have e2 : zs.getD i dIt = dIt := by simp [Nat.le_of_not_lt hi]
          rw [e1, e2]; rfl
      rw [key] at N''
      exact h D c h'' F'' N'' fun q hq => Nat.ne_of_lt (hlt q hq)
end
end
section
open PySem PySem.W PyProof.Rows PySem.Calls PySem.Spec
set_option maxRecDepth 100000
/-- pairs of a number and its place -/
def IsPairs (xs : List IT) (zs : List It) : Prop := zs.map (·.2) = (List.range zs.length).map fun i => (atI xs i, (i : Int))
theorem isPairs_snoc {xs : List IT} {zs : List It} {v : Value} (h : IsPairs xs zs) : IsPairs xs (zs ++ [(v, (atI xs zs.length, (zs.length : Int)))]) := by
  unfold IsPairs at *
  rw [List.map_append, h, List.length_append, List.length_singleton, List.range_succ, List.map_append]
  rfl
theorem isPairs_get {xs : List IT} {zs : List It} (h : IsPairs xs zs) {i : Nat} (hi : i < zs.length) : (zs.getD i dIt).2 = (atI xs i, (i : Int)) := by
  have e : (zs.map (·.2))[i]? = ((List.range zs.length).map fun i => (atI xs i, (i : Int)))[i]? := by rw [h]
  simp [hi] at e
  simp [hi, e]
/-- the comprehension that makes them -/
theorem pairscomp {prog : Program} {w : World} {A : Around} {E : Value → Shared → Prop} {env : Env} {h₀ : Heap} {L r : Addr} {elt iter : Expr} {x : Str} {px : Pos} {scope : Scope} {cl : List (Str × Addr)} {pos : Pos} {Q : Value → Shared → Prop} {s : Shared} {m : Str → Option Value} {news : News'} {n : Nat} {xs : List IT} {t u v : Tok}
    (hh : A.handled = none) (F : Fr h₀ L s.heap m) (N : News h₀ L s.heap news) (hr : (r, rng 0 n 1 t u v) ∈ news) (hn : n < 900) (hkc : ∀ C, (compEnvC scope cl C env).scope.kind = .function) (hxc : ∀ C, (compEnvC scope cl C env).kindOf x = some .local)
    (helt : ∀ (C : Addr) (mc : Str → Option Value) (h : Heap) (tk : Nat) (news' : News') (i : Nat) (ti : Tok) (Q' E' : Value → Shared → Prop), (∀ q ∈ news, q ∈ news') → i < n → Fr h₀ L h m → News h₀ L h news' → Cm h₀ L C h mc → mc x = some (.int (i : Int) ti) →
      (∀ T ta h' tk', (∀ q ∈ news', q.1 ≠ T) → Fr h₀ L h' m → News h₀ L h' ((T, tupO (atI xs i) (i : Int) ta ti 0) :: news') → Q' (.ref T) { s with heap := h', toks := tk' }) → wpAny (model prog w) A (eval elt (compEnvC scope cl C env)) Q' E' { s with heap := h, toks := tk })
    (hend : ∀ R zs kr news' h' tk', zs.length = n → IsPairs xs zs → (∀ q ∈ news, q ∈ news') → (∀ z ∈ zs, TupAt news' z) → Fr h₀ L h' m → News h₀ L h' ((R, objL zs kr) :: news') → Q (.ref R) { s with heap := h', toks := tk' }) :
    wpAny (model prog w) A (pyIter (.ref r)) (CompGo prog w A E env h₀ L elt (.Name x px) iter [] scope cl pos none Q) E s := by
  refine iter_range_N F N hr (Int.le_refl _) (by omega) (by omega) (fun it h5 hit F5 N5 => ?_)
  have e0 : rio 0 ((n : Int) - 0) 1 = rio ((0 + 0 : Nat) : Int) ((n : Int) - ((0 : Nat) : Int)) 1 := by simp
  refine comp_over (walk_range (a := 0) (len := n) hh) e0 F5 N5 hit (fun s Q' E' ho hq => iter_rio ho hq) (fun i out news' => ∃ zs : List It, out = zs.map (·.1) ∧ zs.length = i ∧ IsPairs xs zs ∧ (∀ q ∈ news, q ∈ news') ∧ ∀ z ∈ zs, TupAt news' z) ⟨[], rfl, rfl, rfl, fun _ h => h, fun _ h => nomatch h⟩
    (fun _ _ _ _ _ _ => trivial) (by rintro i out _ ⟨zs, rfl, hl, _⟩; simp [hl]) (by omega) hkc hxc ?turn ?fin
  case fin =>
    rintro R C' out kr news' mc h' tk' ⟨zs, rfl, hl, hp, hsub, ht⟩ F' N' c' hq hRC
    refine comp_end' F' N' c' hq hRC (fun h'' F'' N'' => ?_)
    exact hend R zs kr news' h'' tk' hl hp hsub ht F'' N''
  case turn =>
    rintro R C' i out news' o oC kr mc h tk v E' ⟨zs, rfl, hl, hp, hsub, ht⟩ hi ⟨ti, rfl⟩ F' N' c' hmx hq
    refine tests_nil ?_
    show wpAny _ _ (eval elt _) _ _ _
    refine helt C' mc h tk _ i ti _ _ (fun q hq => .tail _ (.tail _ (.tail _ (hsub q hq)))) hi F' N' c' (by simpa using hmx) (fun T ta h' tk' hT F'' N'' => ?_)
    refine Turned.intro F'' (news₂ := (T, tupO (atI xs i) (i : Int) ta ti 0) :: news') (news_sub N'' fun q hq => ?_) (fun q hq => ?_) ⟨zs ++ [(.ref T, (atI xs i, (i : Int)))], by simp, by simp [hl], by rw [← hl]; exact isPairs_snoc hp, fun q hq => .tail _ (hsub q hq), fun z hz => ?_⟩
    · rcases List.mem_cons.mp hq with rfl | hq
      · exact .tail _ (.head _)
      rcases List.mem_cons.mp hq with rfl | hq
      · exact .tail _ (.tail _ (.head _))
      rcases List.mem_cons.mp hq with rfl | hq
      · exact .tail _ (.tail _ (.tail _ (.head _)))
      rcases List.mem_cons.mp hq with rfl | hq
      · exact .head _
      · exact .tail _ (.tail _ (.tail _ (.tail _ hq)))
    · rcases List.mem_cons.mp hq with rfl | hq
      · exact ⟨fun e => hT _ (.head _) e.symm, fun e => hT _ (.tail _ (.head _)) e.symm, fun e => hT _ (.tail _ (.tail _ (.head _))) e.symm⟩
      · rename_i hq0 _
        exact hq0 q hq
    · rcases List.mem_append.mp hz with hz | hz
      · exact (ht z hz).sub fun q hq => .tail _ hq
      · rw [List.mem_singleton.mp hz]
        exact ⟨T, ta, ti, 0, rfl, .head _⟩
end
section
open PySem PySem.W
/-- the numbers that covariance asks for -/
structure CovNums (xs ys : List IT) (n : Nat) (mx my r : Int) : Prop where
  xl : xs.length = n
  yl : ys.length = n
  bx : ∀ i, i ≤ n → Sm (sumI (xs.take i))
  bY : ∀ i, i ≤ n → Sm (sumI (ys.take i))
  cx : ∀ q ∈ xs, Sm q.1
  cy : ∀ q ∈ ys, Sm q.1
  hmx : sumI xs = mx * n
  hmy : sumI ys = my * n
  smx : Sm mx
  smy : Sm my
  dx : ∀ q ∈ xs, Sm (q.1 - mx)
  dy : ∀ q ∈ ys, Sm (q.1 - my)
  b1 : ∀ j, j < n → Sm ((atI xs j - mx) * (atI ys j - my))
  b2 : ∀ j, j ≤ n → Sm (dotN (fun j => atI xs j - mx) (fun j => atI ys j - my) j)
  hr : dotN (fun j => atI xs j - mx) (fun j => atI ys j - my) n = r * ((n : Int) - 1)
  sr : Sm r
theorem dotN_sum (u v : Nat → Int) : ∀ n, dotN u v n = sumN n (fun j => u j * v j)
  | 0 => rfl
  | n + 1 => by
    show dotN u v n + u n * v n = sumN n (fun j => u j * v j) + u n * v n
    rw [dotN_sum u v n]
theorem sumI_sum (xs : List IT) : ∀ k, k ≤ xs.length → sumI (xs.take k) = sumN k (atI xs)
  | 0, _ => by simp [sumI, sumN]
  | k + 1, h => by
    have hk : k < xs.length := by omega
    rw [sumI_take (List.getElem?_eq_getElem hk), sumI_sum xs k (by omega)]
    show _ = sumN k (atI xs) + atI xs k
    simp [atI, hk]
theorem sumI_all {xs : List IT} {n : Nat} (h : xs.length = n) : sumI xs = sumN n (atI xs) := by
  have := sumI_sum xs n (by omega)
  rwa [← h, List.take_length, h] at this
theorem atI_mem {xs : List IT} {q : IT} (h : q ∈ xs) : ∃ i, i < xs.length ∧ atI xs i = q.1 := by
  obtain ⟨i, hi, rfl⟩ := List.getElem_of_mem h
  exact ⟨i, hi, by simp [atI, hi]⟩
theorem covNums_mk {xs ys : List IT} {n : Nat} {mx my r : Int} (h2 : 2 ≤ n) (h6 : n ≤ 6) (xl : xs.length = n) (yl : ys.length = n) (ax : ∀ i, i < n → (atI xs i).natAbs ≤ 2 ^ 23) (ay : ∀ i, i < n → (atI ys i).natAbs ≤ 2 ^ 23) (hmx : sumN n (atI xs) = mx * n) (hmy : sumN n (atI ys) = my * n)
    (smx : mx.natAbs ≤ 2 ^ 23) (smy : my.natAbs ≤ 2 ^ 23) (hr : sumN n (fun j => (atI xs j - mx) * (atI ys j - my)) = r * ((n : Int) - 1)) : CovNums xs ys n mx my r := by
  have pre : ∀ {zs : List IT}, zs.length = n → (∀ i, i < n → (atI zs i).natAbs ≤ 2 ^ 23) → ∀ i, i ≤ n → Sm (sumI (zs.take i)) := by
    intro zs hl ha i hi
    rw [sumI_sum zs i (by omega)]
    have := sumN_abs (f := atI zs) (B := 2 ^ 23) (n := i) fun j hj => ha j (by omega)
    have h3 : i * 2 ^ 23 ≤ 6 * 2 ^ 23 := Nat.mul_le_mul_right _ (by omega)
    show _ ≤ 2 ^ 53
    omega
  have prod : ∀ j, j < n → ((atI xs j - mx) * (atI ys j - my)).natAbs ≤ 2 ^ 24 * 2 ^ 24 := by
    intro j hj
    have h1 := ax j hj
    have h2 := ay j hj
    rw [Int.natAbs_mul]
    exact Nat.mul_le_mul (by omega) (by omega)
  have dot : ∀ j, j ≤ n → (dotN (fun j => atI xs j - mx) (fun j => atI ys j - my) j).natAbs ≤ 2 ^ 53 := by
    intro j hj
    rw [dotN_sum]
    have := sumN_abs (f := fun j => (atI xs j - mx) * (atI ys j - my)) (B := 2 ^ 24 * 2 ^ 24) (n := j) fun i hi => prod i (by omega)
    have h3 : j * (2 ^ 24 * 2 ^ 24) ≤ 6 * (2 ^ 24 * 2 ^ 24) := Nat.mul_le_mul_right _ (by omega)
    omega
  refine ⟨xl, yl, pre xl ax, pre yl ay, fun q hq => ?_, fun q hq => ?_, by rw [sumI_all xl, hmx], by rw [sumI_all yl, hmy], Nat.le_trans smx (by decide), Nat.le_trans smy (by decide), fun q hq => ?_, fun q hq => ?_, fun j hj => Nat.le_trans (prod j hj) (by decide), dot, by rw [dotN_sum, hr], ?_⟩
  · obtain ⟨i, hi, e⟩ := atI_mem hq
    have := ax i (by omega)
    rw [e] at this
    exact Nat.le_trans this (by decide)
  · obtain ⟨i, hi, e⟩ := atI_mem hq
    have := ay i (by omega)
    rw [e] at this
    exact Nat.le_trans this (by decide)
  · obtain ⟨i, hi, e⟩ := atI_mem hq
    have := ax i (by omega)
    rw [e] at this
    show _ ≤ 2 ^ 53
    omega
  · obtain ⟨i, hi, e⟩ := atI_mem hq
    have := ay i (by omega)
    rw [e] at this
    show _ ≤ 2 ^ 53
    omega
  · have hd := dot n (Nat.le_refl _)
    rw [dotN_sum, hr, Int.natAbs_mul] at hd
    have h1 : 1 ≤ ((n : Int) - 1).natAbs := by omega
    have := Nat.mul_le_mul_left r.natAbs h1
    show _ ≤ 2 ^ 53
    omega
theorem atI_map {xs ws : List IT} {c : Int} (h : ws.map (·.1) = xs.map (fun p => c * p.1)) (i : Nat) : atI ws i = c * atI xs i := by
  have e : (ws.map (·.1))[i]? = (xs.map (fun p => c * p.1))[i]? := by rw [h]
  rw [List.getElem?_map, List.getElem?_map] at e
  unfold atI
  cases hx : xs[i]? with
  | none =>
    rw [hx] at e
    have : Option.map (fun x : IT => x.1) ws[i]? = none := e
    rw [this]
    simp
  | some q =>
    rw [hx] at e
    have : Option.map (fun x : IT => x.1) ws[i]? = some (c * q.1) := e
    rw [this]
    simp
theorem cov_both {xs ys ws hs : List IT} {n : Nat} (h2 : 2 ≤ n) (h6 : n ≤ 6) (xl : xs.length = n) (yl : ys.length = n) (bx : ∀ q ∈ xs, -(2 ^ 18) < q.1 ∧ q.1 < 2 ^ 18) (bY : ∀ q ∈ ys, -(2 ^ 18) < q.1 ∧ q.1 < 2 ^ 18)
    (hw : ws.map (·.1) = xs.map (fun p => (n : Int) * p.1)) (hh : hs.map (·.1) = ys.map (fun p => (n : Int) * ((n : Int) - 1) * p.1)) :
    ∃ mx my, CovNums ws hs n mx my ((n : Int) * ((n : Int) * sumN n (fun i => atI xs i * atI ys i) - sumN n (atI xs) * sumN n (atI ys))) ∧ CovNums hs ws n my mx ((n : Int) * ((n : Int) * sumN n (fun i => atI xs i * atI ys i) - sumN n (atI xs) * sumN n (atI ys))) := by
  have wl : ws.length = n := by have := congrArg List.length hw; simp at this; omega
  have hl : hs.length = n := by have := congrArg List.length hh; simp at this; omega
  have ew := atI_map hw
  have eh := atI_map hh
  have ab : ∀ {zs : List IT}, zs.length = n → (∀ q ∈ zs, -(2 ^ 18) < q.1 ∧ q.1 < 2 ^ 18) → ∀ i, i < n → (atI zs i).natAbs ≤ 2 ^ 18 := by
    intro zs hz hb i hi
    have e : atI zs i = (zs[i]'(by omega)).1 := by simp [atI, hz, hi]
    have := hb _ (List.getElem_mem (l := zs) (n := i) (by omega))
    rw [e]
    omega
  have ax := ab xl bx
  have ay := ab yl bY
  have sx := sumN_abs (f := atI xs) (B := 2 ^ 18) (n := n) ax
  have sy := sumN_abs (f := atI ys) (B := 2 ^ 18) (n := n) ay
  have n6 : n * 2 ^ 18 ≤ 6 * 2 ^ 18 := Nat.mul_le_mul_right _ h6
  have nn : ((n : Int) * ((n : Int) - 1)).natAbs ≤ 6 * 5 := by
    rw [Int.natAbs_mul]
    exact Nat.mul_le_mul (by omega) (by omega)
  have bw : ∀ i, i < n → (atI ws i).natAbs ≤ 2 ^ 23 := by
    intro i hi
    rw [ew, Int.natAbs_mul]
    have := Nat.mul_le_mul (show (n : Int).natAbs ≤ 6 by omega) (ax i hi)
    omega
  have bh : ∀ i, i < n → (atI hs i).natAbs ≤ 2 ^ 23 := by
    intro i hi
    rw [eh, Int.natAbs_mul]
    have := Nat.mul_le_mul nn (ay i hi)
    omega
  have mw : sumN n (atI ws) = sumN n (atI xs) * n := by
    rw [sumN_congr fun i _ => ew i, sumN_mul, Int.mul_comm]
  have mh : sumN n (atI hs) = ((n : Int) - 1) * sumN n (atI ys) * n := by
    rw [sumN_congr fun i _ => eh i, sumN_mul]
    generalize sumN n (atI ys) = S
    generalize (n : Int) = N
    grind
  have smx : (sumN n (atI xs)).natAbs ≤ 2 ^ 23 := by omega
  have smy : (((n : Int) - 1) * sumN n (atI ys)).natAbs ≤ 2 ^ 23 := by
    rw [Int.natAbs_mul]
    have := Nat.mul_le_mul (show ((n : Int) - 1).natAbs ≤ 5 by omega) (Nat.le_trans sy n6)
    omega
  have hr : sumN n (fun j => (atI ws j - sumN n (atI xs)) * (atI hs j - ((n : Int) - 1) * sumN n (atI ys))) = ((n : Int) * ((n : Int) * sumN n (fun i => atI xs i * atI ys i) - sumN n (atI xs) * sumN n (atI ys))) * ((n : Int) - 1) := by
    generalize hSx : sumN n (atI xs) = Sx
    generalize hSy : sumN n (atI ys) = Sy
    have e1 : ∀ j, j < n → (atI ws j - Sx) * (atI hs j - ((n : Int) - 1) * Sy) = (n : Int) * (n : Int) * ((n : Int) - 1) * (atI xs j * atI ys j) - ((n : Int) * ((n : Int) - 1) * Sy * atI xs j + ((n : Int) * ((n : Int) - 1) * Sx * atI ys j - ((n : Int) - 1) * Sx * Sy)) := by
      intro j _
      rw [ew, eh]
      generalize atI xs j = a
      generalize atI ys j = b
      generalize (n : Int) = N
      grind
    rw [sumN_congr e1, sumN_sub, sumN_add, sumN_sub, sumN_mul, sumN_mul, sumN_mul, sumN_const, hSx, hSy]
    generalize sumN n (fun i => atI xs i * atI ys i) = Q
    generalize (n : Int) = N
    grind
  refine ⟨sumN n (atI xs), ((n : Int) - 1) * sumN n (atI ys), covNums_mk h2 h6 wl hl bw bh mw mh smx smy hr, covNums_mk h2 h6 hl wl bh bw mh mw smy smx ?_⟩
  rw [← hr]
  exact sumN_congr fun j _ => Int.mul_comm _ _
end
section
open PySem PySem.W PyProof.Rows PySem.Calls PySem.Spec PySem.SeqAt
set_option maxRecDepth 100000
theorem eqAt_fi {A : Around} {s : Shared} {x : UInt64} {t u : Tok} {z : Int} (h : Wh x z) : EqAt A s (.float x t) (.int z u) true := fun prog w E Q hq => by
  unfold eqBool
  refine wpAny_holding ?_
  refine wpAny_ite_split (fun hab => absurd (eq_of_beq hab) (fun e => nomatch e)) (fun _ => ?_)
  · refine wpAny_bind (show wpAny (model prog w) A (richCompare .Eq (.float x t) (.int z u)) _ E s from eq_fi ?_)
    rw [wh_cmpInt h]
    exact wpAny_truthy_bool hq
section
variable {prog : Program} {w : World} {A : Around} {E : Value → Shared → Prop} {s : Shared}
theorem ne_told {l b : Addr} {x1 x2 : UInt64} {t1 t2 u1 u2 : Tok} {z : Int} {Q : Value → Shared → Prop} (hl : s.heap.IsList l #[.float x1 t1, .float x2 t2]) (hb : s.heap.IsList b #[.int z u1, .int z u2]) (h1 : Wh x1 z) (h2 : Wh x2 z) (hu : A.units < cLine) (h : Q (.bool false) s) :
    wpAny (model prog w) A (compareOp .NotEq (.ref l) (.ref b)) Q E s := by
  refine RcNeAt.lists (e := fun _ => true) hl hb rfl hu (fun j j1 j2 => ?_) prog w E Q (show Q (.bool (!((List.range 2).all fun _ => true))) s from h)
  have : j = 0 ∨ j = 1 := by simp at j1; omega
  rcases this with rfl | rfl
  · exact eqAt_fi h1
  · exact eqAt_fi h2
end
end
section
open PySem PySem.W PyProof.Rows PySem.Calls PySem.Spec
set_option maxRecDepth 100000
/-- the comprehension that takes the second of each pair -/
theorem paircomp {prog : Program} {w : World} {A : Around} {E : Value → Shared → Prop} {env : Env} {h₀ : Heap} {L l : Addr} {iter : Expr} {x1 x2 : Str} {p1 p2 p3 tp : Pos} {kt : Nat} {scope : Scope} {cl : List (Str × Addr)} {pos : Pos} {Q : Value → Shared → Prop} {s : Shared} {m : Str → Option Value} {news : News'} {zs : List It} {k : Nat}
    (hh : A.handled = none) (F : Fr h₀ L s.heap m) (N : News h₀ L s.heap news) (hl : (l, objL zs k) ∈ news) (ht : ∀ z ∈ zs, TupAt news z) (hsz : zs.length < 900) (hkc : ∀ C, (compEnvC scope cl C env).scope.kind = .function) (hx1 : ∀ C, (compEnvC scope cl C env).kindOf x1 = some .local) (hx2 : ∀ C, (compEnvC scope cl C env).kindOf x2 = some .local)
    (hae : ∀ C, assignEach [.Name x1 p1, .Name x2 p2] (compEnvC scope cl C env) = [(false, assign (.Name x1 p1) (compEnvC scope cl C env)), (false, assign (.Name x2 p2) (compEnvC scope cl C env))]) (hdb : (x2 == ("__debug__" : Str)) = false)
    (hend : ∀ R its kr h' tk', its.map (·.1) = zs.map (·.2.2) → Fr h₀ L h' m → News h₀ L h' ((R, intO its kr) :: news) → (∀ q ∈ news, q.1 ≠ R) → Q (.ref R) { s with heap := h', toks := tk' }) :
    wpAny (model prog w) A (pyIter (.ref l)) (CompGo prog w A E env h₀ L (.Name x2 p3) (.Tuple [.Name x1 p1, .Name x2 p2] kt tp) iter [] scope cl pos none Q) E s := by
  refine iter_list_N F N (PySem.IsL.isList (n := k) (N _ hl).1) (fun it o h5 ho hit F5 N5 hk5 => ?_)
  refine CompGo.intro F5 N5 (.head _) (list_self ho) (fun R C h6 tk6 hR hC hRC F6 N6 c6 => ?_)
  have hRit : R ≠ it := fun e => hR _ (.head _) e.symm
  have hCit : C ≠ it := fun e => hC _ (.head _) e.symm
  have hRn : ∀ q ∈ news, q.1 ≠ R := fun q hq => hR q (.tail _ hq)
  have hCn : ∀ q ∈ news, q.1 ≠ C := fun q hq => hC q (.tail _ hq)
  refine LCp.codeAny_compLoop_pair (fun q s₁ => ∃ i o' its kr mc h' tk', s₁ = { s with heap := h', toks := tk' } ∧ q = zs.length - i ∧ i ≤ zs.length ∧ LIt o' l i ∧ its.map (·.1) = (zs.take i).map (·.2.2) ∧ Fr h₀ L h' m ∧ News h₀ L h' ((it, o') :: (R, intO its kr) :: news) ∧ Cm h₀ L C h' mc) ?_ zs.length
    ⟨0, o, [], 0, _, h6, tk6, rfl, rfl, Nat.zero_le _, ho, by simp, F6, ?_, c6⟩
  rotate_left
  · refine news_sub N6 fun q hq => ?_
    rcases List.mem_cons.mp hq with rfl | hq
    · exact .tail _ (.head _)
    rcases List.mem_cons.mp hq with rfl | hq
    · exact .head _
    · exact .tail _ (.tail _ hq)
  clear F5 N5 hk5 F6 N6 c6
  rintro q s₁ ⟨i, o', its, kr, mc, h', tk', rfl, rfl, hi, ho', hil, F', N', c'⟩
  have hne' : ∀ q ∈ (R, intO its kr) :: news, q.1 ≠ it := by
    intro q hq
    rcases List.mem_cons.mp hq with rfl | hq
    · exact hRit
    · exact hit q hq
  have hSS : h'.IsList l (zs.map (·.1)).toArray := PySem.IsL.isList (n := k) (N' _ (.tail _ (.tail _ hl))).1
  by_cases hlt : i < zs.length
  · obtain ⟨t, ta, tb, kt', ez, mz⟩ := ht _ (List.getElem_mem hlt)
    refine next_list F' N' ho' hne' hSS (x := .ref t) (by simp [hlt, ez]) (fun h7 o7 ho7 F7 N7 hs7 => ?_)
    refine letGo_tup (N7 _ (.head _)).1 (.inr ho7) ?_
    refine unpack_tup hh F7 N7 ⟨_, (N7 _ (.tail _ (.tail _ mz))).1, rfl, _, rfl⟩ (hae C) (fun h8 hk8 F8 N8 => ?_)
    have hap : ∀ q ∈ (it, o7) :: (R, intO its kr) :: news, q.1 ≠ C := by
      intro q hq
      rcases List.mem_cons.mp hq with rfl | hq
      · exact Ne.symm hCit
      rcases List.mem_cons.mp hq with rfl | hq
      · exact hRC
      · exact hCn q hq
    have c7 := c'.same hs7 hCit
    have c8 : Cm h₀ L C h8 mc := ⟨c7.ns.keeps hk8, c7.ne, c7.new⟩
    refine wpAny_assign_Name (stC F8 N8 c8 hap rfl (fun h9 F9 N9 c9 => ?_) (hkc C) (hx1 C))
    refine wpAny_assign_Name (stC F9 N9 c9 hap rfl (fun h10 F10 N10 c10 => ?_) (hkc C) (hx2 C))
    refine ldE c10.ns (if_pos rfl) ?_ (hkc C) (hx2 C) hdb
    obtain ⟨oC, hoC, N11, kC⟩ := c10.on N10
    have hlen : its.length = i := by
      have := congrArg List.length hil
      simp at this
      omega
    refine append_N F10 N11 (.tail _ (.tail _ (.head _))) (by simp; omega) (fun hb Fb Nb hsb => ?_)
    rw [put_cons_ne hRC.symm, put_cons_ne hRit.symm, put_cons_self hRn] at Nb
    refine ⟨zs.length - (i + 1), by omega, i + 1, o7, its ++ [(zs[i].2.2, tb)], kr + 1, _, hb, _, rfl, rfl, hlt, ho7, ?_, Fb, ?_, kC _ _ Nb (.head _)⟩
    · rw [List.map_append, hil, List.take_add_one, List.getElem?_eq_getElem hlt, List.map_append]
      rfl
    · refine news_sub Nb fun q hq => ?_
      rcases List.mem_cons.mp hq with rfl | hq
      · exact .tail _ (.head _)
      rcases List.mem_cons.mp hq with rfl | hq
      · have e : (its ++ [(zs[i].2.2, tb)]).map valI = its.map valI ++ [Value.int zs[i].2.2 tb] := by simp
        show (R, listOf ((its ++ [(zs[i].2.2, tb)]).map valI).toArray (kr + 1)) ∈ _
        rw [e]
        exact .tail _ (.tail _ (.head _))
      · exact .tail _ (.tail _ (.tail _ hq))
  · have hie : i = zs.length := by omega
    subst hie
    refine next_list_end hh F' N' ho' hne' hSS (by simp) (fun h7 F7 N7 hx => ?_)
    rw [List.take_length] at hil
    refine comp_end' F7 N7 (c'.ext hx hCit) (fun q hq => ⟨hCn q hq, hRn q hq⟩) hRC (fun h8 F8 N8 => ?_)
    exact hend R its kr h8 tk' hil F8 N8 hRn
end
section
open PySem PySem.W PyProof.Rows PySem.Calls PySem.Spec
set_option maxRecDepth 100000
theorem intsAre_it : ∀ xs : List IT, IntsAre (xs.map valI) (xs.map (·.1))
  | [] => .nil
  | p :: xs => .cons p.1 p.2 (intsAre_it xs)
theorem it_intsAre {vs : List Value} {ns : List Int} (h : IntsAre vs ns) : ∃ xs : List IT, vs = xs.map valI ∧ xs.map (·.1) = ns := by
  induction h with
  | nil => exact ⟨[], rfl, rfl⟩
  | cons n t _ ih =>
    obtain ⟨xs, rfl, hl⟩ := ih
    exact ⟨(n, t) :: xs, rfl, by simp [hl]⟩
theorem strict_of {ns : List Int} (h : ns.Pairwise (· ≤ ·)) (hn : ns.Nodup) : ns.Pairwise (· < ·) := by
  have := List.Pairwise.and h hn
  exact this.imp fun h => by omega
theorem strict_it {cs : List IT} (h : (cs.map (·.1)).Pairwise (· < ·)) : cs.Pairwise fun p q => p.1 < q.1 := List.pairwise_map.mp h
section
variable {prog : Program} {w : World} {A : Around} {E : Value → Shared → Prop} {s : Shared} {h₀ : Heap} {L l : Addr} {m : Str → Option Value} {news : News'}
theorem sortI_N {xs : List IT} {k : Nat} {Q : Value → Shared → Prop} (F : Fr h₀ L s.heap m) (N : News h₀ L s.heap news) (hl : (l, intO xs k) ∈ news) (h64 : xs.length < 64)
    (h : ∀ D cs c h', Fr h₀ L h' m → News h₀ L h' ((D, intO cs c) :: news) → (∀ q ∈ news, q.1 ≠ D) → (cs.map (·.1)).Perm (xs.map (·.1)) → (cs.map (·.1)).Pairwise (· ≤ ·) → Q (.ref D) { s with heap := h' }) : wpAny (model prog w) A (call (.builtin "sorted") [.ref l]) Q E s := by
  refine kso_sorted F N (PySem.IsL.isList (n := k) (N _ hl).1) (intsAre_it xs) (by simpa using h64) (fun D vs' ns' c h' F' N' hlt hi' _ hp ho _ => ?_)
  obtain ⟨cs, rfl, rfl⟩ := it_intsAre hi'
  exact h D cs c h' F' N' (fun q hq => Nat.ne_of_lt (hlt q hq)) hp ho
end
end
section
open PySem PySem.W PyProof.Rows PySem.Calls PySem.Spec
set_option maxRecDepth 100000
/-- what one turn of the two inner loops does -/
def InnerSpec (prog : Program) (w : World) (A : Around) (h₀ : Heap) (L : Addr) (env : Env) (mbody : List Stmt) : Prop :=
  ∀ (s : Shared) (m : Str → Option Value) (news : News') (n k j ka kb : Nat) (x y : Nat → Int) (P R : List Nat) (zx zy : List It) (Fa Fb : Addr) (on : Obj) (T : Int) (tn t1 t2 tt : Tok),
    Fr h₀ L s.heap m → News h₀ L s.heap news → (L + 1, on) ∈ news → on.data = .cell (some (.int (n : Int) tn)) → m (Str.ofString "k") = some (.int (k : Int) t1) → m (Str.ofString "m") = some (.int (j : Int) t2) → m (Str.ofString "total") = some (.int T tt) →
    m (Str.ofString "firsts") = some (.ref Fa) → m (Str.ofString "seconds") = some (.ref Fb) → (Fa, objL zx ka) ∈ news → (Fb, objL zy kb) ∈ news → (∀ z ∈ zx, TupAt news z) → (∀ z ∈ zy, TupAt news z) → P.Perm (List.range n) → R.Perm (List.range n) →
    zx.map (·.2) = P.map (fun i => (x i, (i : Int))) → zy.map (·.2) = R.map (fun i => (y i, (i : Int))) → 1 ≤ k → k < n → 1 ≤ j → j < n → n ≤ 6 → (∀ i, -(2 ^ 18) ≤ x i ∧ x i ≤ 2 ^ 18) →
    wpAny (model prog w) A (execs mbody env) (fun fl s' => fl = .next ∧ ∃ h' tk m' news' tt', s' = { s with heap := h', toks := tk } ∧ Fr h₀ L h' m' ∧ News h₀ L h' news' ∧ (∀ q ∈ news, q ∈ news') ∧ m' (Str.ofString "k") = some (.int (k : Int) t1) ∧ m' (Str.ofString "firsts") = some (.ref Fa) ∧ m' (Str.ofString "seconds") = some (.ref Fb) ∧
      m' (Str.ofString "total") = some (.int (T + tot n P R x y k j) tt')) (fun _ _ => False) s
theorem atI_small {xs : List IT} (h : ∀ q ∈ xs, -(2 ^ 18) < q.1 ∧ q.1 < 2 ^ 18) (i : Nat) : -(2 ^ 18) ≤ atI xs i ∧ atI xs i ≤ 2 ^ 18 := by
  unfold atI
  cases hx : xs[i]? with
  | none => simp
  | some q =>
    have := h q (List.mem_of_getElem? hx)
    simp
    omega
theorem sumN_zero (f : Nat → Int) : sumN 0 f = 0 := rfl
theorem sumN_one (n : Nat) (f : Nat → Int) : sumN (n + 1) f = sumN n f + f n := rfl
section
variable {prog : Program} {w : World} {p : Program} {loose : List Str} {mg mb : Str → Option Value} {A : Around} {h₀ : Heap} {L : Addr}
  {name qual : Str} {params : Arguments} {body fbody oe rest : List Stmt} {scope : Scope} {dV kV doc pm cdv ct oc cd : Value} {an od : Option Addr} {osl : Array (Option Value)} {fa : Addr} {st1 st2 : Stmt} {tgt it : Expr} {fpos : Pos}
set_option maxHeartbeats 8000000 in
theorem turn_N (ho : (hd.heap_39 w.params).lookup 112 = some ⟨oc, od, .func (fnOf name qual params body scope dV kV doc pm an cdv ct), osl⟩) (hb : body = st1 :: st2 :: .For tgt it fbody oe fpos :: rest)
    (Z : LawAt w p loose mg mb A h₀ L (envOfC qual scope L fa cd))
    (hin : ∀ s1 s2 s3 s4 kt kit mt mit mbody moe mpos koe kpos rest2, fbody = s1 :: s2 :: s3 :: s4 :: .For kt kit [.For mt mit mbody moe mpos] koe kpos :: rest2 → InnerSpec prog w A h₀ L (envOfC qual scope L fa cd) mbody) : TurnSpec prog w A h₀ L (envOfC qual scope L fa cd) fbody := by
  have e := ho
  rw [show (hd.heap_39 w.params).lookup 112 = some _ from rfl] at e
  cases e
  cases hb
  have hin := hin _ _ _ _ _ _ _ _ _ _ _ _ _ _ rfl
  have C := Z.C
  have hh := C.hh
  intro s m news n nx ny xs ys lx ly on oa ou tn ps F N mcn hon mca hoa mcu hou mtb htr hx hy hxn hyn hn2 hn6 bx by' hg
  refine seq_cut (fun s' => ∃ h' tk m' news1 S D1 D2 k1 k2 zsx zsy, s' = { s with heap := h', toks := tk } ∧ Fr h₀ L h' m' ∧ News h₀ L h' news1 ∧ (∀ q ∈ news, q ∈ news1) ∧ m' (Str.ofString "starts") = some (.ref S) ∧ (S, listOf [Value.ref D1, .ref D2].toArray 0) ∈ news1 ∧ (D1, objL zsx k1) ∈ news1 ∧ (D2, objL zsy k2) ∈ news1 ∧
    (∀ z ∈ zsx, TupAt news1 z) ∧ (∀ z ∈ zsy, TupAt news1 z) ∧ zsx.length = n ∧ zsy.length = n ∧ IsPairs xs zsx ∧ IsPairs ys zsy) ?s1 ?r1
  case s1 =>
    repeat tb_rel
    refine ListComp_N h₀ L (by tb_start) (by decide) (by tb_start) (by decide) (by intro _; tb_start) ?_
    repeat tb_rel
    refine range1_N F N (fun r t' u' h1 tk1 hr F1 N1 => ?_)
    refine pairscomp (xs := xs) hh F1 N1 (.head _) (by omega) (by intro _; kernel_rfl!) (by intro _; kernel_rfl!) ?elt1 ?fin1
    case elt1 =>
      intro C' mc h tk news' i ti Q' E' hsub hi F' N' c' hmx hq
      have mca' := hsub _ (.tail _ mca)
      have hx' := hsub _ (.tail _ hx)
      repeat tb_rel
      obtain ⟨⟨a, ta⟩, hat⟩ : ∃ q : IT, xs[i]? = some q := ⟨xs[i]'(by omega), by simp [hxn, hi]⟩
      refine item_at (vs := xs.map valI) (k := i) (PySem.IsL.isList (n := nx) (N' _ hx').1) (by omega) (x := .int a ta) (by simp [hat]) ?_
      repeat tb_rel
      refine newT_N F' N' (by simp) (fun T h3 hT F3 N3 => ?_)
      have ea : a = atI xs i := by simp [atI, hat]
      subst ea
      exact hq T _ h3 _ hT F3 N3
    case fin1 =>
    intro D1 zsx k1 news1 h2 tk2 hl1 hp1 hsub1 ht1 F2 N2
    have mcn2 : (L + 1, on) ∈ (D1, objL zsx k1) :: news1 := .tail _ (hsub1 _ (.tail _ mcn))
    repeat tb_rel
    refine ListComp_N h₀ L (by tb_start) (by decide) (by tb_start) (by decide) (by intro _; tb_start) ?_
    repeat tb_rel
    refine range1_N F2 N2 (fun r2 t2' u2' h3 tk3 hr2 F3 N3 => ?_)
    refine pairscomp (xs := ys) hh F3 N3 (.head _) (by omega) (by intro _; kernel_rfl!) (by intro _; kernel_rfl!) ?elt2 ?fin2
    case elt2 =>
      intro C' mc h tk news' i ti Q' E' hsub hi F' N' c' hmx hq
      have mcu' := hsub _ (.tail _ (.tail _ (hsub1 _ (.tail _ mcu))))
      have hy' := hsub _ (.tail _ (.tail _ (hsub1 _ (.tail _ hy))))
      repeat tb_rel
      obtain ⟨⟨a, ta⟩, hat⟩ : ∃ q : IT, ys[i]? = some q := ⟨ys[i]'(by omega), by simp [hyn, hi]⟩
      refine item_at (vs := ys.map valI) (k := i) (PySem.IsL.isList (n := ny) (N' _ hy').1) (by omega) (x := .int a ta) (by simp [hat]) ?_
      repeat tb_rel
      refine newT_N F' N' (by simp) (fun T h4 hT F4 N4 => ?_)
      have ea : a = atI ys i := by simp [atI, hat]
      subst ea
      exact hq T _ h4 _ hT F4 N4
    case fin2 =>
    intro D2 zsy k2 news2 h4 tk4 hl2 hp2 hsub2 ht2 F4 N4
    repeat tb_rel
    refine newL_N F4 N4 (by simp) (fun S h5 hS F5 N5 => ?_)
    refine stE F5 N5 (by tb_start) (fun h6 F6 N6 _ => ?_) (by kernel_rfl!) (by kernel_rfl!)
    refine ⟨rfl, h6, _, _, _, S, D1, D2, k1, k2, zsx, zsy, rfl, F6, N6, fun q hq => .tail _ (.tail _ (hsub2 _ (.tail _ (.tail _ (hsub1 _ (.tail _ hq)))))), if_pos rfl, .head _, .tail _ (.tail _ (hsub2 _ (.tail _ (.head _)))), .tail _ (.head _), fun z hz => ((ht1 z hz).sub fun q hq => .tail _ (.tail _ (hsub2 _ (.tail _ (.tail _ hq))))), fun z hz => ((ht2 z hz).sub fun q hq => .tail _ (.tail _ hq)), hl1, hl2, hp1, hp2⟩
  case r1 =>
  rintro s' ⟨h1, tk1, m1, news1, S, D1, D2, k1, k2, zsx, zsy, rfl, F1, N1, hs1, eS, mS, mD1, mD2, tz1, tz2, lz1, lz2, pz1, pz2⟩
  clear F N
  have inj : ∀ {xs : List IT} {zs : List It}, IsPairs xs zs → zs.length = n → ∀ i j, i < n → j < n → (zs.getD i dIt).2 = (zs.getD j dIt).2 → i = j := by
    intro xs zs hp hl i j hi hj he
    rw [isPairs_get hp (by omega), isPairs_get hp (by omega)] at he
    have := congrArg Prod.snd he
    simp only at this
    omega
  have asMap : ∀ {zs : List It}, zs.length = n → zs = (List.range n).map fun i => zs.getD i dIt := by
    intro zs hl
    refine List.ext_getElem (by simp [hl]) fun i h1 h2 => ?_
    simp [h1]
  obtain ⟨P, hP, hPr, hPo⟩ := orders hn2 hn6 (inj pz1 lz1)
  obtain ⟨R, hR, hRr, hRo⟩ := orders hn2 hn6 (inj pz2 lz2)
  have ox : offHeap ltI zsx = P.map fun i => zsx.getD i dIt := by
    rw [← hPo It ltI (fun i => zsx.getD i dIt) (fun i j _ _ => rfl), ← asMap lz1]
  have oy : offHeap ltI zsy = R.map fun i => zsy.getD i dIt := by
    rw [← hRo It ltI (fun i => zsy.getD i dIt) (fun i j _ _ => rfl), ← asMap lz2]
  refine seq_cut (fun s' => ∃ h' tk m' news2 Fa Fb ka kb, s' = { s with heap := h', toks := tk } ∧ Fr h₀ L h' m' ∧ News h₀ L h' news2 ∧ (∀ q ∈ news1, q ∈ news2) ∧ m' (Str.ofString "starts") = some (.ref S) ∧ m' (Str.ofString "firsts") = some (.ref Fa) ∧ m' (Str.ofString "seconds") = some (.ref Fb) ∧
    (Fa, objL (P.map fun i => zsx.getD i dIt) ka) ∈ news2 ∧ (Fb, objL (R.map fun i => zsy.getD i dIt) kb) ∈ news2) ?s2 ?r2
  case s2 =>
    refine Assign_Tuple ?_ (by tb_start) (by tb_start)
    refine ListComp_N h₀ L (by tb_start) (by decide) (by tb_start) (by decide) (by intro _; tb_start) ?_
    repeat tb_rel
    refine iter_list_N F1 N1 (PySem.IsL.isList (n := 0) (N1 _ mS).1) (fun itr o h5 ho hit F5 N5 hk5 => ?_)
    refine comp_over (walk_list (l := S) (vs := [Value.ref D1, .ref D2]) hh) ho F5 N5 hit (list_self ho) (fun i out news' => (∀ q ∈ news1, q ∈ news') ∧ out.length = i ∧ (0 < i → ∃ Fa ka, out[0]? = some (.ref Fa) ∧ (Fa, objL (P.map fun i => zsx.getD i dIt) ka) ∈ news') ∧ (1 < i → ∃ Fb kb, out[1]? = some (.ref Fb) ∧ (Fb, objL (R.map fun i => zsy.getD i dIt) kb) ∈ news')) ⟨fun _ h => h, rfl, fun h => absurd h (by decide), fun h => absurd h (by decide)⟩
      (by rintro i out news' h' ⟨hs, _⟩ N'; exact PySem.IsL.isList (n := 0) (N' _ (hs _ mS)).1) (by rintro i out _ ⟨_, hl, _⟩; omega) (by simp) (by intro _; kernel_rfl!) (by intro _; kernel_rfl!) ?turn ?fin
    case fin =>
      rintro R' C' out kr news' mc h' tk' ⟨hs, hl, hA, hB⟩ F' N' c' hq hRC
      refine comp_end' F' N' c' hq hRC (fun h'' F'' N'' => ?_)
      obtain ⟨Fa, ka, e1, mA⟩ := hA (by simp)
      obtain ⟨Fb, kb, e2, mB⟩ := hB (by simp)
      have eo : out = [.ref Fa, .ref Fb] := by
        match out, hl with
        | [a, b], _ => simp at e1 e2; rw [e1, e2]
      subst eo
      refine unpack_lst hh F'' N'' (.head _) (by tb_start) (fun h6 F6 N6 => ?_)
      refine wpAny_assign_Name (stE F6 N6 (by tb_start) (fun h7 F7 N7 _ => ?_) (by kernel_rfl!) (by kernel_rfl!))
      refine wpAny_assign_Name (stE F7 N7 (by tb_start) (fun h8 F8 N8 _ => ?_) (by kernel_rfl!) (by kernel_rfl!))
      exact ⟨rfl, h8, _, _, _, Fa, Fb, ka, kb, rfl, F8, N8, fun q hq => .tail _ (hs q hq), by tlg_ne, by tlg_ne, by tlg_ne, .tail _ mA, .tail _ mB⟩
    case turn =>
      clear F5 N5 hk5 hit
      rintro R' C' i out news' o oC kr mc h tk v E' ⟨hs, hl, hA, hB⟩ hi hv F' N' c' hmx hq
      refine tests_nil ?_
      have mz1 : (D1, objL zsx k1) ∈ (C', oC) :: (itr, o) :: (R', listOf out.toArray kr) :: news' := .tail _ (.tail _ (.tail _ (hs _ mD1)))
      have mz2 : (D2, objL zsy k2) ∈ (C', oC) :: (itr, o) :: (R', listOf out.toArray kr) :: news' := .tail _ (.tail _ (.tail _ (hs _ mD2)))
      have hfin : ∀ {D' : Addr} {ob : Obj} {h' : Heap}, (∀ p ∈ (C', oC) :: (itr, o) :: (R', listOf out.toArray kr) :: news', p.1 ≠ D') → News h₀ L h' ((D', ob) :: (C', oC) :: (itr, o) :: (R', listOf out.toArray kr) :: news') → News h₀ L h' ((C', oC) :: (itr, o) :: (R', listOf out.toArray kr) :: (D', ob) :: news') ∧ ∀ q ∈ (D', ob) :: news', q.1 ≠ C' ∧ q.1 ≠ itr ∧ q.1 ≠ R' := by
        intro D' ob h' hD' N''
        refine ⟨news_sub N'' fun q hq => ?_, fun q hq' => ?_⟩
        · rcases List.mem_cons.mp hq with rfl | hq
          · exact .tail _ (.head _)
          rcases List.mem_cons.mp hq with rfl | hq
          · exact .tail _ (.tail _ (.head _))
          rcases List.mem_cons.mp hq with rfl | hq
          · exact .tail _ (.tail _ (.tail _ (.head _)))
          rcases List.mem_cons.mp hq with rfl | hq
          · exact .head _
          · exact .tail _ (.tail _ (.tail _ (.tail _ hq)))
        · rcases List.mem_cons.mp hq' with rfl | hq'
          · exact ⟨fun e => hD' _ (.head _) e.symm, fun e => hD' _ (.tail _ (.head _)) e.symm, fun e => hD' _ (.tail _ (.tail _ (.head _))) e.symm⟩
          · exact hq q hq'
      have hi2 : i = 0 ∨ i = 1 := by simp at hi; omega
      rcases hi2 with rfl | rfl
      · cases hv
        repeat tb_rel
        refine Calls.use (off_calls (xs := zsx) (n := k1) mz1 (fun x hx => ((tz1 x hx).sub fun q hq => .tail _ (.tail _ (.tail _ (hs q hq))))) (by omega)) C (by exact F') (by exact N') (by omega) (by omega) ?_
        rintro v news'' h' tk' F'' N'' ⟨D', k', rfl, hD', rfl⟩
        obtain ⟨N3, hq3⟩ := hfin hD' N''
        refine Turned.intro F'' N3 hq3 ⟨fun q hq => .tail _ (hs q hq), by simp [hl], fun _ => ⟨D', k', by rw [List.length_eq_zero_iff.mp hl]; rfl, by rw [← ox]; exact .head _⟩, fun h => absurd h (by decide)⟩
      · cases hv
        repeat tb_rel
        refine Calls.use (off_calls (xs := zsy) (n := k2) mz2 (fun x hx => ((tz2 x hx).sub fun q hq => .tail _ (.tail _ (.tail _ (hs q hq))))) (by omega)) C (by exact F') (by exact N') (by omega) (by omega) ?_
        rintro v news'' h' tk' F'' N'' ⟨D', k', rfl, hD', rfl⟩
        obtain ⟨N3, hq3⟩ := hfin hD' N''
        obtain ⟨Fa, ka, e1, mA⟩ := hA (by decide)
        refine Turned.intro F'' N3 hq3 ⟨fun q hq => .tail _ (hs q hq), by simp [hl], fun _ => ⟨Fa, ka, by rw [List.getElem?_append_left (by omega)]; exact e1, .tail _ mA⟩, fun _ => ⟨D', k', by rw [List.getElem?_append_right (by omega), hl]; rfl, by rw [← oy]; exact .head _⟩⟩
  case r2 =>
  rintro s' ⟨h2, tk2, m2, news2, Fa, Fb, ka, kb, rfl, F2, N2, hs2, eS2, eFa, eFb, mFa, mFb⟩
  clear F1 N1 ox oy hPo hRo
  have tzP : ∀ z ∈ P.map fun i => zsx.getD i dIt, TupAt news2 z := fun z hz => by
    obtain ⟨i, hi, rfl⟩ := List.mem_map.mp hz
    have hlt := List.mem_range.mp (hP.mem_iff.mp hi)
    have : zsx.getD i dIt ∈ zsx := by
      have e : zsx.getD i dIt = zsx[i]'(by omega) := by simp [lz1, hlt]
      rw [e]; exact List.getElem_mem _
    exact (tz1 _ this).sub hs2
  have tzR : ∀ z ∈ R.map fun i => zsy.getD i dIt, TupAt news2 z := fun z hz => by
    obtain ⟨i, hi, rfl⟩ := List.mem_map.mp hz
    have hlt := List.mem_range.mp (hR.mem_iff.mp hi)
    have : zsy.getD i dIt ∈ zsy := by
      have e : zsy.getD i dIt = zsy[i]'(by omega) := by simp [lz2, hlt]
      rw [e]; exact List.getElem_mem _
    exact (tz2 _ this).sub hs2
  refine seq_cut (fun s' => ∃ h' tk news3, s' = { s with heap := h', toks := tk } ∧ Fr h₀ L h' m2 ∧ News h₀ L h' news3 ∧ ∀ q ∈ news2, q ∈ news3) ?s3 ?r3
  case s3 =>
    have eqo : ∀ {Pp : List Nat} {zs : List It} {c : Nat}, listOf ((Pp.toArray.toList.map fun i => (zs.getD i dIt).1).toArray) c = objL (Pp.map fun i => zs.getD i dIt) c := by
      intro Pp zs c
      show _ = listOf ((Pp.map fun i => zs.getD i dIt).map (·.1)).toArray c
      rw [List.map_map]
      rfl
    repeat tb_rel
    refine newL_N F2 N2 (by simp) (fun S2 h3 hS2 F3 N3 => ?_)
    repeat tb_rel
    refine ListComp_N h₀ L (by tb_start) (by decide) (by tb_start) (by decide) (by intro _; tb_start) ?_
    repeat tb_rel
    refine iter_list_N F3 N3 (PySem.IsL.isList (n := 0) (N3 _ (.tail _ (hs2 _ mS))).1) (fun itr o h5 ho hit F5 N5 hk5 => ?_)
    refine comp_over (walk_list (l := S) (vs := [Value.ref D1, .ref D2]) hh) ho F5 N5 hit (list_self ho) (fun i out news' => (∀ q ∈ (S2, listOf [Value.ref Fa, .ref Fb].toArray 0) :: news2, q ∈ news') ∧ out.length = i ∧ (0 < i → ∃ Ga ga, out[0]? = some (.ref Ga) ∧ (Ga, objL (P.map fun i => zsx.getD i dIt) ga) ∈ news') ∧ (1 < i → ∃ Gb gb, out[1]? = some (.ref Gb) ∧ (Gb, objL (R.map fun i => zsy.getD i dIt) gb) ∈ news')) ⟨fun _ h => h, rfl, fun h => absurd h (by decide), fun h => absurd h (by decide)⟩
      (by rintro i out news' h' ⟨hs, _⟩ N'; exact PySem.IsL.isList (n := 0) (N' _ (hs _ (.tail _ (hs2 _ mS)))).1) (by rintro i out _ ⟨_, hl, _⟩; omega) (by simp) (by intro _; kernel_rfl!) (by intro _; kernel_rfl!) ?turn ?fin
    case fin =>
      rintro R' C' out kr news' mc h' tk' ⟨hs, hl, hA, hB⟩ F' N' c' hq hRC
      refine comp_end' F' N' c' hq hRC (fun h'' F'' N'' => ?_)
      obtain ⟨Ga, ga, e1, mA⟩ := hA (by simp)
      obtain ⟨Gb, gb, e2, mB⟩ := hB (by simp)
      have eo : out = [.ref Ga, .ref Gb] := by
        match out, hl with
        | [a, b], _ => simp at e1 e2; rw [e1, e2]
      subst eo
      have tP : ∀ z ∈ P.map fun i => zsx.getD i dIt, TupAt ((R', listOf [Value.ref Ga, .ref Gb].toArray kr) :: news') z := fun z hz => (tzP z hz).sub fun q hq => .tail _ (hs q (.tail _ hq))
      have tR : ∀ z ∈ R.map fun i => zsy.getD i dIt, TupAt ((R', listOf [Value.ref Ga, .ref Gb].toArray kr) :: news') z := fun z hz => (tzR z hz).sub fun q hq => .tail _ (hs q (.tail _ hq))
      have rd1 := reads_objL N'' (.tail _ (hs _ (.tail _ mFa))) tP
      have rd2 := reads_objL N'' (.tail _ (hs _ (.tail _ mFb))) tR
      have rd3 := reads_objL N'' (.tail _ mA) tP
      have rd4 := reads_objL N'' (.tail _ mB) tR
      have sh1 := shp_tups (P.map fun i => zsx.getD i dIt)
      have sh2 := shp_tups (R.map fun i => zsy.getD i dIt)
      refine ne_same (k := 3) (Reads.list (N'' _ (.tail _ (hs _ (.head _)))).1 rfl rfl (.cons rd1 (.cons rd2 .nil))) (Reads.list (N'' _ (.head _)).1 rfl rfl (.cons rd3 (.cons rd4 .nil))) (.list fun d hd => ?_) (by decide) (by have := C.units; omega) ?_
      · rcases List.mem_cons.mp hd with rfl | hd
        · exact sh1
        · rw [List.mem_singleton.mp hd]; exact sh2
      repeat tb_rel
      exact ⟨rfl, h'', _, _, rfl, F'', N'', fun q hq => .tail _ (hs q (.tail _ hq))⟩
    case turn =>
      clear F5 N5 hk5 hit
      rintro R' C' i out news' o oC kr mc h tk v E' ⟨hs, hl, hA, hB⟩ hi hv F' N' c' hmx hq
      refine tests_nil ?_
      have mz1 : (D1, objL zsx k1) ∈ (C', oC) :: (itr, o) :: (R', listOf out.toArray kr) :: news' := .tail _ (.tail _ (.tail _ (hs _ (.tail _ (hs2 _ mD1)))))
      have mz2 : (D2, objL zsy k2) ∈ (C', oC) :: (itr, o) :: (R', listOf out.toArray kr) :: news' := .tail _ (.tail _ (.tail _ (hs _ (.tail _ (hs2 _ mD2)))))
      have hfin : ∀ {D' : Addr} {ob : Obj} {h' : Heap}, (∀ p ∈ (C', oC) :: (itr, o) :: (R', listOf out.toArray kr) :: news', p.1 ≠ D') → News h₀ L h' ((D', ob) :: (C', oC) :: (itr, o) :: (R', listOf out.toArray kr) :: news') → News h₀ L h' ((C', oC) :: (itr, o) :: (R', listOf out.toArray kr) :: (D', ob) :: news') ∧ ∀ q ∈ (D', ob) :: news', q.1 ≠ C' ∧ q.1 ≠ itr ∧ q.1 ≠ R' := by
        intro D' ob h' hD' N''
        refine ⟨news_sub N'' fun q hq => ?_, fun q hq' => ?_⟩
        · rcases List.mem_cons.mp hq with rfl | hq
          · exact .tail _ (.head _)
          rcases List.mem_cons.mp hq with rfl | hq
          · exact .tail _ (.tail _ (.head _))
          rcases List.mem_cons.mp hq with rfl | hq
          · exact .tail _ (.tail _ (.tail _ (.head _)))
          rcases List.mem_cons.mp hq with rfl | hq
          · exact .head _
          · exact .tail _ (.tail _ (.tail _ (.tail _ hq)))
        · rcases List.mem_cons.mp hq' with rfl | hq'
          · exact ⟨fun e => hD' _ (.head _) e.symm, fun e => hD' _ (.tail _ (.head _)) e.symm, fun e => hD' _ (.tail _ (.tail _ (.head _))) e.symm⟩
          · exact hq q hq'
      have hi2 : i = 0 ∨ i = 1 := by simp at hi; omega
      rcases hi2 with rfl | rfl
      · cases hv
        repeat tb_rel
        refine sortT_N F' N' mz1 (fun x hx => ((tz1 x hx).sub fun q hq => .tail _ (.tail _ (.tail _ (hs q (.tail _ (hs2 q hq))))))) (by omega) (by omega) (P := P.toArray) (by rw [lz1]; exact hPr) (fun D' c h' F'' N'' hD' => ?_)
        rw [eqo] at N''
        obtain ⟨N3, hq3⟩ := hfin hD' N''
        refine Turned.intro F'' N3 hq3 ⟨fun q hq => .tail _ (hs q hq), by simp [hl], fun _ => ⟨D', c, by rw [List.length_eq_zero_iff.mp hl]; rfl, .head _⟩, fun h => absurd h (by decide)⟩
      · cases hv
        repeat tb_rel
        refine sortT_N F' N' mz2 (fun x hx => ((tz2 x hx).sub fun q hq => .tail _ (.tail _ (.tail _ (hs q (.tail _ (hs2 q hq))))))) (by omega) (by omega) (P := R.toArray) (by rw [lz2]; exact hRr) (fun D' c h' F'' N'' hD' => ?_)
        rw [eqo] at N''
        obtain ⟨N3, hq3⟩ := hfin hD' N''
        obtain ⟨Ga, ga, e1, mA⟩ := hA (by decide)
        refine Turned.intro F'' N3 hq3 ⟨fun q hq => .tail _ (hs q hq), by simp [hl], fun _ => ⟨Ga, ga, by rw [List.getElem?_append_left (by omega)]; exact e1, .tail _ mA⟩, fun _ => ⟨D', c, by rw [List.getElem?_append_right (by omega), hl]; rfl, .head _⟩⟩
  case r3 =>
  rintro s' ⟨h3, tk3, news3, rfl, F3, N3, hs3⟩
  clear F2 N2
  have hzx : (P.map fun i => zsx.getD i dIt).map (·.2) = P.map fun i => (atI xs i, (i : Int)) := by
    rw [List.map_map]
    refine List.map_congr_left fun i hi => ?_
    exact isPairs_get pz1 (by have := List.mem_range.mp (hP.mem_iff.mp hi); omega)
  have hzy : (R.map fun i => zsy.getD i dIt).map (·.2) = R.map fun i => (atI ys i, (i : Int)) := by
    rw [List.map_map]
    refine List.map_congr_left fun i hi => ?_
    exact isPairs_get pz2 (by have := List.mem_range.mp (hR.mem_iff.mp hi); omega)
  have mcn3 : (L + 1, on) ∈ news3 := hs3 _ (hs2 _ (hs1 _ mcn))
  tb_rel
  repeat tb_rel
  refine stE F3 N3 (by tb_start) (fun h4 F4 N4 _ => ?_) (by kernel_rfl!) (by kernel_rfl!)
  refine seq_cut (fun s' => ∃ h' tk m' news5 tt, s' = { s with heap := h', toks := tk } ∧ Fr h₀ L h' m' ∧ News h₀ L h' news5 ∧ (∀ q ∈ news3, q ∈ news5) ∧ m' (Str.ofString "total") = some (.int (sumN (n - 1) (fun k => sumN (n - 1) (fun m => tot n P R (atI xs) (atI ys) (k + 1) (m + 1)))) tt)) ?s5 ?r5
  case s5 =>
    clear F3 N3
    refine wpAny_For ?_ (by intro _; tb_start)
    repeat tb_rel
    refine range2_N F4 N4 (fun r1 u1 h5 tk5 hr1 F5 N5 => ?_)
    refine iter_range_N F5 N5 (.head _) (by decide) (by omega) (by omega) (fun it1 h6 hit1 F6 N6 => ?_)
    refine codeAny_forLoop (fun q s₁ => ∃ i m' news' h' tk' tt, s₁ = { s with heap := h', toks := tk' } ∧ q = (n - 1) - i ∧ i ≤ n - 1 ∧ Fr h₀ L h' m' ∧ News h₀ L h' ((it1, rio ((1 + i : Nat) : Int) (((n - 1 : Nat) : Int) - i) 1) :: news') ∧ (∀ q ∈ news', q.1 ≠ it1) ∧ (∀ q ∈ news3, q ∈ news') ∧
      m' (Str.ofString "firsts") = some (.ref Fa) ∧ m' (Str.ofString "seconds") = some (.ref Fb) ∧ m' (Str.ofString "total") = some (.int (sumN i (fun k => sumN (n - 1) (fun m => tot n P R (atI xs) (atI ys) (k + 1) (m + 1)))) tt)) ?turnk (n - 1)
      ⟨0, _, _, h6, _, _, rfl, rfl, Nat.zero_le _, F6, by
        have e : rio 1 ((n : Int) - 1) 1 = rio ((1 + 0 : Nat) : Int) (((n - 1 : Nat) : Int) - ((0 : Nat) : Int)) 1 := by
          rw [show ((1 + 0 : Nat) : Int) = 1 by omega, show ((n - 1 : Nat) : Int) - ((0 : Nat) : Int) = (n : Int) - 1 by omega]
        rw [← e]
        exact N6, hit1, fun q hq => .tail _ hq, by tlg_ne, by tlg_ne, by tlg_ne⟩ (by intro _; tb_start)
    clear F4 N4 F5 N5 F6 N6
    rintro q s₁ ⟨i, m5, news5, h7, tk7, tt7, rfl, rfl, hi, F7, N7, hne7, hsub7, eA, eB, eT⟩
    by_cases hlt : i < n - 1
    · refine (walk_range (a := 1) (len := n - 1) hh).next { s with heap := h7, toks := tk7 } m5 _ _ i _ _ rfl F7 N7 hne7 trivial hlt (fun v h8 tk8 o8 hv ho8 F8 N8 hs8 => ?_)
      obtain ⟨tv, rfl⟩ := hv
      refine wpAny_assign_Name (stE F8 N8 (by tb_start) (fun h9 F9 N9 _ => ?_) (by kernel_rfl!) (by kernel_rfl!))
      have mcn9 : (L + 1, on) ∈ (it1, o8) :: news5 := .tail _ (hsub7 _ mcn3)
      tb_rel
      refine wpAny_For ?_ (by intro _; tb_start)
      repeat tb_rel
      refine range2_N F9 N9 (fun r2 u2 h10 tk10 hr2 F10 N10 => ?_)
      refine iter_range_N F10 N10 (.head _) (by decide) (by omega) (by omega) (fun it2 h11 hit2 F11 N11 => ?_)
      refine codeAny_forLoop (fun q s₁ => ∃ j m' news' h' tk' tt, s₁ = { s with heap := h', toks := tk' } ∧ q = (n - 1) - j ∧ j ≤ n - 1 ∧ Fr h₀ L h' m' ∧ News h₀ L h' ((it2, rio ((1 + j : Nat) : Int) (((n - 1 : Nat) : Int) - j) 1) :: news') ∧ (∀ q ∈ news', q.1 ≠ it2) ∧ (∀ q ∈ (it1, o8) :: news5, q ∈ news') ∧
        m' (Str.ofString "k") = some (.int ((1 + i : Nat) : Int) tv) ∧ m' (Str.ofString "firsts") = some (.ref Fa) ∧ m' (Str.ofString "seconds") = some (.ref Fb) ∧ m' (Str.ofString "total") = some (.int (sumN i (fun k => sumN (n - 1) (fun m => tot n P R (atI xs) (atI ys) (k + 1) (m + 1))) + sumN j (fun m => tot n P R (atI xs) (atI ys) (i + 1) (m + 1))) tt)) ?turnm (n - 1)
        ⟨0, _, _, h11, _, _, rfl, rfl, Nat.zero_le _, F11, by
          have e : rio 1 ((n : Int) - 1) 1 = rio ((1 + 0 : Nat) : Int) (((n - 1 : Nat) : Int) - ((0 : Nat) : Int)) 1 := by
            rw [show ((1 + 0 : Nat) : Int) = 1 by omega, show ((n - 1 : Nat) : Int) - ((0 : Nat) : Int) = (n : Int) - 1 by omega]
          rw [← e]
          exact N11, hit2, fun q hq => .tail _ hq, by tlg_ne, by tlg_ne, by tlg_ne, by rw [sumN_zero, Int.add_zero]; tlg_ne⟩ (by intro _; tb_start)
      clear F8 N8 F9 N9 F10 N10 F11 N11
      rintro q s₁ ⟨j, m6, news6, h12, tk12, tt12, rfl, rfl, hj, F12, N12, hne12, hsub12, eK, eA2, eB2, eT2⟩
      by_cases hjl : j < n - 1
      · refine (walk_range (a := 1) (len := n - 1) hh).next { s with heap := h12, toks := tk12 } m6 _ _ j _ _ rfl F12 N12 hne12 trivial hjl (fun v h13 tk13 o13 hv ho13 F13 N13 hs13 => ?_)
        obtain ⟨tw, rfl⟩ := hv
        refine wpAny_assign_Name (stE F13 N13 (by tb_start) (fun h14 F14 N14 _ => ?_) (by kernel_rfl!) (by kernel_rfl!))
        have sub3 : ∀ q ∈ news3, q ∈ (it2, o13) :: news6 := fun q hq => .tail _ (hsub12 q (.tail _ (hsub7 q hq)))
        refine wpAny_mono (hin { s with heap := h14, toks := tk13 + 1 } _ _ n (1 + i) (1 + j) ka kb (atI xs) (atI ys) P R _ _ Fa Fb on _ tn tv tw tt12 F14 N14 (sub3 _ mcn3) hon (by tlg_ne) (by tlg_ne) (by tlg_ne) (by tlg_ne) (by tlg_ne) (sub3 _ (hs3 _ mFa)) (sub3 _ (hs3 _ mFb)) (fun z hz => (tzP z hz).sub fun q hq => sub3 _ (hs3 _ hq)) (fun z hz => (tzR z hz).sub fun q hq => sub3 _ (hs3 _ hq)) hP hR hzx hzy (by omega) (by omega) (by omega) (by omega) hn6 (atI_small bx)) ?_ fun _ _ x => x.elim
        rintro fl s' ⟨rfl, h15, tk15, m15, news15, tt15, rfl, F15, N15, hsub15, f1, f2, f3, f4⟩
        have fil : ∀ {q : Addr × Obj}, q ∈ news15 → q.1 ≠ it2 → q ∈ news15.filter (fun q => q.1 != it2) := fun hq hn => List.mem_filter.mpr ⟨hq, by simpa using hn⟩
        subst ho13
        refine ⟨(n - 1) - (j + 1), by omega, j + 1, m15, news15.filter (fun q => q.1 != it2), h15, tk15, tt15, rfl, rfl, by omega, F15, news_sub N15 (fun q hq => ?_), fun q hq => ?_, fun q hq => fil (hsub15 _ (.tail _ (hsub12 q hq))) (hne12 q (hsub12 q hq)), f1, f2, f3, ?_⟩
        · rcases List.mem_cons.mp hq with rfl | hq
          · exact hsub15 _ (.head _)
          · exact (List.mem_filter.mp hq).1
        · have := (List.mem_filter.mp hq).2
          simpa using this
        · rw [f4, sumN_one, Int.add_assoc, Nat.add_comm 1 i, Nat.add_comm 1 j]
      · have hje : j = n - 1 := by omega
        subst hje
        refine (walk_range (a := 1) (len := n - 1) hh).stop { s with heap := h12, toks := tk12 } m6 _ _ (n - 1) _ _ rfl F12 N12 hne12 trivial (Nat.le_refl _) (fun h13 F13 N13 hs13 => ?_)
        repeat tb_rel
        have fil : ∀ {q : Addr × Obj}, q ∈ news6 → q.1 ≠ it1 → q ∈ news6.filter (fun q => q.1 != it1) := fun hq hn => List.mem_filter.mpr ⟨hq, by simpa using hn⟩
        subst ho8
        refine ⟨(n - 1) - (i + 1), by omega, i + 1, m6, news6.filter (fun q => q.1 != it1), h13, tk12, tt12, rfl, rfl, by omega, F13, news_sub N13 (fun q hq => ?_), fun q hq => ?_, fun q hq => fil (hsub12 _ (.tail _ (hsub7 q hq))) (hne7 q (hsub7 q hq)), eA2, eB2, ?_⟩
        · rcases List.mem_cons.mp hq with rfl | hq
          · exact hsub12 _ (.head _)
          · exact (List.mem_filter.mp hq).1
        · have := (List.mem_filter.mp hq).2
          simpa using this
        · rw [eT2, sumN_one]
    · have hie : i = n - 1 := by omega
      subst hie
      refine (walk_range (a := 1) (len := n - 1) hh).stop { s with heap := h7, toks := tk7 } m5 _ _ (n - 1) _ _ rfl F7 N7 hne7 trivial (Nat.le_refl _) (fun h8 F8 N8 hs8 => ?_)
      repeat tb_rel
      exact ⟨rfl, h8, _, m5, news5, tt7, rfl, F8, N8, hsub7, eT⟩
  case r5 =>
  rintro s' ⟨h5, tk5, m5, news5, tt5, rfl, F5, N5, hs5, eT5⟩
  clear F4 N4 F3 N3 hin
  rw [tot_all (by omega) hP hR] at eT5
  have k5 : ∀ q ∈ news, q ∈ news5 := fun q hq => hs5 _ (hs3 _ (hs2 _ (hs1 _ hq)))
  have mcn5 := k5 _ mcn
  have mca5 := k5 _ mca
  have mcu5 := k5 _ mcu
  refine seq_cut (fun s' => ∃ h' tk W kw ws, s' = { s with heap := h', toks := tk } ∧ Fr h₀ L h' (fun z => if z = Str.ofString "wide" then some (.ref W) else m5 z) ∧ News h₀ L h' ((W, intO ws kw) :: news5) ∧ ws.map (·.1) = xs.map (fun p => (n : Int) * p.1)) ?s6 ?r6
  case s6 =>
    refine AssignComp_N h₀ L (by tb_start) (by tb_start) (by decide) (by tb_start) (by decide) (by intro _; tb_start) ?_
    repeat tb_rel
    refine mapcomp (fun a => (n : Int) * a) hh F5 N5 (k5 _ hx) (by omega) (by intro _; kernel_rfl!) (by intro _; kernel_rfl!) ?elt ?fin
    case elt =>
      intro C' mc h tk news' a t Q' E' hsub _ F' N' c' hmx hq
      have mcn' := hsub _ mcn5
      repeat tb_rel
      exact mul_small (by omega) (by omega) (hq _ _)
    case fin =>
      intro W C' ws kw mc h6 tk6 hws F6 N6 c6 hap6 hRC6
      refine comp_end_use F6 N6 c6 hap6 hRC6 rfl rfl (by kernel_rfl!) (fun h7 F7 N7 => ?_)
      exact ⟨rfl, h7, _, W, kw, ws, rfl, F7, N7, hws⟩
  case r6 =>
  rintro s' ⟨h6, tk6, W, kw, ws, rfl, F6, N6, hws⟩
  have mcn6 := List.mem_cons_of_mem (W, intO ws kw) mcn5
  have mcu6 := List.mem_cons_of_mem (W, intO ws kw) mcu5
  refine seq_cut (fun s' => ∃ h' tk H kh hs, s' = { s with heap := h', toks := tk } ∧ Fr h₀ L h' (fun z => if z = Str.ofString "high" then some (.ref H) else if z = Str.ofString "wide" then some (.ref W) else m5 z) ∧ News h₀ L h' ((H, intO hs kh) :: (W, intO ws kw) :: news5) ∧ hs.map (·.1) = ys.map (fun p => (n : Int) * ((n : Int) - 1) * p.1)) ?s7 ?r7
  case s7 =>
    refine AssignComp_N h₀ L (by tb_start) (by tb_start) (by decide) (by tb_start) (by decide) (by intro _; tb_start) ?_
    repeat tb_rel
    refine mapcomp (fun a => (n : Int) * ((n : Int) - 1) * a) hh F6 N6 (.tail _ (k5 _ hy)) (by omega) (by intro _; kernel_rfl!) (by intro _; kernel_rfl!) ?elt ?fin
    case elt =>
      intro C' mc h tk news' a t Q' E' hsub _ F' N' c' hmx hq
      have mcn' := hsub _ mcn6
      repeat tb_rel
      refine mul_small (by omega) (by omega) ?_
      repeat tb_rel
      have hb1 : (n : Int) * ((n : Int) - 1) ≤ 6 * 5 := Int.mul_le_mul (by omega) (by omega) (by omega) (by omega)
      have hb2 : 0 ≤ (n : Int) * ((n : Int) - 1) := Int.mul_nonneg (by omega) (by omega)
      exact mul_small (by omega) (by omega) (hq _ _)
    case fin =>
      intro H C' hs kh mc h7 tk7 hhs F7 N7 c7 hap7 hRC7
      refine comp_end_use F7 N7 c7 hap7 hRC7 rfl rfl (by kernel_rfl!) (fun h8 F8 N8 => ?_)
      exact ⟨rfl, h8, _, H, kh, hs, rfl, F8, N8, hhs⟩
  case r7 =>
  rintro s' ⟨h7, tk7, H, kh, hs, rfl, F7, N7, hhs⟩
  obtain ⟨mx, my, CN1, CN2⟩ := cov_both hn2 hn6 hxn hyn bx by' hws hhs
  generalize ((n : Int) * sumN n (fun i => atI xs i * atI ys i) - sumN n (atI xs) * sumN n (atI ys)) = tv at eT5 CN1 CN2
  have CV : CovAt (hd.heap_39 w.params) p loose mg mb A h₀ L 1 6 := ⟨⟨C.hh, C.fr, by have := C.room; omega, by have := C.units; omega, C.X, C.T⟩, Z.BM, Z.CH⟩
  have mt7 : (57, tabObj ps) ∈ (H, intO hs kh) :: (W, intO ws kw) :: news5 := .tail _ (.tail _ (k5 _ mtb))
  have mW7 : (W, intO ws kw) ∈ (H, intO hs kh) :: (W, intO ws kw) :: news5 := .tail _ (.head _)
  have mH7 : (H, intO hs kh) ∈ (H, intO hs kh) :: (W, intO ws kw) :: news5 := .head _
  have mn7 : (L + 1, on) ∈ (H, intO hs kh) :: (W, intO ws kw) :: news5 := .tail _ (.tail _ mcn5)
  have eW : W ≠ 57 := news_apart N7 mW7 mt7 (by intro e; have := congrArg Obj.cls e; simp at this)
  have eH : H ≠ 57 := news_apart N7 mH7 mt7 (by intro e; have := congrArg Obj.cls e; simp at this)
  have eN : L + 1 ≠ 57 := news_apart N7 mn7 mt7 (by intro e; rw [e] at hon; cases hon)
  have k7 : ∀ q ∈ news, q ∈ (H, intO hs kh) :: (W, intO ws kw) :: news5 := fun q hq => .tail _ (.tail _ (k5 _ hq))
  obtain ⟨led, hled⟩ : ∃ led, led = (H, intO hs kh) :: (W, intO ws kw) :: news5 := ⟨_, rfl⟩
  rw [← hled] at N7 mt7 mW7 mH7 mn7 k7
  clear hled
  repeat tb_rel
  refine cov_N CV (by exact F7) (by exact N7) mt7 htr (by exact hg) mW7 mH7 CN1.xl CN1.yl hn2 (by omega) CN1.bx CN1.bY CN1.cx CN1.cy CN1.hmx CN1.hmy CN1.smx CN1.smy CN1.dx CN1.dy CN1.b1 CN1.b2 CN1.hr CN1.sr (fun z1 t1 ps1 s1 hz1 ht1 hb1 hd1 ho1 F8 N8 => ?_)
  repeat tb_rel
  refine cov_N CV (by exact F8) (by exact N8) (put_self mt7) ht1 hb1 (put_ne mH7 eH) (put_ne mW7 eW) CN2.xl CN2.yl hn2 (by omega) CN2.bx CN2.bY CN2.cx CN2.cy CN2.hmx CN2.hmy CN2.smx CN2.smy CN2.dx CN2.dy CN2.b1 CN2.b2 CN2.hr CN2.sr (fun z2 t2 ps2 s2 hz2 ht2 hb2 hd2 ho2 F9 N9 => ?_)
  rw [put_put] at N9
  repeat tb_rel
  refine newL_N F9 N9 (by simp) (fun TL h10 hTL F10 N10 => ?_)
  refine stE F10 N10 (by tb_start) (fun h11 F11 N11 _ => ?_) (by kernel_rfl!) (by kernel_rfl!)
  have mn11 : (L + 1, on) ∈ (TL, listOf [Value.float z1 t1, .float z2 t2].toArray 0) :: put 57 (tabObj ps2) led := .tail _ (put_ne mn7 eN)
  repeat tb_rel
  refine mul_small (by omega) (by omega) ?_
  repeat tb_rel
  refine mul_small (by omega) (by omega) ?_
  repeat tb_rel
  refine newL_N F11 N11 (by simp) (fun TR h12 hTR F12 N12 => ?_)
  refine ne_told (PySem.IsL.isList (n := 0) (N12 _ (.tail _ (.head _))).1) (PySem.IsL.isList (n := 0) (N12 _ (.head _)).1) hz1 hz2 (by have := C.units; omega) ?_
  repeat tb_rel
  refine ListComp_N h₀ L (by tb_start) (by decide) (by tb_start) (by decide) (by intro _; tb_start) ?_
  repeat tb_rel
  refine iter_list_N F12 N12 (PySem.IsL.isList (n := 0) (N12 _ (.tail _ (.head _))).1) (fun itr o h13 ho hit F13 N13 hk13 => ?_)
  refine comp_over (walk_list (l := TL) (vs := [Value.float z1 t1, .float z2 t2]) hh) ho F13 N13 hit (list_self ho) (fun i out news' => out = [] ∧ (TL, listOf [Value.float z1 t1, .float z2 t2].toArray 0) ∈ news' ∧ ∀ q ∈ put 57 (tabObj ps2) led, q ∈ news') ⟨rfl, .tail _ (.head _), fun q hq => .tail _ (.tail _ hq)⟩
    (by rintro i out news' h' ⟨_, hm, _⟩ N'; exact PySem.IsL.isList (n := 0) (N' _ hm).1) (by rintro i out _ ⟨rfl, _⟩; exact Nat.zero_le _) (by simp) (by intro _; kernel_rfl!) (by intro _; kernel_rfl!) ?turn ?fin
  case fin =>
    rintro R' C' out kr news' mc h' tk' ⟨rfl, hm, hsub⟩ F' N' c' hq hRC
    refine comp_end' F' N' c' hq hRC (fun h'' F'' N'' => ?_)
    repeat tb_rel
    refine newL_N F'' N'' (by simp) (fun EL h14 hEL F14 N14 => ?_)
    refine ne_same (d := .list []) (k := 1) (Reads.list (N14 _ (.tail _ (.head _))).1 rfl rfl .nil) (Reads.list (N14 _ (.head _)).1 rfl rfl .nil) (.list fun d hd => nomatch hd) (by decide) (by have := C.units; omega) ?_
    repeat tb_rel
    refine ⟨rfl, hd2.trans hd1, ho2.trans ho1, hb2, _, _, ps2, F14, N14, ht2, .tail _ (.tail _ (hsub _ (put_self mt7))), fun q hq hne => .tail _ (.tail _ (hsub _ (put_ne (a := q.1) (x := q.2) (k7 q hq) hne)))⟩
  case turn =>
    rintro R' C' i out news' o oC kr mc h tk v E' ⟨rfl, hm, hsub⟩ hi hv F' N' c' hmx hq
    refine wpAny_tests_one ?_
    have hfl : ∃ z t, v = .float z t := by
      have : i = 0 ∨ i = 1 := by simp at hi; omega
      rcases this with rfl | rfl
      · exact ⟨_, _, (Option.some.inj hv).symm⟩
      · exact ⟨_, _, (Option.some.inj hv).symm⟩
    obtain ⟨z, tz, rfl⟩ := hfl
    repeat tb_rel
    refine IsiPair.float_float ?_
    repeat tb_rel
    exact Turned.intro F' N' hq ⟨rfl, hm, hsub⟩
end
end
section
open PySem PySem.W PyProof.Rows PySem.Calls PySem.Spec
set_option maxRecDepth 100000
theorem mul_bd {a b : Int} {A B : Nat} (h1 : a.natAbs ≤ A) (h2 : b.natAbs ≤ B) : (a * b).natAbs ≤ A * B := by
  rw [Int.natAbs_mul]
  exact Nat.mul_le_mul h1 h2
section
variable {prog : Program} {w : World} {p : Program} {loose : List Str} {mg mb : Str → Option Value} {A : Around} {h₀ : Heap} {L : Addr}
  {name qual : Str} {params : Arguments} {body fbody oe rest mbody moe koe rest2 : List Stmt} {scope : Scope} {dV kV doc pm cdv ct oc cd : Value} {an od : Option Addr} {osl : Array (Option Value)} {fa : Addr} {st1 st2 s1 s2 s3 s4 : Stmt} {tgt it kt kit mt mit : Expr} {fpos mpos kpos : Pos}
set_option maxHeartbeats 8000000 in
theorem inner_N (ho : (hd.heap_39 w.params).lookup 112 = some ⟨oc, od, .func (fnOf name qual params body scope dV kV doc pm an cdv ct), osl⟩) (hb : body = st1 :: st2 :: .For tgt it fbody oe fpos :: rest)
    (hf : fbody = s1 :: s2 :: s3 :: s4 :: .For kt kit [.For mt mit mbody moe mpos] koe kpos :: rest2) (Z : LawAt w p loose mg mb A h₀ L (envOfC qual scope L fa cd)) : InnerSpec prog w A h₀ L (envOfC qual scope L fa cd) mbody := by
  have e := ho
  rw [show (hd.heap_39 w.params).lookup 112 = some _ from rfl] at e
  cases e
  cases hb
  cases hf
  have C := Z.C
  have hh := C.hh
  intro s m news n k j ka kb x y P R zx zy Fa Fb on T tn t1 t2 tt F N mcn hon ek ej eT eA eB mA mB tA tB hP hR hzx hzy k1 kn j1 jn n6 bdx
  have lP : P.length = n := by rw [hP.length_eq, List.length_range]
  have lR : R.length = n := by rw [hR.length_eq, List.length_range]
  have lzx : zx.length = n := by have := congrArg List.length hzx; simp at this; omega
  have lzy : zy.length = n := by have := congrArg List.length hzy; simp at this; omega
  have snd : ∀ {zs : List It} {Pp : List Nat} {f : Nat → Int} {q : Nat}, zs.map (·.2) = Pp.map (fun i => (f i, (i : Int))) → (zs.take q).map (·.2.2) = (Pp.take q).map Int.ofNat := by
    intro zs Pp f q hz
    have e1 : (zs.take q).map (·.2.2) = ((zs.map (·.2)).take q).map (·.2) := by rw [← List.map_take, List.map_map]; rfl
    rw [e1, hz, ← List.map_take, List.map_map]
    rfl
  have ndp : ∀ {Pp : List Nat} {q : Nat}, Pp.Perm (List.range n) → ((Pp.take q).map Int.ofNat).Nodup := by
    intro Pp q hp
    refine List.pairwise_map.mpr ?_
    refine List.Pairwise.imp ?_ ((hp.nodup_iff.mpr List.nodup_range).sublist (List.take_sublist q Pp))
    intro a b hab he
    exact hab (Int.ofNat.inj he)
  refine seq_cut (fun s' => ∃ h' tk news1 Dc cs kc, s' = { s with heap := h', toks := tk } ∧ Fr h₀ L h' (fun z => if z = Str.ofString "come" then some (.ref Dc) else m z) ∧ News h₀ L h' news1 ∧ (∀ q ∈ news, q ∈ news1) ∧ (Dc, intO cs kc) ∈ news1 ∧ (cs.map (·.1)).Perm ((P.take k).map Int.ofNat) ∧ cs.Pairwise (fun p q => p.1 < q.1)) ?s1 ?r1
  case s1 =>
    repeat tb_rel
    refine ListComp_N h₀ L (by tb_start) (by decide) (by tb_start) (by decide) (by intro _; tb_start) ?_
    repeat tb_rel
    refine slice_end (vs := zx.map (·.1)) (ps := (zx.take k).map (·.1)) F N (PySem.IsL.isList (n := ka) (N _ mA).1) (by simp; omega) .none (.int _ _) (by rw [slicePick_upto']; simp) (fun D1 h1 hD1 F1 N1 => ?_)
    refine paircomp (zs := zx.take k) (k := 0) hh F1 N1 (.head _) (fun z hz => (tA z (List.mem_of_mem_take hz)).sub fun q hq => .tail _ hq) (by simp; omega) (by intro _; kernel_rfl!) (by intro _; kernel_rfl!) (by intro _; kernel_rfl!) (by intro _; tb_start) (by decide +kernel) (fun R1 its kr h2 tk2 hits F2 N2 hR1 => ?_)
    repeat tb_rel
    have il : its.length = k := by
      have := congrArg List.length hits
      simp at this
      omega
    refine sortI_N F2 N2 (.head _) (by omega) (fun D2 cs c h3 F3 N3 hD2 hp ho => ?_)
    refine stE F3 N3 (by tb_start) (fun h4 F4 N4 _ => ?_) (by kernel_rfl!) (by kernel_rfl!)
    rw [hits, snd hzx] at hp
    exact ⟨rfl, h4, _, _, D2, cs, c, rfl, F4, N4, fun q hq => .tail _ (.tail _ (.tail _ hq)), .head _, hp, strict_it (strict_of ho (hp.nodup_iff.mpr (ndp hP)))⟩
  case r1 =>
  rintro s' ⟨h1, tk1, news1, Dc, cs, kc, rfl, F1, N1, hs1, mC1, pc, sc⟩
  clear F N
  have lcs : cs.length = k := by have := pc.length_eq; simp at this; omega
  have tB1 : ∀ z ∈ zy, TupAt news1 z := fun z hz => (tB z hz).sub hs1
  have mB1 := hs1 _ mB
  refine seq_cut (fun s' => ∃ h' tk news2 Dg gs kg, s' = { s with heap := h', toks := tk } ∧ Fr h₀ L h' (fun z => if z = Str.ofString "gone" then some (.ref Dg) else if z = Str.ofString "come" then some (.ref Dc) else m z) ∧ News h₀ L h' news2 ∧ (∀ q ∈ news1, q ∈ news2) ∧ (Dg, intO gs kg) ∈ news2 ∧ (gs.map (·.1)).Perm ((R.take j).map Int.ofNat) ∧ gs.Pairwise (fun p q => p.1 < q.1)) ?s2 ?r2
  case s2 =>
    repeat tb_rel
    refine ListComp_N h₀ L (by tb_start) (by decide) (by tb_start) (by decide) (by intro _; tb_start) ?_
    repeat tb_rel
    refine slice_end (vs := zy.map (·.1)) (ps := (zy.take j).map (·.1)) F1 N1 (PySem.IsL.isList (n := kb) (N1 _ mB1).1) (by simp; omega) .none (.int _ _) (by rw [slicePick_upto']; simp) (fun D1 h2 hD1 F2 N2 => ?_)
    refine paircomp (zs := zy.take j) (k := 0) hh F2 N2 (.head _) (fun z hz => (tB1 z (List.mem_of_mem_take hz)).sub fun q hq => .tail _ hq) (by simp; omega) (by intro _; kernel_rfl!) (by intro _; kernel_rfl!) (by intro _; kernel_rfl!) (by intro _; tb_start) (by decide +kernel) (fun R1 its kr h3 tk3 hits F3 N3 hR1 => ?_)
    repeat tb_rel
    have il : its.length = j := by
      have := congrArg List.length hits
      simp at this
      omega
    refine sortI_N F3 N3 (.head _) (by omega) (fun D2 gs c h4 F4 N4 hD2 hp ho => ?_)
    refine stE F4 N4 (by tb_start) (fun h5 F5 N5 _ => ?_) (by kernel_rfl!) (by kernel_rfl!)
    rw [hits, snd hzy] at hp
    exact ⟨rfl, h5, _, _, D2, gs, c, rfl, F5, N5, fun q hq => .tail _ (.tail _ (.tail _ hq)), .head _, hp, strict_it (strict_of ho (hp.nodup_iff.mpr (ndp hR)))⟩
  case r2 =>
  rintro s' ⟨h2, tk2, news2, Dg, gs, kg, rfl, F2, N2, hs2, mG2, pg, sg⟩
  clear F1 N1
  have lgs : gs.length = j := by have := pg.length_eq; simp at this; omega
  have mC2 := hs2 _ mC1
  refine seq_cut (fun s' => ∃ h' tk news3 Kp K1 K2 c1 c2, s' = { s with heap := h', toks := tk } ∧ Fr h₀ L h' (fun z => if z = Str.ofString "kept" then some (.ref Kp) else if z = Str.ofString "gone" then some (.ref Dg) else if z = Str.ofString "come" then some (.ref Dc) else m z) ∧ News h₀ L h' news3 ∧ (∀ q ∈ news2, q ∈ news3) ∧ (Kp, listOf [Value.ref K1, .ref K2].toArray 0) ∈ news3 ∧ (K1, intO cs c1) ∈ news3 ∧ (K2, intO gs c2) ∈ news3) ?s3 ?r3
  case s3 =>
    repeat tb_rel
    refine list_copyK F2 N2 (PySem.IsL.isList (n := kc) (N2 _ mC2).1) (fun K1 c1 h3 F3 N3 hK1 => ?_) (by simp [sizeLine_eq]; omega)
    repeat tb_rel
    refine list_copyK F3 N3 (PySem.IsL.isList (n := kg) (N3 _ (.tail _ mG2)).1) (fun K2 c2 h4 F4 N4 hK2 => ?_) (by simp [sizeLine_eq]; omega)
    repeat tb_rel
    refine newL_N F4 N4 (by simp) (fun Kp h5 hKp F5 N5 => ?_)
    refine stE F5 N5 (by tb_start) (fun h6 F6 N6 _ => ?_) (by kernel_rfl!) (by kernel_rfl!)
    exact ⟨rfl, h6, _, _, Kp, K1, K2, c1, c2, rfl, F6, N6, fun q hq => .tail _ (.tail _ (.tail _ hq)), .head _, .tail _ (.tail _ (.head _)), .tail _ (.head _)⟩
  case r3 =>
  rintro s' ⟨h3, tk3, news3, Kp, K1, K2, c1, c2, rfl, F3, N3, hs3, mKp3, mK13, mK23⟩
  clear F2 N2
  have mC3 := hs3 _ mC2
  have mG3 := hs3 _ mG2
  refine seq_cut (fun s' => ∃ h' tk news4 B Dm Du kt km ku, s' = { s with heap := h', toks := tk } ∧ Fr h₀ L h' (fun z => if z = Str.ofString "both" then some (.ref B) else if z = Str.ofString "kept" then some (.ref Kp) else if z = Str.ofString "gone" then some (.ref Dg) else if z = Str.ofString "come" then some (.ref Dc) else m z) ∧ News h₀ L h' news4 ∧ (∀ q ∈ news3, q ∈ news4) ∧ (B, { cls := .type "tuple", data := .seq #[.ref Dm, .ref Du] kt }) ∈ news4 ∧ (Dm, intO (beyondL cs gs) km) ∈ news4 ∧ (Du, intO (beyondL gs cs) ku) ∈ news4) ?s4 ?r4
  case s4 =>
    repeat tb_rel
    refine sld_calls (xs := cs) (ys := gs) (nx := kc) (ny := kg) mC3 mG3 sc sg (by omega) (by omega) hh Z.fr Z.fl Z.fk (by have := C.room; omega) C.gl (by exact F3) (by exact N3) ?_
    rintro r news4 h4 tk4 F4 N4 ⟨B, Dm, Du, kt, km, ku, rfl, hT, hDm, hDu, hmu, hTm, hTu, rfl⟩
    rw [sldP_beyond cs gs sc sg] at N4
    refine stE F4 N4 (by tb_start) (fun h5 F5 N5 _ => ?_) (by kernel_rfl!) (by kernel_rfl!)
    exact ⟨rfl, h5, _, _, B, Dm, Du, kt, km, ku, rfl, F5, N5, fun q hq => .tail _ (.tail _ (.tail _ hq)), .head _, .tail _ (.head _), .tail _ (.tail _ (.head _))⟩
  case r4 =>
  rintro s' ⟨h4, tk4, news4, B, Dm, Du, kt, km, ku, rfl, F4, N4, hs4, mBo4, mDm4, mDu4⟩
  clear F3 N3
  have mC4 := hs4 _ mC3
  have mG4 := hs4 _ mG3
  refine seq_cut (fun s' => ∃ h' tk news5, s' = { s with heap := h', toks := tk } ∧ Fr h₀ L h' (fun z => if z = Str.ofString "both" then some (.ref B) else if z = Str.ofString "kept" then some (.ref Kp) else if z = Str.ofString "gone" then some (.ref Dg) else if z = Str.ofString "come" then some (.ref Dc) else m z) ∧ News h₀ L h' news5 ∧ ∀ q ∈ news4, q ∈ news5) ?s5 ?r5
  case s5 =>
    repeat tb_rel
    refine Calls.use (beyond_calls (xs := cs) (ys := gs) (nx := kc) (ny := kg) mC4 mG4 (by omega)) C (by exact F4) (by exact N4) (by omega) (by omega) ?_
    rintro v news5 h5 tk5 F5 N5 ⟨D5, k5, rfl, hD5, rfl⟩
    have mC5 : (Dc, intO cs kc) ∈ (D5, intO (beyondL cs gs) k5) :: news4 := .tail _ mC4
    have mG5 : (Dg, intO gs kg) ∈ (D5, intO (beyondL cs gs) k5) :: news4 := .tail _ mG4
    repeat tb_rel
    refine Calls.use (beyond_calls (xs := gs) (ys := cs) (nx := kg) (ny := kc) mG5 mC5 (by omega)) C (by exact F5) (by exact N5) (by omega) (by omega) ?_
    rintro v news6 h6 tk6 F6 N6 ⟨D6, k6, rfl, hD6, rfl⟩
    repeat tb_rel
    refine newT_N F6 N6 (by simp) (fun T7 h7 hT7 F7 N7 => ?_)
    have sh1 := shp_ints (beyondL cs gs)
    have sh2 := shp_ints (beyondL gs cs)
    refine ne_same (k := 2) (Reads.tuple (N7 _ (.tail _ (.tail _ (.tail _ mBo4)))).1 rfl rfl (.cons (reads_intO (N7 _ (.tail _ (.tail _ (.tail _ mDm4)))).1) (.cons (reads_intO (N7 _ (.tail _ (.tail _ (.tail _ mDu4)))).1) .nil))) (Reads.tuple (N7 _ (.head _)).1 rfl rfl (.cons (reads_intO (N7 _ (.tail _ (.tail _ (.head _)))).1) (.cons (reads_intO (N7 _ (.tail _ (.head _))).1) .nil))) (.tuple fun d hd => ?_) (by decide) (by have := C.units; omega) ?_
    · rcases List.mem_cons.mp hd with rfl | hd
      · exact sh1
      · rw [List.mem_singleton.mp hd]; exact sh2
    repeat tb_rel
    refine newL_N F7 N7 (by simp) (fun S8 h8 hS8 F8 N8 => ?_)
    repeat tb_rel
    have s8 : ∀ q ∈ news4, q ∈ (S8, listOf [Value.ref Dc, .ref Dg].toArray 0) :: (T7, { cls := .type "tuple", data := .seq [Value.ref D5, .ref D6].toArray }) :: (D6, intO (beyondL gs cs) k6) :: (D5, intO (beyondL cs gs) k5) :: news4 := fun q hq => .tail _ (.tail _ (.tail _ (.tail _ hq)))
    have sh3 := shp_ints cs
    have sh4 := shp_ints gs
    refine ne_same (k := 2) (Reads.list (N8 _ (.head _)).1 rfl rfl (.cons (reads_intO (N8 _ (s8 _ mC4)).1) (.cons (reads_intO (N8 _ (s8 _ mG4)).1) .nil))) (Reads.list (N8 _ (s8 _ (hs4 _ mKp3))).1 rfl rfl (.cons (reads_intO (N8 _ (s8 _ (hs4 _ mK13))).1) (.cons (reads_intO (N8 _ (s8 _ (hs4 _ mK23))).1) .nil))) (.list fun d hd => ?_) (by decide) (by have := C.units; omega) ?_
    · rcases List.mem_cons.mp hd with rfl | hd
      · exact sh3
      · rw [List.mem_singleton.mp hd]; exact sh4
    repeat tb_rel
    exact ⟨rfl, h8, _, _, rfl, F8, N8, s8⟩
  case r5 =>
  rintro s' ⟨h5, tk5, news5, rfl, F5, N5, hs5⟩
  clear F4 N4
  have s5 : ∀ q ∈ news, q ∈ news5 := fun q hq => hs5 _ (hs4 _ (hs3 _ (hs2 _ (hs1 _ hq))))
  have mcn5 : (L + 1, on) ∈ news5 := s5 _ mcn
  have hcut := cut_eq hP hR (Nat.le_of_lt kn) pc pg
  have hbl : (beyondL cs gs).length ≤ k := by
    have : (beyondL cs gs).length ≤ cs.length := List.length_filter_le _ _
    omega
  have bS : ((k : Int) - ((beyondL cs gs).length : Int)).natAbs ≤ 6 := by omega
  have bnS := mul_bd (a := (n : Int)) (A := 6) (by omega) bS
  have bkj := mul_bd (a := (k : Int)) (b := (j : Int)) (A := 6) (B := 6) (by omega) (by omega)
  refine seq_cut (fun s' => ∃ h' tk ts, s' = { s with heap := h', toks := tk } ∧ Fr h₀ L h' (fun z => if z = Str.ofString "share" then some (.int ((n : Int) * ((k : Int) - ((beyondL cs gs).length : Int)) - (k : Int) * (j : Int)) ts) else if z = Str.ofString "both" then some (.ref B) else if z = Str.ofString "kept" then some (.ref Kp) else if z = Str.ofString "gone" then some (.ref Dg) else if z = Str.ofString "come" then some (.ref Dc) else m z) ∧ News h₀ L h' news5) ?s6 ?r6
  case s6 =>
    repeat tb_rel
    refine item_tupleL (l := [.ref Dm, .ref Du]) (j := 0) ⟨_, (N5 _ (hs5 _ mBo4)).1, rfl, _, rfl⟩ (by decide) (by decide) rfl rfl ?_
    repeat tb_rel
    refine len_list (PySem.IsL.isList (n := km) (N5 _ (hs5 _ mDm4)).1) (by simp; omega) ?_
    repeat tb_rel
    refine mul_small (by omega) (by omega) ?_
    repeat tb_rel
    refine mul_small (by omega) (by omega) ?_
    repeat tb_rel
    refine stE F5 N5 (by tb_start) (fun h6 F6 N6 _ => ?_) (by kernel_rfl!) (by kernel_rfl!)
    have e : ((((beyondL cs gs).map valI).toArray.size : Nat) : Int) = ((beyondL cs gs).length : Int) := by simp
    rw [e] at F6
    exact ⟨rfl, h6, _, _, rfl, F6, N6⟩
  case r6 =>
  rintro s' ⟨h6, tk6, ts, rfl, F6, N6⟩
  clear F5 N5
  rw [hcut] at F6 bnS
  have tupX : ∀ {zs : List It} {Pp : List Nat} {f : Nat → Int} {q : Nat}, zs.map (·.2) = Pp.map (fun i => (f i, (i : Int))) → (∀ z ∈ zs, TupAt news z) → q < zs.length → ∃ t ta tb c, (zs.map (·.1))[q]? = some (.ref t) ∧ (t, tupO (f (Pp.getD q 0)) ((Pp.getD q 0 : Nat) : Int) ta tb c) ∈ news5 := by
    intro zs Pp f q hz ht hq
    obtain ⟨t, ta, tb, c, ez, mz⟩ := ht _ (List.getElem_mem hq)
    have hl : q < Pp.length := by
      have := congrArg List.length hz
      simp at this
      omega
    have e2 : zs[q].2 = (f (Pp.getD q 0), ((Pp.getD q 0 : Nat) : Int)) := by
      have e : (zs.map (·.2))[q]? = (Pp.map (fun i => (f i, (i : Int))))[q]? := by rw [hz]
      simp [hq, hl] at e
      simp [hl, e]
    rw [e2] at mz
    exact ⟨t, ta, tb, c, by simp [hq, ez], s5 _ mz⟩
  obtain ⟨x1, xa1, xb1, xc1, ex1, mx1⟩ := tupX hzx tA (q := k) (by omega)
  obtain ⟨x0, xa0, xb0, xc0, ex0, mx0⟩ := tupX hzx tA (q := k - 1) (by omega)
  obtain ⟨y1, ya1, yb1, yc1, ey1, my1⟩ := tupX hzy tB (q := j) (by omega)
  obtain ⟨y0, ya0, yb0, yc0, ey0, my0⟩ := tupX hzy tB (q := j - 1) (by omega)
  have bx1 := bdx (P.getD k 0)
  have bx0 := bdx (P.getD (k - 1) 0)
  have ek1 : (k : Int) - 1 = ((k - 1 : Nat) : Int) := by omega
  have ej1 : (j : Int) - 1 = ((j - 1 : Nat) : Int) := by omega
  have bdd := mul_bd (a := (n : Int) * sumN k (fun r => if R.idxOf (P.getD r 0) < j then 1 else 0) - (k : Int) * (j : Int)) (b := x (P.getD k 0) - x (P.getD (k - 1) 0)) (A := 72) (B := 2 ^ 20) (by omega) (by omega)
  repeat tb_rel
  refine item_at (vs := zx.map (·.1)) (k := k) (PySem.IsL.isList (n := ka) (N6 _ (s5 _ mA)).1) (by omega) ex1 ?_
  repeat tb_rel
  refine item_tupleT (l := [.int _ xa1, .int _ xb1]) (j := 0) ⟨_, (N6 _ mx1).1, rfl, _, rfl⟩ (by decide) (by decide) rfl rfl ?_
  repeat tb_rel
  rw [ek1]
  refine item_at (vs := zx.map (·.1)) (k := k - 1) (PySem.IsL.isList (n := ka) (N6 _ (s5 _ mA)).1) (by omega) ex0 ?_
  repeat tb_rel
  refine item_tupleT (l := [.int _ xa0, .int _ xb0]) (j := 0) ⟨_, (N6 _ mx0).1, rfl, _, rfl⟩ (by decide) (by decide) rfl rfl ?_
  repeat tb_rel
  refine mul_small (by omega) (by omega) ?_
  repeat tb_rel
  refine item_at (vs := zy.map (·.1)) (k := j) (PySem.IsL.isList (n := kb) (N6 _ (s5 _ mB)).1) (by omega) ey1 ?_
  repeat tb_rel
  refine item_tupleT (l := [.int _ ya1, .int _ yb1]) (j := 0) ⟨_, (N6 _ my1).1, rfl, _, rfl⟩ (by decide) (by decide) rfl rfl ?_
  repeat tb_rel
  rw [ej1]
  refine item_at (vs := zy.map (·.1)) (k := j - 1) (PySem.IsL.isList (n := kb) (N6 _ (s5 _ mB)).1) (by omega) ey0 ?_
  repeat tb_rel
  refine item_tupleT (l := [.int _ ya0, .int _ yb0]) (j := 0) ⟨_, (N6 _ my0).1, rfl, _, rfl⟩ (by decide) (by decide) rfl rfl ?_
  repeat tb_rel
  refine mul_small (by omega) (by omega) ?_
  repeat tb_rel
  refine stE F6 N6 (by tb_start) (fun h7 F7 N7 _ => ?_) (by kernel_rfl!) (by kernel_rfl!)
  repeat tb_rel
  exact ⟨rfl, h7, _, _, news5, _, rfl, F7, N7, s5, by tlg_ne, by tlg_ne, by tlg_ne, if_pos rfl⟩
end
end
end Mine
end
open PySem PySem.W PyProof.Rows PySem.Calls PySem.Spec
set_option maxRecDepth 100000
namespace Mine
theorem tab_of' {h : Heap} {K : Frag} {p : Program} {loose : List Str} {mean : ExcName → Option Value} {mg mb : Str → Option Value} {x : Str} {c P : Addr} (T : Top p loose mean mg mb h) (X : K.In h) (hr : ((recsOf p).find? (fun e => e.name == x)).isSome = true) (ht : tabIn K x = some (c, P)) : CodeHd h c P ∧ h.get? P = some (tabObj #[]) := by
  obtain ⟨d, hd⟩ := Option.isSome_iff_exists.mp hr
  exact tab_of T X hd ht
section
variable {prog : Program} {w : World} {p : Program} {loose : List Str} {mg mb : Str → Option Value} {A : Around} {s : Shared} {h₀ : Heap} {L l0 : Addr} {m : Str → Option Value} {vs : List Value} {ns : List Int} {on oa ou : Obj}
  {name qual : Str} {params : Arguments} {body : List Stmt} {scope : Scope} {dV kV doc pm cdv ct oc cd : Value} {an od : Option Addr} {osl : Array (Option Value)} {fa : Addr}
theorem law_all (ho : (hd.heap_39 w.params).lookup 112 = some ⟨oc, od, .func (fnOf name qual params body scope dV kV doc pm an cdv ct), osl⟩)
    (Z : LawAt w p loose mg mb A h₀ L (envOfC qual scope L fa cd)) (F : Fr h₀ L s.heap m) (hm : m (Str.ofString "script") = some (.ref l0)) (N : News h₀ L s.heap [(L + 1 + 1 + 1, ou), (L + 1 + 1, oa), (L + 1, on), (57, tabObj #[])])
    (hou : ou.data = .cell none) (hoa : oa.data = .cell none) (hon : on.data = .cell none) (hl0 : h₀.IsList l0 vs.toArray) (hI : IntsAre vs ns) (hlen : ns.length ≤ 63) (hg : AllBare s.gens) :
    wpAny (model prog w) A (execs body (envOfC qual scope L fa cd)) (fun fl s' => fl = .ret (.bool true) ∧ s'.drawn = s.drawn ∧ s'.os = s.os ∧ AllBare s'.gens ∧ ∃ m' news' ps, Fr h₀ L s'.heap m' ∧ News h₀ L s'.heap news' ∧ (57, tabObj ps) ∈ news') (fun _ _ => False) s :=
  law_N ho Z F hm N hou hoa hon hl0 hI hlen hg fun _ _ _ _ _ _ _ _ hb => turn_N ho hb Z fun _ _ _ _ _ _ _ _ _ _ _ _ _ _ hf => inner_N ho hb hf Z
end
/-- the law's end -/
theorem fin_good {c : ClaimW} {cl : Str → Option Addr} {mean : ExcName → Option Value} {args : List WData} {s₁ s' : Shared} {L : Addr} {m : Str → Option Value} {news : News'} {ps : Array Value} (hT : TabsAt [(61, 57)] s₁.heap) (F : Fr (ghostOf s₁.heap [(61, 57)]) L s'.heap m) (N : News (ghostOf s₁.heap [(61, 57)]) L s'.heap news) (hm : (57, tabObj ps) ∈ news)
    (hn : ∀ cls, c.raises args cls = false) (hp : c.post args (.bool true) args = true) (hos : s'.os = s₁.os) (hg : AllBare s'.gens) : GoodWG c cl mean args s₁ (.ok (.ret (.bool true))) s' := by
  have keep : ∀ b o, b ≠ 57 → s₁.heap.get? b = some o → s'.heap.get? b = some o := fun b o hb e => F.keep b o (ghost_ne e (by simpa using hb))
  have hP : s'.heap.get? 57 = some (tabObj ps) := (N _ hm).1
  have h57 := hT _ (.head _)
  have ht : isCodeTable s₁.heap 57 := (h57.1.tab h57.2).isCodeTable
  refine ⟨.inl ⟨.bool true, .bool true, [], rfl, hn, .bool true, hp, fun _ => ⟨List.nodup_nil, fun _ h => nomatch h⟩⟩, ⟨fun b o e => ?_, fun b o e => ?_⟩, hos, hg⟩
  · by_cases hb : b = 57
    · subst hb
      have e2 : o = tabObj #[] := Option.some.inj (e.symm.trans h57.2)
      subst e2
      exact .inr (.inl ⟨ht, rfl, #[], ps, rfl, by rw [Array.empty_append]; exact hP⟩)
    · exact .inl (keep b o hb e)
  · by_cases hb : b = 57
    · subst hb
      exact ⟨_, hP⟩
    · exact ⟨o, keep b o hb e⟩
end Mine
set_option maxHeartbeats 8000000 in
theorem PySem.Challenge.cw_of0019_01_holds : PySem.Challenge.rw_of0019_01.Holds := by
  exact Mine.hd (by
  w_strict (
    k_fill
    intro w s₀ s₁ mg mb G Y fa o pm cd doc dV kV ho hd hcd hD hmg hg args vals as hpre hlay hrd hwl hlo
    have KX := kIn_of Y
    refine Ground.open G ?_
    intro T B D TE TW
    try (refine guard_noD D (by decide +kernel) ?_; clear D)
    have hT : TabsAt [(61, 57)] s₁.heap := List.forall_mem_cons.mpr ⟨Mine.tab_of' (x := Str.ofString "covariance") T KX (by kernel_rfl) (by kernel_rfl), fun _ h => nomatch h⟩
    clear hmg
    wrow_args hpre hlay hrd hwl hlo
    refine enter_call ?_
    w_top on
    w_call any ho hd hcd hD T F
    clear hd
    k_drop
    rename_i h1 tk1 ou oa on hou hoa hon N0 X0
    rename IntsAre _ _ => hI
    rename Heap.IsList _ _ _ => hL
    have T' := ghost_top hT T
    refine' wpAny_mono (Mine.law_all (h₀ := ghostOf s₁.heap [(61, 57)]) (L := s₁.heap.objs.size) ?ho ?Z (ghost_fr hT F) ?hm (ghost_news hT F N0) hou hoa hon (ghost_list hT hL) hI (by omega) (.of_eq hg)) ?_ (fun _ _ x => x.elim)
    case ho => exact rfl
    case hm => exact rfl
    case Z => exact ⟨⟨rfl, ⟨_, [], callerA, _, rfl, rfl, rfl, ghost_below hT⟩, (show callerA.depth + 1 + 20 < recursionLimit by decide +kernel), (show callerA.units + 3 + 100 < cLine by decide +kernel), ghost_K hT KX (by kernel_rfl), topRead_of T'⟩, rfl, rfl, rfl, bmod_of_top T', (ghost_code hT).1⟩
    rintro fl s' ⟨rfl, e1, e2, e3, m', news', ps, F', N', hm'⟩
    exact Mine.fin_good hT F' N' hm' (by intro _; rfl) (postW_of (by wrow_shape) (by wtm_val) (by first | done | rfl | (str_meet; first | done | w_fin))) e2 e3))
