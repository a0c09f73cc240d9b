import PyProof.Rows.All
import Wide.All
import OpenK.AllK
import Wide.FinOn
import PySem.Challenge.RW_au0025_01
open PySem PySem.W PyProof.Rows PySem.Calls
set_option Elab.async false
namespace Mine
set_option maxRecDepth 100000 in
set_option maxHeartbeats 8000000 in
open_top hd for PySem.Challenge.rw_au0025_01
section Tk
theorem offTk : True := by w_top off; trivial
theorem fm_lo {a m : Int} (h : 1 ≤ m) : 0 ≤ a.fmod m := Int.fmod_nonneg_of_pos a (by omega)
theorem fm_hi {a m : Int} (h : 1 ≤ m) : a.fmod m < m := Int.fmod_lt_of_pos a (by omega)
theorem fd_lo {a m : Int} (h0 : 0 ≤ a) (h : 1 ≤ m) : 0 ≤ a.fdiv m := by
  rw [Int.fdiv_eq_ediv_of_nonneg _ (by omega)]; exact Int.ediv_nonneg h0 (by omega)
theorem fd_hi {a m : Int} (h0 : 0 ≤ a) (h : 1 ≤ m) : a.fdiv m ≤ a := by
  rw [Int.fdiv_eq_ediv_of_nonneg _ (by omega)]; exact Int.ediv_le_self _ h0

/-- what the draws leave in the state: its list, its two ints -/
structure StOk (ns : List Int) (a b : Int) : Prop where
  all : ∀ x ∈ ns, 0 ≤ x ∧ x < 1000000007
  len : ns.length ≤ 63
  a0 : 0 ≤ a
  a1 : a < 2147483648
  b0 : 0 ≤ b
  b1 : b < 2147483648

theorem seq0 (n : Nat) : seqIndex? 0 (n + 1) = some 0 := by
  simp [seqIndex?]
  try omega
theorem pop0 {prog : Program} {w : World} {A : Around} {E : Value → Shared → Prop} {s : Shared} {h₀ : Heap} {L D : Addr} {m : Str → Option Value} {news news' : List (Addr × Obj)} {n : Nat} {y : Value} {q : List Value} {u : Tok} {Q : Value → Shared → Prop}
    (F : Fr h₀ L s.heap m) (N : News h₀ L s.heap news) (U : Upd D (listOf (y :: q).toArray n) (listOf q.toArray (n + 1)) news news') (hz : q.length ≤ 1000)
    (h : ∀ h', Fr h₀ L h' m → News h₀ L h' news' → Q y { s with heap := h' }) : wpAny (model prog w) A (call (.builtin "list.pop") [.ref D, .int 0 u]) Q E s :=
  kl_popAt (k := 0) (p := []) (its := (y :: q).toArray) F N (by decide) (seq0 q.length) rfl U (by rw [sizeLine_eq]; show q.length + 1 ≤ _; omega) h
local macro_rules | `(tactic| walk_at "call builtin:list.pop") => `(tactic| (k_here; (with_reducible show wpAny _ _ (call (Value.builtin _) [Value.ref _, Value.int 0 _]) _ _ _); k_dflt (refine' pop0 ?F ?N ?U ?z ?_; (case F => k_asm); (case N => k_asm); (case U => k_upd); (case z => (have hL9 := IntsAre.length (by assumption); omega))); (intro h' F' N')))

def TakeQ (h₀ : Heap) (L : Addr) (m : Str → Option Value) (st l : Addr) (many : Int) (own : List (Addr × Obj)) (s : Shared) (Q : Value → Shared → Prop) : Prop :=
  ∀ (v : Int) (t : Tok) (a b : Int) (ta tb : Tok) (n nl : Nat) (vs : List Value) (ns : List Int) h tk, 0 ≤ v → v < many → StOk ns a b → IntsAre vs ns →
    Fr h₀ L h m → News h₀ L h ((st, listOf #[.ref l, .int a ta, .int b tb] n) :: (l, listOf vs.toArray nl) :: own) → Q (.int v t) { s with heap := h, toks := tk }

theorem TakeQ.use {h₀ : Heap} {L : Addr} {m : Str → Option Value} {st l : Addr} {many : Int} {own : List (Addr × Obj)} {s : Shared} {Q : Value → Shared → Prop} (ret : TakeQ h₀ L m st l many own s Q)
    {v : Int} {t : Tok} {a b : Int} {ta tb : Tok} {n nl : Nat} {vs : List Value} {ns : List Int} {h : Heap} {tk : Nat} (N : News h₀ L h ((st, listOf #[.ref l, .int a ta, .int b tb] n) :: (l, listOf vs.toArray nl) :: own)) (F : Fr h₀ L h m) (hi : IntsAre vs ns)
    (v0 : 0 ≤ v) (v1 : v < many) (ok : StOk ns a b) : Q (.int v t) { s with heap := h, toks := tk } := ret v t a b ta tb n nl vs ns h tk v0 v1 ok hi F N

set_option maxRecDepth 100000 in
set_option maxHeartbeats 4000000 in
theorem take_ok {w : World} {dp un : Nat} {gd : Option (List Code)} {cn : Str} {cs : Scope} {a' : Addr} {ccd : Value} {cl : List (Str × Addr)} {outer : List Env} {A₀ : Around} {base h₀ : Heap} {L : Addr} {m : Str → Option Value} {s : Shared}
    {p : Program} {loose : List Str} {mean : ExcName → Option Value} {mg mb : Str → Option Value} {Q E : Value → Shared → Prop}
    {st l : Addr} {a b many : Int} {ta tb tm : Tok} {n nl : Nat} {vs : List Value} {ns : List Int} {own : List (Addr × Obj)}
    (B : Below A₀ base outer h₀) (F : Fr h₀ L s.heap m) (X : (hd.heap_39 w.params).In h₀) (N : News h₀ L s.heap ((st, listOf #[.ref l, .int a ta, .int b tb] n) :: (l, listOf vs.toArray nl) :: own)) (T : Top p loose mean mg mb h₀)
    (hk : cs.kind = .function) (hd : dp < 900) (hu : un < 60) (hne : @Ne Nat st l) (off : OwnOff own [st, l])
    (hi : IntsAre vs ns) (ok : StOk ns a b) (hm1 : 1 ≤ many) (hm2 : many ≤ 100000)
    (ret : TakeQ h₀ L m st l many own s Q) :
    wpAny (model PySem.Challenge.rw_au0025_01.row.prog w) (ktrTop dp un gd cn cs L a' ccd cl outer) (call (.ref 68) [.ref st, .int many tm]) Q E s := by
  revert X; k_fill; intro X
  obtain ⟨hns, hlen, ha0, ha1, hb0, hb1⟩ := ok
  cases hi
  case nil =>
    refine wpAny_call ?_
    k_dflt ktr_enter
    k_steps
    · exact ret.use (by assumption) (by assumption) .nil (fm_lo hm1) (fm_hi hm1) (by exact ⟨hns, hlen, fd_lo (fm_lo (by decide)) hm1, Int.lt_of_le_of_lt (fd_hi (fm_lo (by decide)) hm1) (Int.lt_trans (fm_hi (by decide)) (by decide)), fm_lo (by decide), Int.lt_trans (fm_hi (by decide)) (by decide)⟩)
    · exact ret.use (by assumption) (by assumption) .nil (fm_lo hm1) (fm_hi hm1) (by exact ⟨hns, hlen, fd_lo ha0 hm1, Int.lt_of_le_of_lt (fd_hi ha0 hm1) ha1, hb0, hb1⟩)
  case cons n0 t0 vs' ns' hi' =>
    have hn0 := hns n0 (.head _)
    have hns' : ∀ x ∈ ns', 0 ≤ x ∧ x < 1000000007 := fun x hx => hns x (.tail _ hx)
    have hlen' : ns'.length ≤ 63 := by rw [List.length_cons] at hlen; omega
    refine wpAny_call ?_
    k_dflt ktr_enter
    k_steps
    · exact ret.use (by assumption) (by assumption) hi' (fm_lo hm1) (fm_hi hm1) (by exact ⟨hns', hlen', fd_lo hn0.1 hm1, Int.lt_of_le_of_lt (fd_hi hn0.1 hm1) (Int.lt_trans hn0.2 (by decide)), hb0, hb1⟩)
    · exact ret.use (by assumption) (by assumption) (.cons _ _ hi') (fm_lo hm1) (fm_hi hm1) (by exact ⟨hns, hlen, fd_lo ha0 hm1, Int.lt_of_le_of_lt (fd_hi ha0 hm1) ha1, hb0, hb1⟩)
end Tk
section Zp
theorem offZp : True := by w_top off; trivial
/-- what zip draws from: a list or a tuple -/
inductive SK where
  | lst
  | tup
def SK.It : SK → Heap → Addr → Addr → Nat → Prop
  | .lst, h, i, l, k => h.IsListIter i l k
  | .tup, h, i, l, k => h.IsTupleIter i l k
def SK.Sq : SK → Heap → Addr → Array Value → Prop
  | .lst, h, l, xs => h.IsList l xs
  | .tup, h, l, xs => h.IsTuple l xs
def SK.iterObj : SK → Addr → Obj
  | .lst, l => { cls := .type "list_iterator", data := .fields #[.ref l, .int 0 0] }
  | .tup, l => { cls := .type "tuple_iterator", data := .fields #[.ref l, .int 0 0] }
theorem SK.it_keep {κ : SK} {h h' : Heap} {i l : Addr} {k : Nat} (x : κ.It h i l k) (e : ∀ o, h.get? i = some o → h'.get? i = some o) : κ.It h' i l k := by
  cases κ
  · obtain ⟨o, ho, r⟩ := x; exact ⟨o, e o ho, r⟩
  · obtain ⟨o, ho, r⟩ := x; exact ⟨o, e o ho, r⟩
theorem SK.sq_keep {κ : SK} {h h' : Heap} {l : Addr} {xs : Array Value} (x : κ.Sq h l xs) (e : ∀ o, h.get? l = some o → h'.get? l = some o) : κ.Sq h' l xs := by
  cases κ
  · obtain ⟨o, ho, r⟩ := x; exact ⟨o, e o ho, r⟩
  · obtain ⟨o, ho, r⟩ := x; exact ⟨o, e o ho, r⟩
theorem SK.it_get {κ : SK} {h : Heap} {i l : Addr} {k : Nat} (x : κ.It h i l k) : ∃ o, h.get? i = some o := by
  cases κ
  · obtain ⟨o, ho, _⟩ := x; exact ⟨o, ho⟩
  · obtain ⟨o, ho, _⟩ := x; exact ⟨o, ho⟩
theorem SK.sq_get {κ : SK} {h : Heap} {l : Addr} {xs : Array Value} (x : κ.Sq h l xs) : ∃ o, h.get? l = some o := by
  cases κ
  · obtain ⟨o, ho, _⟩ := x; exact ⟨o, ho⟩
  · obtain ⟨o, ho, _⟩ := x; exact ⟨o, ho⟩
theorem SK.it_new (κ : SK) (h : Heap) (l : Addr) : κ.It (h.push (κ.iterObj l)) h.objs.size l 0 := by
  cases κ
  · exact ⟨_, Heap.get?_push_size _ rfl, rfl, rfl⟩
  · exact ⟨_, Heap.get?_push_size _ rfl, rfl, rfl⟩

section
variable {prog : Program} {w : World} {A : Around} {E : Value → Shared → Prop} {s : Shared}

theorem SK.iter (κ : SK) {l : Addr} {xs : Array Value} {Q : Value → Shared → Prop} (hl : κ.Sq s.heap l xs)
    (hQ : Q (.ref s.heap.objs.size) { s with heap := s.heap.push (κ.iterObj l) }) : wpAny (model prog w) A (pyIter (.ref l)) Q E s := by
  cases κ
  · exact wpAny_pyIter_list hl hQ
  · exact wpAny_pyIter_tuple hl hQ

theorem nextOf_tuple {it t : Addr} {i : Nat} {items : Array Value} {x : Value} {Q : Value → Shared → Prop} (hit : s.heap.IsTupleIter it t i) (ht : s.heap.IsTuple t items) (hx : items[i]? = some x)
    (hQ : ∀ h', h'.IsTupleIter it t (i + 1) → Heap.SameBut it s.heap h' → Q x { s with heap := h' }) : wpAny (model prog w) A (Builtin.SmallTypes.nextOf (.ref it)) Q E s := by
  obtain ⟨oi, hi, ci, di⟩ := id hit
  obtain ⟨ot, h1, _, c, dt⟩ := ht
  unfold Builtin.SmallTypes.nextOf
  refine wpAny_bind (wpAny_callSpecial?_slot (name := Str.ofString "__next__") hit.typeIs F.slot_tuple_iterator_next (wpAny_call_entry F.slot_tuple_iterator_next hit.typeIs F.entry_tuple_iterator_next ?_ (F.args_tuple_iterator_next_1 _)))
  show wpAny _ _ (field (.ref it) 0 >>= _) _ _ s
  refine wpAny_bind (wpAny_field hi di (x := .ref t) rfl ?_)
  show wpAny _ _ (if (Value.ref t == Value.none) = true then _ else _) _ _ s
  rw [if_neg (show ¬ ((Value.ref t == Value.none) = true) from Bool.false_ne_true)]
  show wpAny _ _ (field (.ref it) 1 >>= _) _ _ s
  refine wpAny_bind (wpAny_field hi di (x := .int i 0) rfl ?_)
  show wpAny _ _ (seqItems? (.ref t) >>= _) _ _ s
  refine wpAny_bind (wpAny_seqItems h1 dt ?_)
  simp only [Int.toNat_natCast, hx]
  refine wpAny_bind (wpAny_setField hi di (by simp) (wpAny_pure ⟨x, rfl, wpAny_pure (hQ _ ?_ (Heap.SameBut.update ..))⟩))
  refine ⟨_, Heap.get?_update_self _ hi (Obj.isFreed_of_fields (Obj.data_mapFields di _)), (Obj.cls_mapFields ..).trans ci, ?_⟩
  rw [Obj.data_mapFields di]
  simp [rawInt]

theorem nextOf_tuple_end {it t : Addr} {i : Nat} {items : Array Value} {Q : Value → Shared → Prop} (hh : A.handled = none) (hit : s.heap.IsTupleIter it t i) (ht : s.heap.IsTuple t items) (hx : items[i]? = none)
    (hE : ∀ h' e, Heap.ExtBut it s.heap h' → (∃ o, h'.get? e = some o ∧ o.cls = .type "StopIteration") → E (.ref e) { s with heap := h' }) : wpAny (model prog w) A (Builtin.SmallTypes.nextOf (.ref it)) Q E s := by
  obtain ⟨oi, hi, ci, di⟩ := id hit
  obtain ⟨ot, h1, _, c, dt⟩ := ht
  unfold Builtin.SmallTypes.nextOf
  refine wpAny_bind (wpAny_callSpecial?_slot (name := Str.ofString "__next__") hit.typeIs F.slot_tuple_iterator_next (wpAny_call_entry F.slot_tuple_iterator_next hit.typeIs F.entry_tuple_iterator_next ?_ (F.args_tuple_iterator_next_1 _)))
  show wpAny _ _ (field (.ref it) 0 >>= _) _ _ s
  refine wpAny_bind (wpAny_field hi di (x := .ref t) rfl ?_)
  show wpAny _ _ (if (Value.ref t == Value.none) = true then _ else _) _ _ s
  rw [if_neg (show ¬ ((Value.ref t == Value.none) = true) from Bool.false_ne_true)]
  show wpAny _ _ (field (.ref it) 1 >>= _) _ _ s
  refine wpAny_bind (wpAny_field hi di (x := .int i 0) rfl ?_)
  show wpAny _ _ (seqItems? (.ref t) >>= _) _ _ s
  refine wpAny_bind (wpAny_seqItems h1 dt ?_)
  simp only [Int.toNat_natCast, hx]
  refine wpAny_bind (wpAny_rule (wpAny_bind (wpAny_setField hi di (by simp) ?_)))
  show wpAny _ _ (newExc (.type "StopIteration") [] >>= _) _ _ _
  refine wpAny_bind ?_
  simp only [newExc, newTuple]
  refine wpAny_bind (wpAny_newObj_type ?_ (by size_fits))
  refine wpAny_bind (m := firstArgMember _ _) (wpAny_of_eq (a := Value.none) (by first | rfl | (simp only [firstArgMember]; rfl)) ?_)
  refine wpAny_newObj_type ?_ (by size_fits)
  simp only [raiseNew]
  refine wpAny_bind (wpAny_handled ?_)
  first | rw [show A.in1.handled = none from hh] | rw [hh]
  refine wpAny_bind (wpAny_pure (wpAny_throw ?_))
  exact hE _ _ (((Heap.SameBut.update ..).extBut.push _).push _) ⟨_, Heap.get?_push_size _ rfl, rfl⟩

theorem SK.next (κ : SK) {it l : Addr} {i : Nat} {xs : Array Value} {x : Value} {Q : Value → Shared → Prop} (hit : κ.It s.heap it l i) (hl : κ.Sq s.heap l xs) (hx : xs[i]? = some x)
    (hQ : ∀ h', κ.It h' it l (i + 1) → Heap.SameBut it s.heap h' → Q x { s with heap := h' }) : wpAny (model prog w) A (Builtin.SmallTypes.nextOf (.ref it)) Q E s := by
  cases κ
  · exact wpAny_nextOf_list_item hit hl hx hQ
  · exact nextOf_tuple hit hl hx hQ
theorem SK.ended (κ : SK) {it l : Addr} {i : Nat} {xs : Array Value} {Q : Value → Shared → Prop} (hh : A.handled = none) (hit : κ.It s.heap it l i) (hl : κ.Sq s.heap l xs) (hx : xs[i]? = none)
    (hE : ∀ h' e, Heap.ExtBut it s.heap h' → (∃ o, h'.get? e = some o ∧ o.cls = .type "StopIteration") → E (.ref e) { s with heap := h' }) : wpAny (model prog w) A (Builtin.SmallTypes.nextOf (.ref it)) Q E s := by
  cases κ
  · exact wpAny_nextOf_list_end hh hit hl hx hE
  · exact nextOf_tuple_end hh hit hl hx hE
end

/-- zip's state between two draws -/
structure ZipSt (κ₁ κ₂ : SK) (z TI TO i1 i2 l1 l2 : Addr) (xs ys : Array Value) (k : Nat) (f0 : Value) (h : Heap) : Prop where
  z : IsZip h z TI TO f0
  ti : IsPair h TI (.ref i1) (.ref i2)
  to : ∃ a b, IsPair h TO a b
  it1 : κ₁.It h i1 l1 k
  it2 : κ₂.It h i2 l2 k
  sq1 : κ₁.Sq h l1 xs
  sq2 : κ₂.Sq h l2 ys
theorem ZipSt.keep {κ₁ κ₂ : SK} {z TI TO i1 i2 l1 l2 : Addr} {xs ys : Array Value} {k : Nat} {f0 : Value} {h h' : Heap} (x : ZipSt κ₁ κ₂ z TI TO i1 i2 l1 l2 xs ys k f0 h)
    (e : ∀ b ∈ [z, TI, TO, i1, i2, l1, l2], ∀ o, h.get? b = some o → h'.get? b = some o) : ZipSt κ₁ κ₂ z TI TO i1 i2 l1 l2 xs ys k f0 h' := by
  obtain ⟨hz, hti, ⟨a, b, hto⟩, h1, h2, h3, h4⟩ := x
  exact ⟨e z (by simp) _ hz, e TI (by simp) _ hti, ⟨a, b, e TO (by simp) _ hto⟩, SK.it_keep h1 (e i1 (by simp)), SK.it_keep h2 (e i2 (by simp)), SK.sq_keep h3 (e l1 (by simp)), SK.sq_keep h4 (e l2 (by simp))⟩

section
variable {prog : Program} {w : World} {A : Around} {E : Value → Shared → Prop} {s : Shared} {κ₁ κ₂ : SK} {z TI TO i1 i2 l1 l2 : Addr} {xs ys : Array Value}

theorem zipNext {k : Nat} {x y : Value} {Q : Value → Shared → Prop} (D : ZipApart z TI TO i1 i2 l1 l2) (S : ZipSt κ₁ κ₂ z TI TO i1 i2 l1 l2 xs ys k .none s.heap) (hx : xs[k]? = some x) (hy : ys[k]? = some y)
    (hQ : ∀ h', ZipSt κ₁ κ₂ z TI TO i1 i2 l1 l2 xs ys (k + 1) (rawInt s.heap.objs.size) h' → IsPair h' s.heap.objs.size x y → (∀ c o, c ∉ [z, TO, i1, i2] → s.heap.get? c = some o → h'.get? c = some o) → Q (.ref s.heap.objs.size) { s with heap := h' }) :
    wpAny (model prog w) A (Builtin.«zip.__next__» ⟨[.ref z], []⟩) (fun fin s' => ∃ v, fin = .done (.ret v) ∧ Q v s') E s := by
  obtain ⟨hz, hti, ⟨a, b, hto⟩, hi1, hi2, hl1, hl2⟩ := S
  show wpAny _ _ (field (.ref z) 2 >>= _) _ _ _
  refine wpAny_bind (wpAny_field hz rfl (x := .bool false) rfl ?_)
  show wpAny _ _ (field (.ref z) 3 >>= _) _ _ _
  refine wpAny_bind (wpAny_field hz rfl (x := .ref TI) rfl ?_)
  refine wpAny_bind (wpAny_seqItems hti rfl ?_)
  show wpAny _ _ (Builtin.SmallTypes.ownedTupleIsFree (.ref z) >>= _) _ _ _
  unfold Builtin.SmallTypes.ownedTupleIsFree
  refine wpAny_bind (wpAny_bind (wpAny_field hz rfl (x := .none) rfl (wpAny_pure ?_)))
  simp only [if_true]
  refine wpAny_bind (wpAny_rule (wpAny_bind (wpAny_field hz rfl (x := .ref TO) rfl ?_)))
  refine wpAny_bind (wpAny_setField_rec hz (by simp) fun ha za sa => ?_)
  have za' : IsZip ha z TI TO .ellipsis := za
  refine wpAny_bind ?_
  simp only [List.zipIdx_cons, List.zipIdx_nil, List.forIn_cons, List.forIn_nil]
  -- the first draw
  refine wpAny_bind (wpAny_bind (wpAny_onRaise ?_))
  show wpAny _ _ (Builtin.SmallTypes.nextOf (.ref i1) >>= _) _ _ _
  refine wpAny_bind (κ₁.next (SK.it_keep hi1 fun o e => sa.extBut _ o D.i1z e) (SK.sq_keep hl1 fun o e => sa.extBut _ o D.l1z e) hx fun hb ib sb => wpAny_pure ?_)
  have tb : IsPair hb TO a b := sb.extBut _ _ D.TOi1 (sa.extBut _ _ D.TOz hto)
  refine wpAny_bind (wpAny_seqItems tb rfl (wpAny_bind (wpAny_updateSeq_pair tb fun hc tc sc => ?_)))
  have tc' : IsPair hc TO x b := tc
  refine wpAny_bind (wpAny_letGo (wpAny_pure ?_))
  -- the second
  refine wpAny_bind (wpAny_bind (wpAny_onRaise ?_))
  show wpAny _ _ (Builtin.SmallTypes.nextOf (.ref i2) >>= _) _ _ _
  have up : ∀ c o, c ≠ z → c ≠ i1 → c ≠ TO → s.heap.get? c = some o → hc.get? c = some o := fun c o h1 h2 h3 e => sc.extBut _ _ h3 (sb.extBut _ _ h2 (sa.extBut _ _ h1 e))
  refine wpAny_bind (κ₂.next (SK.it_keep hi2 fun o e => up _ o D.i2z D.i12.symm D.TOi2.symm e) (SK.sq_keep hl2 fun o e => up _ o D.l2z D.l2i1 D.l2TO e) hy fun hd id' sd => wpAny_pure ?_)
  have td : IsPair hd TO x b := sd.extBut _ _ D.TOi2 tc'
  refine wpAny_bind (wpAny_seqItems td rfl (wpAny_bind (wpAny_updateSeq_pair td fun he te se => ?_)))
  have te' : IsPair he TO x y := te
  refine wpAny_bind (wpAny_letGo (wpAny_pure (wpAny_pure ?_)))
  refine wpAny_bind (wpAny_seqItems te' rfl (wpAny_bind (wpAny_newTuple ?_)))
  have hn : he.objs.size = s.heap.objs.size := by rw [se.1, sd.1, sc.1, sb.1, sa.1]
  have ze : IsZip he z TI TO .ellipsis := se.extBut _ _ D.TOz.symm (sd.extBut _ _ D.i2z.symm (sc.extBut _ _ D.TOz.symm (sb.extBut _ _ D.i1z.symm za')))
  have it1 : κ₁.It he i1 l1 (k + 1) := SK.it_keep ib fun o e => se.extBut _ o D.TOi1.symm (sd.extBut _ o D.i12 (sc.extBut _ o D.TOi1.symm e))
  have it2 : κ₂.It he i2 l2 (k + 1) := SK.it_keep id' fun o e => se.extBut _ o D.TOi2.symm e
  have up2 : ∀ c o, c ≠ z → c ≠ TO → c ≠ i1 → c ≠ i2 → s.heap.get? c = some o → he.get? c = some o := fun c o h1 h2 h3 h4 e => se.extBut _ _ h2 (sd.extBut _ _ h4 (up c o h1 h3 h2 e))
  have zlt : z < he.objs.size := Heap.lt_size ze
  show wpAny _ _ (Builtin.SmallTypes.ownedTupleHandOut (.ref z) (.ref he.objs.size) >>= _) _ _ _
  unfold Builtin.SmallTypes.ownedTupleHandOut
  refine wpAny_bind ?_
  have zp : IsZip (he.push { cls := .type "tuple", data := .seq #[x, y] }) z TI TO .ellipsis := Heap.get?_push_of_some _ ze
  refine wpAny_bind (wpAny_setField_rec zp (by simp) fun hf zf sf => ?_)
  have zf' : IsZip hf z TI TO (rawInt he.objs.size) := zf
  refine wpAny_setField_rec zf' (by simp) fun hg zg sg => ?_
  have zg' : IsZip hg z TI TO (rawInt he.objs.size) := zg
  have up3 : ∀ c o, c ≠ z → he.get? c = some o → hg.get? c = some o := fun c o h1 e => sg.extBut _ _ h1 (sf.extBut _ _ h1 (Heap.get?_push_of_some _ e))
  have tg : IsPair hg he.objs.size x y := sg.extBut _ _ (Nat.ne_of_gt zlt) (sf.extBut _ _ (Nat.ne_of_gt zlt) (Heap.get?_push_size _ rfl))
  rw [hn] at zg' tg
  refine wpAny_pure ⟨_, rfl, ?_⟩
  show Q (.ref he.objs.size) _
  rw [hn]
  refine hQ hg ⟨zg', up3 _ _ D.TIz (up2 _ _ D.TIz D.TITO D.TIi1 D.TIi2 hti), ⟨x, y, up3 _ _ D.TOz te'⟩, SK.it_keep it1 fun o e => up3 _ o D.i1z e, SK.it_keep it2 fun o e => up3 _ o D.i2z e,
    SK.sq_keep hl1 fun o e => up3 _ o D.l1z (up2 _ o D.l1z D.l1TO D.l1i1 D.l1i2 e), SK.sq_keep hl2 fun o e => up3 _ o D.l2z (up2 _ o D.l2z D.l2TO D.l2i1 D.l2i2 e)⟩ tg fun c o hcm e => ?_
  simp only [List.mem_cons, List.not_mem_nil, or_false, not_or] at hcm
  exact up3 c o hcm.1 (up2 c o hcm.1 hcm.2.1 hcm.2.2.1 hcm.2.2.2 e)

/-- the first source is at its end -/
theorem zipNext_end {k : Nat} {Q : PySem.Fin → Shared → Prop} (hh : A.handled = none) (D : ZipApart z TI TO i1 i2 l1 l2) (S : ZipSt κ₁ κ₂ z TI TO i1 i2 l1 l2 xs ys k .none s.heap) (hx : xs[k]? = none)
    (hE : ∀ h' e, (∀ c o, c ∉ [z, TO, i1, i2] → s.heap.get? c = some o → h'.get? c = some o) → (∃ o, h'.get? e = some o ∧ o.cls = .type "StopIteration") → E (.ref e) { s with heap := h' }) :
    wpAny (model prog w) A (Builtin.«zip.__next__» ⟨[.ref z], []⟩) Q E s := by
  obtain ⟨hz, hti, ⟨a, b, hto⟩, hi1, hi2, hl1, hl2⟩ := S
  show wpAny _ _ (field (.ref z) 2 >>= _) _ _ _
  refine wpAny_bind (wpAny_field hz rfl (x := .bool false) rfl ?_)
  show wpAny _ _ (field (.ref z) 3 >>= _) _ _ _
  refine wpAny_bind (wpAny_field hz rfl (x := .ref TI) rfl ?_)
  refine wpAny_bind (wpAny_seqItems hti rfl ?_)
  show wpAny _ _ (Builtin.SmallTypes.ownedTupleIsFree (.ref z) >>= _) _ _ _
  unfold Builtin.SmallTypes.ownedTupleIsFree
  refine wpAny_bind (wpAny_bind (wpAny_field hz rfl (x := .none) rfl (wpAny_pure ?_)))
  simp only [if_true]
  refine wpAny_bind (wpAny_rule (wpAny_bind (wpAny_field hz rfl (x := .ref TO) rfl ?_)))
  refine wpAny_bind (wpAny_setField_rec hz (by simp) fun ha za sa => ?_)
  have za' : IsZip ha z TI TO .ellipsis := za
  refine wpAny_bind ?_
  simp only [List.zipIdx_cons, List.zipIdx_nil, List.forIn_cons, List.forIn_nil]
  refine wpAny_bind (wpAny_bind (wpAny_onRaise ?_))
  show wpAny _ _ (Builtin.SmallTypes.nextOf (.ref i1) >>= _) _ _ _
  refine wpAny_bind (κ₁.ended hh (SK.it_keep hi1 fun o e => sa.extBut _ o D.i1z e) (SK.sq_keep hl1 fun o e => sa.extBut _ o D.l1z e) hx fun hb e sb he => ?_)
  obtain ⟨oe, h1, h2⟩ := he
  have zb : IsZip hb z TI TO .ellipsis := sb _ _ D.i1z.symm za'
  have ez : e ≠ z := fun q => by subst q; rw [zb] at h1; cases h1; simp at h2
  refine wpAny_setField_rec zb (by simp) fun hc _ sc => hE hc e (fun c o hcm q => ?_) ⟨oe, sc.extBut _ _ ez h1, h2⟩
  simp only [List.mem_cons, List.not_mem_nil, or_false, not_or] at hcm
  exact sc.extBut _ _ hcm.1 (sb _ _ hcm.2.2.1 (sa.extBut _ _ hcm.1 q))

theorem zip_pyNext {k : Nat} {x y : Value} {Q : Option Value → Shared → Prop} (D : ZipApart z TI TO i1 i2 l1 l2) (S : ZipSt κ₁ κ₂ z TI TO i1 i2 l1 l2 xs ys k .none s.heap) (hx : xs[k]? = some x) (hy : ys[k]? = some y)
    (hQ : ∀ h', ZipSt κ₁ κ₂ z TI TO i1 i2 l1 l2 xs ys (k + 1) (rawInt s.heap.objs.size) h' → IsPair h' s.heap.objs.size x y → (∀ c o, c ∉ [z, TO, i1, i2] → s.heap.get? c = some o → h'.get? c = some o) → Q (some (.ref s.heap.objs.size)) { s with heap := h' }) :
    wpAny (model prog w) A (pyNext (.ref z)) Q E s := by
  have hT : s.TypeIs (.ref z) "zip" := ⟨_, S.z, rfl⟩
  unfold pyNext
  exact wpAny_bind (wpAny_attempt (wpAny_callSpecial?_slot (name := Str.ofString "__next__") hT F.slot_zip_next
    (wpAny_call_entry F.slot_zip_next hT F.entry_zip_next (zipNext D S hx hy fun h' a1 a2 a3 => wpAny_pure (hQ h' a1 a2 a3)) (F.args_zip_next_1 _))))
theorem zip_pyNext_end {k : Nat} {Q : Option Value → Shared → Prop} (hh : A.handled = none) (D : ZipApart z TI TO i1 i2 l1 l2) (S : ZipSt κ₁ κ₂ z TI TO i1 i2 l1 l2 xs ys k .none s.heap) (hx : xs[k]? = none)
    (hQ : ∀ h', (∀ c o, c ∉ [z, TO, i1, i2] → s.heap.get? c = some o → h'.get? c = some o) → Q none { s with heap := h' }) : wpAny (model prog w) A (pyNext (.ref z)) Q E s := by
  have hT : s.TypeIs (.ref z) "zip" := ⟨_, S.z, rfl⟩
  unfold pyNext
  refine wpAny_bind (wpAny_attempt (wpAny_callSpecial?_slot (name := Str.ofString "__next__") hT F.slot_zip_next
    (wpAny_call_entry F.slot_zip_next hT F.entry_zip_next (zipNext_end hh D S hx fun h' e hk he => ?_) (F.args_zip_next_1 _))))
  obtain ⟨o, ho, hc⟩ := he
  exact wpAny_bind (wpAny_isInstance (T := "StopIteration") (b := true) ⟨o, ho, hc⟩ isSubtype_stop (wpAny_pure (hQ _ hk)))

/-- zip over two sources of one length -/
theorem zip_walks (hh : A.handled = none) (D : ZipApart z TI TO i1 i2 l1 l2) (hxy : xs.size = ys.size) :
    WalksU prog w A z [z, TI, TO, i1, i2, l1, l2] [z, TO, i1, i2] xs.size (fun i vals => ∃ x y, xs[i]? = some x ∧ ys[i]? = some y ∧ vals = #[x, y])
      (fun i h => ZipSt κ₁ κ₂ z TI TO i1 i2 l1 l2 xs ys i .none h) (fun i T h => ZipSt κ₁ κ₂ z TI TO i1 i2 l1 l2 xs ys (i + 1) (rawInt T) h ∧ T ∉ [z, TO, i1, i2]) where
  sub := fun b hb => by simp at hb ⊢; rcases hb with rfl | rfl | rfl | rfl <;> simp
  frame := fun _ _ _ S e => S.keep e
  item := fun i s Q E hi S hQ => by
    have hx : xs[i]? = some xs[i] := Array.getElem?_eq_getElem hi
    have hy : ys[i]? = some (ys[i]'(hxy ▸ hi)) := Array.getElem?_eq_getElem (hxy ▸ hi)
    refine zip_pyNext D S hx hy fun h' S' P' hk => hQ s.heap.objs.size #[xs[i], ys[i]'(hxy ▸ hi)] h' s.toks ⟨_, _, hx, hy, rfl⟩ ⟨_, P', rfl, _, rfl⟩ ⟨S', ?_⟩ hk
    obtain ⟨a, b, hto⟩ := S.to
    obtain ⟨o1, e1⟩ := SK.it_get S.it1
    obtain ⟨o2, e2⟩ := SK.it_get S.it2
    have n1 : s.heap.objs.size ≠ z := Nat.ne_of_gt (Heap.lt_size S.z)
    have n2 : s.heap.objs.size ≠ TO := Nat.ne_of_gt (Heap.lt_size hto)
    have n3 : s.heap.objs.size ≠ i1 := Nat.ne_of_gt (Heap.lt_size e1)
    have n4 : s.heap.objs.size ≠ i2 := Nat.ne_of_gt (Heap.lt_size e2)
    simp [n1, n2, n3, n4]
  go := fun elts k pos i T s Q E hm hQ => by
    obtain ⟨⟨hz, hti, ⟨a, b, hto⟩, h1, h2, h3, h4⟩, _⟩ := hm
    refine wpAny_letOwnedTupleGo_zip hz fun h' hz' hs' => hQ h' ⟨hz', hs'.extBut _ _ D.TIz hti, ⟨a, b, hs'.extBut _ _ D.TOz hto⟩, SK.it_keep h1 fun o e => hs'.extBut _ o D.i1z e, SK.it_keep h2 fun o e => hs'.extBut _ o D.i2z e,
      SK.sq_keep h3 fun o e => hs'.extBut _ o D.l1z e, SK.sq_keep h4 fun o e => hs'.extBut _ o D.l2z e⟩ fun c o hc e => hs'.extBut _ _ (fun q => hc (by simp [q])) e
  apart := fun _ _ _ hm => hm.2
  done := fun s Q E S hQ => zip_pyNext_end hh D S (Array.getElem?_eq_none (Nat.le_refl _)) fun h' hk => hQ h' s.toks hk
  self := fun _ _ _ _ S hQ => wpAny_pyIter_zip S.z hQ
end

theorem meets_zip (κ₁ κ₂ : SK) (l1 l2 : Addr) (xs ys : Array Value) :
    Meets (Builtin.«zip.__new__» ⟨[.type "zip", .ref l1, .ref l2], []⟩) (fun _ R s => κ₁.Sq s.heap l1 xs ∧ κ₂.Sq s.heap l2 ys ∧
      ∀ h₁ h₂ h₃ h₄ : Heap, h₁ = s.heap.push (κ₁.iterObj l1) → h₂ = h₁.push (κ₂.iterObj l2) → h₃ = h₂.push { cls := .type "tuple", data := .seq #[.ref s.heap.objs.size, .ref h₁.objs.size] } → h₄ = h₃.push { cls := .type "tuple", data := .seq #[.none, .none] } →
      R (.ok (.ret (.ref h₄.objs.size))) { s with heap := h₄.push { cls := .type "zip", data := .fields #[.none, .bool false, .bool false, .ref h₂.objs.size, .ref h₃.objs.size] } }) :=
  .of_wp fun prog w A R s h => by
    obtain ⟨hp, g, d, tk, os⟩ := s; obtain ⟨hl1, hl2, h⟩ := h
    have hsub := sub_zip
    have hL1 : κ₁.Sq (Shared.heap ⟨hp, g, d, tk, os⟩) l1 xs := hl1
    have hL2 : κ₂.Sq (Shared.heap ⟨hp.push (κ₁.iterObj l1), g, d, tk, os⟩) l2 ys := SK.sq_keep hl2 fun o e => Heap.get?_push_of_some _ e
    wp_walk using κ₁.iter hL1, κ₂.iter hL2
    exact ⟨_, rfl, h _ _ _ _ rfl rfl rfl rfl⟩

section
variable {prog : Program} {w : World} {A : Around} {E : Value → Shared → Prop} {s : Shared}

theorem zip_call (κ₁ κ₂ : SK) {l1 l2 : Addr} {xs ys : Array Value} {Q : Value → Shared → Prop} (h1 : κ₁.Sq s.heap l1 xs) (h2 : κ₂.Sq s.heap l2 ys)
    (h : ∀ h', ZipSt κ₁ κ₂ (s.heap.objs.size + 4) (s.heap.objs.size + 2) (s.heap.objs.size + 3) s.heap.objs.size (s.heap.objs.size + 1) l1 l2 xs ys 0 .none h' → h'.objs.size = s.heap.objs.size + 5 →
      (∀ c o, s.heap.get? c = some o → h'.get? c = some o) → Q (.ref (s.heap.objs.size + 4)) { s with heap := h' }) :
    wpAny (model prog w) A (call (.type "zip") [.ref l1, .ref l2]) Q E s := by
  refine callType_new F.called_zip (by decide) (F.typeCall_zip_2 _ _) (F.newCall_zip_2 _ _) (fun obj => F.args_object_init_3 obj _ _) F.entry_zip_new (meets_zip κ₁ κ₂ l1 l2 xs ys) ⟨h1, h2, ?_⟩
  rintro ha hb hc hd ea eb ec ed
  have na : ha.objs.size = s.heap.objs.size + 1 := by rw [ea, Heap.size_push]
  have nb : hb.objs.size = s.heap.objs.size + 2 := by rw [eb, Heap.size_push, na]
  have nc : hc.objs.size = s.heap.objs.size + 3 := by rw [ec, Heap.size_push, nb]
  have nd : hd.objs.size = s.heap.objs.size + 4 := by rw [ed, Heap.size_push, nc]
  have ka : ∀ c o, s.heap.get? c = some o → ha.get? c = some o := fun c o e => by rw [ea]; exact Heap.get?_push_of_some _ e
  have kb : ∀ c o, ha.get? c = some o → hb.get? c = some o := fun c o e => by rw [eb]; exact Heap.get?_push_of_some _ e
  have kc : ∀ c o, hb.get? c = some o → hc.get? c = some o := fun c o e => by rw [ec]; exact Heap.get?_push_of_some _ e
  have kd : ∀ c o, hc.get? c = some o → hd.get? c = some o := fun c o e => by rw [ed]; exact Heap.get?_push_of_some _ e
  have ke : ∀ c o, hd.get? c = some o → (hd.push { cls := .type "zip", data := .fields #[.none, .bool false, .bool false, .ref hb.objs.size, .ref hc.objs.size] }).get? c = some o := fun c o e => Heap.get?_push_of_some _ e
  have ga : κ₁.It ha s.heap.objs.size l1 0 := by rw [ea]; exact SK.it_new κ₁ _ _
  have gb : κ₂.It hb (s.heap.objs.size + 1) l2 0 := by rw [eb, ← na]; exact SK.it_new κ₂ _ _
  have gc : hc.get? (s.heap.objs.size + 2) = some { cls := .type "tuple", data := .seq #[.ref s.heap.objs.size, .ref (s.heap.objs.size + 1)] } := by rw [ec, ← nb, ← na]; exact Heap.get?_push_size _ rfl
  have gd : hd.get? (s.heap.objs.size + 3) = some { cls := .type "tuple", data := .seq #[.none, .none] } := by rw [ed, ← nc]; exact Heap.get?_push_size _ rfl
  have ge : (hd.push { cls := .type "zip", data := .fields #[.none, .bool false, .bool false, .ref hb.objs.size, .ref hc.objs.size] }).get? (s.heap.objs.size + 4) = some { cls := .type "zip", data := .fields #[.none, .bool false, .bool false, .ref (s.heap.objs.size + 2), .ref (s.heap.objs.size + 3)] } := by
    rw [← nb, ← nc, ← nd]; exact Heap.get?_push_size _ rfl
  show _ ∧ _
  rw [nd]
  refine ⟨⟨_, ge, rfl⟩, h _ ⟨ge, ke _ _ (kd _ _ gc), ⟨_, _, ke _ _ gd⟩, SK.it_keep ga fun o e => ke _ o (kd _ o (kc _ o (kb _ o e))), SK.it_keep gb fun o e => ke _ o (kd _ o (kc _ o e)),
    SK.sq_keep h1 fun o e => ke _ o (kd _ o (kc _ o (kb _ o (ka _ o e)))), SK.sq_keep h2 fun o e => ke _ o (kd _ o (kc _ o (kb _ o (ka _ o e))))⟩ (by rw [Heap.size_push, nd]) fun c o e => ke c o (kd c o (kc c o (kb c o (ka c o e))))⟩
end
end Zp
section Lp
theorem offLp : True := by w_top off; trivial
section
variable {prog : Program} {w : World} {A : Around} {E : Value → Shared → Prop} {s : Shared} {env : Env} {h₀ : Heap} {target : Expr} {body : List Stmt} {Q : Flow → Shared → Prop}

/-- a loop over any source, by a word J over the turn's number, the frame's map and the ledger (its addresses stay; the entries in keep stay) -/
theorem turnsN {I : Addr} {fp wr : List Addr} {n : Nat} {P Md : Nat → Value → Heap → Prop} {St : Nat → Heap → Prop} {m : Str → Option Value} {news keep : List (Addr × Obj)} (J : Nat → (Str → Option Value) → List (Addr × Obj) → Prop)
    (W : KTurns prog w A target I fp wr n P Md St) (hst : St 0 s.heap) (hL : env.locals ∉ fp) (hwr : ∀ b ∈ wr, h₀.get? b = none) (hnw : ∀ p ∈ news, p.1 ∉ wr)
    (hfp : ∀ b ∈ fp, (∃ o, (b, o) ∈ keep) ∨ (∃ o, h₀.get? b = some o) ∨ ∀ p ∈ news, p.1 ≠ b) (hk : ∀ p ∈ keep, p ∈ news)
    (F : Fr h₀ env.locals s.heap m) (N : News h₀ env.locals s.heap news) (h0 : J 0 m news)
    (step : ∀ i v m₁ news₁ h tk own, i < n → P i v h → news₁.map (·.1) = news.map (·.1) → (∀ p ∈ keep, p ∈ news₁) → OwnOff own (news.map (·.1)) → J i m₁ news₁ → Fr h₀ env.locals h m₁ → News h₀ env.locals h (news₁ ++ own) →
      wpAny (model prog w) A (assign target env v) (fun _ s₃ => wpAny (model prog w) A (execs body env)
        (InvPostN h₀ env.locals (fun m' nx => (∀ p ∈ keep, p ∈ nx) ∧ J (i + 1) m' nx) own (news.map (·.1)) { s with heap := h, toks := tk } Q) E s₃) E { s with heap := h, toks := tk })
    (done : ∀ m₁ news₁ h tk, (∀ p ∈ keep, p ∈ news₁) → J n m₁ news₁ → Fr h₀ env.locals h m₁ → News h₀ env.locals h news₁ → Q .next { s with heap := h, toks := tk }) :
    TurnsAt prog w A h₀ env target body Q E (.ref I) s := by
  refine ⟨I, fp, wr, n, P, Md, St, m, news, fun i m' nx => nx.map (·.1) = news.map (·.1) ∧ (∀ p ∈ keep, p ∈ nx) ∧ J i m' nx, rfl, W, hL, hwr, hnw, hst, F, N, ⟨rfl, hk, h0⟩, ?_, ?_⟩
  · rintro i v m₁ news₁ h₁ tk₁ own hi hP ⟨hadr, hkp, hJ⟩ hoff hown hget hall _ F₁ N₁
    have hsub : ∀ p ∈ own.filter (fun p => decide (p.1 ∉ news.map (·.1))), p ∈ own := fun p hp => (List.mem_filter.mp hp).1
    have hsep : OwnOff (own.filter (fun p => decide (p.1 ∉ news.map (·.1)))) (news.map (·.1)) := fun p hp b hb e => by
      have := of_decide_eq_true (List.mem_filter.mp hp).2
      exact this (e ▸ hb)
    have N₂ : News h₀ env.locals h₁ (news₁ ++ own.filter (fun p => decide (p.1 ∉ news.map (·.1)))) := fun p hp => N₁ p ((List.mem_append.mp hp).elim (fun h => List.mem_append_right _ h) fun h => List.mem_append_left _ (hsub p h))
    have rest : ∀ p ∈ own, p ∉ own.filter (fun p => decide (p.1 ∉ news.map (·.1))) → p ∈ keep := fun p hp hn => by
      have hin : p.1 ∈ news.map (·.1) := by
        apply Classical.byContradiction
        intro q
        exact hn (List.mem_filter.mpr ⟨hp, decide_eq_true q⟩)
      rcases hfp p.1 (hown p hp) with ⟨o, ho⟩ | ⟨o, ho⟩ | ho
      · have h2 := (N₁ _ (List.mem_append_right _ (hkp _ ho))).1
        have h3 := hget p hp
        have h2' : h₁.get? p.1 = some o := h2
        rw [h2'] at h3
        have : o = p.2 := Option.some.inj h3
        subst this
        exact ho
      · have := (N₁ p (List.mem_append_left _ hp)).2.2
        rw [ho] at this
        cases this
      · obtain ⟨q, hq, e⟩ := List.mem_map.mp hin
        exact absurd e (ho q hq)
    refine wpAny_mono (step i v m₁ news₁ h₁ tk₁ _ hi hP hadr hkp hsep hJ F₁ N₂) (fun _ s₃ h₃ => wpAny_mono h₃ (fun f s₄ p => ?_) fun _ _ e => e) fun _ _ e => e
    have fin : InvEndN h₀ env.locals (fun m' nx => (∀ p ∈ keep, p ∈ nx) ∧ J (i + 1) m' nx) (own.filter (fun p => decide (p.1 ∉ news.map (·.1)))) (news.map (·.1)) { s with heap := h₁, toks := tk₁ } s₄ →
        LoopStepU h₀ env.locals wr own (fun m' nx => nx.map (·.1) = news.map (·.1) ∧ (∀ p ∈ keep, p ∈ nx) ∧ J (i + 1) m' nx) { s with heap := h₁, toks := tk₁ } .next s₄ := by
      rintro ⟨h', tk, m', news', nx, e, F', N', hn, ho, ha, hkx, hm⟩
      refine ⟨rfl, h', tk, m', nx, e, F', fun p hp => ?_, fun p hp hq => ?_, ha, hkx, hm⟩
      · rcases List.mem_append.mp hp with hp | hp
        · by_cases hc : p ∈ own.filter (fun p => decide (p.1 ∉ news.map (·.1)))
          · exact N' p (ho p hc)
          · exact N' p (hn p (hkx p (rest p hp hc)))
        · exact N' p (hn p hp)
      · have h1 : p.1 ∈ nx.map (·.1) := List.mem_map.mpr ⟨p, hp, rfl⟩
        rw [ha] at h1
        obtain ⟨q, hq1, hq2⟩ := List.mem_map.mp h1
        exact hnw q hq1 (by rw [hq2]; exact hq)
    cases f with
    | ret v => exact .ret p
    | brk => exact .brk p
    | next => exact .next (fin p)
    | cont => exact .cont (fin p)
  · rintro h' tk m' news' F' N' _ ⟨_, hkp, hJ⟩
    exact done m' news' h' tk hkp hJ F' N'
end

section
variable {prog : Program} {w : World} {A : Around} {E : Value → Shared → Prop} {s : Shared} {env : Env} {h₀ : Heap} {body : List Stmt} {Q : Flow → Shared → Prop}

/-- one name stored at each turn -/
theorem turnsName {x : Str} {px : Pos} {I : Addr} {fp wr : List Addr} {n : Nat} {P : Nat → Value → Prop} {St : Nat → Heap → Prop} {m : Str → Option Value} {news keep : List (Addr × Obj)} (J : Nat → (Str → Option Value) → List (Addr × Obj) → Prop)
    (hx : env.kindOf x = some .local) (hp : (env.scope.kind == .class || (env.scope.kind == .module && env.locals != env.globals)) = false)
    (W : Walks prog w A I fp wr n P St) (hgo : ∀ i v (s : Shared) (Q : Unit → Shared → Prop) (E : Value → Shared → Prop), St i s.heap → Q () s → wpAny (model prog w) A (letOwnedTupleGo (.Name x px) (.ref I) v) Q E s)
    (hst : St 0 s.heap) (hL : env.locals ∉ fp) (hwr : ∀ b ∈ wr, h₀.get? b = none) (hnw : ∀ p ∈ news, p.1 ∉ wr)
    (hfp : ∀ b ∈ fp, (∃ o, (b, o) ∈ keep) ∨ (∃ o, h₀.get? b = some o) ∨ ∀ p ∈ news, p.1 ≠ b) (hk : ∀ p ∈ keep, p ∈ news)
    (F : Fr h₀ env.locals s.heap m) (N : News h₀ env.locals s.heap news) (h0 : J 0 m news)
    (step : ∀ i v m₁ news₁ h tk own, i < n → P i v → news₁.map (·.1) = news.map (·.1) → (∀ p ∈ keep, p ∈ news₁) → OwnOff own (news.map (·.1)) → J i m₁ news₁ → Fr h₀ env.locals h (fun y => if y = x then some v else m₁ y) → News h₀ env.locals h (news₁ ++ own) →
      wpAny (model prog w) A (execs body env) (InvPostN h₀ env.locals (fun m' nx => (∀ p ∈ keep, p ∈ nx) ∧ J (i + 1) m' nx) own (news.map (·.1)) { s with heap := h, toks := tk } Q) E { s with heap := h, toks := tk })
    (done : ∀ m₁ news₁ h tk, (∀ p ∈ keep, p ∈ news₁) → J n m₁ news₁ → Fr h₀ env.locals h m₁ → News h₀ env.locals h news₁ → Q .next { s with heap := h, toks := tk }) :
    TurnsAt prog w A h₀ env (.Name x px) body Q E (.ref I) s := by
  refine turnsN J (KTurns.ofWalks W hgo) hst hL hwr hnw hfp hk F N h0 (fun i v m₁ news₁ h tk own hi hP ha hkp hoff hJ F₁ N₁ => ?_) done
  refine wpAny_assign_Name (wpAny_storeName_local hx F₁.ns (fun h₂ hn₂ hs₂ => ?_) hp)
  have hL₀ : h₀.get? env.locals = none := Heap.get?_none_of_le F₁.above
  have F₂ : Fr h₀ env.locals h₂ (fun y => if y = x then some v else m₁ y) := ⟨hn₂, fun b o e => hs₂.extBut b o (fun q => by rw [q, hL₀] at e; cases e) (F₁.keep b o e), F₁.above⟩
  have N₂ : News h₀ env.locals h₂ (news₁ ++ own) := fun p hp => ⟨hs₂.extBut _ _ (N₁ p hp).2.1 (N₁ p hp).1, (N₁ p hp).2⟩
  exact step i v m₁ news₁ h₂ _ own hi hP ha hkp hoff hJ F₂ N₂

/-- two names stored at each turn, out of a pair -/
theorem turnsPair {x y : Str} {px py pt : Pos} {kt : Nat} {I : Addr} {fp wr : List Addr} {n : Nat} {Pt : Nat → Array Value → Prop} {St : Nat → Heap → Prop} {Mid : Nat → Addr → Heap → Prop} {m : Str → Option Value} {news keep : List (Addr × Obj)} (J : Nat → (Str → Option Value) → List (Addr × Obj) → Prop)
    (hh : A.handled = none) (hx : env.kindOf x = some .local) (hy : env.kindOf y = some .local) (hp : (env.scope.kind == .class || (env.scope.kind == .module && env.locals != env.globals)) = false)
    (W : WalksU prog w A I fp wr n Pt St Mid) (hsz : ∀ i vals, Pt i vals → ∃ va vb, vals = #[va, vb])
    (hst : St 0 s.heap) (hL : env.locals ∉ fp) (hwr : ∀ b ∈ wr, h₀.get? b = none) (hnw : ∀ p ∈ news, p.1 ∉ wr)
    (hfp : ∀ b ∈ fp, (∃ o, (b, o) ∈ keep) ∨ (∃ o, h₀.get? b = some o) ∨ ∀ p ∈ news, p.1 ≠ b) (hk : ∀ p ∈ keep, p ∈ news)
    (F : Fr h₀ env.locals s.heap m) (N : News h₀ env.locals s.heap news) (h0 : J 0 m news)
    (step : ∀ i va vb m₁ news₁ h tk own, i < n → Pt i #[va, vb] → news₁.map (·.1) = news.map (·.1) → (∀ p ∈ keep, p ∈ news₁) → OwnOff own (news.map (·.1)) → J i m₁ news₁ →
      Fr h₀ env.locals h (fun z => if z = y then some vb else if z = x then some va else m₁ z) → News h₀ env.locals h (news₁ ++ own) →
      wpAny (model prog w) A (execs body env) (InvPostN h₀ env.locals (fun m' nx => (∀ p ∈ keep, p ∈ nx) ∧ J (i + 1) m' nx) own (news.map (·.1)) { s with heap := h, toks := tk } Q) E { s with heap := h, toks := tk })
    (done : ∀ m₁ news₁ h tk, (∀ p ∈ keep, p ∈ news₁) → J n m₁ news₁ → Fr h₀ env.locals h m₁ → News h₀ env.locals h news₁ → Q .next { s with heap := h, toks := tk }) :
    TurnsAt prog w A h₀ env (.Tuple [.Name x px, .Name y py] kt pt) body Q E (.ref I) s := by
  refine turnsN J (KTurns.ofWalksU W) hst hL hwr hnw hfp hk F N h0 (fun i v m₁ news₁ h tk own hi hP ha hkp hoff hJ F₁ N₁ => ?_) done
  obtain ⟨T, vals, rfl, hPt, hT⟩ := hP
  obtain ⟨va, vb, rfl⟩ := hsz i vals hPt
  have hL₀ : h₀.get? env.locals = none := Heap.get?_none_of_le F₁.above
  have st : ∀ {ha hb : Heap} {ma : Str → Option Value} {z : Str} {vz : Value}, Fr h₀ env.locals ha ma → News h₀ env.locals ha (news₁ ++ own) → hb.Ns env.locals (fun q => if q = z then some vz else ma q) → Heap.SameBut env.locals ha hb →
      Fr h₀ env.locals hb (fun q => if q = z then some vz else ma q) ∧ News h₀ env.locals hb (news₁ ++ own) := fun Fa Na hn hs =>
    ⟨⟨hn, fun b o e => hs.extBut b o (fun q => by rw [q, hL₀] at e; cases e) (Fa.keep b o e), Fa.above⟩, fun p hp => ⟨hs.extBut _ _ (Na p hp).2.1 (Na p hp).1, (Na p hp).2⟩⟩
  refine assign_Tuple_tuple hh hT rfl rfl fun h₅ he => ?_
  have he' : ∀ b o, h.get? b = some o → h₅.get? b = some o := fun b o e => he b o (Nat.ne_of_lt (Heap.lt_size e)) e
  have F₅ : Fr h₀ env.locals h₅ m₁ := F₁.keeps he'
  have N₅ : News h₀ env.locals h₅ (news₁ ++ own) := N₁.grown he'
  refine assignInOrder_cons (wpAny_assign_Name (wpAny_storeName_local hx F₅.ns (fun h₆ hn₆ hs₆ => ?_) hp))
  obtain ⟨F₆, N₆⟩ := st F₅ N₅ hn₆ hs₆
  refine assignInOrder_cons (wpAny_assign_Name (wpAny_storeName_local hy F₆.ns (fun h₇ hn₇ hs₇ => ?_) hp))
  obtain ⟨F₇, N₇⟩ := st F₆ N₆ hn₇ hs₇
  refine assignInOrder_nil ?_
  exact step i va vb m₁ news₁ h₇ _ own hi hPt ha hkp hoff hJ F₇ N₇

/-- where a sequence lies that a loop goes over: in the base, or in the ledger, to stay -/
def SeqAt (κ : SK) (h₀ : Heap) (l : Addr) (xs : Array Value) (keep : List (Addr × Obj)) : Prop := κ.Sq h₀ l xs ∨ ∃ o n, (l, o) ∈ keep ∧ o.cls = .type (match κ with | .lst => "list" | .tup => "tuple") ∧ o.data = .seq xs n
theorem SeqAt.sq {κ : SK} {h₀ h : Heap} {L l : Addr} {m : Str → Option Value} {xs : Array Value} {news keep : List (Addr × Obj)} (S : SeqAt κ h₀ l xs keep) (hk : ∀ p ∈ keep, p ∈ news) (F : Fr h₀ L h m) (N : News h₀ L h news) : κ.Sq h l xs := by
  rcases S with S | ⟨o, n, ho, hc, hd⟩
  · exact SK.sq_keep S (F.keep l)
  · have := (N _ (hk _ ho)).1
    cases κ
    · exact ⟨o, this, hc, n, hd⟩
    · exact ⟨o, this, hc, n, hd⟩
theorem SeqAt.at {κ : SK} {h₀ : Heap} {l : Addr} {xs : Array Value} {keep news : List (Addr × Obj)} (S : SeqAt κ h₀ l xs keep) : (∃ o, (l, o) ∈ keep) ∨ (∃ o, h₀.get? l = some o) ∨ ∀ p ∈ news, p.1 ≠ l := by
  rcases S with S | ⟨o, n, ho, _⟩
  · exact .inr (.inl (SK.sq_get S))
  · exact .inl ⟨o, ho⟩
theorem SeqAt.ne {κ : SK} {h₀ h : Heap} {L l : Addr} {m : Str → Option Value} {xs : Array Value} {news keep : List (Addr × Obj)} (S : SeqAt κ h₀ l xs keep) (hk : ∀ p ∈ keep, p ∈ news) (F : Fr h₀ L h m) (N : News h₀ L h news) : L ≠ l := by
  rcases S with S | ⟨o, n, ho, _⟩
  · obtain ⟨o, e⟩ := SK.sq_get S
    exact Nat.ne_of_gt (Nat.lt_of_lt_of_le (Heap.lt_size e) F.above)
  · exact (N _ (hk _ ho)).2.1.symm

/-- a loop over a list or a tuple -/
theorem iterSeq {κ : SK} {x : Str} {px : Pos} {l : Addr} {vs : List Value} {m : Str → Option Value} {news : List (Addr × Obj)} (keep : List (Addr × Obj)) (J : Nat → (Str → Option Value) → List (Addr × Obj) → Prop)
    (hh : A.handled = none) (hx : env.kindOf x = some .local) (hp : (env.scope.kind == .class || (env.scope.kind == .module && env.locals != env.globals)) = false)
    (S : SeqAt κ h₀ l vs.toArray keep) (hk : ∀ p ∈ keep, p ∈ news) (F : Fr h₀ env.locals s.heap m) (N : News h₀ env.locals s.heap news) (h0 : J 0 m news)
    (step : ∀ i v m₁ news₁ h tk own, vs[i]? = some v → news₁.map (·.1) = news.map (·.1) → (∀ p ∈ keep, p ∈ news₁) → OwnOff own (news.map (·.1)) → J i m₁ news₁ → Fr h₀ env.locals h (fun y => if y = x then some v else m₁ y) → News h₀ env.locals h (news₁ ++ own) →
      wpAny (model prog w) A (execs body env) (InvPostN h₀ env.locals (fun m' nx => (∀ p ∈ keep, p ∈ nx) ∧ J (i + 1) m' nx) own (news.map (·.1)) { s with heap := h, toks := tk } Q) E { s with heap := h, toks := tk })
    (done : ∀ m₁ news₁ h tk, (∀ p ∈ keep, p ∈ news₁) → J vs.length m₁ news₁ → Fr h₀ env.locals h m₁ → News h₀ env.locals h news₁ → Q .next { s with heap := h, toks := tk }) :
    wpAny (model prog w) A (pyIter (.ref l)) (fun it s₂ => TurnsAt prog w A h₀ env (.Name x px) body Q E it s₂) E s := by
  have hl := S.sq hk F N
  obtain ⟨ol, el⟩ := SK.sq_get hl
  have hlt : l < s.heap.objs.size := Heap.lt_size el
  have hLl := S.ne hk F N
  have hn : vs.toArray.size = vs.length := by simp
  have F' : Fr h₀ env.locals (s.heap.push (κ.iterObj l)) m := F.push _
  have N' : News h₀ env.locals (s.heap.push (κ.iterObj l)) news := N.grown fun _ _ e => Heap.get?_push_of_some _ e
  have fresh : ∀ p ∈ news, p.1 ≠ s.heap.objs.size := fun p hp => Nat.ne_of_lt (Heap.lt_size (N p hp).1)
  have fp : ∀ b ∈ [s.heap.objs.size, l], (∃ o, (b, o) ∈ keep) ∨ (∃ o, h₀.get? b = some o) ∨ ∀ p ∈ news, p.1 ≠ b := fun b hb => by
    rcases List.mem_cons.mp hb with rfl | hb
    · exact .inr (.inr fresh)
    · rw [List.mem_singleton.mp hb]; exact S.at
  have hL : env.locals ∉ [s.heap.objs.size, l] := fun hm => by
    rcases List.mem_cons.mp hm with e | hm
    · exact absurd F.ns.lt (e ▸ Nat.lt_irrefl _)
    · exact hLl (List.mem_singleton.mp hm)
  have wr : ∀ b ∈ [s.heap.objs.size], h₀.get? b = none := fun b hb => by rw [List.mem_singleton.mp hb]; exact next_is_new F
  have nw : ∀ p ∈ news, p.1 ∉ [s.heap.objs.size] := fun p hp hm => fresh p hp (List.mem_singleton.mp hm)
  refine κ.iter hl ?_
  cases κ with
  | lst =>
    have W := Walks.list (prog := prog) (w := w) hh s.heap.objs.size l (Nat.ne_of_lt hlt) vs.toArray
    rw [hn] at W
    exact turnsName (s := { s with heap := s.heap.push (SK.iterObj .lst l) }) J hx hp W (fun i v s Q E st q => letGo_listiter st.1 q) ⟨SK.it_new .lst _ _, SK.sq_keep (κ := .lst) hl fun o e => Heap.get?_push_of_some _ e⟩ hL wr nw fp hk F' N' h0
      (fun i v m₁ news₁ h tk own _ hP => step i v m₁ news₁ h tk own (by simpa using hP)) done
  | tup =>
    have W := Walks.tuple (prog := prog) (w := w) hh s.heap.objs.size l (Nat.ne_of_lt hlt) vs.toArray
    rw [hn] at W
    exact turnsName (s := { s with heap := s.heap.push (SK.iterObj .tup l) }) J hx hp W (fun i v s Q E st q => letGo_tupleiter st.1 q) ⟨SK.it_new .tup _ _, SK.sq_keep (κ := .tup) hl fun o e => Heap.get?_push_of_some _ e⟩ hL wr nw fp hk F' N' h0
      (fun i v m₁ news₁ h tk own _ hP => step i v m₁ news₁ h tk own (by simpa using hP)) done

/-- zip called, and the loop over it -/
theorem iterZip {κ₁ κ₂ : SK} {x y : Str} {px py pt : Pos} {kt : Nat} {l1 l2 : Addr} {vs us : List Value} {m : Str → Option Value} {news : List (Addr × Obj)} (keep : List (Addr × Obj)) (J : Nat → (Str → Option Value) → List (Addr × Obj) → Prop)
    (hh : A.handled = none) (hx : env.kindOf x = some .local) (hy : env.kindOf y = some .local) (hp : (env.scope.kind == .class || (env.scope.kind == .module && env.locals != env.globals)) = false)
    (S1 : SeqAt κ₁ h₀ l1 vs.toArray keep) (S2 : SeqAt κ₂ h₀ l2 us.toArray keep) (hlen : vs.length = us.length) (hk : ∀ p ∈ keep, p ∈ news) (F : Fr h₀ env.locals s.heap m) (N : News h₀ env.locals s.heap news) (h0 : J 0 m news)
    (step : ∀ i va vb m₁ news₁ h tk own, vs[i]? = some va → us[i]? = some vb → news₁.map (·.1) = news.map (·.1) → (∀ p ∈ keep, p ∈ news₁) → OwnOff own (news.map (·.1)) → J i m₁ news₁ →
      Fr h₀ env.locals h (fun z => if z = y then some vb else if z = x then some va else m₁ z) → News h₀ env.locals h (news₁ ++ own) →
      wpAny (model prog w) A (execs body env) (InvPostN h₀ env.locals (fun m' nx => (∀ p ∈ keep, p ∈ nx) ∧ J (i + 1) m' nx) own (news.map (·.1)) { s with heap := h, toks := tk } Q) E { s with heap := h, toks := tk })
    (done : ∀ m₁ news₁ h tk, (∀ p ∈ keep, p ∈ news₁) → J vs.length m₁ news₁ → Fr h₀ env.locals h m₁ → News h₀ env.locals h news₁ → Q .next { s with heap := h, toks := tk }) :
    wpAny (model prog w) A (call (.type "zip") [.ref l1, .ref l2]) (fun xv s₁ => wpAny (model prog w) A (pyIter xv) (fun it s₂ => TurnsAt prog w A h₀ env (.Tuple [.Name x px, .Name y py] kt pt) body Q E it s₂) E s₁) E s := by
  have hl1 := S1.sq hk F N
  have hl2 := S2.sq hk F N
  obtain ⟨_, e1⟩ := SK.sq_get hl1
  obtain ⟨_, e2⟩ := SK.sq_get hl2
  have ll1 := Heap.lt_size e1
  have ll2 := Heap.lt_size e2
  have hLl1 := S1.ne hk F N
  have hLl2 := S2.ne hk F N
  refine zip_call κ₁ κ₂ hl1 hl2 fun h' S hsz' hkeep => wpAny_pyIter_zip S.z ?_
  have D := ktu_apart s.heap.objs.size l1 l2 ll1 ll2
  have hn : vs.toArray.size = vs.length := by simp
  have W := zip_walks (prog := prog) (w := w) (κ₁ := κ₁) (κ₂ := κ₂) (z := s.heap.objs.size + 4) (TI := s.heap.objs.size + 2) (TO := s.heap.objs.size + 3) (i1 := s.heap.objs.size) (i2 := s.heap.objs.size + 1) (xs := vs.toArray) (ys := us.toArray) hh D (by simpa using hlen)
  rw [hn] at W
  have hi : ∀ k, ∀ p ∈ news, p.1 ≠ s.heap.objs.size + k := fun k p hp => Nat.ne_of_lt (Nat.lt_of_lt_of_le (Heap.lt_size (N p hp).1) (Nat.le_add_right _ _))
  have hLk : ∀ k, env.locals ≠ s.heap.objs.size + k := fun k => Nat.ne_of_lt (Nat.lt_of_lt_of_le F.ns.lt (Nat.le_add_right _ _))
  have F' : Fr h₀ env.locals h' m := F.keeps hkeep
  have N' : News h₀ env.locals h' news := N.grown hkeep
  refine turnsPair (s := { s with heap := h' }) J hh hx hy hp W (fun i vals hv => ?_) S ?_ ?_ ?_ ?_ hk F' N' h0 (fun i va vb m₁ news₁ h tk own _ hP => ?_) done
  · obtain ⟨a, b, _, _, e⟩ := hv
    exact ⟨a, b, e⟩
  · intro hm
    simp only [List.mem_cons, List.not_mem_nil, or_false] at hm
    rcases hm with e | e | e | e | e | e | e
    · exact hLk 4 e
    · exact hLk 2 e
    · exact hLk 3 e
    · exact hLk 0 e
    · exact hLk 1 e
    · exact hLl1 e
    · exact hLl2 e
  · intro b hb
    simp only [List.mem_cons, List.not_mem_nil, or_false] at hb
    rcases hb with rfl | rfl | rfl | rfl
    · exact ktu_new F (Nat.le_add_right _ 4)
    · exact ktu_new F (Nat.le_add_right _ 3)
    · exact ktu_new F (Nat.le_refl _)
    · exact ktu_new F (Nat.le_add_right _ 1)
  · intro p hp hm
    simp only [List.mem_cons, List.not_mem_nil, or_false] at hm
    rcases hm with e | e | e | e
    · exact hi 4 p hp e
    · exact hi 3 p hp e
    · exact hi 0 p hp e
    · exact hi 1 p hp e
  · intro b hb
    simp only [List.mem_cons, List.not_mem_nil, or_false] at hb
    rcases hb with rfl | rfl | rfl | rfl | rfl | rfl | rfl
    · exact .inr (.inr (hi 4))
    · exact .inr (.inr (hi 2))
    · exact .inr (.inr (hi 3))
    · exact .inr (.inr (hi 0))
    · exact .inr (.inr (hi 1))
    · exact S1.at
    · exact S2.at
  · obtain ⟨a, b, ha, hb, e⟩ := hP
    have e' : va = a ∧ vb = b := by simpa using congrArg Array.toList e
    obtain ⟨rfl, rfl⟩ := e'
    exact step i va vb m₁ news₁ h tk own (by simpa using ha) (by simpa using hb)
end
end Lp
section Gz
theorem offGz : True := by w_top off; trivial
abbrev tupObj (vs : List Value) (n : Nat) : Obj := { cls := .type "tuple", data := .seq vs.toArray n }

theorem ints_of_get : ∀ {vs : List Value} {rs : List Int}, vs.length = rs.length → (∀ (j : Nat) (v : Value), vs[j]? = some v → ∃ (r : Int) (u : Tok), rs[j]? = some r ∧ v = Value.int r u) → IntsAre vs rs
  | [], [], _, _ => .nil
  | [], _ :: _, h, _ => by cases h
  | _ :: _, [], h, _ => by cases h
  | v :: vs, r :: rs, h, k => by
    obtain ⟨r', u, e, rfl⟩ := k 0 v rfl
    have e' : r = r' := by simpa using e
    subst e'
    exact .cons _ _ (ints_of_get (by simpa using h) fun j x hx => k (j + 1) x (by simpa using hx))

theorem passing_all (n : Nat) : passing (fun _ => true) n 0 = List.range n := by simp [passing]

/-- a generator made over pairs, not yet drawn from: what it will hand out, and what it may touch -/
def GenIs (prog : Program) (w : World) (A : Around) (h₀ : Heap) (L : Addr) (m : Str → Option Value) (P : Addr) (own : List (Addr × Obj)) (rs : List Int) (a : Addr) (s₀ s : Shared) : Prop :=
  ∃ ps fp wr g St, WalksS prog w A.in4 a fp wr (GenOnlyQ g) rs.length (fun j y => ∃ r u, rs[j]? = some r ∧ y = Value.int r u) St ∧ St 0 s ∧ (∀ i t, St i t → t.TypeIs (.ref a) "generator") ∧ a ∈ fp ∧ (∀ b ∈ fp, b < s.heap.objs.size) ∧
    (∀ b ∈ wr, s₀.heap.objs.size ≤ b) ∧ TriplesOk ps.toList ∧ Fr h₀ L s.heap m ∧ News h₀ L s.heap ((P, tabObj ps) :: own) ∧ AllBare s.gens ∧ s.drawn = s₀.drawn ∧ s.os = s₀.os ∧ L < s₀.heap.objs.size ∧ P < s₀.heap.objs.size ∧ (∀ p ∈ own, p.1 < s₀.heap.objs.size)

section
variable {prog : Program} {w : World} {A : Around} {E : Value → Shared → Prop} {s : Shared} {env : Env} {h₀ : Heap} {L : Addr} {m : Str → Option Value}

theorem genexprCode_both {c P : Addr} {ps : Array Value} {pos : Pos} {q : Str} {scope : Scope} {own : List (Addr × Obj)} {Q : Value → Shared → Prop} (hcode : env.code = .ref c) (F : Fr h₀ L s.heap m) (N : News h₀ L s.heap ((P, tabObj ps) :: own)) (off : ∀ p ∈ own, p.1 ≠ P)
    (ht : TriplesOk ps.toList) (C : CodeHd h₀ c P)
    (hQ : ∀ code h' tk ps', TriplesOk ps'.toList → Fr h₀ L h' m → News h₀ L h' ((P, tabObj ps') :: own) → s.heap.objs.size ≤ h'.objs.size → Heap.ExtBut P s.heap h' → Q code { s with heap := h', toks := tk }) :
    wpAny (model prog w) A (genexprCode env pos q scope) Q E s := by
  have hP := N _ (.head _)
  have C' := C.keeps F.keep
  have hc := C'.code hP.1 ht
  cases hnf : codeAmong pos ps.toList with
  | some cv =>
    unfold genexprCode
    exact wpAny_codeAt_hit hcode hc hnf (hQ cv s.heap s.toks ps ht F N (Nat.le_refl _) (Heap.ExtBut.refl _ _))
  | none =>
    refine wpAny_genexprCodeX hcode hc (C'.tab hP.1) hnf fun c' h' tk hx hge hlt _ _ htb _ => ?_
    refine hQ _ h' tk (ps ++ #[rawInt pos.line, rawInt pos.col, .ref c']) ?_ ⟨F.ns.extBut hx hP.2.1.symm, fun b o e => hx b o (fun q => by rw [q, hP.2.2] at e; cases e) (F.keep b o e), F.above⟩ (fun p hp => ?_) (Nat.le_trans hge (Nat.le_of_lt hlt)) hx
    · rw [show (ps ++ #[rawInt pos.line, rawInt pos.col, Value.ref c']).toList = ps.toList ++ [rawInt pos.line, rawInt pos.col, .ref c'] by simp]
      exact TriplesOk_snoc _ _ _ _ ht
    · rcases List.mem_cons.mp hp with rfl | hp
      · exact ⟨htb.2, hP.2⟩
      · have n := N p (.tail _ hp)
        exact ⟨hx _ _ (off p hp) n.1, n.2⟩

theorem genZip {κ₁ κ₂ : SK} {c P l1 l2 : Addr} {ps : Array Value} {vs us : List Value} {rs : List Int} {own : List (Addr × Obj)} {p : Program} {loose : List Str} {mean : ExcName → Option Value} {mg mb : Str → Option Value}
    {elt iter : Expr} {xa xb : Str} {pa pb pt : Pos} {kt : Nat} {scope : Scope} {cl : List (Str × Addr)} {pos : Pos} {Q : Value → Shared → Prop}
    (hh : A.handled = none) (hcode : env.code = .ref c) (hge : env.globals = mainGlobals) (F : Fr h₀ L s.heap m) (N : News h₀ L s.heap ((P, tabObj ps) :: own)) (off : ∀ p ∈ own, p.1 ≠ P) (ht : TriplesOk ps.toList) (T : Top p loose mean mg mb h₀) (C : CodeHd h₀ c P)
    (G : AllBare s.gens) (S1 : SeqAt κ₁ h₀ l1 vs.toArray own) (S2 : SeqAt κ₂ h₀ l2 us.toArray own) (h1 : vs.length = rs.length) (h2 : us.length = rs.length)
    (hco : scope.isCoroutine = false) (hclos : closureFor scope env = pure cl) (hcell : ∀ y ∈ scope.names, y.2 ≠ .cell) (h0 : scope.names.lookup (".0" : Str) = some NameKind.local)
    (hxa : scope.names.lookup xa = some .local) (hxb : scope.names.lookup xb = some .local) (hab : xa ≠ xb) (hkind : scope.kind = .function) (hroom : A.depth < recursionLimit)
    (hs : ∀ x, genFold iter env x = pure x)
    (hit : ∀ Q' : Value → Shared → Prop, (∀ tk, wpAny (model prog w) A (call (.type "zip") [.ref l1, .ref l2]) Q' E { s with toks := tk }) → wpAny (model prog w) A (eval iter env) Q' E s)
    (helt : ∀ (code : Value) (D : Addr) (A' : Around) (E' : Value → Shared → Prop) (i : Nat) (va vb : Value) (t : Shared) (m₂ : Str → Option Value), A'.handled = none → vs[i]? = some va → us[i]? = some vb → t.heap.Ns D m₂ → m₂ xa = some va → m₂ xb = some vb →
      wpAny (model prog w) A' (eval elt (genEnv scope cl D code builtinsNs env)) (fun y s₃ => (∃ r u, rs[i]? = some r ∧ y = Value.int r u) ∧ Keeps t s₃) E' t)
    (hQ : ∀ a s₅, GenIs prog w A h₀ L m P own rs a s s₅ → Q (.ref a) s₅) :
    wpAny (model prog w) A (eval (.GeneratorExp elt [⟨.Tuple [.Name xa pa, .Name xb pb] kt pt, iter, [], 0⟩] scope pos) env) Q E s := by
  refine wpAny_GeneratorExp_walksQT hh hco hclos hcell h0 hxa hxb hab hkind hroom (hit _ fun tk => ?_) hs
  have No : News h₀ L s.heap own := fun q hq => N q (.tail _ hq)
  have hl1 := S1.sq (fun _ h => h) F No
  have hl2 := S2.sq (fun _ h => h) F No
  obtain ⟨_, e1⟩ := SK.sq_get hl1
  obtain ⟨_, e2⟩ := SK.sq_get hl2
  have ll1 := Heap.lt_size e1
  have ll2 := Heap.lt_size e2
  have lP := Heap.lt_size (N _ (.head _)).1
  have lown : ∀ q ∈ own, q.1 < s.heap.objs.size := fun q hq => Heap.lt_size (No q hq).1
  have hcs : cStatics < s.heap.objs.size := by
    obtain ⟨_, hn, _⟩ := T.nolimit.keeps F.keep
    exact hn.lt
  have nP1 : l1 ≠ P := by
    rcases S1 with S | ⟨o, n, ho, _⟩
    · obtain ⟨o, e⟩ := SK.sq_get S
      intro q
      rw [q, (N _ (.head _)).2.2] at e
      cases e
    · exact off _ ho
  have nP2 : l2 ≠ P := by
    rcases S2 with S | ⟨o, n, ho, _⟩
    · obtain ⟨o, e⟩ := SK.sq_get S
      intro q
      rw [q, (N _ (.head _)).2.2] at e
      cases e
    · exact off _ ho
  refine zip_call (s := { s with toks := tk }) κ₁ κ₂ hl1 hl2 fun h' S hsz' hkeep => wpAny_pyIter_zip S.z ?_
  have F' : Fr h₀ L h' m := F.keeps hkeep
  have N' : News h₀ L h' ((P, tabObj ps) :: own) := N.grown hkeep
  refine ⟨T.nolimit.keeps F'.keep, ?_⟩
  refine genexprCode_both hcode F' N' off ht C fun code h₃ tk₃ ps' ht' F₃ N₃ hge₃ hx₃ => ?_
  obtain ⟨bm, ob, b1, b2, b3, b4, b5, b6⟩ := T.bmain
  rw [hge]
  refine wpAny_builtinsFor (T.g.keeps F₃.keep) b1 b2 (F₃.keep _ _ b3) b4 b5 b6 ?_
  have D := ktu_apart s.heap.objs.size l1 l2 ll1 ll2
  have hn : vs.toArray.size = rs.length := by simp [h1]
  have W : ∀ A' : Around, A'.handled = none → WalksU prog w A' (s.heap.objs.size + 4) [s.heap.objs.size + 4, s.heap.objs.size + 2, s.heap.objs.size + 3, s.heap.objs.size, s.heap.objs.size + 1, l1, l2] [s.heap.objs.size + 4, s.heap.objs.size + 3, s.heap.objs.size, s.heap.objs.size + 1] rs.length
      (fun i vals => ∃ x y, vs.toArray[i]? = some x ∧ us.toArray[i]? = some y ∧ vals = #[x, y]) (fun i h => ZipSt κ₁ κ₂ (s.heap.objs.size + 4) (s.heap.objs.size + 2) (s.heap.objs.size + 3) s.heap.objs.size (s.heap.objs.size + 1) l1 l2 vs.toArray us.toArray i .none h)
      (fun i T h => ZipSt κ₁ κ₂ (s.heap.objs.size + 4) (s.heap.objs.size + 2) (s.heap.objs.size + 3) s.heap.objs.size (s.heap.objs.size + 1) l1 l2 vs.toArray us.toArray (i + 1) (rawInt T) h ∧ T ∉ [s.heap.objs.size + 4, s.heap.objs.size + 3, s.heap.objs.size, s.heap.objs.size + 1]) := fun A' hA => by
    have W := zip_walks (prog := prog) (w := w) (κ₁ := κ₁) (κ₂ := κ₂) (xs := vs.toArray) (ys := us.toArray) (A := A') hA D (by simp [h1, h2])
    rw [hn] at W
    exact W
  have hkP : ∀ b ∈ [s.heap.objs.size + 4, s.heap.objs.size + 2, s.heap.objs.size + 3, s.heap.objs.size, s.heap.objs.size + 1, l1, l2], b ≠ P := fun b hb => by
    simp only [List.mem_cons, List.not_mem_nil, or_false] at hb
    rcases hb with rfl | rfl | rfl | rfl | rfl | rfl | rfl
    · exact Nat.ne_of_gt (Nat.lt_of_lt_of_le lP (Nat.le_add_right _ _))
    · exact Nat.ne_of_gt (Nat.lt_of_lt_of_le lP (Nat.le_add_right _ _))
    · exact Nat.ne_of_gt (Nat.lt_of_lt_of_le lP (Nat.le_add_right _ _))
    · exact Nat.ne_of_gt lP
    · exact Nat.ne_of_gt (Nat.lt_of_lt_of_le lP (Nat.le_add_right _ _))
    · exact nP1
    · exact nP2
  have hsz₃ : s.heap.objs.size + 5 ≤ h₃.objs.size := Nat.le_trans (Nat.le_of_eq hsz'.symm) hge₃
  have hwr : ∀ b ∈ [s.heap.objs.size + 4, s.heap.objs.size + 3, s.heap.objs.size, s.heap.objs.size + 1], s.heap.objs.size ≤ b := fun b hb => by
    simp only [List.mem_cons, List.not_mem_nil, or_false] at hb
    rcases hb with rfl | rfl | rfl | rfl <;> omega
  refine ⟨_, _, _, rs.length, _, _, _, fun _ => true, fun i y => ∃ r u, rs[i]? = some r ∧ y = Value.int r u, rfl, W, ?_, (W A hh).frame _ _ _ S fun b hb o e => hx₃ b o (hkP b hb) e, ?_, T.nolimit.keeps F₃.keep, fun hm => Nat.lt_irrefl _ (Nat.lt_of_lt_of_le hcs (hwr _ hm)), ?_, ?_⟩
  · rintro i vals ⟨x, y, _, _, e⟩
    exact ⟨x, y, e⟩
  · intro b hb
    simp only [List.mem_cons, List.not_mem_nil, or_false] at hb
    show b < h₃.objs.size
    rcases hb with rfl | rfl | rfl | rfl | rfl | rfl | rfl <;> (refine ltN ?_; first | omega | exact Nat.lt_of_lt_of_le ll1 (Nat.le_trans (Nat.le_add_right _ 5) hsz₃) | exact Nat.lt_of_lt_of_le ll2 (Nat.le_trans (Nat.le_add_right _ 5) hsz₃))
  · intro href _
    refine ⟨fun A' E' i va vb t m₂ hA hP hn' hma hmb _ => ?_, fun A' E' i va vb t m₂ hA hP _ hn' hma hmb _ => ?_⟩
    · rw [List.forIn_nil]
      exact wpAny_pure ⟨rfl, t.heap, t.toks, rfl, fun _ _ e => e⟩
    · obtain ⟨x, y, hx, hy, e⟩ := hP
      have e' : va = x ∧ vb = y := by simpa using congrArg Array.toList e
      obtain ⟨rfl, rfl⟩ := e'
      exact helt code _ A' E' i va vb t m₂ hA (by simpa using hx) (by simpa using hy) hn' hma hmb
  · intro a h₅ tk₅ gs hgb hag hsz₅ hk₅ W₅ hat
    have hag' : h₃.objs.size < a := hag
    rw [passing_all, List.length_range] at W₅
    have W₆ : WalksS prog w A.in4 a (a :: h₃.objs.size :: List.range h₃.objs.size) (h₃.objs.size :: [s.heap.objs.size + 4, s.heap.objs.size + 3, s.heap.objs.size, s.heap.objs.size + 1]) (GenOnlyQ s.gens.size) rs.length (fun j y => ∃ r u, rs[j]? = some r ∧ y = Value.int r u) _ := {
      sub := W₅.sub, grefl := W₅.grefl, gtrans := W₅.gtrans, frame := W₅.frame, done := W₅.done, self := W₅.self,
      item := fun i s Q E hi st hQ => W₅.item i s Q E hi st fun v s' hP st' hm => hQ v s' (by
        obtain ⟨k, hk, r, u, hr, hv⟩ := hP
        have hij : k = i := by
          have hi' : i < (List.range rs.length).length := by simpa using hi
          rw [List.getElem?_eq_getElem hi'] at hk
          have := Option.some.inj hk
          simpa using this.symm
        subst hij
        exact ⟨r, u, hr, hv⟩) st' hm }
    refine hQ a _ ⟨ps', _, _, _, _, W₆, hat, fun i t st => st.1.typeIs, .head _, ?_, ?_, ht', F₃.keeps hk₅, N₃.grown hk₅, G.push hgb, rfl, rfl, F.ns.lt, lP, lown⟩
    · intro b hb
      show b < h₅.objs.size
      rw [hsz₅]
      rcases List.mem_cons.mp hb with rfl | hb
      · exact Nat.lt_succ_self _
      · rcases List.mem_cons.mp hb with rfl | hb
        · exact Nat.lt_succ_of_lt hag'
        · exact Nat.lt_succ_of_lt (Nat.lt_trans (List.mem_range.mp hb) hag')
    · intro b hb
      rcases List.mem_cons.mp hb with rfl | hb
      · omega
      · exact hwr b hb

theorem tupleOfGen {P a : Addr} {own : List (Addr × Obj)} {rs : List Int} {s₀ : Shared} {Q : Value → Shared → Prop} (X : GenIs prog w A h₀ L m P own rs a s₀ s) (hz : rs.length ≤ 1000)
    (hQ : ∀ D ps vs h' tk g, TriplesOk ps.toList → AllBare g → IntsAre vs rs → Fr h₀ L h' m → News h₀ L h' ((D, tupObj vs 0) :: (P, tabObj ps) :: own) → (∀ p ∈ own, p.1 < D) → P < D → Q (.ref D) { s₀ with heap := h', toks := tk, gens := g }) :
    wpAny (model prog w) A (call (.type "tuple") [.ref a]) Q E s := by
  obtain ⟨ps, fp, wr, g, St, W, hst, hT, hI, hfp, hwr, ht, F, N, G, hd, hos, lL, lP, lown⟩ := X
  refine call_tuple_gen (hsz := by rw [sizeLine_eq]; omega) W.in4_3 hT hst hfp hI fun s' acc hm hacc => ?_
  have hkeep : ∀ b o, b < s₀.heap.objs.size → s.heap.get? b = some o → s'.heap.get? b = some o := fun b o hb e => hm.heap b o (fun hw => Nat.lt_irrefl _ (Nat.lt_of_lt_of_le hb (hwr _ hw))) e
  have F₁ : Fr h₀ L s'.heap m := ⟨F.ns.at fun o e => hkeep L o lL e, fun b o e => hkeep b o (Nat.lt_trans (Nat.lt_of_lt_of_le (Heap.lt_size e) F.above) lL) (F.keep b o e), F.above⟩
  have N₁ : News h₀ L s'.heap ((P, tabObj ps) :: own) := fun p hp => ⟨hkeep _ _ (by
    rcases List.mem_cons.mp hp with rfl | hp
    · exact lP
    · exact lown p hp) (N p hp).1, (N p hp).2⟩
  have e : ({ s' with heap := s'.heap.push { cls := .type "tuple", data := .seq acc } } : Shared) = { s₀ with heap := s'.heap.push { cls := .type "tuple", data := .seq acc }, toks := s'.toks, gens := s'.gens } := by
    obtain ⟨h1, g1, d1, t1, o1⟩ := s'
    have hd' := hm.drawn.trans hd
    have ho' := hm.os.trans hos
    dsimp only at hd' ho' ⊢
    rw [hd', ho']
  rw [e]
  have ev : acc = acc.toList.toArray := by simp
  have hsz : s'.heap.objs.size < (s'.heap.push { cls := .type "tuple", data := .seq acc }).objs.size := by rw [Heap.size_push]; exact Nat.lt_succ_self _
  refine hQ _ ps acc.toList _ _ _ ht (G.movedS hm) (ints_of_get (by simp [hacc.1]) fun j v hv => hacc.2 j v (by simpa using hv)) (F₁.push _) (fun p hp => ?_) (fun p hp => Heap.lt_size (N₁ p (.tail _ hp)).1) (Heap.lt_size (N₁ _ (.head _)).1)
  rcases List.mem_cons.mp hp with rfl | hp
  · refine ⟨?_, Nat.ne_of_gt F₁.ns.lt, next_is_new F₁⟩
    show (s'.heap.push { cls := .type "tuple", data := .seq acc }).get? s'.heap.objs.size = some _
    rw [Heap.get?_push_size _ rfl]
  · exact ⟨Heap.get?_push_of_some _ (N₁ p hp).1, (N₁ p hp).2⟩
end
end Gz
section Ba
theorem offBa : True := by w_top off; trivial
theorem frPut {h₀ h : Heap} {L : Addr} {m : Str → Option Value} {x : Str} {v : Value} (F : Fr h₀ L h m) (e : m x = some v) : Fr h₀ L h (fun y => if y = x then some v else m y) := by
  have q : (fun y => if y = x then some v else m y) = m := by
    funext y
    by_cases hy : y = x
    · rw [if_pos hy, hy, e]
    · rw [if_neg hy]
  rw [q]
  exact F
theorem take_succ_prod {ns : List Int} {i : Nat} {x : Int} (h : ns[i]? = some x) : (ns.take (i + 1)).prod = (ns.take i).prod * x := by
  rw [List.take_add_one, h]
  simp
theorem prod_bound {c : Int} (hc : 1 ≤ c) : ∀ {ns : List Int}, (∀ x ∈ ns, 1 ≤ x ∧ x ≤ c) → 1 ≤ ns.prod ∧ ns.prod ≤ c ^ ns.length
  | [], _ => by simp
  | x :: r, h => by
    have ih := prod_bound hc (ns := r) fun y hy => h y (.tail _ hy)
    have hx := h x (.head _)
    rw [List.prod_cons, List.length_cons, Int.pow_succ]
    constructor
    · have := Int.mul_le_mul hx.1 ih.1 (by decide) (by omega)
      omega
    · have := Int.mul_le_mul hx.2 ih.2 (by omega) (by omega)
      rw [Int.mul_comm c] at this
      exact this
theorem memL {α : Type} {a b : List α} : ∀ p ∈ a, p ∈ a ++ b := fun _ h => List.mem_append_left _ h
theorem memR {α : Type} {a b : List α} : ∀ p ∈ b, p ∈ a ++ b := fun _ h => List.mem_append_right _ h
end Ba
section Rv
theorem offRv : True := by w_top off; trivial
theorem tup_no_rev : typeLookup (.type "tuple") "__reversed__" = pure none := by rw [typeLookup_type, builtinLookup_eq_fast]; kernel_rfl
theorem tup_no_dict : isSubtype (.type "tuple") (.type "dict") = pure false := by rw [isSubtype_type]; kernel_rfl
theorem rev_owner : Manifest.owners.lookup (String.ofList ['d', 'e', 's', 'r', 'e', 'v', 'e', 'r'].reverse) = some Manifest.sig_reversed := by kernel_rfl
theorem rev_slot_next : Slot "reversed" "__next__" "reversed.__next__" :=
  .of (owner := "reversed") (n := "__next__") (by rw [typeLookup_type, builtinLookup_eq_fast]; kernel_rfl) (by decide +kernel) (by decide +kernel) (by decide +kernel)
    (by first | exact .inl (by decide +kernel) | exact .inr (by decide +kernel)) (by rw [isSubtype_type]; kernel_rfl)
theorem rev_entry_next : entryFor table "reversed.__next__" = some Builtin.«reversed.__next__» := entryFor_of_tree (by kernel_rfl)
theorem rev_args_next (a : Value) : argsOk "reversed.__next__" ⟨[a], []⟩ := by
  unfold argsOk; rw [signature?_of (id := "reversed.__next__") (n := ['_', '_', 't', 'x', 'e', 'n', '_', '_']) (o := ['d', 'e', 's', 'r', 'e', 'v', 'e', 'r']) (by kernel_rfl) rev_owner]; kernel_rfl
theorem rev_slot_iter : Slot "reversed" "__iter__" "reversed.__iter__" :=
  .of (owner := "reversed") (n := "__iter__") (by rw [typeLookup_type, builtinLookup_eq_fast]; kernel_rfl) (by decide +kernel) (by decide +kernel) (by decide +kernel)
    (by first | exact .inl (by decide +kernel) | exact .inr (by decide +kernel)) (by rw [isSubtype_type]; kernel_rfl)
theorem rev_args_iter (a : Value) : argsOk "reversed.__iter__" ⟨[a], []⟩ := by
  unfold argsOk; rw [signature?_of (id := "reversed.__iter__") (n := ['_', '_', 'r', 'e', 't', 'i', '_', '_']) (o := ['d', 'e', 's', 'r', 'e', 'v', 'e', 'r']) (by kernel_rfl) rev_owner]; kernel_rfl
theorem rev_entry_iter : entryFor table "reversed.__iter__" = some Builtin.«dict_keyiterator.__iter__» :=
  entryFor_alias (id' := "dict_keyiterator.__iter__") (by kernel_rfl) (by first | rfl | decide +kernel | (unfold String.splitOn; simp +decide [String.splitOnAux])) (by decide +kernel) (by kernel_rfl)

abbrev rtObj (t : Addr) (i : Int) : Obj := { cls := .type "reversed", data := .fields #[.ref t, rawInt i] }
/-- a reversed iterator over a tuple -/
def IsRT (h : Heap) (a t : Addr) (i : Int) : Prop := ∃ o, h.get? a = some o ∧ o.cls = .type "reversed" ∧ o.data = .fields #[.ref t, rawInt i]
theorem IsRT.at {h h' : Heap} {a t : Addr} {i : Int} (x : IsRT h a t i) (e : ∀ o, h.get? a = some o → h'.get? a = some o) : IsRT h' a t i := let ⟨o, ho, r⟩ := x; ⟨o, e _ ho, r⟩
theorem IsRT.typeIs {s : Shared} {a t : Addr} {i : Int} (x : IsRT s.heap a t i) : s.TypeIs (.ref a) "reversed" := let ⟨o, ho, hc, _⟩ := x; ⟨o, ho, hc⟩

section
variable {prog : Program} {w : World} {A : Around} {E : Value → Shared → Prop} {s : Shared}

theorem rev_new {t : Addr} {items : Array Value} {Q₁ : Value → Shared → Prop} (ht : IsTup s.heap t items) (hz : items.size ≤ 1000)
    (h : ∀ tk, Q₁ (.ref s.heap.objs.size) { s with heap := s.heap.push (rtObj t ((items.size : Int) - 1)), toks := tk }) :
    codeAny (model prog w) A (.call (.builtin "reversed.__new__") ⟨[.type "reversed", .ref t], []⟩) (wants Q₁ E) s := by
  refine codeAny_of_tree ?_
  show wpAny _ A.in1 (do checkBuiltinCall "reversed.__new__" ⟨[.type "reversed", .ref t], []⟩; again (.builtin "reversed.__new__" ⟨[.type "reversed", .ref t], []⟩)) _ _ s
  refine wpAny_bind (wpAny_of_eq (F.newCall_reversed_1 _) (wpAny_pure ⟨plainId_quiet F.plain_reversed_new _, codeAny_builtin F.entry_reversed_new ?_⟩))
  rw [Around.under_plainId F.plain_reversed_new _]
  unfold Builtin.«reversed.__new__»
  refine wpAny_bind (wpAny_of_eq (newClass_reversed _) ?_)
  try dsimp only
  refine wpAny_bind (wpAny_of_eq (a := ()) (by first | rfl | kernel_rfl) ?_)
  refine wpAny_bind (wpAny_of_eq (a := ()) (by first | rfl | kernel_rfl) ?_)
  try dsimp only
  refine wpAny_bind (wpAny_specialOf ht.typeIs tup_no_rev ?_)
  try dsimp only
  refine wpAny_bind ?_
  show wpAny _ _ (isInstance (.ref t) (.type "dict") >>= _) _ _ s
  refine wpAny_bind (wpAny_isInstance ht.typeIs tup_no_dict ?_)
  try dsimp only
  show wpAny _ _ (specialOf (.ref t) "__getitem__" >>= _) _ _ s
  refine wpAny_bind (wpAny_specialOf ht.typeIs PyProof.Rows.slot_tuple_getitem.lookup ?_)
  try dsimp only
  refine wpAny_of_eq (a := true) (by first | rfl | (simp; rfl) | kernel_rfl) ?_
  try dsimp only
  show wpAny _ _ (call (.builtin "len") [.ref t] >>= _) _ _ s
  refine wpAny_bind (PyProof.Rows.len_tuple ht (by omega) ?_)
  refine wpAny_bind (wpAny_of_eq (a := some (items.size : Int)) rfl ?_)
  try dsimp only
  refine wpAny_bind ?_
  show wpAny _ _ (newObj (.type "reversed") (.fields #[.ref t, rawInt ((items.size : Int) - 1)])) _ _ _
  refine wpAny_newObj_type ?_ (by size_fits)
  exact wpAny_pure (h _)

theorem rev_slot_init : Slot "reversed" "__init__" "object.__init__" :=
  .of (owner := "object") (n := "__init__") (by rw [typeLookup_type, builtinLookup_eq_fast]; kernel_rfl) (by decide +kernel) (by decide +kernel) (by decide +kernel)
    (by first | exact .inl (by decide +kernel) | exact .inr (by decide +kernel)) (by rw [isSubtype_type]; kernel_rfl)
theorem rev_called : TypeCalled "reversed" "reversed.__new__" "object.__init__" :=
  ⟨by decide +kernel, F.create_reversed, ⟨_, _, F.mro_reversed⟩, F.made_reversed, F.plain_reversed_new, F.sub_reversed_self, rev_slot_init⟩

theorem rev_call {t : Addr} {items : Array Value} {Q : Value → Shared → Prop} (ht : IsTup s.heap t items) (hz : items.size ≤ 1000)
    (h : ∀ tk, Q (.ref s.heap.objs.size) { s with heap := s.heap.push (rtObj t ((items.size : Int) - 1)), toks := tk }) :
    wpAny (model prog w) A (call (.type "reversed") [.ref t]) Q E s := by
  refine callType_codes (Q₁ := fun obj s₁ => s₁.TypeIs obj "reversed" ∧ Q obj s₁) rev_called (F.typeCall_reversed_1 _) F.entry_object_init
    (rev_new ht hz fun tk => ⟨⟨_, Heap.get?_push_size _ rfl, rfl⟩, h tk⟩) fun obj s₁ h₁ => ?_
  exact ⟨h₁.1, F.args_object_init_2 obj _, object_init_meets rev_called.init.lookup rev_called.made (by decide) prog w A.in1 _ s₁ ⟨h₁.1, rfl, h₁.2⟩⟩

theorem rev_next {it t : Addr} {i : Nat} {items : Array Value} {x : Value} {Q : Option Value → Shared → Prop} (hit : IsRT s.heap it t (i : Int)) (ht : IsTup s.heap t items) (hx : items[i]? = some x) (hz : items.size ≤ 1000)
    (hQ : ∀ h' tk, IsRT h' it t ((i : Int) - 1) → Heap.SameBut it s.heap h' → Q (some x) { s with heap := h', toks := tk }) : wpAny (model prog w) A (pyNext (.ref it)) Q E s := by
  obtain ⟨o, ho, hc, hd⟩ := id hit
  have hlt : i < items.size := by
    rcases Nat.lt_or_ge i items.size with q | q
    · exact q
    · rw [Array.getElem?_eq_none q] at hx; cases hx
  unfold pyNext
  refine wpAny_bind (wpAny_attempt (wpAny_callSpecial?_slot (name := Str.ofString "__next__") hit.typeIs rev_slot_next
    (wpAny_call_entry rev_slot_next hit.typeIs rev_entry_next ?_ (rev_args_next _))))
  unfold Builtin.«reversed.__next__»
  refine wpAny_bind (wpAny_of_eq (a := (Value.ref it, [])) rfl ?_)
  try dsimp only
  refine wpAny_bind (wpAny_field ho hd (x := .ref t) rfl ?_)
  show wpAny _ _ (field (.ref it) 1 >>= _) _ _ s
  refine wpAny_bind (wpAny_field ho hd (x := rawInt (i : Int)) rfl ?_)
  show wpAny _ _ (if (i : Int) < 0 then _ else _) _ _ s
  rw [if_neg (by omega)]
  show wpAny _ _ (specialOf (.ref t) "__getitem__" >>= _) _ _ s
  refine wpAny_bind (wpAny_specialOf ht.typeIs PyProof.Rows.slot_tuple_getitem.lookup ?_)
  show wpAny _ _ (mkInt (i : Int) >>= _) _ _ s
  refine wpAny_bind (wpAny_mkInt ?_)
  refine wpAny_bind (wpAny_attempt (PyProof.Rows.getItem_tuple (s := { s with toks := _ }) ht (j := i) (x := x) (by omega) (by omega) ?_ hx ?_))
  · unfold seqIndex?
    first | (simp [hlt]; done) | (split <;> simp_all <;> omega)
  try dsimp only
  show wpAny _ _ (field (.ref it) 1 >>= _) _ _ _
  refine wpAny_bind (wpAny_field (s := { s with toks := _ }) ho hd (x := rawInt (i : Int)) rfl ?_)
  show wpAny _ _ (setField (.ref it) 1 (rawInt ((i : Int) - 1)) >>= _) _ _ _
  refine wpAny_bind (wpAny_setField (s := { s with toks := _ }) ho hd (by simp) ?_)
  first
  | refine wpAny_pure ⟨x, rfl, wpAny_pure (hQ _ _ ?_ (Heap.SameBut.update ..))⟩
  | refine wpAny_bind (wpAny_pure (wpAny_pure ⟨x, rfl, wpAny_pure (hQ _ _ ?_ (Heap.SameBut.update ..))⟩))
  exact ⟨_, Heap.get?_update_self _ ho (Obj.isFreed_of_fields (Obj.data_mapFields hd _)), (Obj.cls_mapFields ..).trans hc, by
    rw [Obj.data_mapFields hd]; simp⟩

theorem rev_end {it t : Addr} {Q : Option Value → Shared → Prop} (hh : A.handled = none) (hit : IsRT s.heap it t (-1))
    (hQ : ∀ h', Heap.ExtBut it s.heap h' → Q none { s with heap := h' }) : wpAny (model prog w) A (pyNext (.ref it)) Q E s := by
  obtain ⟨o, ho, hc, hd⟩ := id hit
  unfold pyNext
  refine wpAny_bind (wpAny_attempt (wpAny_callSpecial?_slot (name := Str.ofString "__next__") hit.typeIs rev_slot_next
    (wpAny_call_entry rev_slot_next hit.typeIs rev_entry_next ?_ (rev_args_next _))))
  unfold Builtin.«reversed.__next__»
  refine wpAny_bind (wpAny_of_eq (a := (Value.ref it, [])) rfl ?_)
  try dsimp only
  refine wpAny_bind (wpAny_field ho hd (x := .ref t) rfl ?_)
  show wpAny _ _ (field (.ref it) 1 >>= _) _ _ s
  refine wpAny_bind (wpAny_field ho hd (x := rawInt (-1)) rfl ?_)
  show wpAny _ _ (if (-1 : Int) < 0 then _ else _) _ _ s
  rw [if_pos (by decide)]
  refine wpAny_bind (wpAny_rule ?_)
  refine wpAny_bind ?_
  show wpAny _ _ (setField (.ref it) 1 (rawInt (-1)) >>= _) _ _ s
  refine wpAny_bind (wpAny_setField ho hd (by simp) ?_)
  refine wpAny_setField (Heap.get?_update_self _ ho (Obj.isFreed_of_fields (Obj.data_mapFields hd _))) (Obj.data_mapFields hd _) (by simp) ?_
  refine wpAny_bind ?_
  show wpAny _ _ (newExc (.type "StopIteration") [] >>= _) _ _ _
  refine wpAny_bind ?_
  simp only [newExc, newTuple]
  refine wpAny_bind (wpAny_newObj_type ?_ (by size_fits))
  refine wpAny_bind (m := firstArgMember _ _) (wpAny_of_eq (a := Value.none) (by first | rfl | (simp only [firstArgMember]; rfl)) ?_)
  refine wpAny_newObj_type ?_ (by size_fits)
  simp only [raiseNew]
  refine wpAny_bind (wpAny_handled ?_)
  first | rw [show A.in1.handled = none from hh] | rw [hh]
  refine wpAny_bind (wpAny_pure (wpAny_throw ?_))
  refine wpAny_bind (wpAny_isInstance (T := "StopIteration") (b := true) ⟨_, Heap.get?_push_size _ rfl, rfl⟩ isSubtype_stop ?_)
  exact wpAny_pure (hQ _ ((((Heap.SameBut.update ..).extBut.trans (Heap.SameBut.update ..).extBut).push _).push _))

theorem rev_iter {it t : Addr} {i : Int} {Q : Value → Shared → Prop} (hit : IsRT s.heap it t i) (h : Q (.ref it) s) : wpAny (model prog w) A (pyIter (.ref it)) Q E s := by
  refine wpAny_pyIter_slot hit.typeIs rev_slot_iter (wpAny_call_entry rev_slot_iter hit.typeIs rev_entry_iter ?_ (rev_args_iter _))
  show wpAny _ _ (ret (.ref it)) _ _ s
  exact wpAny_pure ⟨_, rfl, "reversed", _, hit.typeIs, rev_slot_next.lookup, h⟩

theorem rev_go {target : Expr} {I t : Addr} {i : Int} {v : Value} {Q' : Unit → Shared → Prop} (hit : IsRT s.heap I t i) (h : Q' () s) :
    wpAny (model prog w) A (letOwnedTupleGo target (.ref I) v) Q' E s := by
  obtain ⟨o, ho, hc, hd⟩ := hit
  unfold letOwnedTupleGo
  cases target <;> first
    | exact wpAny_pure h
    | (cases v <;> first
        | exact wpAny_pure h
        | (refine wpAny_bind (wpAny_load ho ?_)
           rw [hc, hd]
           exact wpAny_pure h))
end

theorem rev_walks {prog : Program} {w : World} {A : Around} (hh : A.handled = none) (I t : Addr) (hne : t ≠ I) (items : Array Value) (hz : items.size ≤ 1000) :
    Walks prog w A I [I, t] [I] items.size (fun i v => items[items.size - 1 - i]? = some v) (fun i h => i ≤ items.size ∧ IsRT h I t ((items.size : Int) - 1 - (i : Int)) ∧ IsTup h t items) where
  sub := fun b hb => by simp at hb; simp [hb]
  frame := fun _ _ _ x hk => ⟨x.1, x.2.1.at fun o e => hk I (by simp) o e, let ⟨o, ho, r⟩ := x.2.2; ⟨o, hk t (by simp) o ho, r⟩⟩
  item := fun i s Q E hi x hQ => by
    have e : (items.size : Int) - 1 - (i : Int) = ((items.size - 1 - i : Nat) : Int) := by omega
    have hit := x.2.1
    rw [e] at hit
    have hx : items[items.size - 1 - i]? = some (items[items.size - 1 - i]'(by omega)) := Array.getElem?_eq_getElem (by omega)
    refine rev_next hit x.2.2 hx hz fun h' tk hit' hs' => ?_
    have e2 : ((items.size - 1 - i : Nat) : Int) - 1 = (items.size : Int) - 1 - ((i + 1 : Nat) : Int) := by omega
    rw [e2] at hit'
    exact hQ _ h' tk hx ⟨hi, hit', let ⟨o, ho, r⟩ := x.2.2; ⟨o, (hs'.2 t hne).trans ho, r⟩⟩ fun b o hb eo => hs'.extBut b o (fun h => hb (by simp [h])) eo
  done := fun s Q E x hQ => by
    have e : (items.size : Int) - 1 - (items.size : Int) = -1 := by omega
    have hit := x.2.1
    rw [e] at hit
    exact rev_end hh hit fun h' he' => hQ h' s.toks fun b o hb eo => he' b o (fun h => hb (by simp [h])) eo
  self := fun _ _ _ _ x hQ => rev_iter x.2.1 hQ

section
variable {prog : Program} {w : World} {A : Around} {E : Value → Shared → Prop} {s : Shared} {env : Env} {h₀ : Heap} {body : List Stmt} {Q : Flow → Shared → Prop}
/-- reversed called over a tuple, and the loop over it -/
theorem iterRev {x : Str} {px : Pos} {l : Addr} {vs : List Value} {m : Str → Option Value} {news : List (Addr × Obj)} (keep : List (Addr × Obj)) (J : Nat → (Str → Option Value) → List (Addr × Obj) → Prop)
    (hh : A.handled = none) (hx : env.kindOf x = some .local) (hp : (env.scope.kind == .class || (env.scope.kind == .module && env.locals != env.globals)) = false) (hz : vs.length ≤ 1000)
    (S : SeqAt .tup h₀ l vs.toArray keep) (hk : ∀ p ∈ keep, p ∈ news) (F : Fr h₀ env.locals s.heap m) (N : News h₀ env.locals s.heap news) (h0 : J 0 m news)
    (step : ∀ i v m₁ news₁ h tk own, vs.reverse[i]? = some v → news₁.map (·.1) = news.map (·.1) → (∀ p ∈ keep, p ∈ news₁) → OwnOff own (news.map (·.1)) → J i m₁ news₁ → Fr h₀ env.locals h (fun y => if y = x then some v else m₁ y) → News h₀ env.locals h (news₁ ++ own) →
      wpAny (model prog w) A (execs body env) (InvPostN h₀ env.locals (fun m' nx => (∀ p ∈ keep, p ∈ nx) ∧ J (i + 1) m' nx) own (news.map (·.1)) { s with heap := h, toks := tk } Q) E { s with heap := h, toks := tk })
    (done : ∀ m₁ news₁ h tk, (∀ p ∈ keep, p ∈ news₁) → J vs.length m₁ news₁ → Fr h₀ env.locals h m₁ → News h₀ env.locals h news₁ → Q .next { s with heap := h, toks := tk }) :
    wpAny (model prog w) A (call (.type "reversed") [.ref l]) (fun xv s₁ => wpAny (model prog w) A (pyIter xv) (fun it s₂ => TurnsAt prog w A h₀ env (.Name x px) body Q E it s₂) E s₁) E s := by
  have hl := S.sq hk F N
  obtain ⟨ol, el⟩ := SK.sq_get hl
  have hlt : l < s.heap.objs.size := Heap.lt_size el
  have hLl := S.ne hk F N
  have hn : vs.toArray.size = vs.length := by simp
  have F' : Fr h₀ env.locals (s.heap.push (rtObj l ((vs.toArray.size : Int) - 1))) m := F.push _
  have N' : News h₀ env.locals (s.heap.push (rtObj l ((vs.toArray.size : Int) - 1))) news := N.grown fun _ _ e => Heap.get?_push_of_some _ e
  have fresh : ∀ p ∈ news, p.1 ≠ s.heap.objs.size := fun p hp => Nat.ne_of_lt (Heap.lt_size (N p hp).1)
  have fp : ∀ b ∈ [s.heap.objs.size, l], (∃ o, (b, o) ∈ keep) ∨ (∃ o, h₀.get? b = some o) ∨ ∀ p ∈ news, p.1 ≠ b := fun b hb => by
    rcases List.mem_cons.mp hb with rfl | hb
    · exact .inr (.inr fresh)
    · rw [List.mem_singleton.mp hb]; exact S.at
  have hL : env.locals ∉ [s.heap.objs.size, l] := fun hm => by
    rcases List.mem_cons.mp hm with e | hm
    · exact absurd F.ns.lt (e ▸ Nat.lt_irrefl _)
    · exact hLl (List.mem_singleton.mp hm)
  have wr : ∀ b ∈ [s.heap.objs.size], h₀.get? b = none := fun b hb => by rw [List.mem_singleton.mp hb]; exact next_is_new F
  have nw : ∀ p ∈ news, p.1 ∉ [s.heap.objs.size] := fun p hp hm => fresh p hp (List.mem_singleton.mp hm)
  have hit : IsRT (s.heap.push (rtObj l ((vs.toArray.size : Int) - 1))) s.heap.objs.size l ((vs.toArray.size : Int) - 1) := ⟨_, Heap.get?_push_size _ rfl, rfl, rfl⟩
  refine rev_call hl (by omega) fun tk => rev_iter (s := { s with heap := _, toks := tk }) hit ?_
  have W := rev_walks (prog := prog) (w := w) hh s.heap.objs.size l (Nat.ne_of_lt hlt) vs.toArray (by omega)
  have e0 : (vs.toArray.size : Int) - 1 - ((0 : Nat) : Int) = (vs.toArray.size : Int) - 1 := by omega
  have hst : (0 ≤ vs.toArray.size ∧ IsRT (s.heap.push (rtObj l ((vs.toArray.size : Int) - 1))) s.heap.objs.size l ((vs.toArray.size : Int) - 1 - ((0 : Nat) : Int)) ∧ IsTup (s.heap.push (rtObj l ((vs.toArray.size : Int) - 1))) l vs.toArray) :=
    ⟨Nat.zero_le _, by rw [e0]; exact hit, SK.sq_keep (κ := .tup) hl fun o e => Heap.get?_push_of_some _ e⟩
  refine turnsName (s := { s with heap := s.heap.push (rtObj l ((vs.toArray.size : Int) - 1)), toks := tk }) J hx hp W (fun i v s Q E st q => rev_go st.2.1 q) hst hL wr nw fp hk F' N' h0
    (fun i v m₁ news₁ h tk own hi hP => step i v m₁ news₁ h tk own ?_) (fun m₁ news₁ h tk a b => done m₁ news₁ h tk a (by rw [hn] at b; exact b))
  have hi' : i < vs.length := by rw [hn] at hi; exact hi
  rw [List.getElem?_reverse hi']
  simpa using hP
end
end Rv
section Pr
theorem offPr : True := by w_top off; trivial
local macro_rules | `(tactic| ktr_unf) => `(tactic| repeat' (
  (fail_if_success (with_reducible show wpAny _ _ (exec (Stmt.For _ _ _ _ _) _) _ _ _));
  (fail_if_success (with_reducible show wpAny _ _ (pyIter _) _ _ _));
  (fail_if_success (with_reducible show wpAny _ _ (call (Value.type "zip") _ _) _ _ _));
  (fail_if_success (with_reducible show wpAny _ _ (eval (Expr.ListComp _ _ _ _) _) _ _ _));
  (fail_if_success (with_reducible show wpAny _ _ (eval (Expr.GeneratorExp _ _ _ _) _) _ _ _));
  (fail_if_success (with_reducible show InvPostN _ _ _ _ _ _ _ _ _));
  first | (k_unfold; (try dsimp only)) | (k_end; wrow_close) | walk1 | (dsimp only; walk1) | (leave1; walk_say "STEP leave1"; try dsimp only)))
theorem prod_le {ns : List Int} (hns : ∀ x ∈ ns, 1 ≤ x ∧ x ≤ 5) (hlen : ns.length ≤ 5) : 1 ≤ ns.prod ∧ ns.prod ≤ 3125 := by
  have h := prod_bound (c := 5) (by decide) hns
  refine ⟨h.1, Int.le_trans h.2 ?_⟩
  have : ns.length = 0 ∨ ns.length = 1 ∨ ns.length = 2 ∨ ns.length = 3 ∨ ns.length = 4 ∨ ns.length = 5 := by omega
  rcases this with e | e | e | e | e | e <;> rw [e] <;> decide
theorem prod_take_le {ns : List Int} (hns : ∀ x ∈ ns, 1 ≤ x ∧ x ≤ 5) (hlen : ns.length ≤ 5) (i : Nat) : 1 ≤ (ns.take i).prod ∧ (ns.take i).prod ≤ 3125 :=
  prod_le (fun x hx => hns x (List.mem_of_mem_take hx)) (by rw [List.length_take]; omega)
set_option maxRecDepth 100000 in
set_option maxHeartbeats 4000000 in
theorem prod_ok {w : World} {dp un : Nat} {gd : Option (List Code)} {cn : Str} {cs : Scope} {a' : Addr} {ccd : Value} {cl : List (Str × Addr)} {outer : List Env} {A₀ : Around} {base h₀ : Heap} {L : Addr} {m : Str → Option Value} {s : Shared}
    {p : Program} {loose : List Str} {mean : ExcName → Option Value} {mg mb : Str → Option Value} {Q E : Value → Shared → Prop}
    {t : Addr} {n : Nat} {vs : List Value} {ns : List Int} {news : List (Addr × Obj)}
    (B : Below A₀ base outer h₀) (F : Fr h₀ L s.heap m) (X : (hd.heap_39 w.params).In h₀) (N : News h₀ L s.heap news) (T : Top p loose mean mg mb h₀)
    (hk : cs.kind = .function) (hd : dp < 900) (ht : (t, tupObj vs n) ∈ news)
    (hi : IntsAre vs ns) (hns : ∀ x ∈ ns, 1 ≤ x ∧ x ≤ 5) (hlen : ns.length ≤ 5)
    (ret : ∀ u h tk, Fr h₀ L h m → News h₀ L h news → Q (.int ns.prod u) { s with heap := h, toks := tk }) :
    wpAny (model PySem.Challenge.rw_au0025_01.row.prog w) (ktrTop dp un gd cn cs L a' ccd cl outer) (call (.ref 42) [.ref t]) Q E s := by
  revert X; k_fill; intro X
  refine wpAny_call ?_
  k_dflt ktr_enter
  ktr_unf
  rename Fr _ _ _ _ => F2
  rename News _ _ _ _ => N2
  refine For_turns F2 ?_
  ktr_unf
  refine iterSeq (κ := .tup) [(t, tupObj vs n)] (fun i m' nx => nx = news ∧ (∃ u, m' (Str.ofString "ret") = some (.int (ns.take i).prod u))) rfl rfl rfl (.inr ⟨_, n, .head _, rfl, rfl⟩)
    (fun p hp => by rw [List.mem_singleton.mp hp]; exact ht) F2 N2 ⟨rfl, ⟨_, rfl⟩⟩ ?_ ?_
  · rintro i v m₁ news₁ h tk own hv ha hkp hoff ⟨rfl, u, hret⟩ F₁ N₁
    have hil : i < ns.length := by rw [← hi.length]; exact (List.getElem?_eq_some_iff.mp hv).1
    obtain ⟨x, hx⟩ : ∃ x, ns[i]? = some x := ⟨_, List.getElem?_eq_getElem hil⟩
    obtain ⟨tx, hx'⟩ := hi.get i x hx
    rw [hx'] at hv; cases hv
    have hb := hns x (List.mem_of_getElem? hx)
    have hp := prod_take_le hns hlen i
    have F₂ := frPut F₁ ((if_neg (by decide)).trans hret)
    clear F₁ F2 N2
    ktr_unf
    rw [take_succ_prod hx]
    exact InvEndN.intro (by assumption) (by assumption) ⟨hkp, rfl, _, rfl⟩ rfl memL memR
  · rintro m₁ news₁ h tk hkp ⟨rfl, u, hret⟩ F₁ N₁
    rw [hi.length, List.take_length] at hret
    have F₂ := frPut F₁ hret
    clear F₁ F2 N2
    ktr_unf
    exact ret _ _ _ (by assumption) (by assumption)
set_option maxRecDepth 100000 in
set_option maxHeartbeats 4000000 in
theorem size_ok {w : World} {dp un : Nat} {gd : Option (List Code)} {cn : Str} {cs : Scope} {a' : Addr} {ccd : Value} {cl : List (Str × Addr)} {outer : List Env} {A₀ : Around} {base h₀ : Heap} {L : Addr} {m : Str → Option Value} {s : Shared}
    {p : Program} {loose : List Str} {mean : ExcName → Option Value} {mg mb : Str → Option Value} {Q E : Value → Shared → Prop}
    {t : Addr} {n : Nat} {vs : List Value} {ns : List Int} {news : List (Addr × Obj)}
    (B : Below A₀ base outer h₀) (F : Fr h₀ L s.heap m) (X : (hd.heap_39 w.params).In h₀) (N : News h₀ L s.heap news) (T : Top p loose mean mg mb h₀)
    (hk : cs.kind = .function) (hd : dp < 900) (ht : (t, tupObj vs n) ∈ news)
    (hi : IntsAre vs ns) (hns : ∀ x ∈ ns, 1 ≤ x ∧ x ≤ 5) (hlen : ns.length ≤ 5)
    (ret : ∀ u h tk, Fr h₀ L h m → News h₀ L h news → Q (.int ns.prod u) { s with heap := h, toks := tk }) :
    wpAny (model PySem.Challenge.rw_au0025_01.row.prog w) (ktrTop dp un gd cn cs L a' ccd cl outer) (call (.ref 75) [.ref t]) Q E s := by
  revert X; k_fill; intro X
  refine wpAny_call ?_
  k_dflt ktr_enter
  ktr_unf
  rename Fr _ _ _ _ => F2
  rename News _ _ _ _ => N2
  refine For_turns F2 ?_
  ktr_unf
  refine iterSeq (κ := .tup) [(t, tupObj vs n)] (fun i m' nx => nx = news ∧ (∃ u, m' (Str.ofString "found") = some (.int (ns.take i).prod u))) rfl rfl rfl (.inr ⟨_, n, .head _, rfl, rfl⟩)
    (fun p hp => by rw [List.mem_singleton.mp hp]; exact ht) F2 N2 ⟨rfl, ⟨_, rfl⟩⟩ ?_ ?_
  · rintro i v m₁ news₁ h tk own hv ha hkp hoff ⟨rfl, u, hret⟩ F₁ N₁
    have hil : i < ns.length := by rw [← hi.length]; exact (List.getElem?_eq_some_iff.mp hv).1
    obtain ⟨x, hx⟩ : ∃ x, ns[i]? = some x := ⟨_, List.getElem?_eq_getElem hil⟩
    obtain ⟨tx, hx'⟩ := hi.get i x hx
    rw [hx'] at hv; cases hv
    have hb := hns x (List.mem_of_getElem? hx)
    have hp := prod_take_le hns hlen i
    have F₂ := frPut F₁ ((if_neg (by decide)).trans hret)
    clear F₁ F2 N2
    ktr_unf
    rw [take_succ_prod hx]
    exact InvEndN.intro (by assumption) (by assumption) ⟨hkp, rfl, _, rfl⟩ rfl memL memR
  · rintro m₁ news₁ h tk hkp ⟨rfl, u, hret⟩ F₁ N₁
    rw [hi.length, List.take_length] at hret
    have F₂ := frPut F₁ hret
    clear F₁ F2 N2
    ktr_unf
    exact ret _ _ _ (by assumption) (by assumption)
end Pr
section Cn
theorem offCn : True := by w_top off; trivial
local macro_rules | `(tactic| ktr_unf) => `(tactic| repeat' (
  (fail_if_success (with_reducible show wpAny _ _ (exec (Stmt.For _ _ _ _ _) _) _ _ _));
  (fail_if_success (with_reducible show wpAny _ _ (pyIter _) _ _ _));
  (fail_if_success (with_reducible show wpAny _ _ (call (Value.type "zip") _ _) _ _ _));
  (fail_if_success (with_reducible show wpAny _ _ (eval (Expr.ListComp _ _ _ _) _) _ _ _));
  (fail_if_success (with_reducible show wpAny _ _ (eval (Expr.GeneratorExp _ _ _ _) _) _ _ _));
  (fail_if_success (with_reducible show InvPostN _ _ _ _ _ _ _ _ _));
  first | (k_unfold; (try dsimp only)) | (k_end; wrow_close) | walk1 | (dsimp only; walk1) | (leave1; walk_say "STEP leave1"; try dsimp only)))
theorem frEmpty {h : Heap} {D : Addr} {m : Str → Option Value} (hn : h.Ns D m) : Fr (default : Heap) D h m :=
  ⟨hn, fun b o e => (nomatch (show (none : Option Obj) = some o from e)), Nat.zero_le _⟩
def canon (ns ms : List Int) : List Int := List.zipWith (fun s st => if s = 1 then 0 else st) ns ms
set_option maxRecDepth 100000 in
set_option maxHeartbeats 800000 in
theorem canon_ok {w : World} {dp un : Nat} {gd : Option (List Code)} {cn : Str} {cs : Scope} {a' : Addr} {ccd : Value} {cl : List (Str × Addr)} {outer : List Env} {A₀ : Around} {base h₀ : Heap} {L : Addr} {m : Str → Option Value} {s : Shared}
    {p : Program} {loose : List Str} {mean : ExcName → Option Value} {mg mb : Str → Option Value} {Q E : Value → Shared → Prop}
    {t1 t2 : Addr} {n1 n2 : Nat} {vs us : List Value} {ns ms : List Int} {ps : Array Value} {own : List (Addr × Obj)}
    (B : Below A₀ base outer h₀) (F : Fr h₀ L s.heap m) (X : (hd.heap_39 w.params).In h₀) (N : News h₀ L s.heap ((16, tabObj ps) :: own)) (T : Top p loose mean mg mb h₀) (C : CodeHd base 20 16)
    (hk : cs.kind = .function) (hd : dp < 900) (off : ∀ p ∈ own, p.1 ≠ 16) (htr : TriplesOk ps.toList) (G : AllBare s.gens)
    (ht1 : (t1, tupObj vs n1) ∈ own) (ht2 : (t2, tupObj us n2) ∈ own)
    (hi : IntsAre vs ns) (hj : IntsAre us ms) (hlen : ns.length = ms.length) (hz : ns.length ≤ 100)
    (ret : ∀ D ps vs' h tk g, TriplesOk ps.toList → AllBare g → IntsAre vs' (canon ns ms) → Fr h₀ L h m → News h₀ L h ((D, tupObj vs' 0) :: (16, tabObj ps) :: own) → (∀ p ∈ own, p.1 < D) → 16 < D → Q (.ref D) { s with heap := h, toks := tk, gens := g }) :
    wpAny (model PySem.Challenge.rw_au0025_01.row.prog w) (ktrTop dp un gd cn cs L a' ccd cl outer) (call (.ref 21) [.ref t1, .ref t2]) Q E s := by
  revert X; k_fill; intro X
  refine wpAny_call ?_
  k_dflt ktr_enter
  ktr_unf
  rename Fr _ _ _ _ => F2
  rename Fr _ _ _ m => FG'
  rename News _ _ _ _ => N2
  rename Below _ _ _ _ => B2
  rename Top _ _ _ _ _ _ => T2
  have hl1 : vs.length = (canon ns ms).length := by rw [canon, List.length_zipWith, hi.length]; omega
  have hl2 : us.length = (canon ns ms).length := by rw [canon, List.length_zipWith, hj.length]; omega
  refine genZip (κ₁ := .tup) (κ₂ := .tup) (l1 := t1) (l2 := t2) (vs := vs) (us := us) (rs := canon ns ms) (cl := []) rfl rfl rfl F2 N2 off htr T2 (C.keeps B2.stays) G (.inr ⟨_, n1, ht1, rfl, rfl⟩) (.inr ⟨_, n2, ht2, rfl, rfl⟩) hl1 hl2 rfl rfl (by decide) rfl rfl rfl (by decide) rfl
    (by show dp + 1 < recursionLimit; rw [recursionLimit]; omega) (by intro _; rfl) ?_ ?_ ?_
  · intro Q' hq
    ktr_unf
    exact hq _
  · intro code D A' E' i va vb t m₂ hA hva hvb hn hma hmb
    have hil : i < ns.length := by rw [← hi.length]; exact (List.getElem?_eq_some_iff.mp hva).1
    obtain ⟨x, hx⟩ : ∃ x, ns[i]? = some x := ⟨_, List.getElem?_eq_getElem hil⟩
    obtain ⟨y, hy⟩ : ∃ y, ms[i]? = some y := ⟨_, List.getElem?_eq_getElem (hlen ▸ hil)⟩
    obtain ⟨tx, hx'⟩ := hi.get i x hx
    obtain ⟨ty, hy'⟩ := hj.get i y hy
    rw [hx'] at hva; cases hva
    rw [hy'] at hvb; cases hvb
    have F3 : Fr (default : Heap) D t.heap m₂ := frEmpty hn
    have hr : (canon ns ms)[i]? = some (if x = 1 then 0 else y) := by simp [canon, List.getElem?_zipWith, hx, hy]
    rw [hr]
    refine wpAny_IfExp (wpAny_isTrue_Compare1 (ldVarG F3 hma (wpAny_Constant_int (PyProof.Rows.eq_int (wpAny_truthy_bool ?_)))))
    by_cases h1 : x = 1
    · rw [show (x == 1) = true by simp [h1], if_pos rfl, if_pos h1]
      exact wpAny_Constant_int ⟨⟨_, _, rfl, rfl⟩, _, _, rfl, fun _ _ e => e⟩
    · rw [show (x == 1) = false by simp [h1], if_neg (by decide), if_neg h1]
      exact ldVarG (F3.keeps fun _ _ e => e) hmb ⟨⟨_, _, rfl, rfl⟩, _, _, rfl, fun _ _ e => e⟩
  · intro a s₅ hg
    ktr_unf
    refine tupleOfGen hg (by rw [← hl1, hi.length]; omega) fun D ps₁ vs₁ h₁ tk₁ g₁ a1 a2 a3 a4 a5 a6 a7 => ?_
    ktr_unf
    exact ret _ _ _ _ _ _ a1 a2 a3 (by assumption) (by assumption) a6 a7
end Cn
section Sf
theorem offSf : True := by w_top off; trivial
local macro_rules | `(tactic| ktr_unf) => `(tactic| repeat' (
  (fail_if_success (with_reducible show wpAny _ _ (exec (Stmt.For _ _ _ _ _) _) _ _ _));
  (fail_if_success (with_reducible show wpAny _ _ (pyIter _) _ _ _));
  (fail_if_success (with_reducible show wpAny _ _ (call (Value.type "zip") _ _) _ _ _));
  (fail_if_success (with_reducible show wpAny _ _ (eval (Expr.ListComp _ _ _ _) _) _ _ _));
  (fail_if_success (with_reducible show wpAny _ _ (eval (Expr.GeneratorExp _ _ _ _) _) _ _ _));
  (fail_if_success (with_reducible show InvPostN _ _ _ _ _ _ _ _ _));
  first | (k_unfold; (try dsimp only)) | (k_end; wrow_close) | walk1 | (dsimp only; walk1) | (leave1; walk_say "STEP leave1"; try dsimp only)))
set_option hygiene false in
local macro_rules | `(tactic| kpt_turns) => `(tactic| ((repeat' (
  (fail_if_success (with_reducible show wpAny _ _ (exec (Stmt.For _ _ _ _ _) _) _ _ _));
  (fail_if_success (with_reducible show wpAny _ _ (pyIter _) _ _ _));
  (fail_if_success (with_reducible show wpAny _ _ (call (Value.type _) _ _) _ _ _));
  (fail_if_success (with_reducible show wpAny _ _ (call (Value.builtin _) _ _) _ _ _));
  (fail_if_success (with_reducible show wpAny _ _ (call (Value.ref _) _ _) _ _ _));
  (fail_if_success (with_reducible show wpAny _ _ (subscriptTail _ _ _ _) _ _ _));
  (fail_if_success (with_reducible show wpAny _ _ (truthy (Value.ref _)) _ _ _));
  (fail_if_success (with_reducible show wpAny _ _ (newList _) _ _ _));
  (fail_if_success (with_reducible show wpAny _ _ (eval (Expr.ListComp _ _ _ _) _) _ _ _));
  (fail_if_success (with_reducible show wpAny _ _ (eval (Expr.GeneratorExp _ _ _ _) _) _ _ _));
  (fail_if_success (with_reducible show InvPostN _ _ _ _ _ _ _ _ _));
  first | (k_unfold; (try dsimp only)) | (k_end; wrow_close) | walk1 | (dsimp only; walk1) | (leave1; walk_say "STEP leave1"; try dsimp only))); (try rename Fr _ _ _ _ => FF); (try rename News _ _ _ _ => NN)))
section
variable {prog : Program} {w : World} {A : Around} {E : Value → Shared → Prop} {s : Shared} {h₀ : Heap} {L l : Addr} {m : Str → Option Value} {news : List (Addr × Obj)} {value slice : PySem.Expr} {vs : List Value} {Q : Value → Shared → Prop}
/-- a slice from a place on, of a tuple -/
theorem tup_from {n a : Nat} {u : Tok} (F : Fr h₀ L s.heap m) (N : News h₀ L s.heap news) (hm : (l, tupObj vs n) ∈ news) (h1 : 1 ≤ a) (ha : a ≤ vs.length) (hz : vs.length ≤ 1000)
    (h : ∀ D h', Fr h₀ L h' m → News h₀ L h' ((D, tupObj (vs.drop a) 0) :: news) → (∀ p ∈ news, p.1 < D) → Q (.ref D) { s with heap := h' })
    (hs : subscripted slice false (.ref l) (.ref s.heap.objs.size) = operate [.ref s.heap.objs.size, .ref l] (getItem (.ref l) (.ref s.heap.objs.size)) := by with_unfolding_all rfl)
    (ht : ∀ r, letTemporaryGo value (.ref l) r = pure () := by intro _; with_unfolding_all rfl) :
    wpAny (model prog w) A (subscriptTail value slice (.ref l) (.ref s.heap.objs.size)) Q E { s with heap := s.heap.push { cls := .type "slice", data := .fields #[.int a u, .none, .none] } } := by
  have hl : IsTup s.heap l vs.toArray := ⟨_, (N _ hm).1, rfl, n, rfl⟩
  have hl' : IsTup (s.heap.push { cls := .type "slice", data := .fields #[.int a u, .none, .none] }) l vs.toArray := hl.keeps fun _ _ e => Heap.get?_push_of_some _ e
  refine subscriptTail_ops (s := { s with heap := s.heap.push { cls := .type "slice", data := .fields #[.int a u, .none, .none] } }) hl'.typeIs slot_tuple_getitem.lookup
    (getItem_tuple_from (s := { s with heap := s.heap.push { cls := .type "slice", data := .fields #[.int a u, .none, .none] } }) hl' (Heap.IsSliceOf.new ..) h1 (by simpa using ha) ?_ (by simp; exact Nat.le_trans hz (by decide))) hs ht
  have N1 := News.push (F.push { cls := .type "slice", data := .fields #[.int a u, .none, .none] }) (N.grown fun _ _ e => Heap.get?_push_of_some _ e) (tupObj (vs.drop a) 0)
  rw [Heap.size_push] at N1
  show Q (.ref (s.heap.push _).objs.size) _
  rw [Heap.size_push]
  exact h _ _ ((F.push _).push _) N1 fun p hp => Nat.lt_succ_of_lt (Heap.lt_size (N p hp).1)
theorem pow5_le : ∀ {k : Nat}, k ≤ 4 → (5 : Int) ^ k ≤ 5 ^ 4
  | 0, _ => by decide
  | 1, _ => by decide
  | 2, _ => by decide
  | 3, _ => by decide
  | 4, _ => by decide
  | k + 5, h => by omega
theorem allLt_mem {d : Nat} : ∀ {l : List (Addr × Obj)}, AllLt d l → ∀ p ∈ l, p.1 < d
  | [], _, _, h => nomatch h
  | q :: r, h, p, hp => (List.mem_cons.mp hp).elim (fun e => by rw [e]; exact h.1) (allLt_mem h.2 p)
/-- a value put at a list's end -/
theorem appendL {D : Addr} {us : List Value} {n : Nat} {x : Value} {rest : List (Addr × Obj)} (F : Fr h₀ L s.heap m) (N : News h₀ L s.heap ((D, listOf us.toArray n) :: rest)) (off : ∀ p ∈ rest, p.1 ≠ D) (hz : us.length ≤ 1000)
    (h : ∀ h', Fr h₀ L h' m → News h₀ L h' ((D, listOf (us ++ [x]).toArray (n + 1)) :: rest) → Q .none { s with heap := h' }) : wpAny (model prog w) A (call (.builtin "list.append") [.ref D, x]) Q E s :=
  append_K F N (.head off) (fun h' F' N' => h h' F' (by rw [show (us ++ [x]).toArray = us.toArray.push x by simp]; exact N')) (by simp; exact Nat.le_trans hz (by decide))
/-- the tuple of a list -/
theorem tupleOfL {n : Nat} (F : Fr h₀ L s.heap m) (N : News h₀ L s.heap news) (hm : (l, listOf vs.toArray n) ∈ news) (hz : vs.length ≤ 1000)
    (h : ∀ D h', Fr h₀ L h' m → News h₀ L h' ((D, tupObj vs 0) :: news) → (∀ p ∈ news, p.1 < D) → Q (.ref D) { s with heap := h' }) : wpAny (model prog w) A (call (.type "tuple") [.ref l]) Q E s :=
  kde_tupleOf F N ⟨_, (N _ hm).1, rfl, n, rfl⟩ (by simp; omega) rfl h
end
/-- the products of the tails -/
def sufs (ns : List Int) (k : Nat) : List Int := (List.range k).map fun j => (ns.reverse.take j).prod
theorem sufs_succ (ns : List Int) (k : Nat) : sufs ns (k + 1) = sufs ns k ++ [(ns.reverse.take k).prod] := by
  simp [sufs, List.range_succ]
theorem sufs_len (ns : List Int) (k : Nat) : (sufs ns k).length = k := by simp [sufs]
/-- the strides before the ones are put to nought -/
def rawS (ns : List Int) : List Int := (sufs ns.tail ns.length).reverse
set_option maxRecDepth 100000 in
set_option maxHeartbeats 4000000 in
theorem strides_ok {w : World} {dp un : Nat} {gd : Option (List Code)} {cn : Str} {cs : Scope} {a' : Addr} {ccd : Value} {cl : List (Str × Addr)} {outer : List Env} {A₀ : Around} {base h₀ : Heap} {L : Addr} {m : Str → Option Value} {s : Shared}
    {p : Program} {loose : List Str} {mean : ExcName → Option Value} {mg mb : Str → Option Value} {Q E : Value → Shared → Prop}
    {t : Addr} {n : Nat} {x0 : Int} {u0 : Tok} {vs : List Value} {ns : List Int} {own : List (Addr × Obj)} {ps : Array Value}
    (B : Below A₀ base outer h₀) (F : Fr h₀ L s.heap m) (X : (hd.heap_39 w.params).In h₀) (N : News h₀ L s.heap ((16, tabObj ps) :: own)) (T : Top p loose mean mg mb h₀) (C : CodeHd base 20 16)
    (hk : cs.kind = .function) (hd : dp < 800) (off : ∀ p ∈ own, p.1 ≠ 16) (htr : TriplesOk ps.toList) (G : AllBare s.gens)
    (ht : (t, tupObj (.int x0 u0 :: vs) n) ∈ own)
    (hi : IntsAre vs ns) (hns : ∀ x ∈ ns, 1 ≤ x ∧ x ≤ 5) (hz : ns.length ≤ 4)
    (ret : ∀ D ps vs' h tk g, TriplesOk ps.toList → AllBare g → IntsAre vs' (canon (x0 :: ns) (rawS (x0 :: ns))) → Fr h₀ L h m → News h₀ L h ((D, tupObj vs' 0) :: (16, tabObj ps) :: own) → (∀ p ∈ own, p.1 < D) → 16 < D → Q (.ref D) { s with heap := h, toks := tk, gens := g }) :
    wpAny (model PySem.Challenge.rw_au0025_01.row.prog w) (ktrTop dp un gd cn cs L a' ccd cl outer) (call (.ref 28) [.ref t]) Q E s := by
  have hvl := hi.length
  have N0 := N
  revert X; k_fill; intro X
  refine wpAny_call ?_
  k_dflt ktr_enter
  kpt_turns
  refine truthy_tuple (items := (Value.int x0 u0 :: vs).toArray) ⟨_, (NN _ (.tail _ ht)).1, rfl, n, rfl⟩ (by simp; omega) ?_
  rw [show (!(Value.int x0 u0 :: vs).toArray.isEmpty) = true by simp]
  kpt_turns
  refine newList_K FF NN (fun li h1 F1 N1 l1 => ?_)
  kpt_turns
  refine For_turns FF ?_
  kpt_turns
  refine tup_from FF NN (.tail _ (.tail _ ht)) (Nat.le_refl 1) (by simp) (by simp; omega) (fun D3 h3 F3 N3 l3 => ?_)
  kpt_turns
  have hli := l3 _ (.head _)
  have offli : ∀ p ∈ ((D3, tupObj vs 0) :: (16, tabObj ps) :: own), p.1 ≠ li := fun p hp => (List.mem_cons.mp hp).elim (fun e => e ▸ Nat.ne_of_gt hli) fun hp => Nat.ne_of_lt (l1 p hp)
  have N4 : News _ _ _ ((li, listOf [Value.int 1 _].toArray 0) :: (D3, tupObj vs 0) :: (16, tabObj ps) :: own) := fun p hp => NN p (by
    rcases List.mem_cons.mp hp with e | hp
    · exact e ▸ .tail _ (.head _)
    · rcases List.mem_cons.mp hp with e | hp
      · exact e ▸ .head _
      · exact .tail _ (.tail _ hp))
  refine iterRev (vs := vs) [(D3, tupObj vs 0)] (fun i m' nx => ∃ us n', nx = (li, listOf us.toArray n') :: (D3, tupObj vs 0) :: (16, tabObj ps) :: own ∧ IntsAre us (sufs ns (i + 1)) ∧ m' (Str.ofString "strides") = some (.ref li) ∧ m' (Str.ofString "shape") = some (.ref t)) rfl rfl rfl
    (by omega) (.inr ⟨_, 0, .head _, rfl, rfl⟩) (fun p hp => by rw [List.mem_singleton.mp hp]; exact .tail _ (.head _)) FF N4 ⟨_, 0, rfl, .cons _ _ .nil, rfl, rfl⟩ ?_ ?_
  · rintro i v m₁ news₁ h tk own' hv ha hkp hoff ⟨us, n', rfl, hus, hst, hsh⟩ F₁ N₁
    have hir : i < ns.reverse.length := by have := (List.getElem?_eq_some_iff.mp hv).1; simp at this ⊢; omega
    obtain ⟨x, hx⟩ : ∃ x, ns.reverse[i]? = some x := ⟨_, List.getElem?_eq_getElem hir⟩
    obtain ⟨tx, hx'⟩ := hi.reverse.get i x hx
    rw [hx'] at hv; cases hv
    have hul : us.length = i + 1 := hus.length.trans (sufs_len ..)
    obtain ⟨ty, hy⟩ := hus.get i (ns.reverse.take i).prod (by simp [sufs])
    have hb := hns x (List.mem_reverse.mp (List.mem_of_getElem? hx))
    have hp := prod_bound (c := 5) (ns := ns.reverse.take i) (by decide) fun y hy => hns y (List.mem_reverse.mp (List.mem_of_mem_take hy))
    have hp4 : (ns.reverse.take i).prod ≤ 5 ^ 4 := Int.le_trans hp.2 (pow5_le (by simp; omega))
    have F₂ := frPut (frPut F₁ ((if_neg (by decide)).trans hst)) (x := Str.ofString "shape") ((if_neg (by decide)).trans ((if_neg (by decide)).trans hsh))
    clear F₁ FF NN N4
    kpt_turns
    refine kim_back NN (.head _) rfl rfl (by decide) (by omega) (by decide) (x := .int _ ty) (by rw [show ((-1 : Int) + (us.length : Int)).toNat = i by omega]; exact hy) ?_
    kpt_turns
    refine appendL FF NN (fun p hp => ?_) (by simp at hir; omega) fun h5 F5 N5 => ?_
    · rcases List.mem_append.mp hp with hp | hp
      · exact offli p hp
      · exact hoff p hp li (.head _)
    clear FF
    kpt_turns
    exact InvEndN.intro (nx := (li, listOf (us ++ [_]).toArray (n' + 1)) :: (D3, tupObj vs 0) :: (16, tabObj ps) :: own) FF NN ⟨fun p hp => .tail _ (by rw [List.mem_singleton.mp hp]; exact .head _), _, _, rfl, by rw [sufs_succ, take_succ_prod hx]; exact hus.append (.cons _ _ .nil), rfl, rfl⟩ rfl memL (fun p hp => .tail _ (List.mem_append_right _ hp))
  · rintro m₁ news₁ h tk hkp ⟨us, n', rfl, hus, hst, hsh⟩ F₁ N₁
    have F₂ := frPut (frPut F₁ hst) (x := Str.ofString "shape") ((if_neg (by decide)).trans hsh)
    clear F₁ FF NN N4
    kpt_turns
    have hul : us.length = vs.length + 1 := hus.length.trans (sufs_len ..)
    refine krv_ints FF NN ⟨_, (NN _ (.head _)).1, rfl, n', rfl⟩ (.int _ _) hus (fun D5 ws h5 F5 N5 l5 hws _ => ?_) (by with_unfolding_all rfl) (by intro _; with_unfolding_all rfl) (by simp; exact Nat.le_trans (show us.length ≤ 10 by omega) (by decide))
    kpt_turns
    have hwl : ws.length = vs.length + 1 := by rw [hws.length, List.length_reverse, sufs_len]
    refine tupleOfL FF NN (.head _) (by omega) fun D6 h6 F6 N6 l6 => ?_
    kpt_turns
    have sub6 : ∀ p ∈ ((16, tabObj ps) :: own), p.1 < D6 := fun p hp => l6 p (.tail _ (.tail _ (.tail _ hp)))
    have N7 : News _ _ _ ((16, tabObj ps) :: (D6, tupObj ws 0) :: own) := fun p hp => NN p (by
      rcases List.mem_cons.mp hp with e | hp
      · exact e ▸ .tail _ (.tail _ (.tail _ (.tail _ (.head _))))
      · rcases List.mem_cons.mp hp with e | hp
        · exact e ▸ .head _
        · exact .tail _ (.tail _ (.tail _ (.tail _ (.tail _ hp)))))
    rename Below _ _ _ _ => BB
    rename (Mine.hd.heap_39 _).In _ => XX
    rename Top _ _ _ _ _ _ => TT
    have hws' : IntsAre ws (rawS (x0 :: ns)) := by
      rw [rawS, List.tail_cons, List.length_cons, ← hvl]
      exact hws
    have off7 : ∀ p ∈ ((D6, tupObj ws 0) :: own), p.1 ≠ 16 := fun p hp => (List.mem_cons.mp hp).elim (fun e => e ▸ Nat.ne_of_gt (sub6 _ (.head _))) (off p)
    refine canon_ok (ns := x0 :: ns) (ms := rawS (x0 :: ns)) BB FF XX N7 TT C rfl (by show dp + 1 < 900; omega) off7 htr G (.tail _ ht) (.head _) (.cons _ _ hi) hws' (by simp [rawS, sufs_len]) (by simp; omega) fun D8 ps8 vs8 h8 tk8 g8 htr8 G8 hv8 F8 N8 l8 l8' => ?_
    kpt_turns
    exact ret D8 ps8 vs8 h8 tk8 g8 htr8 G8 hv8 FF (fun p hp => NN p (by
      rcases List.mem_cons.mp hp with e | hp
      · exact e ▸ .head _
      · rcases List.mem_cons.mp hp with e | hp
        · exact e ▸ .tail _ (.head _)
        · exact .tail _ (.tail _ (.tail _ hp)))) (fun p hp => l8 p (.tail _ hp)) l8'
set_option maxRecDepth 100000 in
set_option maxHeartbeats 4000000 in
theorem strides_nil {w : World} {dp un : Nat} {gd : Option (List Code)} {cn : Str} {cs : Scope} {a' : Addr} {ccd : Value} {cl : List (Str × Addr)} {outer : List Env} {A₀ : Around} {base h₀ : Heap} {L : Addr} {m : Str → Option Value} {s : Shared}
    {p : Program} {loose : List Str} {mean : ExcName → Option Value} {mg mb : Str → Option Value} {Q E : Value → Shared → Prop}
    {t : Addr} {n : Nat} {own : List (Addr × Obj)} {ps : Array Value}
    (B : Below A₀ base outer h₀) (F : Fr h₀ L s.heap m) (X : (hd.heap_39 w.params).In h₀) (N : News h₀ L s.heap ((16, tabObj ps) :: own)) (T : Top p loose mean mg mb h₀) (C : CodeHd base 20 16)
    (hk : cs.kind = .function) (hd : dp < 800) (off : ∀ p ∈ own, p.1 ≠ 16) (htr : TriplesOk ps.toList) (G : AllBare s.gens)
    (ht : (t, tupObj [] n) ∈ own)
    (ret : ∀ D h tk, Fr h₀ L h m → News h₀ L h ((D, tupObj [] 0) :: (16, tabObj ps) :: own) → (∀ p ∈ own, p.1 < D) → 16 < D → Q (.ref D) { s with heap := h, toks := tk }) :
    wpAny (model PySem.Challenge.rw_au0025_01.row.prog w) (ktrTop dp un gd cn cs L a' ccd cl outer) (call (.ref 28) [.ref t]) Q E s := by
  have N0 := N
  revert X; k_fill; intro X
  refine wpAny_call ?_
  k_dflt ktr_enter
  kpt_turns
  refine truthy_tuple (items := ([] : List Value).toArray) ⟨_, (NN _ (.tail _ ht)).1, rfl, n, rfl⟩ (by simp) ?_
  rw [show (!([] : List Value).toArray.isEmpty) = false by simp]
  kpt_turns
  rename _ ∧ AllLt _ _ => hlt
  exact ret _ _ _ FF NN (allLt_mem hlt.2) hlt.1
set_option maxRecDepth 100000 in
set_option maxHeartbeats 4000000 in
theorem strides_all {w : World} {dp un : Nat} {gd : Option (List Code)} {cn : Str} {cs : Scope} {a' : Addr} {ccd : Value} {cl : List (Str × Addr)} {outer : List Env} {A₀ : Around} {base h₀ : Heap} {L : Addr} {m : Str → Option Value} {s : Shared}
    {p : Program} {loose : List Str} {mean : ExcName → Option Value} {mg mb : Str → Option Value} {Q E : Value → Shared → Prop}
    {t : Addr} {n : Nat} {vs : List Value} {ns : List Int} {own : List (Addr × Obj)} {ps : Array Value}
    (B : Below A₀ base outer h₀) (F : Fr h₀ L s.heap m) (X : (hd.heap_39 w.params).In h₀) (N : News h₀ L s.heap ((16, tabObj ps) :: own)) (T : Top p loose mean mg mb h₀) (C : CodeHd base 20 16)
    (hk : cs.kind = .function) (hd : dp < 800) (off : ∀ p ∈ own, p.1 ≠ 16) (htr : TriplesOk ps.toList) (G : AllBare s.gens)
    (ht : (t, tupObj vs n) ∈ own)
    (hi : IntsAre vs ns) (hns : ∀ x ∈ ns, 1 ≤ x ∧ x ≤ 5) (hz : ns.length ≤ 5)
    (ret : ∀ D ps vs' h tk g, TriplesOk ps.toList → AllBare g → IntsAre vs' (canon (ns) (rawS (ns))) → Fr h₀ L h m → News h₀ L h ((D, tupObj vs' 0) :: (16, tabObj ps) :: own) → (∀ p ∈ own, p.1 < D) → 16 < D → Q (.ref D) { s with heap := h, toks := tk, gens := g }) :
    wpAny (model PySem.Challenge.rw_au0025_01.row.prog w) (ktrTop dp un gd cn cs L a' ccd cl outer) (call (.ref 28) [.ref t]) Q E s := by
  cases hi with
  | nil => exact strides_nil B F X N T C hk hd off htr G ht fun D h tk F' N' a b => ret D ps [] h tk _ htr G .nil F' N' a b
  | cons x0 u0 hi => exact strides_ok B F X N T C hk hd off htr G ht hi (fun x hx => hns x (.tail _ hx)) (by simpa using hz) ret
end Sf
section Un
theorem offUn : True := by w_top off; trivial
local macro_rules | `(tactic| ktr_unf) => `(tactic| repeat' (
  (fail_if_success (with_reducible show wpAny _ _ (exec (Stmt.For _ _ _ _ _) _) _ _ _));
  (fail_if_success (with_reducible show wpAny _ _ (pyIter _) _ _ _));
  (fail_if_success (with_reducible show wpAny _ _ (call (Value.type "zip") _ _) _ _ _));
  (fail_if_success (with_reducible show wpAny _ _ (eval (Expr.ListComp _ _ _ _) _) _ _ _));
  (fail_if_success (with_reducible show wpAny _ _ (eval (Expr.GeneratorExp _ _ _ _) _) _ _ _));
  (fail_if_success (with_reducible show InvPostN _ _ _ _ _ _ _ _ _));
  first | (k_unfold; (try dsimp only)) | (k_end; wrow_close) | walk1 | (dsimp only; walk1) | (leave1; walk_say "STEP leave1"; try dsimp only)))
set_option hygiene false in
local macro_rules | `(tactic| kpt_turns) => `(tactic| ((repeat' (
  (fail_if_success (with_reducible show wpAny _ _ (exec (Stmt.For _ _ _ _ _) _) _ _ _));
  (fail_if_success (with_reducible show wpAny _ _ (pyIter _) _ _ _));
  (fail_if_success (with_reducible show wpAny _ _ (call (Value.type _) _ _) _ _ _));
  (fail_if_success (with_reducible show wpAny _ _ (call (Value.builtin _) _ _) _ _ _));
  (fail_if_success (with_reducible show wpAny _ _ (call (Value.ref _) _ _) _ _ _));
  (fail_if_success (with_reducible show wpAny _ _ (subscriptTail _ _ _ _) _ _ _));
  (fail_if_success (with_reducible show wpAny _ _ (truthy (Value.ref _)) _ _ _));
  (fail_if_success (with_reducible show wpAny _ _ (newList _) _ _ _));
  (fail_if_success (with_reducible show wpAny _ _ (eval (Expr.ListComp _ _ _ _) _) _ _ _));
  (fail_if_success (with_reducible show wpAny _ _ (eval (Expr.GeneratorExp _ _ _ _) _) _ _ _));
  (fail_if_success (with_reducible show InvPostN _ _ _ _ _ _ _ _ _));
  first | (k_unfold; (try dsimp only)) | (k_end; wrow_close) | walk1 | (dsimp only; walk1) | (leave1; walk_say "STEP leave1"; try dsimp only))); (all_goals (try rename Fr _ _ _ _ => FF)); (all_goals (try rename News _ _ _ _ => NN))))
/-- what un1d makes -/
def digitsOf : List Int → Int → List Int
  | [], _ => []
  | t :: r, o => (if t = 0 then 0 else o.fdiv t) :: digitsOf r (o - (if t = 0 then 0 else o.fdiv t) * t)
theorem un_step {o x : Int} (hx : 0 < x) (ho : -100000 ≤ o ∧ o ≤ 100000) : (-100000 ≤ o.fdiv x ∧ o.fdiv x ≤ 100000) ∧ 0 ≤ o - o.fdiv x * x ∧ o - o.fdiv x * x < x := by
  rw [Int.fdiv_eq_ediv_of_nonneg _ (by omega)]
  have h1 := Int.emod_nonneg o (show x ≠ 0 by omega)
  have h2 := Int.emod_lt_of_pos o hx
  have h3 := Int.emod_def o x
  rw [Int.mul_comm] at h3
  refine ⟨⟨?_, ?_⟩, by omega, by omega⟩
  · have := Int.ediv_le_ediv hx ho.1
    have h4 : (-100000 : Int) ≤ -100000 / x := by
      rw [Int.le_ediv_iff_mul_le hx]
      have := Int.mul_le_mul_of_nonneg_left (show (1 : Int) ≤ x by omega) (show (0 : Int) ≤ 100000 by decide)
      omega
    omega
  · have := Int.ediv_le_ediv hx ho.2
    have h4 : (100000 : Int) / x ≤ 100000 := Int.ediv_le_self _ (by decide)
    omega
set_option maxRecDepth 100000 in
set_option maxHeartbeats 4000000 in
theorem un1d_ok {w : World} {dp un : Nat} {gd : Option (List Code)} {cn : Str} {cs : Scope} {a' : Addr} {ccd : Value} {cl : List (Str × Addr)} {outer : List Env} {A₀ : Around} {base h₀ : Heap} {L : Addr} {m : Str → Option Value} {s : Shared}
    {p : Program} {loose : List Str} {mean : ExcName → Option Value} {mg mb : Str → Option Value} {Q E : Value → Shared → Prop}
    {t : Addr} {n : Nat} {vs : List Value} {ns : List Int} {o0 : Int} {t0 : Tok} {own : List (Addr × Obj)} {ps : Array Value}
    (B : Below A₀ base outer h₀) (F : Fr h₀ L s.heap m) (X : (hd.heap_39 w.params).In h₀) (N : News h₀ L s.heap ((16, tabObj ps) :: own)) (T : Top p loose mean mg mb h₀) (C : CodeHd base 20 16)
    (hk : cs.kind = .function) (hd : dp < 700) (off : ∀ p ∈ own, p.1 ≠ 16) (htr : TriplesOk ps.toList) (G : AllBare s.gens)
    (ht : (t, tupObj vs n) ∈ own)
    (hi : IntsAre vs ns) (hns : ∀ x ∈ ns, 1 ≤ x ∧ x ≤ 5) (hz : ns.length ≤ 5) (hst : ∀ x ∈ canon ns (rawS ns), 0 ≤ x ∧ x ≤ 3125) (hsl : (canon ns (rawS ns)).length ≤ 5) (ho : -100000 ≤ o0 ∧ o0 ≤ 100000)
    (ret : ∀ D k ps vs' h tk g, TriplesOk ps.toList → AllBare g → IntsAre vs' (digitsOf (canon ns (rawS ns)) o0) → Fr h₀ L h m → News h₀ L h ((D, listOf vs'.toArray k) :: (16, tabObj ps) :: own) → (∀ p ∈ own, p.1 < D) → 16 < D → Q (.ref D) { s with heap := h, toks := tk, gens := g }) :
    wpAny (model PySem.Challenge.rw_au0025_01.row.prog w) (ktrTop dp un gd cn cs L a' ccd cl outer) (call (.ref 35) [.ref t, .int o0 t0]) Q E s := by
  have hvl := hi.length
  have N0 := N
  revert X; k_fill; intro X
  refine wpAny_call ?_
  k_dflt ktr_enter
  kpt_turns
  rename Below _ _ _ _ => BB
  rename (Mine.hd.heap_39 _).In _ => XX
  rename Top _ _ _ _ _ _ => TT
  refine strides_all BB FF XX NN TT C rfl (by show dp + 1 < 800; omega) off htr G ht hi hns hz fun D8 ps8 vs8 h8 tk8 g8 htr8 G8 hv8 F8 N8 l8 l8' => ?_
  kpt_turns
  refine newList_K FF NN (fun li h1 F1 N1 l1 => ?_)
  kpt_turns
  refine For_turns FF ?_
  kpt_turns
  have offli : ∀ p ∈ ((D8, tupObj vs8 0) :: (16, tabObj ps8) :: own), p.1 ≠ li := fun p hp => Nat.ne_of_lt (l1 p hp)
  generalize hts : canon ns (rawS ns) = ts at *
  refine iterSeq (κ := .tup) (vs := vs8) [(D8, tupObj vs8 0)] (fun i m' nx => ∃ us n' ds o u, nx = (li, listOf us.toArray n') :: (D8, tupObj vs8 0) :: (16, tabObj ps8) :: own ∧ IntsAre us ds ∧ us.length = i ∧ ds ++ digitsOf (ts.drop i) o = digitsOf ts o0 ∧ (-100000 ≤ o ∧ o ≤ 100000) ∧
      m' (Str.ofString "offs") = some (.int o u) ∧ m' (Str.ofString "result") = some (.ref li)) rfl rfl rfl
    (.inr ⟨_, 0, .head _, rfl, rfl⟩) (fun p hp => by rw [List.mem_singleton.mp hp]; exact .tail _ (.head _)) FF NN ⟨[], 0, [], o0, t0, rfl, .nil, rfl, rfl, ho, rfl, rfl⟩ ?_ ?_
  · rintro i v m₁ news₁ h tk own' hv ha hkp hoff ⟨us, n', ds, o, u, rfl, hus, hul, hds, hob, hmo, hmr⟩ F₁ N₁
    have hil : i < ts.length := by have := (List.getElem?_eq_some_iff.mp hv).1; have := hv8.length; omega
    obtain ⟨x, hx⟩ : ∃ x, ts[i]? = some x := ⟨_, List.getElem?_eq_getElem hil⟩
    obtain ⟨tx, hx'⟩ := hv8.get i x hx
    rw [hx'] at hv; cases hv
    have hb := hst x (List.mem_of_getElem? hx)
    have hdr : ts.drop i = x :: ts.drop (i + 1) := by
      rw [List.drop_eq_getElem_cons hil]
      congr 1
      exact Option.some.inj ((List.getElem?_eq_getElem hil).symm.trans hx)
    rw [hdr] at hds
    have F₂ := frPut (frPut F₁ ((if_neg (by decide)).trans hmo)) (x := Str.ofString "result") ((if_neg (by decide)).trans ((if_neg (by decide)).trans hmr))
    clear F₁ FF NN
    have offa : ∀ p ∈ ((D8, tupObj vs8 0) :: (16, tabObj ps8) :: own) ++ own', p.1 ≠ li := fun p hp => (List.mem_append.mp hp).elim (offli p) fun hp => hoff p hp li (.head _)
    have hkp' : ∀ {o' : Obj}, ∀ p ∈ [(D8, tupObj vs8 0)], p ∈ (li, o') :: (D8, tupObj vs8 0) :: (16, tabObj ps8) :: own := fun p hp => .tail _ (by rw [List.mem_singleton.mp hp]; exact .head _)
    kpt_turns
    · rename _ ≠ _ => h0
      obtain ⟨q1, q2, q3⟩ := un_step (x := x) (by omega) hob
      refine appendL FF NN offa (by omega) fun h5 F5 N5 => ?_
      kpt_turns
      exact InvEndN.intro (nx := (li, listOf (us ++ [_]).toArray (n' + 1)) :: (D8, tupObj vs8 0) :: (16, tabObj ps8) :: own) FF NN ⟨hkp', _, _, ds ++ [o.fdiv x], _, _, rfl, hus.append (.cons _ _ .nil), by simp [hul],
        by rw [digitsOf, if_neg h0] at hds; rw [List.append_assoc]; exact hds, ⟨by omega, by omega⟩, rfl, rfl⟩ rfl memL (fun p hp => .tail _ (List.mem_append_right _ hp))
    · rename _ = _ => h0
      subst h0
      refine appendL FF NN offa (by omega) fun h5 F5 N5 => ?_
      kpt_turns
      exact InvEndN.intro (nx := (li, listOf (us ++ [_]).toArray (n' + 1)) :: (D8, tupObj vs8 0) :: (16, tabObj ps8) :: own) FF NN ⟨hkp', _, _, ds ++ [0], _, _, rfl, hus.append (.cons _ _ .nil), by simp [hul],
        by rw [digitsOf, if_pos rfl] at hds; rw [List.append_assoc]; exact hds, ⟨by omega, by omega⟩, rfl, rfl⟩ rfl memL (fun p hp => .tail _ (List.mem_append_right _ hp))
  · rintro m₁ news₁ h tk hkp ⟨us, n', ds, o, u, rfl, hus, hul, hds, hob, hmo, hmr⟩ F₁ N₁
    have F₂ := frPut F₁ hmr
    clear F₁ FF NN
    kpt_turns
    rw [hv8.length, List.drop_length] at hds
    rw [digitsOf, List.append_nil] at hds
    subst hds
    exact ret li n' ps8 us h tk g8 htr8 G8 hus FF (fun p hp => NN p (by
      rcases List.mem_cons.mp hp with e | hp
      · exact e ▸ .head _
      · exact .tail _ (.tail _ hp))) (fun p hp => l1 p (.tail _ (.tail _ hp))) (l1 _ (.tail _ (.head _)))
end Un
section Lc
theorem offLc : True := by w_top off; trivial
section
variable {prog : Program} {w : World} {A : Around} {E : Value → Shared → Prop} {s : Shared}
theorem compLoop_all {elt target iter : Expr} {ifs : List Expr} {scope : Scope} {pos : Pos} {it acc : Value} {env : Env} {R : Result → Shared → Prop} (I : Nat → Shared → Prop)
    (turn : ∀ n s, I n s → wpAny (model prog w) A (pyNext it) (fun r s₁ => match r with
      | none => R (.ok .next) s₁
      | some v => wpAny (model prog w) A (letOwnedTupleGo target it v) (fun _ s₁' => wpAny (model prog w) A (assign target env v) (fun _ s₂ =>
          wpAny (model prog w) A (forIn ifs true fun c r => if r = true then do let ok ← isTrue c env (eval c env); pure (ForInStep.yield ok) else pure (ForInStep.yield r)) (fun ok s₃ =>
            if ok = true then wpAny (model prog w) A (eval elt env) (fun x s₄ =>
              wpAny (model prog w) A (call (.builtin "list.append") [acc, x]) (fun _ s₅ => ∃ m, m < n ∧ I m s₅) (notedBy (model prog w) A env fun e s' => R (.error e) s') s₄) (notedBy (model prog w) A env fun e s' => R (.error e) s') s₃
            else ∃ m, m < n ∧ I m s₃) (notedBy (model prog w) A env fun e s' => R (.error e) s') s₂) (notedBy (model prog w) A env fun e s' => R (.error e) s') s₁')
          (notedBy (model prog w) A env fun e s' => R (.error e) s') s₁) (notedBy (model prog w) A env fun e s' => R (.error e) s') s)
    (n : Nat) (h : I n s) : codeAny (model prog w) A (.compLoop (.ListComp elt [⟨target, iter, ifs, 0⟩] scope pos) 0 it acc env) R s := by
  refine codeAny_loop rfl I (fun n s hI => ?_) n h
  show wpAny _ A ((compTurn (.ListComp elt [⟨target, iter, ifs, 0⟩] scope pos) 0 it acc env).onRaise (fun x => do noteFrame x env; theTreesLotGoes x)) _ _ s
  refine wpAny_noted ?_
  rw [compTurn_list]
  refine wpAny_bind (wpAny_standAt (wpAny_bind (wpAny_mono (turn n s hI) (fun r s₁ h₁ => ?_) fun _ _ h' => h')))
  cases r with
  | none => exact wpAny_pure h₁
  | some v =>
    refine wpAny_bind (wpAny_mono h₁ (fun _ s₁' h₁' => ?_) fun _ _ h' => h')
    refine wpAny_bind (wpAny_mono h₁' (fun _ s₂ h₂ => wpAny_bind (wpAny_mono h₂ (fun ok s₃ h₃ => ?_) fun _ _ h' => h')) fun _ _ h' => h')
    cases ok with
    | false => exact wpAny_pure ⟨rfl, h₃⟩
    | true =>
      exact wpAny_bind (wpAny_bind (wpAny_mono h₃ (fun x s₄ h₄ => wpAny_bind (wpAny_mono h₄ (fun _ s₅ h₅ => wpAny_pure (wpAny_pure ⟨rfl, h₅⟩)) fun _ _ h' => h')) fun _ _ h' => h'))
end

abbrev lst (ys : List Value) : Obj := listOf ys.toArray ys.length
open LCg (NsObj ns_obj lst_snoc)
/-- the end of a turn of a comprehension -/
def CEnd (h₀ : Heap) (L : Addr) (m : Str → Option Value) (own : List (Addr × Obj)) (adr : List Addr) (J : List (Addr × Obj) → Prop) (s₁ s' : Shared) : Prop :=
  ∃ h' tk news' nx, s' = { s₁ with heap := h', toks := tk } ∧ Fr h₀ L h' m ∧ News h₀ L h' news' ∧ (∀ p ∈ nx, p ∈ news') ∧ (∀ p ∈ own, p ∈ news') ∧ nx.map (·.1) = adr ∧ J nx
theorem CEnd.intro {h₀ h' : Heap} {L : Addr} {m : Str → Option Value} {own news' : List (Addr × Obj)} (nx : List (Addr × Obj)) {adr : List Addr} {J : List (Addr × Obj) → Prop} {s₁ : Shared} {tk : Nat} (F : Fr h₀ L h' m) (N : News h₀ L h' news')
    (hn : ∀ p ∈ nx, p ∈ news') (ho : ∀ p ∈ own, p ∈ news') (ha : nx.map (·.1) = adr) (hj : J nx) : CEnd h₀ L m own adr J s₁ { s₁ with heap := h', toks := tk } := ⟨h', tk, news', nx, rfl, F, N, hn, ho, ha, hj⟩

section
variable {prog : Program} {w : World} {A : Around} {E : Value → Shared → Prop} {s : Shared} {h₀ : Heap} {L : Addr} {m : Str → Option Value} {env : Env}

/-- a comprehension that stands at its source's iterator -/
def CompAt (prog : Program) (w : World) (A : Around) (h₀ : Heap) (L : Addr) (m : Str → Option Value) (env : Env) (elt target : Expr) (ifs : List Expr) (scope : Scope) (cl : List (Str × Addr)) (Fin : Shared → List Value → List (Addr × Obj) → Prop) (it : Value) (s₂ : Shared) : Prop :=
  ∃ (I : Addr) (fp wr : List Addr) (n : Nat) (P Md : Nat → Value → Heap → Prop) (St : Nat → Heap → Prop) (Mp : Nat → (Str → Option Value) → Prop) (news keep : List (Addr × Obj)) (J : Nat → List Value → List (Addr × Obj) → Prop),
    it = .ref I ∧ KTurns prog w A target I fp wr n P Md St ∧ n ≤ 1000 ∧ (∀ b ∈ fp, b < s₂.heap.objs.size) ∧ L ∉ fp ∧ (∀ b ∈ wr, h₀.get? b = none) ∧ (∀ p ∈ news, p.1 ∉ wr) ∧
    (∀ b ∈ fp, (∃ o, (b, o) ∈ keep) ∨ (∃ o, h₀.get? b = some o) ∨ ∀ p ∈ news, p.1 ≠ b) ∧ (∀ p ∈ keep, p ∈ news) ∧ St 0 s₂.heap ∧ Fr h₀ L s₂.heap m ∧ News h₀ L s₂.heap news ∧ J 0 [] news ∧
    (∀ (s₃ : Shared) (Q : Value → Shared → Prop) (E : Value → Shared → Prop), St 0 s₃.heap → Q (.ref I) s₃ → wpAny (model prog w) A (pyIter (.ref I)) Q E s₃) ∧
    (∀ C i v (s' : Shared) m₂ (Q : Unit → Shared → Prop) (E' : Value → Shared → Prop), i < n → P i v s'.heap → s'.heap.Ns C m₂ →
      (∀ h' tk' m₃, h'.Ns C m₃ → Mp i m₃ → (∀ b o, b ≠ C → s'.heap.get? b = some o → h'.get? b = some o) → Q () { s' with heap := h', toks := tk' }) → wpAny (model prog w) A (assign target (compEnvC scope cl C env) v) Q E' s') ∧
    (∀ i ys m₂ news₁ h tk own C oC D (E' : Value → Shared → Prop), i < n → Mp i m₂ → NsObj oC m₂ → news₁.map (·.1) = news.map (·.1) → (∀ p ∈ keep, p ∈ news₁) → OwnOff ((C, oC) :: (D, lst ys) :: own) (news.map (·.1)) → J i ys news₁ → Fr h₀ L h m →
      News h₀ L h (news₁ ++ (C, oC) :: (D, lst ys) :: own) → h.Ns C m₂ →
      wpAny (model prog w) A (forIn ifs true fun c r => if r = true then do let ok ← isTrue c (compEnvC scope cl C env) (eval c (compEnvC scope cl C env)); pure (ForInStep.yield ok) else pure (ForInStep.yield r)) (fun ok s₃ =>
        if ok = true then wpAny (model prog w) A (eval elt (compEnvC scope cl C env)) (fun y => CEnd h₀ L m ((C, oC) :: (D, lst ys) :: own) (news.map (·.1)) (fun nx => (∀ p ∈ keep, p ∈ nx) ∧ J (i + 1) (ys ++ [y]) nx) { s₂ with heap := h, toks := tk }) E' s₃
        else CEnd h₀ L m ((C, oC) :: (D, lst ys) :: own) (news.map (·.1)) (fun nx => (∀ p ∈ keep, p ∈ nx) ∧ J (i + 1) ys nx) { s₂ with heap := h, toks := tk } s₃) E' { s₂ with heap := h, toks := tk }) ∧
    (∀ ys news₁, news₁.map (·.1) = news.map (·.1) → (∀ p ∈ keep, p ∈ news₁) → J n ys news₁ → Fin s₂ ys news₁)

theorem compBlock {elt target iter : Expr} {ifs : List Expr} {scope : Scope} {cl : List (Str × Addr)} {pos : Pos} {s₂ : Shared} {it : Value} {Fin : Shared → List Value → List (Addr × Obj) → Prop} {RR : Value → Addr → Result → Shared → Prop}
    (X : CompAt prog w A h₀ L m env elt target ifs scope cl Fin it s₂)
    (hcell : ∀ y ∈ scope.names, y.2 ≠ .cell) (hkind : scope.kind = .function)
    (hRR : ∀ D C h tk m' ys news', Fr h₀ L h m → News h₀ L h ((D, lst ys) :: news') → (∀ p ∈ news', p.1 < D) → h.Ns C m' → h₀.get? C = none → h₀.get? D = none → C ≠ L → D ≠ L → C ≠ D → (∀ p ∈ news', p.1 ≠ C) → Fin s₂ ys news' → RR (.ref D) C (.ok .next) { s₂ with heap := h, toks := tk }) :
    wpAny (model prog w) A (newList []) (fun acc s₃ => wpAny (model prog w) A (newFunctionEnv scope env.globals cl [] env.qual none .none (some env)) (fun cenv s₄ =>
      codeAny (model prog w) A (.compStart (.ListComp elt [⟨target, iter, ifs, 0⟩] scope pos) 0 it acc { cenv with scope := relabel scope env }) (RR acc cenv.locals) s₄) E s₃) E s₂ := by
  obtain ⟨I, fp, wr, n, P, Md, St, Mp, news, keep, J, rfl, W, hn1000, hfplt, hLfp, hwr, hnw, hfp, hkn, hst, F, N, h0, hself, hassign, step, hdone⟩ := X
  refine wpAny_newObj_type (wpAny_newFunctionEnv hcell (by intro y hy; simp at hy) (fun h₁ hns₁ hsb₁ => ?_) hkind)
  dsimp only at hns₁ hsb₁ ⊢
  generalize hH2 : s₂.heap.push { cls := .type "list", dict := none, data := .seq ([] : List Value).toArray } = H2 at hns₁ hsb₁ ⊢
  have hC : H2.objs.size = s₂.heap.objs.size + 1 := by rw [← hH2, Heap.size_push]
  have hDC : s₂.heap.objs.size ≠ H2.objs.size := by rw [hC]; exact Nat.ne_of_lt (Nat.lt_succ_self _)
  have below : ∀ b, b < s₂.heap.objs.size → b ≠ H2.objs.size ∧ b ≠ s₂.heap.objs.size := fun b hb => ⟨by rw [hC]; exact Nat.ne_of_lt (Nat.lt_succ_of_lt hb), Nat.ne_of_lt hb⟩
  have hDf : s₂.heap.objs.size ∉ fp := fun hm => Nat.lt_irrefl _ (hfplt _ hm)
  have hCf : H2.objs.size ∉ fp := fun hm => by have := hfplt _ hm; rw [hC] at this; exact Nat.lt_irrefl _ (Nat.lt_of_succ_lt this)
  have hCw : H2.objs.size ∉ wr := fun hm => hCf (W.sub _ hm)
  have hDw : s₂.heap.objs.size ∉ wr := fun hm => hDf (W.sub _ hm)
  have hLw : L ∉ wr := fun hm => hLfp (W.sub _ hm)
  have old : ∀ b o, s₂.heap.get? b = some o → h₁.get? b = some o := fun b o e => hsb₁.extBut b o (below b (Heap.lt_size e)).1 (Heap.get?_push_of_some _ (hH2 ▸ Heap.get?_push_of_some _ e))
  have hacc : h₁.get? s₂.heap.objs.size = some (lst []) := hsb₁.extBut _ _ hDC (Heap.get?_push_of_some _ (hH2 ▸ Heap.get?_push_size _ rfl))
  have hst₁ : St 0 h₁ := W.frame _ _ _ hst fun b _ o e => old b o e
  have fresh : ∀ a, s₂.heap.objs.size ≤ a → s₂.heap.get? a = none := fun a ha => by
    cases e : s₂.heap.get? a with
    | none => rfl
    | some o' => exact absurd (Heap.lt_size e) (Nat.not_lt.mpr ha)
  have fresh₀ : ∀ a, s₂.heap.objs.size ≤ a → h₀.get? a = none := fun a ha => by
    cases e : h₀.get? a with
    | none => rfl
    | some o' => have := F.keep a o' e; rw [fresh a ha] at this; cases this
  have hD₀ : h₀.get? s₂.heap.objs.size = none := fresh₀ _ (Nat.le_refl _)
  have hC₀ : h₀.get? H2.objs.size = none := fresh₀ _ (by rw [hC]; exact Nat.le_succ _)
  have hLlt : L < s₂.heap.objs.size := F.ns.lt
  have hDL : s₂.heap.objs.size ≠ L := Ne.symm (below L hLlt).2
  have hCL : H2.objs.size ≠ L := Ne.symm (below L hLlt).1
  have hlt0 : ∀ b ∈ news.map (·.1), b < s₂.heap.objs.size := fun b hb => by
    obtain ⟨p, hp, rfl⟩ := List.mem_map.mp hb
    exact Heap.lt_size (N p hp).1
  have hltA : ∀ {nx : List (Addr × Obj)}, nx.map (·.1) = news.map (·.1) → ∀ p ∈ nx, p.1 < s₂.heap.objs.size := fun e p hp => hlt0 _ (e ▸ List.mem_map.mpr ⟨p, hp, rfl⟩)
  have hwA : ∀ {nx : List (Addr × Obj)}, nx.map (·.1) = news.map (·.1) → ∀ p ∈ nx, p.1 ∉ wr := fun e p hp hq => by
    have h1 : p.1 ∈ news.map (·.1) := e ▸ List.mem_map.mpr ⟨p, hp, rfl⟩
    obtain ⟨q, hq1, hq2⟩ := List.mem_map.mp h1
    exact hnw q hq1 (by rw [hq2]; exact hq)
  have loop : ∀ s₃ : Shared, s₃ = { s₂ with heap := h₁, toks := s₂.toks + ([] : List (Str × Value)).length } →
      codeAny (model prog w) A (.compLoop (.ListComp elt [⟨target, iter, ifs, 0⟩] scope pos) 0 (.ref I) (.ref s₂.heap.objs.size) (compEnvC scope cl H2.objs.size env))
        (RR (.ref s₂.heap.objs.size) H2.objs.size) s₃ := by
    rintro s₃ rfl
    refine compLoop_all
      (fun k s' => ∃ h' tk i ys m' news', s' = { s₂ with heap := h', toks := tk } ∧ i ≤ n ∧ k = n + 1 - i ∧ ys.length ≤ i ∧ St i h' ∧ Fr h₀ L h' m ∧ h'.Ns H2.objs.size m' ∧ News h₀ L h' ((s₂.heap.objs.size, lst ys) :: news') ∧
        news'.map (·.1) = news.map (·.1) ∧ (∀ p ∈ keep, p ∈ news') ∧ J i ys news') ?_ (n + 1)
      ⟨h₁, _, 0, [], _, news, rfl, Nat.zero_le _, rfl, Nat.le_refl _, hst₁, F.keeps old, hns₁, fun p hp => ?_, rfl, hkn, h0⟩
    · rintro k s' ⟨h', tk, i, ys, m', news', rfl, hi, rfl, hyl, hst', F', hn', N', ha', hk', hJ'⟩
      by_cases hlt : i < n
      · refine W.item i _ _ _ hlt hst' fun v h₂ tk₂ hMd hk₂ => ?_
        refine W.go i v _ _ _ hMd fun h₃ hP hst₃ hk₃ => ?_
        have up3 : ∀ b o, b ∉ wr → h'.get? b = some o → h₃.get? b = some o := fun b o hb e => hk₃ b o hb (hk₂ b o hb e)
        refine hassign H2.objs.size i v _ _ _ _ hlt hP (hn'.at' fun o e => up3 _ o hCw e) fun h₄ tk₄ m₄ hn₄ hMp hk₄ => ?_
        have up4 : ∀ b o, b ∉ wr → b ≠ H2.objs.size → h'.get? b = some o → h₄.get? b = some o := fun b o hb hc e => hk₄ b o hc (up3 b o hb e)
        have hst₄ : St (i + 1) h₄ := W.frame _ _ _ hst₃ fun b hb o e => hk₄ b o (fun q => hCf (by have q' : b = H2.objs.size := q; rw [← q']; exact hb)) e
        obtain ⟨oC, heC, hoC⟩ := ns_obj hn₄
        have F₄ : Fr h₀ L h₄ m := ⟨F'.ns.at' fun o e => up4 _ o hLw (Ne.symm hCL) e, fun b o e => up4 b o (fun q => by rw [hwr b q] at e; cases e) (fun q => by rw [q, hC₀] at e; cases e) (F'.keep b o e), F'.above⟩
        have zD4 : h₄.get? s₂.heap.objs.size = some (lst ys) := up4 _ _ hDw hDC (N' _ (.head _)).1
        have N₄ : News h₀ L h₄ news' := fun p hp => ⟨up4 _ _ (hwA ha' p hp) (below _ (hltA ha' p hp)).1 (N' p (.tail _ hp)).1, (N' p (.tail _ hp)).2⟩
        have Nown : News h₀ L h₄ (PyProof.Rows.ownOf h₀ fp h₄) := news_ownOf hLfp
        have hsub : ∀ p ∈ (PyProof.Rows.ownOf h₀ fp h₄).filter (fun p => decide (p.1 ∉ news.map (·.1))), p ∈ PyProof.Rows.ownOf h₀ fp h₄ := fun p hp => (List.mem_filter.mp hp).1
        have hsep : OwnOff ((H2.objs.size, oC) :: (s₂.heap.objs.size, lst ys) :: (PyProof.Rows.ownOf h₀ fp h₄).filter (fun p => decide (p.1 ∉ news.map (·.1)))) (news.map (·.1)) := fun p hp b hb e => by
          rcases List.mem_cons.mp hp with rfl | hp
          · exact (below b (hlt0 b hb)).1 e.symm
          · rcases List.mem_cons.mp hp with rfl | hp
            · exact (below b (hlt0 b hb)).2 e.symm
            · have := of_decide_eq_true (List.mem_filter.mp hp).2
              exact this (e ▸ hb)
        have N₅ : News h₀ L h₄ (news' ++ (H2.objs.size, oC) :: (s₂.heap.objs.size, lst ys) :: (PyProof.Rows.ownOf h₀ fp h₄).filter (fun p => decide (p.1 ∉ news.map (·.1)))) := fun p hp => by
          rcases List.mem_append.mp hp with hp | hp
          · exact N₄ p hp
          · rcases List.mem_cons.mp hp with rfl | hp
            · exact ⟨heC, hCL, hC₀⟩
            · rcases List.mem_cons.mp hp with rfl | hp
              · exact ⟨zD4, hDL, hD₀⟩
              · exact Nown p (hsub p hp)
        have stay : ∀ (h₆ : Heap) (news₆ nx : List (Addr × Obj)), Fr h₀ L h₆ m → News h₀ L h₆ news₆ → (∀ p ∈ nx, p ∈ news₆) → (∀ p ∈ (H2.objs.size, oC) :: (s₂.heap.objs.size, lst ys) :: (PyProof.Rows.ownOf h₀ fp h₄).filter (fun p => decide (p.1 ∉ news.map (·.1))), p ∈ news₆) → (∀ p ∈ keep, p ∈ nx) → St (i + 1) h₆ := by
          intro h₆ news₆ nx F₆ N₆ hnx hown hkx
          refine W.frame _ _ _ hst₄ fun b hb o e => ?_
          cases hz : h₀.get? b with
          | some o₀ =>
            have : o₀ = o := by have q := F₄.keep b o₀ hz; rw [e] at q; exact (Option.some.inj q).symm
            exact this ▸ F₆.keep b o₀ hz
          | none =>
            have hm : (b, o) ∈ PyProof.Rows.ownOf h₀ fp h₄ := mem_ownOf hb hz e
            by_cases hin : b ∈ news.map (·.1)
            · rcases hfp b hb with ⟨o', ho'⟩ | ⟨o', ho'⟩ | ho'
              · have q := (N₄ _ (hk' _ ho')).1
                have q' : h₄.get? b = some o' := q
                rw [e] at q'
                cases q'
                exact (N₆ _ (hnx _ (hkx _ ho'))).1
              · rw [hz] at ho'; cases ho'
              · obtain ⟨q, hq, e2⟩ := List.mem_map.mp hin
                exact absurd e2 (ho' q hq)
            · exact (N₆ _ (hown _ (.tail _ (.tail _ (List.mem_filter.mpr ⟨hm, decide_eq_true hin⟩))))).1
        refine wpAny_mono (step i ys m₄ news' h₄ tk₄ _ H2.objs.size oC s₂.heap.objs.size _ hlt hMp hoC ha' hk' hsep hJ' F₄ N₅ hn₄) (fun ok s₅ h₅ => ?_) fun _ _ e => e
        cases ok with
        | false =>
          obtain ⟨h₆, tk₆, news₆, nx, rfl, F₆, N₆, hnx, hown, hax, hkx, hJx⟩ := h₅
          refine ⟨n + 1 - (i + 1), by omega, h₆, tk₆, i + 1, ys, _, nx, rfl, hlt, rfl, by omega, stay _ _ _ F₆ N₆ hnx hown hkx, F₆, hoC.ns (N₆ _ (hown _ (.head _))).1, fun p hp => ?_, hax, hkx, hJx⟩
          rcases List.mem_cons.mp hp with rfl | hp
          · exact N₆ _ (hown _ (.tail _ (.head _)))
          · exact N₆ _ (hnx _ hp)
        | true =>
          refine wpAny_mono h₅ (fun y s₆ h₆' => ?_) fun _ _ e => e
          obtain ⟨h₆, tk₆, news₆, nx, rfl, F₆, N₆, hnx, hown, hax, hkx, hJx⟩ := h₆'
          have zD := (N₆ _ (hown _ (.tail _ (.head _)))).1
          refine append_at (hsz := by show ys.toArray.size ≤ sizeLine; rw [List.size_toArray]; exact Nat.le_trans (Nat.le_trans hyl (Nat.le_trans hi hn1000)) (by decide)) zD fun h₇ hs₇ hD₇ => ?_
          refine ⟨n + 1 - (i + 1), by omega, h₇, tk₆, i + 1, ys ++ [y], _, nx, rfl, hlt, rfl, by simp; omega, W.frame _ _ _ (stay _ _ _ F₆ N₆ hnx hown hkx) fun b hb o e => hs₇.extBut b o (fun q => hDf (q ▸ hb)) e, F₆.change hs₇ hDL hD₀,
            (hoC.ns (N₆ _ (hown _ (.head _))).1).sameBut hs₇ (Ne.symm hDC), fun p hp => ?_, hax, hkx, hJx⟩
          rcases List.mem_cons.mp hp with rfl | hp
          · exact ⟨hD₇.trans (congrArg some (lst_snoc ys y)), hDL, hD₀⟩
          · have z := N₆ _ (hnx _ hp)
            exact ⟨hs₇.extBut _ _ (below _ (hltA hax p hp)).2 z.1, z.2⟩
      · obtain rfl : i = n := Nat.le_antisymm hi (Nat.not_lt.mp hlt)
        refine W.done _ _ _ hst' fun h₂ tk₂ hk₂ => ?_
        refine hRR _ _ h₂ tk₂ _ ys news' ⟨F'.ns.at' fun o e => hk₂ _ o hLw e, fun b o e => hk₂ b o (fun q => by rw [hwr b q] at e; cases e) (F'.keep b o e), F'.above⟩ (fun p hp => ?_) (fun p hp => hltA ha' p hp) (hn'.at' fun o e => hk₂ _ o hCw e) hC₀ hD₀ hCL hDL (Ne.symm hDC)
          (fun p hp => (below _ (hltA ha' p hp)).1) (hdone ys news' ha' hk' hJ')
        rcases List.mem_cons.mp hp with rfl | hp
        · exact ⟨hk₂ _ _ hDw (N' _ (.head _)).1, hDL, hD₀⟩
        · exact ⟨hk₂ _ _ (hwA ha' p hp) (N' _ (.tail _ hp)).1, (N' _ (.tail _ hp)).2⟩
    · rcases List.mem_cons.mp hp with rfl | hp
      · exact ⟨hacc, hDL, hD₀⟩
      · exact ⟨old _ _ (N p hp).1, (N p hp).2⟩
  exact codeAny_compStart_list (loop _ rfl) (hself _ _ _ hst₁ (loop _ rfl))

def FinE (h₀ : Heap) (L : Addr) (m : Str → Option Value) (Q : Value → Shared → Prop) (s : Shared) (ys : List Value) (news : List (Addr × Obj)) : Prop :=
  ∀ D h tk, Fr h₀ L h m → News h₀ L h ((D, lst ys) :: news) → (∀ p ∈ news, p.1 < D) → Q (.ref D) { s with heap := h, toks := tk }
def FinA (h₀ : Heap) (L : Addr) (m : Str → Option Value) (y : Str) (Q : Flow → Shared → Prop) (s : Shared) (ys : List Value) (news : List (Addr × Obj)) : Prop :=
  ∀ D h tk, Fr h₀ L h (fun z => if z = y then some (.ref D) else m z) → News h₀ L h ((D, lst ys) :: news) → (∀ p ∈ news, p.1 < D) → Q .next { s with heap := h, toks := tk }

theorem compE {elt target iter : Expr} {ifs : List Expr} {scope : Scope} {cl : List (Str × Addr)} {pos : Pos} {Q : Value → Shared → Prop} (F₀ : Fr h₀ L s.heap m)
    (hclos : closureFor scope env = pure cl) (hcell : ∀ y ∈ scope.names, y.2 ≠ .cell) (hkind : scope.kind = .function)
    (hnames : ∀ y ∈ scope.names, y.2 = .local → scope.names.lookup y.1 = some .local)
    (h : wpAny (model prog w) A (eval iter env) (fun xv s₁ => wpAny (model prog w) A (pyIter xv) (fun it s₂ => CompAt prog w A h₀ L m env elt target ifs scope cl (FinE h₀ L m Q) it s₂) E s₁) E s)
    (hs : ∀ x, foldedSetIterable iter env x = pure x := by intro _; rfl) :
    wpAny (model prog w) A (eval (.ListComp elt [⟨target, iter, ifs, 0⟩] scope pos) env) Q E s := by
  rw [eval_ListComp]
  refine wpAny_comprehension_free (use := none) rfl hs hclos hkind hnames (wpAny_mono h (fun xv s₁ h₁ => wpAny_mono h₁ (fun it s₂ h₂ => ?_) fun _ _ e => e) fun _ _ e => e)
  refine compBlock h₂ hcell hkind ?_
  intro D C h tk m' ys news' F' N' o1 hn hC₀ hD₀ hCL hDL hCD offC fin
  refine ⟨m', hn, fun h'' hs'' => fin D h'' tk (F'.change hs'' hCL hC₀) (fun p hp => ?_) o1⟩
  refine ⟨hs''.extBut _ _ ?_ (N' p hp).1, (N' p hp).2⟩
  rcases List.mem_cons.mp hp with rfl | hp
  · exact Ne.symm hCD
  · exact offC p hp

theorem compA {elt target iter : Expr} {ifs : List Expr} {y : Str} {py : Pos} {scope : Scope} {cl : List (Str × Addr)} {pos spos : Pos} {Q : Flow → Shared → Prop} (F₀ : Fr h₀ L s.heap m) (hLe : env.locals = L)
    (hsw : swapsWith (.ListComp elt [⟨target, iter, ifs, 0⟩] scope pos) (some (.Name y py)) spos.line env = pure true)
    (hclos : closureFor scope env = pure cl) (hcell : ∀ z ∈ scope.names, z.2 ≠ .cell) (hkind : scope.kind = .function)
    (hnames : ∀ z ∈ scope.names, z.2 = .local → scope.names.lookup z.1 = some .local)
    (hy : env.kindOf y = some .local) (hp : (env.scope.kind == .class || (env.scope.kind == .module && env.locals != env.globals)) = false)
    (h : wpAny (model prog w) A (eval iter env) (fun xv s₁ => wpAny (model prog w) A (pyIter xv) (fun it s₂ => CompAt prog w A h₀ L m env elt target ifs scope cl (FinA h₀ L m y Q) it s₂) E s₁) E s)
    (hs : ∀ x, foldedSetIterable iter env x = pure x := by intro _; rfl) :
    wpAny (model prog w) A (exec (.Assign [.Name y py] (.ListComp elt [⟨target, iter, ifs, 0⟩] scope pos) spos) env) Q E s := by
  subst hLe
  rw [exec_Assign_Name_used _ _ _ _ hsw]
  refine wpAny_bind (wpAny_standAt (wpAny_bind ?_))
  show wpAny _ A (do let _ ← comprehension (.ListComp elt [⟨target, iter, ifs, 0⟩] scope pos) scope env _ (newList []) false (eval iter env) (some (assign (.Name y py) env))) _ _ s
  refine wpAny_bind (wpAny_mono (wpAny_comprehension_free (use := some (assign (.Name y py) env)) (Q := fun _ s' => Q .next s') rfl hs hclos hkind hnames
    (wpAny_mono h (fun xv s₁ h₁ => wpAny_mono h₁ (fun it s₂ h₂ => ?_) fun _ _ e => e) fun _ _ e => e)) (fun _ s' hq => wpAny_pure (wpAny_pure hq)) fun _ _ e => e)
  refine compBlock h₂ hcell hkind ?_
  intro D C h' tk m' ys news' F' N' o1 hn hC₀ hD₀ hCL hDL hCD offC fin
  show wpAny _ A (assign (.Name y py) env (.ref D)) _ _ _
  refine wpAny_assign_Name (wpAny_storeName_local hy F'.ns (fun h₂ hn₂ hs₂ => ?_) hp)
  have hL₀ : h₀.get? env.locals = none := Heap.get?_none_of_le F'.above
  have F₂ : Fr h₀ env.locals h₂ (fun z => if z = y then some (.ref D) else m z) := ⟨hn₂, fun b o e => hs₂.extBut b o (fun q => by rw [q, hL₀] at e; cases e) (F'.keep b o e), F'.above⟩
  refine ⟨m', hn.sameBut hs₂ hCL, fun h'' hs'' => fin D h'' _ (F₂.change hs'' hCL hC₀) (fun p hp => ?_) o1⟩
  have z : h₂.get? p.1 = some p.2 := hs₂.extBut _ _ (N' p hp).2.1 (N' p hp).1
  refine ⟨hs''.extBut _ _ ?_ z, (N' p hp).2⟩
  rcases List.mem_cons.mp hp with rfl | hp
  · exact Ne.symm hCD
  · exact offC p hp
end
end Lc
section Ls
theorem offLs : True := by w_top off; trivial
open LCg (NsObj ns_obj)
section
variable {prog : Program} {w : World} {A : Around} {E : Value → Shared → Prop} {s : Shared} {h₀ : Heap} {L : Addr} {m : Str → Option Value} {env : Env}

theorem goName {x : Str} {px : Pos} {I : Addr} {v : Value} {Q : Unit → Shared → Prop} (h : Q () s) : wpAny (model prog w) A (letOwnedTupleGo (.Name x px) (.ref I) v) Q E s :=
  wpAny_of_eq (a := ()) rfl h
theorem asgName {x : Str} {px : Pos} {scope : Scope} {cl : List (Str × Addr)} {C : Addr} {v : Value} {m₂ : Str → Option Value} {Q : Unit → Shared → Prop} (hx : scope.names.lookup x = some .local) (hkind : scope.kind = .function) (hn : s.heap.Ns C m₂)
    (h : ∀ h' tk', h'.Ns C (fun y => if y = x then some v else m₂ y) → (∀ b o, b ≠ C → s.heap.get? b = some o → h'.get? b = some o) → Q () { s with heap := h', toks := tk' }) :
    wpAny (model prog w) A (assign (.Name x px) (compEnvC scope cl C env) v) Q E s :=
  wpAny_assign_Name (wpAny_storeName_local (lookup_relabel_local hx) hn (fun h₃ hn₃ hs₃ => h h₃ _ hn₃ fun b o hb e => hs₃.extBut b o hb e) (by simp [compEnvC, relabel, hkind]))

/-- what a turn of a comprehension is to show -/
abbrev CTurn (prog : Program) (w : World) (A : Around) (h₀ : Heap) (L : Addr) (m : Str → Option Value) (env : Env) (elt : Expr) (ifs : List Expr) (scope : Scope) (cl : List (Str × Addr)) (C : Addr) (own : List (Addr × Obj)) (adr : List Addr) (ys : List Value) (J : List Value → List (Addr × Obj) → Prop) (E' : Value → Shared → Prop) (s : Shared) : Prop :=
  wpAny (model prog w) A (forIn ifs true fun c r => if r = true then do let ok ← isTrue c (compEnvC scope cl C env) (eval c (compEnvC scope cl C env)); pure (ForInStep.yield ok) else pure (ForInStep.yield r)) (fun ok s₃ =>
        if ok = true then wpAny (model prog w) A (eval elt (compEnvC scope cl C env)) (fun y => CEnd h₀ L m own adr (J (ys ++ [y])) s) E' s₃
        else CEnd h₀ L m own adr (J ys) s s₃) E' s

/-- over a list or a tuple -/
theorem compSeq {κ : SK} {elt : Expr} {ifs : List Expr} {scope : Scope} {cl : List (Str × Addr)} {Fin : Shared → List Value → List (Addr × Obj) → Prop} {x : Str} {px : Pos} {l : Addr} {vs : List Value} {news : List (Addr × Obj)} (keep : List (Addr × Obj)) (J : Nat → List Value → List (Addr × Obj) → Prop)
    (hh : A.handled = none) (hkind : scope.kind = .function) (hx : scope.names.lookup x = some .local) (hz : vs.length ≤ 1000)
    (S : SeqAt κ h₀ l vs.toArray keep) (hk : ∀ p ∈ keep, p ∈ news) (F : Fr h₀ L s.heap m) (N : News h₀ L s.heap news) (h0 : J 0 [] news)
    (step : ∀ i v ys m₂ news₁ h tk own C oC D (E' : Value → Shared → Prop), vs[i]? = some v → m₂ x = some v → NsObj oC m₂ → h.Ns C m₂ → news₁.map (·.1) = news.map (·.1) → (∀ p ∈ keep, p ∈ news₁) → OwnOff ((C, oC) :: (D, lst ys) :: own) (news.map (·.1)) → J i ys news₁ → Fr h₀ L h m →
      News h₀ L h (news₁ ++ (C, oC) :: (D, lst ys) :: own) → CTurn prog w A h₀ L m env elt ifs scope cl C ((C, oC) :: (D, lst ys) :: own) (news.map (·.1)) ys (fun ys' nx => (∀ p ∈ keep, p ∈ nx) ∧ J (i + 1) ys' nx) E' { s with heap := h, toks := tk })
    (done : ∀ g ys news₁, news₁.map (·.1) = news.map (·.1) → (∀ p ∈ keep, p ∈ news₁) → J vs.length ys news₁ → Fin { s with heap := g } ys news₁) :
    wpAny (model prog w) A (pyIter (.ref l)) (fun it s₂ => CompAt prog w A h₀ L m env elt (.Name x px) ifs scope cl Fin it s₂) E s := by
  have hl := S.sq hk F N
  obtain ⟨ol, el⟩ := SK.sq_get hl
  have hlt : l < s.heap.objs.size := Heap.lt_size el
  have hLl := S.ne hk F N
  have hn : vs.toArray.size = vs.length := by simp
  have F' : Fr h₀ L (s.heap.push (κ.iterObj l)) m := F.push _
  have N' : News h₀ L (s.heap.push (κ.iterObj l)) news := N.grown fun _ _ e => Heap.get?_push_of_some _ e
  have fresh : ∀ p ∈ news, p.1 ≠ s.heap.objs.size := fun p hp => Nat.ne_of_lt (Heap.lt_size (N p hp).1)
  have fp : ∀ b ∈ [s.heap.objs.size, l], (∃ o, (b, o) ∈ keep) ∨ (∃ o, h₀.get? b = some o) ∨ ∀ p ∈ news, p.1 ≠ b := fun b hb => by
    rcases List.mem_cons.mp hb with rfl | hb
    · exact .inr (.inr fresh)
    · rw [List.mem_singleton.mp hb]; exact S.at
  have hL : L ∉ [s.heap.objs.size, l] := fun hm => by
    rcases List.mem_cons.mp hm with e | hm
    · exact absurd F.ns.lt (e ▸ Nat.lt_irrefl _)
    · exact hLl (List.mem_singleton.mp hm)
  have wr : ∀ b ∈ [s.heap.objs.size], h₀.get? b = none := fun b hb => by rw [List.mem_singleton.mp hb]; exact next_is_new F
  have nw : ∀ p ∈ news, p.1 ∉ [s.heap.objs.size] := fun p hp hm => fresh p hp (List.mem_singleton.mp hm)
  have lt : ∀ b ∈ [s.heap.objs.size, l], b < (s.heap.push (κ.iterObj l)).objs.size := fun b hb => by
    rw [Heap.size_push]
    rcases List.mem_cons.mp hb with rfl | hb
    · exact Nat.lt_succ_self _
    · rw [List.mem_singleton.mp hb]; exact Nat.lt_succ_of_lt hlt
  refine κ.iter hl ?_
  cases κ with
  | lst =>
    have W := Walks.list (prog := prog) (w := w) hh s.heap.objs.size l (Nat.ne_of_lt hlt) vs.toArray
    rw [hn] at W
    exact ⟨s.heap.objs.size, _, _, vs.length, _, _, _, (fun i m₃ => ∃ v, vs[i]? = some v ∧ m₃ x = some v), news, keep, J, rfl, KTurns.ofWalks W (fun i v s Q E _ q => goName q), hz, lt, hL, wr, nw, fp, hk,
      ⟨SK.it_new .lst _ _, SK.sq_keep (κ := .lst) hl fun o e => Heap.get?_push_of_some _ e⟩, F', N', h0, (fun s₃ Q E st q => W.self 0 _ _ _ st q),
      (fun C i v s' m₂ Q E' hi hP hn q => asgName hx hkind hn fun h' tk' hn' hk' => q h' tk' _ hn' ⟨v, by simpa using hP, by simp⟩ hk'),
      (fun i ys m₂ news₁ h tk own C oC D E' hi ⟨v, hv, hm⟩ a b c d e f g i' => step i v ys m₂ news₁ h tk own C oC D E' hv hm a i' b c d e f g), (fun ys news₁ a b c => done _ ys news₁ a b c)⟩
  | tup =>
    have W := Walks.tuple (prog := prog) (w := w) hh s.heap.objs.size l (Nat.ne_of_lt hlt) vs.toArray
    rw [hn] at W
    exact ⟨s.heap.objs.size, _, _, vs.length, _, _, _, (fun i m₃ => ∃ v, vs[i]? = some v ∧ m₃ x = some v), news, keep, J, rfl, KTurns.ofWalks W (fun i v s Q E _ q => goName q), hz, lt, hL, wr, nw, fp, hk,
      ⟨SK.it_new .tup _ _, SK.sq_keep (κ := .tup) hl fun o e => Heap.get?_push_of_some _ e⟩, F', N', h0, (fun s₃ Q E st q => W.self 0 _ _ _ st q),
      (fun C i v s' m₂ Q E' hi hP hn q => asgName hx hkind hn fun h' tk' hn' hk' => q h' tk' _ hn' ⟨v, by simpa using hP, by simp⟩ hk'),
      (fun i ys m₂ news₁ h tk own C oC D E' hi ⟨v, hv, hm⟩ a b c d e f g i' => step i v ys m₂ news₁ h tk own C oC D E' hv hm a i' b c d e f g), (fun ys news₁ a b c => done _ ys news₁ a b c)⟩

/-- over a range -/
theorem compRange {elt : Expr} {ifs : List Expr} {scope : Scope} {cl : List (Str × Addr)} {Fin : Shared → List Value → List (Addr × Obj) → Prop} {x : Str} {px : Pos} {r : Addr} {a b : Int} {t u v : Tok} {n : Nat} {news : List (Addr × Obj)} (J : Nat → List Value → List (Addr × Obj) → Prop)
    (hh : A.handled = none) (hkind : scope.kind = .function) (hx : scope.names.lookup x = some .local) (hz : n ≤ 1000)
    (hr : IsRange s.heap r a b 1 t u v) (hsm : Builtin.Range.small a b 1 = true) (hn : Builtin.Range.rangeSize a b 1 = ((n : Nat) : Int)) (F : Fr h₀ L s.heap m) (N : News h₀ L s.heap news) (h0 : J 0 [] news)
    (step : ∀ i tv ys m₂ news₁ h tk own C oC D (E' : Value → Shared → Prop), i < n → m₂ x = some (.int (a + (i : Int)) tv) → NsObj oC m₂ → h.Ns C m₂ → news₁.map (·.1) = news.map (·.1) → OwnOff ((C, oC) :: (D, lst ys) :: own) (news.map (·.1)) → J i ys news₁ → Fr h₀ L h m →
      News h₀ L h (news₁ ++ (C, oC) :: (D, lst ys) :: own) → CTurn prog w A h₀ L m env elt ifs scope cl C ((C, oC) :: (D, lst ys) :: own) (news.map (·.1)) ys (fun ys' nx => J (i + 1) ys' nx) E' { s with heap := h, toks := tk })
    (done : ∀ g ys news₁, news₁.map (·.1) = news.map (·.1) → J n ys news₁ → Fin { s with heap := g } ys news₁) :
    wpAny (model prog w) A (pyIter (.ref r)) (fun it s₂ => CompAt prog w A h₀ L m env elt (.Name x px) ifs scope cl Fin it s₂) E s := by
  have F' : ∀ o, Fr h₀ L (s.heap.push o) m := fun o => F.push o
  have N' : ∀ o, News h₀ L (s.heap.push o) news := fun o => N.grown fun _ _ e => Heap.get?_push_of_some _ e
  have fresh : ∀ p ∈ news, p.1 ≠ s.heap.objs.size := fun p hp => Nat.ne_of_lt (Heap.lt_size (N p hp).1)
  have fp : ∀ b ∈ [s.heap.objs.size], (∃ o, (b, o) ∈ ([] : List (Addr × Obj))) ∨ (∃ o, h₀.get? b = some o) ∨ ∀ p ∈ news, p.1 ≠ b := fun b hb => by
    rw [List.mem_singleton.mp hb]; exact .inr (.inr fresh)
  have hL : L ∉ [s.heap.objs.size] := fun hm => absurd F.ns.lt ((List.mem_singleton.mp hm) ▸ Nat.lt_irrefl _)
  have wr : ∀ b ∈ [s.heap.objs.size], h₀.get? b = none := fun b hb => by rw [List.mem_singleton.mp hb]; exact next_is_new F
  have nw : ∀ p ∈ news, p.1 ∉ [s.heap.objs.size] := fun p hp hm => fresh p hp (List.mem_singleton.mp hm)
  refine wpAny_pyIter_range hr hsm ?_
  have W := LCg.range_walks (prog := prog) (w := w) (I := s.heap.objs.size) hh a n
  refine ⟨s.heap.objs.size, _, _, n, _, _, _, (fun i m₃ => ∃ tv, m₃ x = some (.int (a + (i : Int)) tv)), news, [], J, rfl, KTurns.ofWalks W (fun i v s Q E _ q => goName q), hz, (fun b hb => ?_), hL, wr, nw, fp, (fun p hp => nomatch hp),
      (by show IsRangeIter _ _ _ _ _; rw [hn]; simpa using Heap.get?_push_size _ rfl), F' _, N' _, h0, (fun s₃ Q E st q => W.self 0 _ _ _ st q),
      (fun C i v s' m₂ Q E' hi hP hn q => asgName hx hkind hn fun h' tk' hn' hk' => q h' tk' _ hn' (by obtain ⟨tv, rfl⟩ := hP; exact ⟨tv, by simp⟩) hk'),
      (fun i ys m₂ news₁ h tk own C oC D E' hi ⟨v, hm⟩ a b c d e f g i' => ?_), (fun ys news₁ a b c => done _ ys news₁ a c)⟩
  · rw [List.mem_singleton.mp hb]
    show s.heap.objs.size < (s.heap.push _).objs.size
    rw [Heap.size_push]; exact Nat.lt_succ_self _
  · refine wpAny_mono (step i v ys m₂ news₁ h tk own C oC D E' hi hm a i' b d e f g) (fun ok s₃ x => ?_) fun _ _ e => e
    cases ok with
    | true => exact wpAny_mono x (fun y s₄ z => by
        obtain ⟨h', tk', n', nx, r1, r2, r3, r4, r5, r6, r7⟩ := z
        exact ⟨h', tk', n', nx, r1, r2, r3, r4, r5, r6, (fun p hp => nomatch hp), r7⟩) fun _ _ e => e
    | false =>
        obtain ⟨h', tk', n', nx, r1, r2, r3, r4, r5, r6, r7⟩ := x
        exact ⟨h', tk', n', nx, r1, r2, r3, r4, r5, r6, (fun p hp => nomatch hp), r7⟩

/-- zip called, and the comprehension over it -/
theorem compZip {κ₁ κ₂ : SK} {elt : Expr} {ifs : List Expr} {scope : Scope} {cl : List (Str × Addr)} {Fin : Shared → List Value → List (Addr × Obj) → Prop} {x y : Str} {px py pt : Pos} {kt : Nat} {l1 l2 : Addr} {vs us : List Value} {news : List (Addr × Obj)} (keep : List (Addr × Obj)) (J : Nat → List Value → List (Addr × Obj) → Prop)
    (hh : A.handled = none) (hkind : scope.kind = .function) (hx : scope.names.lookup x = some .local) (hy : scope.names.lookup y = some .local) (hxy : x ≠ y) (hz : vs.length ≤ 1000)
    (S1 : SeqAt κ₁ h₀ l1 vs.toArray keep) (S2 : SeqAt κ₂ h₀ l2 us.toArray keep) (hlen : vs.length = us.length) (hk : ∀ p ∈ keep, p ∈ news) (F : Fr h₀ L s.heap m) (N : News h₀ L s.heap news) (h0 : J 0 [] news)
    (step : ∀ i va vb ys m₂ news₁ h tk own C oC D (E' : Value → Shared → Prop), vs[i]? = some va → us[i]? = some vb → m₂ x = some va → m₂ y = some vb → NsObj oC m₂ → h.Ns C m₂ → news₁.map (·.1) = news.map (·.1) → (∀ p ∈ keep, p ∈ news₁) → OwnOff ((C, oC) :: (D, lst ys) :: own) (news.map (·.1)) → J i ys news₁ → Fr h₀ L h m →
      News h₀ L h (news₁ ++ (C, oC) :: (D, lst ys) :: own) → CTurn prog w A h₀ L m env elt ifs scope cl C ((C, oC) :: (D, lst ys) :: own) (news.map (·.1)) ys (fun ys' nx => (∀ p ∈ keep, p ∈ nx) ∧ J (i + 1) ys' nx) E' { s with heap := h, toks := tk })
    (done : ∀ g ys news₁, news₁.map (·.1) = news.map (·.1) → (∀ p ∈ keep, p ∈ news₁) → J vs.length ys news₁ → Fin { s with heap := g } ys news₁) :
    wpAny (model prog w) A (call (.type "zip") [.ref l1, .ref l2]) (fun xv s₁ => wpAny (model prog w) A (pyIter xv) (fun it s₂ => CompAt prog w A h₀ L m env elt (.Tuple [.Name x px, .Name y py] kt pt) ifs scope cl Fin it s₂) E s₁) E s := by
  have hl1 := S1.sq hk F N
  have hl2 := S2.sq hk F N
  obtain ⟨_, e1⟩ := SK.sq_get hl1
  obtain ⟨_, e2⟩ := SK.sq_get hl2
  have ll1 := Heap.lt_size e1
  have ll2 := Heap.lt_size e2
  have hLl1 := S1.ne hk F N
  have hLl2 := S2.ne hk F N
  refine zip_call κ₁ κ₂ hl1 hl2 fun h' S hsz' hkeep => wpAny_pyIter_zip S.z ?_
  have D := ktu_apart s.heap.objs.size l1 l2 ll1 ll2
  have hn : vs.toArray.size = vs.length := by simp
  have W := zip_walks (prog := prog) (w := w) (κ₁ := κ₁) (κ₂ := κ₂) (z := s.heap.objs.size + 4) (TI := s.heap.objs.size + 2) (TO := s.heap.objs.size + 3) (i1 := s.heap.objs.size) (i2 := s.heap.objs.size + 1) (xs := vs.toArray) (ys := us.toArray) hh D (by simpa using hlen)
  rw [hn] at W
  have hi : ∀ k, ∀ p ∈ news, p.1 ≠ s.heap.objs.size + k := fun k p hp => Nat.ne_of_lt (Nat.lt_of_lt_of_le (Heap.lt_size (N p hp).1) (Nat.le_add_right _ _))
  have hLk : ∀ k, L ≠ s.heap.objs.size + k := fun k => Nat.ne_of_lt (Nat.lt_of_lt_of_le F.ns.lt (Nat.le_add_right _ _))
  have F' : Fr h₀ L h' m := F.keeps hkeep
  have N' : News h₀ L h' news := N.grown hkeep
  refine ⟨s.heap.objs.size + 4, _, _, vs.length, _, _, _, (fun i m₃ => ∃ va vb, vs[i]? = some va ∧ us[i]? = some vb ∧ m₃ x = some va ∧ m₃ y = some vb), news, keep, J, rfl, KTurns.ofWalksU W, hz, ?_, ?_, ?_, ?_, ?_, hk, S, F', N', h0, (fun s₃ Q E st q => W.self 0 _ _ _ st q), ?_,
      (fun i ys m₂ news₁ h tk own C oC D E' hi ⟨va, vb, hv, hu, hm, hm'⟩ a b c d e f g i' => step i va vb ys m₂ news₁ h tk own C oC D E' hv hu hm hm' a i' b c d e f g), (fun ys news₁ a b c => done _ ys news₁ a b c)⟩
  · intro b hb
    show b < h'.objs.size
    rw [hsz']
    simp only [List.mem_cons, List.not_mem_nil, or_false] at hb
    have l1' : l1 < s.heap.objs.size + 5 := Nat.lt_of_lt_of_le ll1 (Nat.le_add_right _ _)
    have l2' : l2 < s.heap.objs.size + 5 := Nat.lt_of_lt_of_le ll2 (Nat.le_add_right _ _)
    rcases hb with rfl | rfl | rfl | rfl | rfl | rfl | rfl
    · exact Nat.add_lt_add_left (by decide) _
    · exact Nat.add_lt_add_left (by decide) _
    · exact Nat.add_lt_add_left (by decide) _
    · exact Nat.lt_add_of_pos_right (by decide)
    · exact Nat.add_lt_add_left (by decide) _
    · exact l1'
    · exact l2'
  · intro hm
    simp only [List.mem_cons, List.not_mem_nil, or_false] at hm
    rcases hm with e | e | e | e | e | e | e
    · exact hLk 4 e
    · exact hLk 2 e
    · exact hLk 3 e
    · exact hLk 0 e
    · exact hLk 1 e
    · exact hLl1 e
    · exact hLl2 e
  · intro b hb
    simp only [List.mem_cons, List.not_mem_nil, or_false] at hb
    rcases hb with rfl | rfl | rfl | rfl
    · exact ktu_new F (Nat.le_add_right _ 4)
    · exact ktu_new F (Nat.le_add_right _ 3)
    · exact ktu_new F (Nat.le_refl _)
    · exact ktu_new F (Nat.le_add_right _ 1)
  · intro p hp hm
    simp only [List.mem_cons, List.not_mem_nil, or_false] at hm
    rcases hm with e | e | e | e
    · exact hi 4 p hp e
    · exact hi 3 p hp e
    · exact hi 0 p hp e
    · exact hi 1 p hp e
  · intro b hb
    simp only [List.mem_cons, List.not_mem_nil, or_false] at hb
    rcases hb with rfl | rfl | rfl | rfl | rfl | rfl | rfl
    · exact .inr (.inr (hi 4))
    · exact .inr (.inr (hi 2))
    · exact .inr (.inr (hi 3))
    · exact .inr (.inr (hi 0))
    · exact .inr (.inr (hi 1))
    · exact S1.at
    · exact S2.at
  · intro C i v s' m₂ Q E' hi' hP hn' q
    obtain ⟨T, vals, rfl, hPt, hT⟩ := hP
    obtain ⟨va, vb, ha, hb, rfl⟩ := hPt
    refine assign_Tuple_tuple hh hT rfl rfl fun h₅ he => ?_
    have he' : ∀ b o, s'.heap.get? b = some o → h₅.get? b = some o := fun b o e => he b o (Nat.ne_of_lt (Heap.lt_size e)) e
    refine assignInOrder_cons (asgName (s := { s' with heap := h₅, toks := _ }) hx hkind (hn'.at' fun o e => he' _ o e) fun h₆ tk₆ hn₆ hk₆ => ?_)
    refine assignInOrder_cons (asgName (s := { s' with heap := h₆, toks := _ }) hy hkind hn₆ fun h₇ tk₇ hn₇ hk₇ => ?_)
    refine assignInOrder_nil ?_
    exact q h₇ _ _ hn₇ ⟨va, vb, by simpa using ha, by simpa using hb, by simp [hxy], by simp⟩ fun b o hc e => hk₇ b o hc (hk₆ b o hc (he' b o e))
end
end Ls
section St
theorem offSt : True := by w_top off; trivial
local macro_rules | `(tactic| ktr_unf) => `(tactic| repeat' (
  (fail_if_success (with_reducible show wpAny _ _ (exec (Stmt.For _ _ _ _ _) _) _ _ _));
  (fail_if_success (with_reducible show wpAny _ _ (pyIter _) _ _ _));
  (fail_if_success (with_reducible show wpAny _ _ (call (Value.type "zip") _ _) _ _ _));
  (fail_if_success (with_reducible show wpAny _ _ (eval (Expr.ListComp _ _ _ _) _) _ _ _));
  (fail_if_success (with_reducible show wpAny _ _ (eval (Expr.GeneratorExp _ _ _ _) _) _ _ _));
  (fail_if_success (with_reducible show InvPostN _ _ _ _ _ _ _ _ _));
  first | (k_unfold; (try dsimp only)) | (k_end; wrow_close) | walk1 | (dsimp only; walk1) | (leave1; walk_say "STEP leave1"; try dsimp only)))
set_option hygiene false in
local macro_rules | `(tactic| kpt_turns) => `(tactic| ((repeat' (
  (fail_if_success (with_reducible show wpAny _ _ (exec (Stmt.For _ _ _ _ _) _) _ _ _));
  (fail_if_success (with_reducible show wpAny _ _ (pyIter _) _ _ _));
  (fail_if_success (with_reducible show wpAny _ _ (call (Value.type _) _ _) _ _ _));
  (fail_if_success (with_reducible show wpAny _ _ (call (Value.builtin _) _ _) _ _ _));
  (fail_if_success (with_reducible show wpAny _ _ (call (Value.ref _) _ _) _ _ _));
  (fail_if_success (with_reducible show wpAny _ _ (subscriptTail _ _ _ _) _ _ _));
  (fail_if_success (with_reducible show wpAny _ _ (truthy (Value.ref _)) _ _ _));
  (fail_if_success (with_reducible show wpAny _ _ (newList _) _ _ _));
  (fail_if_success (with_reducible show wpAny _ _ (eval (Expr.ListComp _ _ _ _) _) _ _ _));
  (fail_if_success (with_reducible show wpAny _ _ (eval (Expr.GeneratorExp _ _ _ _) _) _ _ _));
  (fail_if_success (with_reducible show InvPostN _ _ _ _ _ _ _ _ _));
  first | (k_unfold; (try dsimp only)) | (k_end; wrow_close) | walk1 | (dsimp only; walk1) | (leave1; walk_say "STEP leave1"; try dsimp only))); (all_goals (try rename Fr _ _ _ _ => FF)); (all_goals (try rename News _ _ _ _ => NN))))
set_option maxRecDepth 100000 in
set_option maxHeartbeats 4000000 in
theorem start_ok {w : World} {dp un : Nat} {gd : Option (List Code)} {cn : Str} {cs : Scope} {a' : Addr} {ccd : Value} {cl : List (Str × Addr)} {outer : List Env} {A₀ : Around} {base h₀ : Heap} {L : Addr} {m : Str → Option Value} {s : Shared}
    {p : Program} {loose : List Str} {mean : ExcName → Option Value} {mg mb : Str → Option Value} {Q E : Value → Shared → Prop}
    {t : Addr} {vs : List Value} {ns : List Int} {news : List (Addr × Obj)}
    (B : Below A₀ base outer h₀) (F : Fr h₀ L s.heap m) (X : (hd.heap_39 w.params).In h₀) (N : News h₀ L s.heap news) (T : Top p loose mean mg mb h₀)
    (hk : cs.kind = .function) (hd : dp < 900) (hl : h₀.IsList t vs.toArray)
    (hi : IntsAre vs ns) (hz : ns.length ≤ 63)
    (ret : ∀ st l n us ms ta tb h tk, IntsAre us ms → (∀ x ∈ ms, 0 ≤ x ∧ x < 1000000007) → ms.length ≤ 24 → Fr h₀ L h m → News h₀ L h ((st, listOf #[.ref l, .int 0 ta, .int (7 + ns.length) tb] 0) :: (l, listOf us.toArray n) :: news) → (∀ p ∈ news, p.1 < l) → @Ne Nat st l → (∀ p ∈ news, p.1 < st) → Q (.ref st) { s with heap := h, toks := tk }) :
    wpAny (model PySem.Challenge.rw_au0025_01.row.prog w) (ktrTop dp un gd cn cs L a' ccd cl outer) (call (.ref 61) [.ref t]) Q E s := by
  have hvl := hi.length
  revert X; k_fill; intro X
  refine wpAny_call ?_
  k_dflt ktr_enter
  rename Fr _ _ _ m => FG'
  have hlG : PySem.Heap.IsList _ t vs.toArray := let ⟨o, ho, r⟩ := hl; ⟨o, FG'.keep _ _ ho, r⟩
  clear hl
  kpt_turns
  refine compE FF rfl (by decide) rfl (by decide) ?_
  kpt_turns
  refine kmk_slice_ints FF NN ⟨_, FF.keep _ _ hlG.choose_spec.1, hlG.choose_spec.2⟩ .none (.int 24 _) hi (kmk_upto hi (by decide)) rfl (fun D2 ws h2 F2 N2 l2 hws _ hwl => ?_) (by with_unfolding_all rfl) (by intro _; with_unfolding_all rfl) (by simp; exact Nat.le_trans (show vs.length ≤ 100 by omega) (by decide))
  kpt_turns
  have hws : IntsAre ws (ns.take 24) := hws
  have hwl' := hws.length
  have hws24 : (ns.take 24).length ≤ 24 := by rw [List.length_take]; omega
  refine compSeq (κ := .lst) (vs := ws) [(D2, listOf ws.toArray 0)] (fun i ys nx => nx = (D2, listOf ws.toArray 0) :: news ∧ ∃ ms, IntsAre ys ms ∧ ys.length = i ∧ ∀ x ∈ ms, 0 ≤ x ∧ x < 1000000007) rfl rfl rfl (by omega)
    (.inr ⟨_, 0, .head _, rfl, rfl⟩) (fun p hp => by rw [List.mem_singleton.mp hp]; exact .head _) FF NN ⟨rfl, [], .nil, rfl, fun x hx => nomatch hx⟩ ?_ ?_
  · rintro i v ys m₂ news₁ h tk own C oC D E' hv hm hoC hnC ha hkp hoff ⟨rfl, ms, hms, hyl, hall⟩ F₁ N₁
    have hil : i < (ns.take 24).length := by have := (List.getElem?_eq_some_iff.mp hv).1; have := hws.length; omega
    obtain ⟨x, hx⟩ : ∃ x, (ns.take 24)[i]? = some x := ⟨_, List.getElem?_eq_getElem hil⟩
    obtain ⟨tx, hx'⟩ := hws.get i x hx
    rw [hx'] at hv; cases hv
    refine wpAny_tests_nil ?_
    rw [if_pos rfl]
    have N₂ : News _ _ h ((D2, listOf ws.toArray 0) :: (news ++ (C, oC) :: (D, lst ys) :: own)) := N₁
    clear FF NN N₁
    kpt_turns
    walk1
    kpt_turns
    refine CEnd.intro ((D2, listOf ws.toArray 0) :: news) FF NN (fun p hp => ?_) (fun p hp => .tail _ (List.mem_append_right _ hp)) rfl ⟨hkp, rfl, ms ++ [_], hms.append (.cons _ _ .nil), by simp [hyl], fun x hx => ?_⟩
    · rcases List.mem_cons.mp hp with rfl | hp
      · exact .head _
      · exact .tail _ (List.mem_append_left _ hp)
    · rcases List.mem_append.mp hx with hx | hx
      · exact hall x hx
      · rw [List.mem_singleton.mp hx]
        exact ⟨fm_lo (by decide), fm_hi (by decide)⟩
  · rintro g ys news₁ ha hkp ⟨rfl, ms, hms, hyl, hall⟩
    intro D h tk F₁ N₁ l₁
    clear FF NN
    have hmsl : ms.length ≤ 24 := by have := hms.length; omega
    kpt_turns
    refine PyProof.Rows.len_list (items := vs.toArray) ⟨_, FF.keep _ _ hlG.choose_spec.1, hlG.choose_spec.2⟩ (by simp; omega) ?_
    rw [show (vs.toArray.size : Int) = (ns.length : Int) by simp [hvl]]
    kpt_turns
    refine newList_K FF NN (fun st h5 F5 N5 l5 => ?_)
    kpt_turns
    have hst := l5 _ (.head _)
    exact ret st D _ ys ms _ _ _ _ hms hall hmsl FF (fun p hp => NN p (by
      rcases List.mem_cons.mp hp with e | hp
      · exact e ▸ .head _
      · rcases List.mem_cons.mp hp with e | hp
        · exact e ▸ .tail _ (.head _)
        · exact .tail _ (.tail _ (.tail _ hp)))) (fun p hp => l₁ p (.tail _ hp)) (Nat.ne_of_gt hst) (fun p hp => l5 p (.tail _ (.tail _ hp)))
end St
section Rg
theorem offRg : True := by w_top off; trivial
section
variable {prog : Program} {w : World} {A : Around} {E : Value → Shared → Prop} {s : Shared}

theorem small0 {a n : Int} (ha : 0 ≤ a) (h0 : 0 ≤ n) (h : n ≤ 1000) (ha' : a ≤ 1000) : Builtin.Range.small a n 1 = true := small_one (by omega) (by omega) (by omega) (by omega)

theorem collect_range {r : Addr} {a b c : Int} {t u v : Tok} {n : Nat} {Q : List Value → Shared → Prop} (hh : A.handled = none) (hr : IsRange s.heap r a b c t u v) (hsmall : Builtin.Range.small a b c = true)
    (hn : Builtin.Range.rangeSize a b c = n) (hlen : n ≤ 1000)
    (hQ : ∀ h' tk (vs : List Value), (∀ b o', s.heap.get? b = some o' → h'.get? b = some o') → vs.length = n → (∀ (i : Nat) (v : Value), vs[i]? = some v → ∃ t, v = .int (a + i * c) t) → Q vs { s with heap := h', toks := tk }) :
    wpAny (model prog w) A (collect (.ref r)) Q E s := by
  unfold collect
  refine wpAny_bind (wpAny_runValue (codeAny_builtin F.entry_proto_collect ?_))
  rw [Around.under_plainId F.plain_proto_collect _]
  show wpAny _ A.in1 (newList [] >>= fun l => again (.builtin "list.__iadd__" ⟨[l, .ref r], []⟩)) _ _ s
  refine wpAny_bind (wpAny_newObj_type ?_)
  refine wpAny_pure ⟨plainId_quiet F.plain_list_iadd _, codeAny_builtin F.entry_list_iadd ?_⟩
  rw [Around.under_plainId F.plain_list_iadd _]
  show wpAny _ A.in1 (Builtin.List.listExtendWith (.ref s.heap.objs.size) (.ref r) (.ref s.heap.objs.size)) _ _ _
  have hS : (s.heap.push { cls := .type "list", data := .seq ([] : List Value).toArray }).get? s.heap.objs.size = some { cls := .type "list", data := .seq #[] 0 } := Heap.get?_push_size _ rfl
  refine wpAny_mono (wpAny_extend_range (A := A) (R := fun r' s' => ∃ h' tk acc c', r' = .ok (.ret (.ref s.heap.objs.size)) ∧ s' = { s with heap := h', toks := tk } ∧ (∀ b o, s.heap.get? b = some o → h'.get? b = some o) ∧
      h'.get? s.heap.objs.size = some { cls := .type "list", dict := none, data := .seq acc c', slots := #[] } ∧ ItemsOf (fun i v => ∃ t, v = .int (a + i * c) t) acc n)
    (s := { s with heap := s.heap.push { cls := .type "list", data := .seq ([] : List Value).toArray } }) hh (Heap.get?_push_of_some _ hr) hsmall hn (by omega) _ _ 0 hS
    fun h' tk acc c' hk hS' hacc => ⟨h', tk, acc, c', rfl, rfl, fun b o e => hk b o (Nat.ne_of_lt (Heap.lt_size e)) (Heap.get?_push_of_some _ e), hS', hacc⟩) (fun fin s' h => ?_) (fun e s' h => ?_)
  · have done : ∀ h' tk acc c', (∀ b o, s.heap.get? b = some o → h'.get? b = some o) → h'.get? s.heap.objs.size = some { cls := .type "list", dict := none, data := .seq acc c', slots := #[] } → ItemsOf (fun i v => ∃ t, v = .int (a + i * c) t) acc n →
        wpAny (model prog w) A (match Value.ref s.heap.objs.size with
          | Value.ref a => do
            match (← load a).data with
              | Data.seq xs _ => pure xs.toList
              | _ => unsupported "internal:collect"
          | _ => unsupported "internal:collect") Q E { s with heap := h', toks := tk } := by
      intro h' tk acc c' hk hS' hacc
      show wpAny _ A (load s.heap.objs.size >>= _) _ _ _
      refine wpAny_bind (wpAny_load hS' ?_)
      exact wpAny_pure (hQ h' tk acc.toList hk (by simpa using hacc.1) fun i v hv => hacc.2 i v (by simpa using hv))
    cases fin with
    | done f =>
      obtain ⟨h', tk, acc, c', e, rfl, hk, hS', hacc⟩ := h
      cases e
      exact done h' tk acc c' hk hS' hacc
    | again c' => exact ⟨h.1, codeAny_mono h.2 fun r s'' hr => by obtain ⟨h', tk, acc, c', rfl, rfl, hk, hS', hacc⟩ := hr; exact done h' tk acc c' hk hS' hacc⟩
  · obtain ⟨_, _, _, _, e, _⟩ := h
    cases e

theorem collect_tup {l : Addr} {items : Array Value} {Q : List Value → Shared → Prop} (ht : IsTup s.heap l items) (hz : items.size ≤ 1000)
    (hQ : ∀ h', (∀ b o', s.heap.get? b = some o' → h'.get? b = some o') → Q items.toList { s with heap := h' }) : wpAny (model prog w) A (collect (.ref l)) Q E s := by
  obtain ⟨o, ho, hc, n, hd⟩ := ht
  exact wpAny_collect_seq l (.inr rfl) ho hc hd hQ (Nat.le_trans hz (by decide))

theorem ints_range {vs : List Value} {n : Nat} (hl : vs.length = n) (h : ∀ (i : Nat) (v : Value), vs[i]? = some v → ∃ t, v = .int (0 + (i : Int) * 1) t) : IntsAre vs ((List.range n).map Int.ofNat) := by
  have key : ∀ (us : List Value) (k : Nat), (∀ (i : Nat) (v : Value), us[i]? = some v → ∃ t, v = .int ((k + i : Nat) : Int) t) → IntsAre us ((List.range' k us.length).map Int.ofNat) := by
    intro us
    induction us with
    | nil => intro k _; exact .nil
    | cons u r ih =>
      intro k hu
      obtain ⟨t, rfl⟩ := hu 0 u rfl
      rw [List.length_cons, List.range'_succ, List.map_cons]
      refine .cons _ _ (ih (k + 1) fun i v hv => ?_)
      obtain ⟨t', rfl⟩ := hu (i + 1) v hv
      exact ⟨t', by congr 1; omega⟩
  have := key vs 0 fun i v hv => by
    obtain ⟨t, rfl⟩ := h i v hv
    exact ⟨t, by congr 1; omega⟩
  rw [hl, ← List.range_eq_range'] at this
  exact this

variable {h₀ : Heap} {L : Addr} {m : Str → Option Value} {news : List (Addr × Obj)}
theorem frKeep {h h' : Heap} (F : Fr h₀ L h m) (k : ∀ b o, h.get? b = some o → h'.get? b = some o) : Fr h₀ L h' m := F.keeps k

/-- the tuple of a range -/
theorem tupleOfRange {r : Addr} {a b : Int} {t u v : Tok} {n : Nat} {Q : Value → Shared → Prop} (hh : A.handled = none) (Fh : Fr h₀ L s.heap m) (N : News h₀ L s.heap news) (hr : IsRange s.heap r a b 1 t u v) (hsmall : Builtin.Range.small a b 1 = true)
    (hn : Builtin.Range.rangeSize a b 1 = n) (hlen : n ≤ 1000)
    (h : ∀ D (vs : List Value) h' tk, Fr h₀ L h' m → News h₀ L h' ((D, { cls := .type "tuple", data := .seq vs.toArray 0 }) :: news) → (∀ p ∈ news, p.1 < D) → vs.length = n → (∀ (i : Nat) (v : Value), vs[i]? = some v → ∃ t, v = .int (a + i * 1) t) → Q (.ref D) { s with heap := h', toks := tk }) :
    wpAny (model prog w) A (call (.type "tuple") [.ref r]) Q E s := by
  refine callType_codes (Q₁ := fun obj s₁ => s₁.TypeIs obj "tuple" ∧ Q obj s₁) F.called_tuple (F.typeCall_tuple_1 _) F.entry_object_init ?_ fun obj s₁ h₁ => ?_
  · refine codeAny_of_tree ?_
    show wpAny _ A.in1.in1 (do checkBuiltinCall "tuple.__new__" ⟨[.type "tuple", .ref r], []⟩; again (.builtin "tuple.__new__" ⟨[.type "tuple", .ref r], []⟩)) _ _ s
    refine wpAny_bind (wpAny_of_eq (F.newCall_tuple_1 _) (wpAny_pure ⟨plainId_quiet F.plain_tuple_new _, codeAny_builtin F.entry_tuple_new ?_⟩))
    rw [Around.under_plainId F.plain_tuple_new _]
    have hsub := sub_tuple_self
    have hinit := init_tuple_lookup
    have hmh := madeHere_tuple
    have hTI : s.TypeIs (.ref r) "range" := ⟨_, hr, rfl⟩
    wp_walk using wpAny_typeOf hTI, collect_range (A := A.in1.in1) hh hr hsmall hn hlen
    intro h' tk vs hk hl hv
    show wpAny _ _ (Builtin.Tuple.tupleExact vs.toArray >>= fun v => ret v) _ _ _
    unfold Builtin.Tuple.tupleExact
    refine wpAny_bind (wpAny_newObj_type ?_ (by show vs.toArray.size ≤ sizeLine; rw [List.size_toArray, hl]; exact Nat.le_trans hlen (by decide)))
    refine wpAny_pure ⟨⟨_, Heap.get?_push_size _ rfl, rfl⟩, ?_⟩
    have F' : Fr h₀ L h' m := Fh.keeps hk
    have N' : News h₀ L h' news := N.grown hk
    exact h _ vs _ tk (F'.push _) (N'.push F' _) (fun p hp => Heap.lt_size (N' p hp).1) hl hv
  · exact ⟨h₁.1, F.args_object_init_2 obj _, object_init_meets F.called_tuple.init.lookup F.called_tuple.made (by decide) prog w A.in1 _ s₁ ⟨h₁.1, rfl, h₁.2⟩⟩

/-- the list of a range -/
theorem listOfRange {r : Addr} {a b : Int} {t u v : Tok} {n : Nat} {Q : Value → Shared → Prop} (hh : A.handled = none) (F : Fr h₀ L s.heap m) (N : News h₀ L s.heap news) (hr : IsRange s.heap r a b 1 t u v) (hsmall : Builtin.Range.small a b 1 = true)
    (hn : Builtin.Range.rangeSize a b 1 = n) (hlen : n ≤ 1000)
    (h : ∀ D k (vs : List Value) h' tk, Fr h₀ L h' m → News h₀ L h' ((D, listOf vs.toArray k) :: news) → (∀ p ∈ news, p.1 < D) → vs.length = n → (∀ (i : Nat) (v : Value), vs[i]? = some v → ∃ t, v = .int (a + i * 1) t) → Q (.ref D) { s with heap := h', toks := tk }) :
    wpAny (model prog w) A (call (.type "list") [.ref r]) Q E s := by
  refine call_list_range hh hr hsmall hn (by omega) fun h' tk acc' c' hk hS' hacc => ?_
  have F' : Fr h₀ L h' m := F.keeps hk
  refine h s.heap.objs.size c' acc'.toList h' tk F' (fun p hp => ?_) (fun p hp => Heap.lt_size (N p hp).1) (by simpa using hacc.1) (fun i v hv => hacc.2 i v (by simpa using hv))
  rcases List.mem_cons.mp hp with rfl | hp
  · refine ⟨by simpa using hS', Nat.ne_of_gt F.ns.lt, next_is_new F⟩
  · exact ⟨hk _ _ (N p hp).1, (N p hp).2⟩

/-- sorted over a tuple of ints -/
theorem sortedTup {l : Addr} {vs : List Value} {ns : List Int} {Q : Value → Shared → Prop} (F : Fr h₀ L s.heap m) (N : News h₀ L s.heap news) (ht : IsTup s.heap l vs.toArray) (hI : IntsAre vs ns) (h64 : vs.length < 64)
    (h : ∀ D e vs' ns' h', Fr h₀ L h' m → News h₀ L h' ((D, listOf vs'.toArray e) :: news) → (∀ p ∈ news, p.1 < D) → IntsAre vs' ns' → ns'.Perm ns → ns'.Pairwise (· ≤ ·) → Q (.ref D) { s with heap := h' }) :
    wpAny (model prog w) A (call (.builtin "sorted") [.ref l]) Q E s := by
  refine Calls.call_function_entry kind_sorted plain_sorted entry_sorted (args_sorted1 _) ?_
  unfold Builtin.«sorted»
  refine wpAny_bind (m := checkCount "sorted" 1 1 _) (wpAny_pure ?_)
  refine wpAny_bind (collect_tup ht (by simp; omega) fun h' hk => ?_)
  refine wpAny_bind (wpAny_newList ?_ (by simp; exact Nat.le_trans (Nat.le_of_lt h64) (by decide)))
  have hoL : (h'.push (seqObj "list" vs.toArray 0)).get? h'.objs.size = some (seqObj "list" vs.toArray 0) := Heap.get?_push_size _ rfl
  show wpAny _ _ _ _ _ { s with heap := h'.push (seqObj "list" vs.toArray 0) }
  refine wpAny_bind (wpAny_holding (wpAny_call_entry slot_list_sort ⟨_, hoL, rfl⟩ entry_list_sort (list_sort_tree (s := { s with heap := h'.push (seqObj "list" vs.toArray 0) }) hoL hI h64 fun out ns' a1 a2 a3 => ⟨_, rfl, ?_⟩) (args_list_sort _)))
  obtain ⟨e, he⟩ := sortedHeap_at (vs := vs) (out := out) hoL
  have keep : ∀ b o, s.heap.get? b = some o → (sortedHeap (h'.push (seqObj "list" vs.toArray 0)) h'.objs.size vs out).get? b = some o := fun b o q => by
    have q' := hk b o q
    have hlt : b < h'.objs.size := Heap.lt_size q'
    rw [sortedHeap_old (Nat.ne_of_lt hlt) (by rw [Heap.size_push]; exact Nat.lt_succ_of_lt hlt)]
    exact Heap.get?_push_of_some _ q'
  have hLh : L < h'.objs.size := (F.keeps hk).ns.lt
  refine wpAny_pure ⟨_, rfl, h h'.objs.size e out.toList ns' _ (F.keeps keep) (fun p hp => ?_) (fun p hp => Heap.lt_size (hk _ _ (N p hp).1)) a1 a2 a3⟩
  rcases List.mem_cons.mp hp with rfl | hp
  · exact ⟨by simpa using he, Nat.ne_of_gt hLh, Heap.get?_none_of_le (Nat.le_trans F.above (Nat.le_of_lt hLh))⟩
  · exact ⟨keep _ _ (N p hp).1, (N p hp).2⟩
end
end Rg
section Ks
theorem offKs : True := by w_top off; trivial
section
variable {prog : Program} {w : World} {A : Around} {E : Value → Shared → Prop} {s : Shared} {h₀ : Heap} {L a kS : Addr} {m : Str → Option Value} {news : List (Addr × Obj)} {vs ks : List Value}

theorem restG {f : Value} {e1 : Nat} {P : PySem.Fin → Shared → Prop} (hk : s.heap.get? kS = some (seqObj "list" #[] 0)) (h64 : vs.length < 64)
    (h : KatKeys prog w A h₀ L m kS f (fun ks e s' => ks.length = vs.length → wpAny (model prog w) A (ksk_end a false vs.toArray e1 (.ref kS) (List.toArray ks)) P E s') vs [] 0 s) :
    wpAny (model prog w) A (ksk_rest a f false vs.toArray e1 (.ref kS)) P E s := by
  unfold ksk_rest
  refine wpAny_bind (wpAny_rule ?_)
  first
    | rw [List.forIn_toArray]
    | (rw [← Array.forIn_toList]; simp only [List.toList_toArray])
    | rw [← Array.forIn_toList]
  refine wpAny_bind (wpAny_mono (kat_fold h64 (fun x ks e s' C hz hx => ?_) vs [] 0 s (by simp) hk h) (fun _ s' hd => ?_) fun _ _ x => x)
  · refine wpAny_bind (wpAny_attempt (wpAny_mono hx (fun k s'' hk => ?_) fun _ _ hF => hF.elim))
    obtain ⟨news', g, F', N', U, c⟩ := hk
    obtain ⟨pre, post, e0, hg, x1, x2⟩ := U.split
    rw [e0] at N'
    have nk := N' (kS, seqObj "list" (List.toArray ks) e) (List.mem_append_right _ (.head _))
    have s1 := Heap.SameBut.update s''.heap kS (Obj.mapSeq (·.push k))
    have ea : (List.toArray ks).push k = List.toArray (ks ++ [k]) := by simp
    obtain ⟨c2, hc2⟩ : ∃ c2, (s''.heap.update kS (Obj.mapSeq (·.push k))).get? kS = some (seqObj "list" (List.toArray (ks ++ [k])) c2) := ⟨_, by rw [← ea]; exact get?_update_seq nk.1 (·.push k)⟩
    try dsimp only
    refine wpAny_bind (listUpdate_at nk.1 rfl ?_ (by rw [List.size_toArray, sizeLine_eq]; omega) (Nat.le_trans (Nat.le_of_eq (Array.size_push ..)) (by rw [List.size_toArray, sizeLine_eq]; omega)))
    exact wpAny_pure ⟨rfl, k, c2, hc2, c _ c2 (kas_fr F' s1 nk.2.1 nk.2.2) (by rw [hg]; exact news_set N' x1 x2 s1 hc2)⟩
  · obtain ⟨ks, e, hk', hl, fin⟩ := hd
    try dsimp only
    refine wpAny_bind (listItems_at hk' rfl ?_)
    exact fin hl

theorem keyedG {f : Value} {n : Nat} {P : PySem.Fin → Shared → Prop} (F : Fr h₀ L s.heap m) (N : News h₀ L s.heap news) (ho : s.heap.get? a = some (seqObj "list" vs.toArray n)) (haL : a ≠ L) (ha0 : h₀.get? a = none) (hna : ∀ p ∈ news, p.1 ≠ a)
    (h64 : vs.length < 64)
    (h : ∀ kS e1 h', Fr h₀ L h' m → News h₀ L h' ((kS, seqObj "list" #[] 0) :: (a, seqObj "list" #[] e1) :: news) → a < kS → (∀ q ∈ news, q.1 < kS) →
      KatKeys prog w A h₀ L m kS f (fun ks e s' => ks.length = vs.length → wpAny (model prog w) A (ksk_end a false vs.toArray e1 (.ref kS) (List.toArray ks)) P E s') vs [] 0 { s with heap := h' }) :
    wpAny (model prog w) A (ksk_tree a f false) P E s := by
  have ha : a < s.heap.objs.size := Heap.lt_size ho
  have s1 := Heap.SameBut.update s.heap a (Obj.mapSeq fun _ => (#[] : Array Value))
  obtain ⟨e1, ho1⟩ : ∃ e1, (s.heap.update a (Obj.mapSeq fun _ => (#[] : Array Value))).get? a = some (seqObj "list" #[] e1) := ⟨_, get?_update_seq ho fun _ => #[]⟩
  have F1 := kas_fr F s1 haL ha0
  have N1 := kas_news N s1 hna
  have hkS : ((s.heap.update a (Obj.mapSeq fun _ => (#[] : Array Value))).push (seqObj "tuple" vs.toArray 0)).objs.size = s.heap.objs.size + 1 := by rw [size_push', Heap.size_update]
  have hLk : L < ((s.heap.update a (Obj.mapSeq fun _ => (#[] : Array Value))).push (seqObj "tuple" vs.toArray 0)).objs.size := (F1.push _).ns.lt
  unfold ksk_tree
  refine wpAny_bind (listItems_at ho rfl ?_)
  refine wpAny_bind (listUpdate_at ho rfl ?_ (by rw [List.size_toArray, sizeLine_eq]; omega) (Nat.zero_le _))
  refine wpAny_bind (seqEpoch_at ho1 rfl ?_)
  refine wpAny_bind (wpAny_newTuple ?_ (by show vs.length ≤ _; rw [sizeLine_eq]; omega))
  refine wpAny_bind (wpAny_newList ?_ (Nat.zero_le _))
  refine wpAny_holding ?_
  refine restG (s := { s with heap := ((s.heap.update a (Obj.mapSeq fun _ => (#[] : Array Value))).push (seqObj "tuple" vs.toArray 0)).push (seqObj "list" #[] 0) }) (kS := ((s.heap.update a (Obj.mapSeq fun _ => (#[] : Array Value))).push (seqObj "tuple" vs.toArray 0)).objs.size)
    (Heap.get?_push_size _ rfl) h64 (h _ e1 _ ((F1.push _).push _) (fun p hp => ?_) (by rw [hkS]; exact Nat.lt_succ_of_lt ha) fun q hq => by rw [hkS]; exact Nat.lt_succ_of_lt (Heap.lt_size (N q hq).1))
  rcases List.mem_cons.mp hp with rfl | hp
  · exact ⟨Heap.get?_push_size _ rfl, Nat.ne_of_gt hLk, Heap.get?_none_of_le (Nat.le_trans F.above (Nat.le_of_lt hLk))⟩
  · rcases List.mem_cons.mp hp with rfl | hp
    · exact ⟨Heap.get?_push_of_some _ (Heap.get?_push_of_some _ ho1), haL, ha0⟩
    · exact ⟨Heap.get?_push_of_some _ (Heap.get?_push_of_some _ (N1 p hp).1), (N1 p hp).2⟩

/-- fewer than two: nothing is asked -/
theorem end1 {e e1 : Nat} {P : PySem.Fin → Shared → Prop} (hl : ks.length = vs.length) (h2 : vs.length < 2)
    (h : KatFin h₀ L m kS a ks e e1 vs (fun s3 => P (.done (.ret .none)) s3) s) :
    wpAny (model prog w) A (ksk_end a false vs.toArray e1 (.ref kS) (List.toArray ks)) P E s := by
  unfold ksk_end
  have hn2 : vs.toArray.size < 2 := by rw [List.size_toArray]; exact h2
  try dsimp only
  rw [if_neg Bool.false_ne_true]
  try dsimp only
  rw [if_pos hn2]
  try dsimp only
  try rw [if_pos hn2]
  refine wpAny_bind (wpAny_pure ?_)
  rw [StateT.run_pure]
  refine wpAny_bind (wpAny_pure ?_)
  dsimp only
  refine kat_tail (b := false) (out := vs) ?_ (by omega) (by omega) rfl h
  show (((List.toArray ks).zip vs.toArray).map (·.2)) = vs.toArray
  apply Array.toList_inj.mp
  simp
  rw [List.map_snd_zip]
  omega

/-- the sort by a decision over int keys, carried through -/
def treeRun {α : Type} (lt : Nat → Nat → Bool) : KasT α → α
  | .ret a => a
  | .ask i j k => treeRun lt (k (lt i j))
def treeOk {α : Type} (n : Nat) (lt : Nat → Nat → Bool) : KasT α → Bool
  | .ret _ => true
  | .ask i j k => decide (i < n) && decide (j < n) && treeOk n lt (k (lt i j))
theorem kasWp_run {α : Type} {n : Nat} {cmp : Nat → Nat → (Bool → Shared → Prop) → Shared → Prop} {lt : Nat → Nat → Bool} (hc : ∀ i j C s, i < n → j < n → C (lt i j) s → cmp i j C s) {Q : α → Shared → Prop} : ∀ (t : KasT α) (s : Shared), treeOk n lt t = true → Q (treeRun lt t) s → t.kasWp cmp Q s
  | .ret _, _, _, h => h
  | .ask i j k, s, ho, h => by
    unfold treeOk at ho
    simp only [Bool.and_eq_true, decide_eq_true_eq] at ho
    exact hc i j _ s ho.1.1 ho.1.2 (kasWp_run hc (k (lt i j)) s ho.2 h)

/-- where the keyed sort of 0 .. n - 1 ends, by the keys -/
def argP (ns : List Int) : List Nat := if ns.length < 2 then List.range ns.length else (treeRun (fun i j => decide (ns.getD i 0 < ns.getD j 0)) (kas_sort ns.length)).toList

/-- the sort asks within the keys -/
def argOk (ns : List Int) : Bool := decide (ns.length < 2) || treeOk ns.length (fun i j => decide (ns.getD i 0 < ns.getD j 0)) (kas_sort ns.length)

theorem endInts {e e1 : Nat} {P : PySem.Fin → Shared → Prop} {ns : List Int} (hi : IntsAre ks ns) (hl : ks.length = vs.length) (h64 : vs.length < 64)
    (h : KatFin h₀ L m kS a ks e e1 (if ns.length < 2 then vs else (argP ns).map fun i => vs.getD i Value.none) (fun s3 => P (.done (.ret .none)) s3) s)
    (hz : argOk ns = true) :
    wpAny (model prog w) A (ksk_end a false vs.toArray e1 (.ref kS) (List.toArray ks)) P E s := by
  have hln := hi.length
  by_cases h2 : vs.length < 2
  · rw [if_pos (by omega)] at h
    exact end1 hl h2 h
  · rw [if_neg (by omega)] at h
    refine kat_end (h₀ := h₀) (L := L) (m := m) (e := e) (b := false) hl (by omega) h64 ?_
    obtain ⟨v₁, v₂, r, rfl⟩ : ∃ v₁ v₂ r, ks = v₁ :: v₂ :: r := by
      match ks, hl with
      | [], h => simp at h; omega
      | [_], h => simp at h; omega
      | v₁ :: v₂ :: r, _ => exact ⟨v₁, v₂, r, rfl⟩
    rw [keyKind_ints hi]
    have ho : treeOk ns.length (fun i j => decide (ns.getD i 0 < ns.getD j 0)) (kas_sort (vs.length)) = true := by
      rw [show vs.length = ns.length by omega]
      rcases Bool.or_eq_true_iff.mp hz with q | q
      · exact absurd (of_decide_eq_true q) (by omega)
      · exact q
    refine wpAny_pure (kasWp_run (n := ns.length) (lt := fun i j => decide (ns.getD i 0 < ns.getD j 0)) (fun i j C s hi' hj' hC => ?_) _ _ ho ?_)
    · obtain ⟨ti, ei⟩ := hi.get i (ns.getD i 0) (by simp [hi'])
      obtain ⟨tj, ej⟩ := hi.get j (ns.getD j 0) (by simp [hj'])
      show wpAny _ _ (keyLt' oneType' ((v₁ :: v₂ :: r).getD i Value.none) ((v₁ :: v₂ :: r).getD j Value.none)) _ _ _
      have gi : (v₁ :: v₂ :: r).getD i Value.none = .int (ns.getD i 0) ti := by
        show (((v₁ :: v₂ :: r)[i]?).getD Value.none) = _
        rw [ei]; rfl
      have gj : (v₁ :: v₂ :: r).getD j Value.none = .int (ns.getD j 0) tj := by
        show (((v₁ :: v₂ :: r)[j]?).getD Value.none) = _
        rw [ej]; rfl
      rw [gi, gj]
      exact kat_lt_int hC
    · rw [argP, if_neg (by omega)] at h
      rw [show vs.length = ns.length by omega]
      exact h

/-- sorted over a range, by a key -/
theorem sortedRangeKey {r q : Addr} {b : Int} {t u v : Tok} {n : Nat} {Q : Value → Shared → Prop} (hh : A.handled = none) (F : Fr h₀ L s.heap m) (N : News h₀ L s.heap news) (hr : IsRange s.heap r 0 b 1 t u v) (hsmall : Builtin.Range.small 0 b 1 = true)
    (hn : Builtin.Range.rangeSize 0 b 1 = n) (hlen : n ≤ 60)
    (h : ∀ (vs : List Value) D kS e1 h' tk, IntsAre vs ((List.range n).map Int.ofNat) → Fr h₀ L h' m → News h₀ L h' ((kS, seqObj "list" #[] 0) :: (D, seqObj "list" #[] e1) :: news) → D < kS → (∀ q ∈ news, q.1 < D) →
      KatKeys prog w A.in1.in1 h₀ L m kS (.ref q) (fun ks e s' => ks.length = vs.length → wpAny (model prog w) A.in1.in1 (ksk_end D false vs.toArray e1 (.ref kS) (List.toArray ks)) (fun fin s'' => fin = .done (.ret .none) ∧ Q (.ref D) s'') (fun _ _ => False) s') vs [] 0 { s with heap := h', toks := tk }) :
    wpAny (model prog w) A (call (.builtin "sorted") [.ref r] [(Str.ofString "key", .ref q)]) Q E s := by
  refine call_function_entry_kw kind_sorted plain_sorted entry_sorted (ksk_s1 _ _) ?_
  unfold Builtin.«sorted»
  refine wpAny_bind (m := checkCount "sorted" 1 1 _) (wpAny_pure ?_)
  refine wpAny_bind (collect_range (A := A.in1) hh hr hsmall hn (by omega) fun h1 tk vs hk hl hv => ?_)
  refine wpAny_bind (wpAny_newList ?_ (by rw [sizeLine_eq]; omega))
  have hoL : (h1.push (seqObj "list" vs.toArray 0)).get? h1.objs.size = some (seqObj "list" vs.toArray 0) := Heap.get?_push_size _ rfl
  have keep : ∀ b o, s.heap.get? b = some o → (h1.push (seqObj "list" vs.toArray 0)).get? b = some o := fun b o q => Heap.get?_push_of_some _ (hk b o q)
  have hL : L < h1.objs.size := (F.keeps hk).ns.lt
  show wpAny _ _ _ _ _ { s with heap := h1.push (seqObj "list" vs.toArray 0), toks := tk }
  refine wpAny_bind (wpAny_holding (wpAny_call_entry_kw slot_list_sort ⟨_, hoL, rfl⟩ entry_list_sort ?body (ksk_l1 _ _)))
  case body =>
    show wpAny (model prog w) A.in1.in1 (Builtin.«list.sort» ⟨[.ref h1.objs.size], [(Str.ofString "key", .ref q)]⟩) _ _ _
    rw [ksk_t1]
    refine keyedG (s := { s with heap := h1.push (seqObj "list" vs.toArray 0), toks := tk }) (F.kept keep) (N.grown keep) hoL (Nat.ne_of_gt hL) (Heap.get?_none_of_le (Nat.le_trans F.above (Nat.le_of_lt hL)))
      (fun p hp => Nat.ne_of_lt (Heap.lt_size (hk _ _ (N p hp).1))) (by omega) fun kS e1 h' F' N' l0 l1 => ?_
    refine kat_keys_mono (h vs _ kS e1 h' tk (ints_range hl hv) F' N' l0 fun q hq => Heap.lt_size (hk _ _ (N q hq).1)) fun ks e s' hl' hd hlen' => ?_
    refine wpAny_mono (hd hlen') (fun fin s'' hk => ?_) fun _ _ x => x.elim
    obtain ⟨rfl, hq⟩ := hk
    exact ⟨_, rfl, wpAny_pure ⟨_, rfl, hq⟩⟩
end
end Ks
section Ag
theorem offAg : True := by w_top off; trivial
local macro_rules | `(tactic| ktr_unf) => `(tactic| repeat' (
  (fail_if_success (with_reducible show wpAny _ _ (exec (Stmt.For _ _ _ _ _) _) _ _ _));
  (fail_if_success (with_reducible show wpAny _ _ (pyIter _) _ _ _));
  (fail_if_success (with_reducible show wpAny _ _ (call (Value.type "zip") _ _) _ _ _));
  (fail_if_success (with_reducible show wpAny _ _ (eval (Expr.ListComp _ _ _ _) _) _ _ _));
  (fail_if_success (with_reducible show wpAny _ _ (eval (Expr.GeneratorExp _ _ _ _) _) _ _ _));
  (fail_if_success (with_reducible show InvPostN _ _ _ _ _ _ _ _ _));
  first | (k_unfold; (try dsimp only)) | (k_end; wrow_close) | walk1 | (dsimp only; walk1) | (leave1; walk_say "STEP leave1"; try dsimp only)))
set_option hygiene false in
local macro_rules | `(tactic| kpt_turns) => `(tactic| ((repeat' (
  (fail_if_success (with_reducible show wpAny _ _ (exec (Stmt.For _ _ _ _ _) _) _ _ _));
  (fail_if_success (with_reducible show wpAny _ _ (pyIter _) _ _ _));
  (fail_if_success (with_reducible show wpAny _ _ (call (Value.type _) _ _) _ _ _));
  (fail_if_success (with_reducible show wpAny _ _ (call (Value.builtin _) _ _) _ _ _));
  (fail_if_success (with_reducible show wpAny _ _ (call (Value.ref _) _ _) _ _ _));
  (fail_if_success (with_reducible show wpAny _ _ (subscriptTail _ _ _ _) _ _ _));
  (fail_if_success (with_reducible show wpAny _ _ (truthy (Value.ref _)) _ _ _));
  (fail_if_success (with_reducible show wpAny _ _ (newList _) _ _ _));
  (fail_if_success (with_reducible show wpAny _ _ (eval (Expr.Lambda _ _ _ _) _) _ _ _));
  (fail_if_success (with_reducible show wpAny _ _ (eval (Expr.ListComp _ _ _ _) _) _ _ _));
  (fail_if_success (with_reducible show wpAny _ _ (eval (Expr.GeneratorExp _ _ _ _) _) _ _ _));
  (fail_if_success (with_reducible show InvPostN _ _ _ _ _ _ _ _ _));
  first | (k_unfold; (try dsimp only)) | (k_end; wrow_close) | walk1 | (dsimp only; walk1) | (leave1; walk_say "STEP leave1"; try dsimp only))); (all_goals (try rename Fr _ _ _ _ => FF)); (all_goals (try rename News _ _ _ _ => NN))))

section
variable {prog : Program} {w : World} {A : Around} {E : Value → Shared → Prop} {s : Shared} {h₀ : Heap} {L kS : Addr} {m : Str → Option Value} {rest : List (Addr × Obj)} {vs : List Value} {ns : List Int}
theorem katKeysOf {f : Value} {Fin : List Value → Nat → Shared → Prop} (off : ∀ p ∈ rest, p.1 ≠ kS) (hlen : vs.length = ns.length)
    (hcall : ∀ i v ks e h tk, vs[i]? = some v → i < ns.length → Fr h₀ L h m → News h₀ L h ((kS, seqObj "list" (List.toArray ks) e) :: rest) →
      wpAny (model prog w) A (call f [v]) (fun r s' => ∃ u h' tk', r = .int (ns.getD i 0) u ∧ s' = { s with heap := h', toks := tk' } ∧ Fr h₀ L h' m ∧ News h₀ L h' ((kS, seqObj "list" (List.toArray ks) e) :: rest)) (fun _ _ => False) { s with heap := h, toks := tk })
    (fin : ∀ ks e h tk, IntsAre ks ns → Fr h₀ L h m → News h₀ L h ((kS, seqObj "list" (List.toArray ks) e) :: rest) → Fin ks e { s with heap := h, toks := tk }) :
    ∀ (us ks : List Value) (i e : Nat) (h : Heap) (tk : Nat), vs.drop i = us → IntsAre ks (ns.take i) → Fr h₀ L h m → News h₀ L h ((kS, seqObj "list" (List.toArray ks) e) :: rest) →
      KatKeys prog w A h₀ L m kS f Fin us ks e { s with heap := h, toks := tk }
  | [], ks, i, e, h, tk, hd, hk, F, N => by
    have hi : ns.length ≤ i := by
      have := congrArg List.length hd
      rw [List.length_drop, List.length_nil] at this
      omega
    rw [List.take_of_length_le hi] at hk
    exact KatKeys.nil (fin ks e h tk hk F N)
  | u :: r, ks, i, e, h, tk, hd, hk, F, N => by
    have hi : i < vs.length := by
      have := congrArg List.length hd
      rw [List.length_drop, List.length_cons] at this
      omega
    have hu : vs[i]? = some u ∧ vs.drop (i + 1) = r := by
      rw [List.drop_eq_getElem_cons hi] at hd
      injection hd with h1 h2
      exact ⟨by rw [List.getElem?_eq_getElem hi, h1], h2⟩
    refine KatKeys.cons (wpAny_mono (hcall i u ks e h tk hu.1 (by omega) F N) (fun r' s' hr => ?_) fun _ _ x => x)
    obtain ⟨t, h', tk', rfl, rfl, F', N'⟩ := hr
    refine KatBack.intro F' N' (UpdF.head off) fun h2 c F2 N2 => ?_
    refine katKeysOf off hlen hcall fin r (ks ++ [.int (ns.getD i 0) t]) (i + 1) c h2 tk' hu.2 ?_ F2 N2
    have hil : i < ns.length := by omega
    rw [List.take_add_one, List.getElem?_eq_getElem hil]
    have e1 : ns.getD i 0 = ns[i] := by simp [hil]
    rw [e1]
    exact hk.append (.cons _ _ .nil)
end
abbrev rngObj (n : Int) (t₁ u₁ v₁ : Tok) : Obj := { cls := .type "range", data := .fields #[.int 0 t₁, .int n u₁, .int 1 v₁] }
theorem range1K {prog : Program} {w : World} {A : Around} {E : Value → Shared → Prop} {s : Shared} {h₀ : Heap} {L : Addr} {m : Str → Option Value} {news : List (Addr × Obj)} {n : Int} {t : Tok} {Q : Value → Shared → Prop} (F : Fr h₀ L s.heap m) (N : News h₀ L s.heap news)
    (h : ∀ r t₁ u₁ v₁ h' tk, Fr h₀ L h' m → News h₀ L h' ((r, rngObj n t₁ u₁ v₁) :: news) → (∀ p ∈ news, p.1 < r) → L < r → Q (.ref r) { s with heap := h', toks := tk }) :
    wpAny (model prog w) A (call (.type "range") [.int n t]) Q E s :=
  call_range_1 (h _ _ _ _ _ _ (F.push _) (N.push F _) (fun p hp => Heap.lt_size (N p hp).1) F.ns.lt)
set_option maxRecDepth 100000 in
set_option maxHeartbeats 400000 in
/-- the keyed sort itself, wherever the lambda came from -/
theorem argsort_tail {w : World} {A A₀ : Around} {base h₀ : Heap} {outer : List Env} {env : Env} {L t f c' r cX : Addr} {m : Str → Option Value} {s : Shared} {p : Program} {loose : List Str} {mean : ExcName → Option Value} {mg mb : Str → Option Value} {Q E : Value → Shared → Prop}
    {n : Nat} {vs : List Value} {ns : List Int} {news : List (Addr × Obj)} {p1 p2 p3 p4 : Pos} {qual : Str} {pm ctv : Value} {oc oX : Obj} {ds : Array Value} {tq t1 u1 v1 : Tok}
    (B : Below A₀ base outer h₀) (F : Fr h₀ L s.heap m) (X : (hd.heap_39 w.params).In h₀) (N : News h₀ L s.heap news) (T : Top p loose mean mg mb h₀)
    (hh : A.handled = none) (hA : A.frames = some (env :: outer)) (hf : env.frame = some L) (hke : env.scope.kind = .function) (hroom : A.in1.in1.depth < recursionLimit)
    (hfm : (f, kla_obj (Str.ofString "<lambda>") qual { posonlyargs := [], args := [{ arg := Str.ofString "k", annotation := none, pos := p4 }], vararg := none, kwonlyargs := [], kw_defaults := [], kwarg := none, defaults := [] } (.Subscript (.Name (Str.ofString "x") p1) (.Name (Str.ofString "k") p2) p3)
      { kind := .function, names := [(Str.ofString "k", .local), (Str.ofString "x", .free)], isGenerator := false, isCoroutine := false } [(Str.ofString "x", cX)] pm c' ctv) ∈ news)
    (hcm : (c', oc) ∈ news) (hoc : oc.data = .fields ds) (hq : ds[1]? = some (.str qual tq)) (hxm : (cX, oX) ∈ news) (hX : oX.data = .cell (some (.ref t))) (hrm : (r, rngObj ns.length t1 u1 v1) ∈ news) (htm : (t, tupObj vs n) ∈ news)
    (hi : IntsAre vs ns) (hz : ns.length ≤ 6) (hok : argOk ns = true) (hin : ∀ i ∈ argP ns, i < ns.length)
    (ret : ∀ D e vs' h tk, IntsAre vs' ((argP ns).map Int.ofNat) → Fr h₀ L h m → News h₀ L h ((D, listOf vs'.toArray e) :: news) → (∀ q ∈ news, q.1 < D) → Q (.ref D) { s with heap := h, toks := tk }) :
    wpAny (model PySem.Challenge.rw_au0025_01.row.prog w) A (call (.builtin "sorted") [.ref r] [(Str.ofString "key", .ref f)]) Q E s := by
  have hvl := hi.length
  refine sortedRangeKey (n := ns.length) hh F N (N _ hrm).1 (small0 (by decide) (by omega) (by omega) (by decide)) ?_ (by omega) fun us D kS e1 h1 tk1 hus F1 N1 l1 l1' => ?_
  · rw [rangeSize_nat]; simp
  have hul : us.length = ns.length := by rw [hus.length]; simp
  have offk : ∀ q ∈ ((D, seqObj "list" #[] e1) :: news), q.1 ≠ kS := fun q hq => (List.mem_cons.mp hq).elim (fun e => e ▸ Nat.ne_of_lt l1) fun hq => Nat.ne_of_lt (Nat.lt_trans (l1' q hq) l1)
  refine katKeysOf (s := s) (ns := ns) offk hul (fun i v ks e h tk hv hi' F2 N2 => ?_) (fun ks e h tk hks F2 N2 hkl => ?_) us [] 0 0 h1 tk1 rfl .nil F1 N1
  · obtain ⟨tv, hv'⟩ := hus.get i (i : Int) (by simp [hi'])
    rw [hv] at hv'
    cases hv'
    refine wpAny_call ?_
    have hcd : h.CodeRec (.ref c') qual := codeRec_news N2 (.tail _ (.tail _ hcm)) hoc hq
    refine' kla_code (env := env) (outer := outer) (binds := [(Str.ofString "k", .int (i : Int) tv)]) B F2 X N2 T hA hf hke (.tail _ (.tail _ hfm)) hcd hroom ?k9 ?kB ?_ ?c2 ?c3 ?c4 ?c5
    case k9 => exact rfl
    case kB => exact locs rfl
    case c2 => exact rfl
    case c3 => exact rfl
    case c4 => exact rfl
    case c5 => decide
    intro g' L' h' FG' F' N' B' X' T'
    have hiv : i < vs.length := by omega
    obtain ⟨ty, hy⟩ := hi.get i (ns.getD i 0) (by simp [hi'])
    refine Subscript_ (nameX_F N' rfl (.tail _ (.tail _ hxm)) hX (nameX_L F' (v := .int (i : Int) tv) (by simp) ?_))
    refine kim_tup (j := i) N' (.tail _ (.tail _ htm)) rfl rfl (by omega) (by omega) ?_ hy ?_
    · unfold seqIndex?
      first | (simp [hiv]; done) | (simp; omega) | (split <;> simp_all <;> omega)
    exact leaveK_ F' N' fun F3 N3 => ⟨ty, _, _, rfl, rfl, F3, N3⟩
  · refine endInts (h₀ := h₀) (L := L) (m := m) (e := e) hks hkl (by omega) ?_ hok
    have hout : IntsAre (if ns.length < 2 then us else (argP ns).map fun i => us.getD i Value.none) ((argP ns).map Int.ofNat) := by
      by_cases h2 : ns.length < 2
      · rw [if_pos h2, argP, if_pos h2]
        exact hus
      · rw [if_neg h2]
        refine ints_of_get (by simp) fun j v hv => ?_
        rw [List.getElem?_map] at hv ⊢
        cases hj : (argP ns)[j]? with
        | none => rw [hj] at hv; cases hv
        | some k =>
          rw [hj] at hv
          have hk := hin k (List.mem_of_getElem? hj)
          obtain ⟨tk', e'⟩ := hus.get k (k : Int) (by simp [hk])
          refine ⟨(k : Int), tk', rfl, ?_⟩
          have : us.getD k Value.none = .int (k : Int) tk' := by
            show ((us[k]?).getD Value.none) = _
            rw [e']; rfl
          have hv' : us.getD k Value.none = v := by simpa using hv
          exact hv' ▸ this
    refine KatFin.intro F2 N2 (UpdF.head offk) fun h3 c3 F3 N3 => ?_
    have offD : ∀ q ∈ ((kS, seqObj "list" #[] c3) :: news), q.1 ≠ D := fun q hq => (List.mem_cons.mp hq).elim (fun e => e ▸ Nat.ne_of_gt l1) fun hq => Nat.ne_of_lt (l1' q hq)
    have N4 : News h₀ L h3 ((D, seqObj "list" #[] e1) :: (kS, seqObj "list" #[] c3) :: news) := fun p hp => N3 p (by
      rcases List.mem_cons.mp hp with e | hp
      · exact e ▸ .tail _ (.head _)
      · rcases List.mem_cons.mp hp with e | hp
        · exact e ▸ .head _
        · exact .tail _ (.tail _ hp))
    refine KasFin.intro F3 N4 (UpdF.head offD) fun h5 c5 F5 N5 => ⟨rfl, ret D c5 _ h5 tk hout F5 (fun p hp => N5 p ?_) l1'⟩
    rcases List.mem_cons.mp hp with e | hp
    · exact e ▸ .head _
    · exact .tail _ (.tail _ hp)
local macro_rules | `(tactic| krn_off) => `(tactic| (refine' code_defC ?k1 ?k2 ?k3 ?k4 ?k5 ?kA ?kF ?kK ?k6 ?k7 ?k8 ?k9 ?kB ?kD ?_ ?c2 ?c3 ?c4; (case kA => exact rfl); (case kF => exact rfl); (case kK => assumption); (case k1 => k_asm); (case k2 => k_asm); (case k3 => k_asm); (case k4 => k_asm); (case k5 => k_asm); (case k6 => k_is); (case k7 => k_is); (case k8 => ktr_room); (case k9 => exact BindsTo.of_eq rfl); (case kB => exact rfl); (case kD => decide +kernel); (case c2 => exact rfl); (case c3 => exact rfl); (case c4 => exact rfl); k_whole; intro g' L' h' tk' cells' FG' F' N' Y' B' X' T' l1; (try k_lt l1); k_cells Y'; (try simp only [List.cons_append, List.nil_append] at N'); (try dsimp only); (try k_lift B'); (try k_fold)))
end Ag
section Ah
theorem offAh : True := by w_top off; trivial
local macro_rules | `(tactic| ktr_unf) => `(tactic| repeat' (
  (fail_if_success (with_reducible show wpAny _ _ (exec (Stmt.For _ _ _ _ _) _) _ _ _));
  (fail_if_success (with_reducible show wpAny _ _ (pyIter _) _ _ _));
  (fail_if_success (with_reducible show wpAny _ _ (call (Value.type "zip") _ _) _ _ _));
  (fail_if_success (with_reducible show wpAny _ _ (eval (Expr.ListComp _ _ _ _) _) _ _ _));
  (fail_if_success (with_reducible show wpAny _ _ (eval (Expr.GeneratorExp _ _ _ _) _) _ _ _));
  (fail_if_success (with_reducible show InvPostN _ _ _ _ _ _ _ _ _));
  first | (k_unfold; (try dsimp only)) | (k_end; wrow_close) | walk1 | (dsimp only; walk1) | (leave1; walk_say "STEP leave1"; try dsimp only)))
set_option hygiene false in
local macro_rules | `(tactic| kpt_turns) => `(tactic| ((repeat' (
  (fail_if_success (with_reducible show wpAny _ _ (exec (Stmt.For _ _ _ _ _) _) _ _ _));
  (fail_if_success (with_reducible show wpAny _ _ (pyIter _) _ _ _));
  (fail_if_success (with_reducible show wpAny _ _ (call (Value.type _) _ _) _ _ _));
  (fail_if_success (with_reducible show wpAny _ _ (call (Value.builtin _) _ _) _ _ _));
  (fail_if_success (with_reducible show wpAny _ _ (call (Value.ref _) _ _) _ _ _));
  (fail_if_success (with_reducible show wpAny _ _ (subscriptTail _ _ _ _) _ _ _));
  (fail_if_success (with_reducible show wpAny _ _ (truthy (Value.ref _)) _ _ _));
  (fail_if_success (with_reducible show wpAny _ _ (newList _) _ _ _));
  (fail_if_success (with_reducible show wpAny _ _ (eval (Expr.Lambda _ _ _ _) _) _ _ _));
  (fail_if_success (with_reducible show wpAny _ _ (eval (Expr.ListComp _ _ _ _) _) _ _ _));
  (fail_if_success (with_reducible show wpAny _ _ (eval (Expr.GeneratorExp _ _ _ _) _) _ _ _));
  (fail_if_success (with_reducible show InvPostN _ _ _ _ _ _ _ _ _));
  first | (k_unfold; (try dsimp only)) | (k_end; wrow_close) | walk1 | (dsimp only; walk1) | (leave1; walk_say "STEP leave1"; try dsimp only))); (all_goals (try rename Fr _ _ _ _ => FF)); (all_goals (try rename News _ _ _ _ => NN))))
local macro_rules | `(tactic| krn_off) => `(tactic| (refine' code_defC ?k1 ?k2 ?k3 ?k4 ?k5 ?kA ?kF ?kK ?k6 ?k7 ?k8 ?k9 ?kB ?kD ?_ ?c2 ?c3 ?c4; (case kA => exact rfl); (case kF => exact rfl); (case kK => assumption); (case k1 => k_asm); (case k2 => k_asm); (case k3 => k_asm); (case k4 => k_asm); (case k5 => k_asm); (case k6 => k_is); (case k7 => k_is); (case k8 => ktr_room); (case k9 => exact BindsTo.of_eq rfl); (case kB => exact rfl); (case kD => decide +kernel); (case c2 => exact rfl); (case c3 => exact rfl); (case c4 => exact rfl); k_whole; intro g' L' h' tk' cells' FG' F' N' Y' B' X' T' l1; (try k_lt l1); k_cells Y'; (try simp only [List.cons_append, List.nil_append] at N'); (try dsimp only); (try k_lift B'); (try k_fold)))
/-- what the table of argsort's lambda holds after the first call -/
abbrev argTab (c' : Addr) : Array Value := #[rawInt 27, rawInt 43, .ref c']
abbrev lamQual : Str := Str.ofString "argsort" ++ ".<locals>." ++ "<lambda>"
set_option maxRecDepth 100000 in
set_option maxHeartbeats 4000000 in
theorem argsort_first {w : World} {dp un : Nat} {gd : Option (List Code)} {cn : Str} {cs : Scope} {a' : Addr} {ccd : Value} {cl : List (Str × Addr)} {outer : List Env} {A₀ : Around} {base h₀ : Heap} {L : Addr} {m : Str → Option Value} {s : Shared}
    {p : Program} {loose : List Str} {mean : ExcName → Option Value} {mg mb : Str → Option Value} {Q E : Value → Shared → Prop}
    {t : Addr} {n : Nat} {vs : List Value} {ns : List Int} {own : List (Addr × Obj)}
    (B : Below A₀ base outer h₀) (F : Fr h₀ L s.heap m) (X : (hd.heap_39 w.params).In h₀) (N : News h₀ L s.heap ((44, tabObj #[]) :: own)) (T : Top p loose mean mg mb h₀) (C : CodeHd base 48 44)
    (hk : cs.kind = .function) (hd : dp < 700) (off : ∀ p ∈ own, p.1 ≠ 44)
    (ht : (t, tupObj vs n) ∈ own)
    (hi : IntsAre vs ns) (hz : ns.length ≤ 6) (hok : argOk ns = true) (hin : ∀ i ∈ argP ns, i < ns.length) (hal : (argP ns).length ≤ 6)
    (ret : ∀ D c' oc ds tq vs' h tk, oc.data = .fields ds → ds[1]? = some (.str lamQual tq) → IntsAre vs' ((argP ns).map Int.ofNat) → Fr h₀ L h m → News h₀ L h ((D, tupObj vs' 0) :: (c', oc) :: (44, tabObj (argTab c')) :: own) → (∀ p ∈ own, p.1 < c') → 44 < c' → c' < D → Q (.ref D) { s with heap := h, toks := tk }) :
    wpAny (model PySem.Challenge.rw_au0025_01.row.prog w) (ktrTop dp un gd cn cs L a' ccd cl outer) (call (.ref 49) [.ref t]) Q E s := by
  have hvl := hi.length
  revert X; k_fill; intro X
  refine wpAny_call ?_
  k_dflt krn_off
  kpt_turns
  have hT : IsTup _ t vs.toArray := ⟨_, (NN _ (.tail _ (.tail _ ht))).1, rfl, n, rfl⟩
  refine PyProof.Rows.len_tuple hT (by simp; omega) ?_
  rw [show (vs.toArray.size : Int) = (ns.length : Int) by simp [hvl]]
  kpt_turns
  refine range1K FF NN fun r t1 u1 v1 h1 tk1 F1 N1 k1 k1' => ?_
  kpt_turns
  rename Below _ _ _ _ => BB
  rename Top _ _ _ _ _ _ => TT
  rename (Mine.hd.heap_39 _).In _ => XX
  rename _ ∧ AllLt _ own => hlt
  rename _ = Data.cell _ => hcell
  have hcell' : _ = Data.cell (some (.ref t)) := hcell
  clear hcell
  have hL44 : (44 : Nat) < _ := hlt.1
  have N2 : News _ _ _ ((44, tabObj #[]) :: (r, rngObj ns.length t1 u1 v1) :: (_ + 1, _) :: own) := fun p hp => NN p (by
    rcases List.mem_cons.mp hp with e | hp
    · exact e ▸ .tail _ (.tail _ (.head _))
    · rcases List.mem_cons.mp hp with e | hp
      · exact e ▸ .head _
      · rcases List.mem_cons.mp hp with e | hp
        · exact e ▸ .tail _ (.head _)
        · exact .tail _ (.tail _ (.tail _ hp)))
  refine kla_eval rfl ?_
  k_dflt (refine kla_nest FF N2 TT (C.keeps BB.stays) rfl (UpdF.head fun p hp => ?_) trivial rfl rfl fun f c' oc ds tq ctv h2 tk2 F2 N2' hoc hq l2 l2' => ?_)
  · rcases List.mem_cons.mp hp with rfl | hp
    · exact Nat.ne_of_gt (Nat.lt_trans hL44 k1')
    · rcases List.mem_cons.mp hp with rfl | hp
      · exact Nat.ne_of_gt (Nat.lt_succ_of_lt hL44)
      · exact off p hp
  kpt_turns
  have N3 : News _ _ _ ((f, _) :: (c', oc) :: (44, tabObj (argTab c')) :: (r, rngObj ns.length t1 u1 v1) :: (_ + 1, _) :: own) := NN
  show wpAny _ _ (call (.builtin "sorted") [.ref r] [(Str.ofString "key", .ref f)]) _ _ _
  refine argsort_tail (t := t) BB FF XX N3 TT rfl rfl rfl rfl ?_ (.head _) (.tail _ (.head _)) hoc hq (.tail _ (.tail _ (.tail _ (.tail _ (.head _))))) hcell' (.tail _ (.tail _ (.tail _ (.head _)))) (.tail _ (.tail _ (.tail _ (.tail _ (.tail _ ht))))) hi hz hok hin fun D5 e5 vs5 h5 tk5 hv5 F5 N5 l5 => ?_
  · show dp + 1 < recursionLimit
    rw [recursionLimit]
    omega
  kpt_turns
  have hv5l : vs5.length ≤ 1000 := by rw [hv5.length, List.length_map]; omega
  refine tupleOfL FF NN (.head _) hv5l fun D6 h6 F6 N6 l6 => ?_
  kpt_turns
  exact ret D6 c' oc ds tq vs5 _ _ hoc hq hv5 FF (fun p hp => NN p (by
    rcases List.mem_cons.mp hp with e | hp
    · exact e ▸ .head _
    · rcases List.mem_cons.mp hp with e | hp
      · exact e ▸ .tail _ (.tail _ (.tail _ (.head _)))
      · rcases List.mem_cons.mp hp with e | hp
        · exact e ▸ .tail _ (.tail _ (.tail _ (.tail _ (.head _))))
        · exact .tail _ (.tail _ (.tail _ (.tail _ (.tail _ (.tail _ (.tail _ hp)))))))) (fun p hp => l2 p (.tail _ (.tail _ (.tail _ hp)))) (l2 _ (.head _)) (l6 _ (.tail _ (.tail _ (.head _))))
set_option maxRecDepth 100000 in
set_option maxHeartbeats 4000000 in
theorem argsort_second {w : World} {dp un : Nat} {gd : Option (List Code)} {cn : Str} {cs : Scope} {a' : Addr} {ccd : Value} {cl : List (Str × Addr)} {outer : List Env} {A₀ : Around} {base h₀ : Heap} {L : Addr} {m : Str → Option Value} {s : Shared}
    {p : Program} {loose : List Str} {mean : ExcName → Option Value} {mg mb : Str → Option Value} {Q E : Value → Shared → Prop}
    {t c' : Addr} {n : Nat} {vs : List Value} {ns : List Int} {oc : Obj} {ds : Array Value} {tq : Tok} {own : List (Addr × Obj)}
    (B : Below A₀ base outer h₀) (F : Fr h₀ L s.heap m) (X : (hd.heap_39 w.params).In h₀) (N : News h₀ L s.heap ((44, tabObj (argTab c')) :: own)) (T : Top p loose mean mg mb h₀) (C : CodeHd base 48 44)
    (hk : cs.kind = .function) (hd : dp < 700) (off : ∀ p ∈ own, p.1 ≠ 44)
    (ht : (t, tupObj vs n) ∈ own) (hcm : (c', oc) ∈ own) (hoc : oc.data = .fields ds) (hq : ds[1]? = some (.str lamQual tq))
    (hi : IntsAre vs ns) (hz : ns.length ≤ 6) (hok : argOk ns = true) (hin : ∀ i ∈ argP ns, i < ns.length) (hal : (argP ns).length ≤ 6)
    (ret : ∀ D vs' h tk, IntsAre vs' ((argP ns).map Int.ofNat) → Fr h₀ L h m → News h₀ L h ((D, tupObj vs' 0) :: (44, tabObj (argTab c')) :: own) → (∀ p ∈ own, p.1 < D) → 44 < D → Q (.ref D) { s with heap := h, toks := tk }) :
    wpAny (model PySem.Challenge.rw_au0025_01.row.prog w) (ktrTop dp un gd cn cs L a' ccd cl outer) (call (.ref 49) [.ref t]) Q E s := by
  have hvl := hi.length
  revert X; k_fill; intro X
  refine wpAny_call ?_
  k_dflt krn_off
  kpt_turns
  have hT : IsTup _ t vs.toArray := ⟨_, (NN _ (.tail _ (.tail _ ht))).1, rfl, n, rfl⟩
  refine PyProof.Rows.len_tuple hT (by simp; omega) ?_
  rw [show (vs.toArray.size : Int) = (ns.length : Int) by simp [hvl]]
  kpt_turns
  refine range1K FF NN fun r t1 u1 v1 h1 tk1 F1 N1 k1 k1' => ?_
  kpt_turns
  rename Below _ _ _ _ => BB
  rename Top _ _ _ _ _ _ => TT
  rename (Mine.hd.heap_39 _).In _ => XX
  rename _ ∧ AllLt _ own => hlt
  rename _ = Data.cell _ => hcell
  have hcell' : _ = Data.cell (some (.ref t)) := hcell
  clear hcell
  have hL44 : (44 : Nat) < _ := hlt.1
  refine kla_eval rfl ?_
  k_dflt (refine kla_hit (c' := c') FF NN TT (C.keeps BB.stays) rfl (.tail _ (.tail _ (.head _))) (by simp [TriplesOk, rawInt]) (by simp [codeAmong, rawInt]) rfl fun f ctv h2 tk2 F2 N2' l2 => ?_)
  kpt_turns
  have N3 : News _ _ _ ((f, _) :: (r, rngObj ns.length t1 u1 v1) :: (_ + 1, _) :: (44, tabObj (argTab c')) :: own) := NN
  show wpAny _ _ (call (.builtin "sorted") [.ref r] [(Str.ofString "key", .ref f)]) _ _ _
  refine argsort_tail (t := t) BB FF XX N3 TT rfl rfl rfl rfl ?_ (.head _) (.tail _ (.tail _ (.tail _ (.tail _ hcm)))) hoc hq (.tail _ (.tail _ (.head _))) hcell' (.tail _ (.head _)) (.tail _ (.tail _ (.tail _ (.tail _ ht)))) hi hz hok hin fun D5 e5 vs5 h5 tk5 hv5 F5 N5 l5 => ?_
  · show dp + 1 < recursionLimit
    rw [recursionLimit]
    omega
  kpt_turns
  have hv5l : vs5.length ≤ 1000 := by rw [hv5.length, List.length_map]; omega
  refine tupleOfL FF NN (.head _) hv5l fun D6 h6 F6 N6 l6 => ?_
  kpt_turns
  exact ret D6 vs5 _ _ hv5 FF (fun p hp => NN p (by
    rcases List.mem_cons.mp hp with e | hp
    · exact e ▸ .head _
    · rcases List.mem_cons.mp hp with e | hp
      · exact e ▸ .tail _ (.tail _ (.tail _ (.tail _ (.tail _ (.head _)))))
      · exact .tail _ (.tail _ (.tail _ (.tail _ (.tail _ (.tail _ hp))))))) (fun p hp => l6 p (.tail _ (.tail _ (.tail _ (.tail _ (.tail _ hp)))))) (l6 _ (.tail _ (.tail _ (.tail _ (.tail _ (.head _))))))
end Ah
section Pa
theorem offPa : True := by w_top off; trivial
/-- all that a tree of comparisons can come to -/
def AllT {α : Type} (P : α → Prop) : KasT α → Prop
  | .ret a => P a
  | .ask _ _ k => ∀ c, AllT P (k c)
theorem AllT.run {α : Type} {P : α → Prop} {c : Nat → Nat → Bool} : ∀ {t : KasT α}, AllT P t → P (treeRun c t)
  | .ret _, h => h
  | .ask _ _ k, h => AllT.run (t := k _) (h _)
theorem AllT.any {α : Type} {P : α → Prop} (h : ∀ a, P a) : ∀ t : KasT α, AllT P t
  | .ret a => h a
  | .ask _ _ k => fun c => AllT.any h (k c)
theorem AllT.bind {α β : Type} {P : α → Prop} {R : β → Prop} {f : α → KasT β} : ∀ {t : KasT α}, AllT P t → (∀ a, P a → AllT R (f a)) → AllT R (t.bind f)
  | .ret a, h, g => g a h
  | .ask _ _ k, h, g => fun c => AllT.bind (t := k c) (h c) g
theorem rev_perm (p : Array Nat) (i j : Nat) : (kas_rev p i j).Perm p := mirror_perm _ _ _ _
theorem desc_perm (p₀ : Array Nat) : ∀ (f : Nat) (p : Array Nat) (n q : Nat), p.Perm p₀ → AllT (fun r => r.1.Perm p₀) (kas_desc f p n q)
  | 0, _, _, _, h => h
  | f + 1, p, n, q, h => by
    intro c
    cases c with
    | true =>
      show AllT _ (if q > 0 then _ else _)
      by_cases hq : q > 0
      · rw [if_pos hq]; exact desc_perm p₀ f _ _ _ ((rev_perm ..).trans h)
      · rw [if_neg hq]; exact desc_perm p₀ f _ _ _ h
    | false =>
      intro d
      cases d with
      | true => exact h
      | false => exact desc_perm p₀ f _ _ _ h
theorem tail_perm {p₀ p : Array Nat} (n nrem : Nat) (h : p.Perm p₀) : AllT (fun r => r.2.Perm p₀) (kas_tail3 n nrem p) :=
  AllT.bind (P := fun _ => True) (AllT.any (fun _ => trivial) _) fun _ _ => (rev_perm ..).trans h
theorem descPart_perm {p₀ p : Array Nat} (n nrem : Nat) (h : p.Perm p₀) : AllT (fun r => r.2.Perm p₀) (kas_descPart n nrem p) :=
  AllT.bind (desc_perm p₀ _ _ _ _ h) fun r hr => by
    show AllT _ (if r.2.2 > 0 then _ else _)
    by_cases hq : r.2.2 > 0
    · rw [if_pos hq]; exact tail_perm _ _ ((rev_perm ..).trans hr)
    · rw [if_neg hq]; exact tail_perm _ _ hr
theorem count_perm {p₀ p : Array Nat} (nrem : Nat) (h : p.Perm p₀) : AllT (fun r => r.2.Perm p₀) (kas_count nrem p) :=
  AllT.bind (P := fun _ => True) (AllT.any (fun _ => trivial) _) fun n _ => by
    show AllT _ (if (n == nrem) = true then _ else _)
    by_cases h1 : (n == nrem) = true
    · rw [if_pos h1]; exact h
    · rw [if_neg h1]
      by_cases h2 : n > 1
      · rw [if_pos h2]
        intro c
        cases c with
        | true => exact h
        | false => exact descPart_perm _ _ ((rev_perm ..).trans h)
      · rw [if_neg h2]; exact descPart_perm _ _ h
theorem bin_perm {p₀ : Array Nat} : ∀ (f : Nat) (p : Array Nat) (k : Nat), p.Perm p₀ → AllT (fun r => r.Perm p₀) (kas_bin f p k)
  | 0, _, _, h => h
  | f + 1, p, k, h => AllT.bind (P := fun _ => True) (AllT.any (fun _ => trivial) _) fun _ _ => bin_perm f _ _ ((bubble_perm ..).trans h)
theorem sort_perm (n : Nat) : AllT (fun r => r.toList.Perm (List.range n)) (kas_sort n) :=
  AllT.bind (P := fun r => r.2.Perm (List.range n).toArray) (count_perm n (Array.Perm.refl _)) fun r hr => by
    have go : ∀ {t : KasT (Array Nat)}, AllT (fun p => p.Perm (List.range n).toArray) t → AllT (fun p => p.toList.Perm (List.range n)) t := by
      intro t
      induction t with
      | ret a => exact fun h => Array.perm_iff_toList_perm.mp h
      | ask i j k ih => exact fun h c => ih c (h c)
    refine go ?_
    show AllT _ (if r.1 < n then _ else _)
    by_cases h1 : r.1 < n
    · rw [if_pos h1]; exact bin_perm _ _ _ hr
    · rw [if_neg h1]; exact hr

/-- what is known of each place: the places that it does not pass, the places that it stays below, as bits -/
abbrev Known := List (Nat × Nat)
def hasBit (m b : Nat) : Bool := Nat.beq (Nat.land (Nat.shiftRight m b) 1) 1
def ltRow (i wj : Nat) (r : Nat × Nat) : Nat × Nat := bif hasBit r.1 i then (Nat.lor r.1 wj, Nat.lor r.2 wj) else r
def geRow (j wi si : Nat) (r : Nat × Nat) : Nat × Nat := bif hasBit r.1 j then (Nat.lor r.1 wi, bif hasBit r.2 j then Nat.lor r.2 wi else Nat.lor r.2 si) else r
def rowOf (st : Known) (i : Nat) : Nat × Nat := st.getD i (0, 0)
def adjBy (st : Known) : List Nat → Bool
  | a :: b :: r => (bif Nat.blt a b then hasBit (rowOf st a).1 b else hasBit (rowOf st a).2 b) && adjBy st (b :: r)
  | _ => true
def chk (n : Nat) : Known → KasT (Array Nat) → Bool
  | st, .ret p => adjBy st p.toList
  | st, .ask i j k => Nat.blt i n && (Nat.blt j n &&
      ((hasBit (rowOf st j).1 i || chk n (st.map (ltRow i (rowOf st j).1)) (k true)) &&
      (hasBit (rowOf st i).2 j || chk n (st.map (geRow j (rowOf st i).1 (rowOf st i).2)) (k false))))
def start (n : Nat) : Known := (List.range n).map fun i => (Nat.shiftLeft 1 i, 0)
theorem chk2 : chk 2 (start 2) (kas_sort 2) = true := by decide +kernel
theorem chk3 : chk 3 (start 3) (kas_sort 3) = true := by decide +kernel
theorem chk4 : chk 4 (start 4) (kas_sort 4) = true := by decide +kernel
theorem chk5 : chk 5 (start 5) (kas_sort 5) = true := by decide +kernel
theorem chk6 : chk 6 (start 6) (kas_sort 6) = true := by decide +kernel
theorem bit_is (m b : Nat) : hasBit m b = m.testBit b := by
  unfold hasBit
  rw [Nat.testBit_eq_decide_div_mod_eq]
  show Nat.beq ((m >>> b) &&& 1) 1 = _
  rw [Nat.and_one_is_mod, Nat.shiftRight_eq_div_pow]
  cases h : Nat.beq (m / 2 ^ b % 2) 1 with
  | true => exact (decide_eq_true (Nat.eq_of_beq_eq_true h)).symm
  | false => exact (decide_eq_false (Nat.ne_of_beq_eq_false h)).symm
theorem bit_or {x y b : Nat} : hasBit (Nat.lor x y) b = true ↔ hasBit x b = true ∨ hasBit y b = true := by
  rw [bit_is, bit_is, bit_is]
  show (x ||| y).testBit b = true ↔ _
  rw [Nat.testBit_or, Bool.or_eq_true]
theorem bit_zero (b : Nat) : hasBit 0 b = false := by rw [bit_is, Nat.zero_testBit]
theorem rowOf_map {f : Nat × Nat → Nat × Nat} (h0 : f (0, 0) = (0, 0)) (st : Known) (a : Nat) : rowOf (st.map f) a = f (rowOf st a) := by
  show ((st.map f)[a]?).getD (0, 0) = f ((st[a]?).getD (0, 0))
  rw [List.getElem?_map]
  cases st[a]? with
  | none => exact h0.symm
  | some x => rfl
section
variable {key : Nat → Int}
def Sound (key : Nat → Int) (st : Known) : Prop := ∀ a b, (hasBit (rowOf st a).1 b = true → key a ≤ key b) ∧ (hasBit (rowOf st a).2 b = true → key a < key b)
theorem start_sound (n : Nat) : Sound key (start n) := fun a b => by
  have h : rowOf (start n) a = (if a < n then (Nat.shiftLeft 1 a, 0) else (0, 0)) := by
    show (((List.range n).map fun i => (Nat.shiftLeft 1 i, 0))[a]?).getD (0, 0) = _
    rw [List.getElem?_map]
    by_cases ha : a < n
    · rw [List.getElem?_range ha, if_pos ha]; rfl
    · rw [List.getElem?_eq_none (by simpa using Nat.le_of_not_lt ha), if_neg ha]; rfl
  rw [h]
  by_cases ha : a < n
  · rw [if_pos ha]
    refine ⟨fun hb => ?_, fun hb => ?_⟩
    · rw [bit_is] at hb
      have hb' : (1 <<< a).testBit b = true := hb
      rw [Nat.one_shiftLeft, Nat.testBit_two_pow] at hb'
      have : a = b := by simpa using hb'
      rw [this]; exact Int.le_refl _
    · have hb' : hasBit 0 b = true := hb
      rw [bit_zero] at hb'; cases hb'
  · rw [if_neg ha]
    refine ⟨fun hb => ?_, fun hb => ?_⟩
    · have hb' : hasBit 0 b = true := hb
      rw [bit_zero] at hb'; cases hb'
    · have hb' : hasBit 0 b = true := hb
      rw [bit_zero] at hb'; cases hb'
theorem lt_sound {st : Known} (H : Sound key st) {i j : Nat} (hij : key i < key j) : Sound key (st.map (ltRow i (rowOf st j).1)) := fun a b => by
  rw [rowOf_map (by unfold ltRow; rw [bit_zero]; rfl)]
  unfold ltRow
  cases hb : hasBit (rowOf st a).1 i with
  | false => exact H a b
  | true =>
    have h1 := (H a i).1 hb
    refine ⟨fun h => ?_, fun h => ?_⟩
    · rcases bit_or.mp (show hasBit (Nat.lor (rowOf st a).1 (rowOf st j).1) b = true from h) with h | h
      · exact (H a b).1 h
      · have := (H j b).1 h; omega
    · rcases bit_or.mp (show hasBit (Nat.lor (rowOf st a).2 (rowOf st j).1) b = true from h) with h | h
      · exact (H a b).2 h
      · have := (H j b).1 h; omega
theorem ge_sound {st : Known} (H : Sound key st) {i j : Nat} (hij : key j ≤ key i) : Sound key (st.map (geRow j (rowOf st i).1 (rowOf st i).2)) := fun a b => by
  rw [rowOf_map (by unfold geRow; rw [bit_zero]; rfl)]
  unfold geRow
  cases hb : hasBit (rowOf st a).1 j with
  | false => exact H a b
  | true =>
    have h1 := (H a j).1 hb
    refine ⟨fun h => ?_, fun h => ?_⟩
    · rcases bit_or.mp (show hasBit (Nat.lor (rowOf st a).1 (rowOf st i).1) b = true from h) with h | h
      · exact (H a b).1 h
      · have := (H i b).1 h; omega
    · cases hc : hasBit (rowOf st a).2 j with
      | true =>
        rw [hc] at h
        have h2 := (H a j).2 hc
        rcases bit_or.mp (show hasBit (Nat.lor (rowOf st a).2 (rowOf st i).1) b = true from h) with h | h
        · exact (H a b).2 h
        · have := (H i b).1 h; omega
      | false =>
        rw [hc] at h
        rcases bit_or.mp (show hasBit (Nat.lor (rowOf st a).2 (rowOf st i).2) b = true from h) with h | h
        · exact (H a b).2 h
        · have := (H i b).2 h; omega
/-- a stands before b, by key, then by place -/
def LexLt (key : Nat → Int) (a b : Nat) : Prop := key a < key b ∨ (key a ≤ key b ∧ a < b)
def AdjLex (key : Nat → Int) : List Nat → Prop
  | a :: b :: r => LexLt key a b ∧ AdjLex key (b :: r)
  | _ => True
theorem adjBy_sound {st : Known} (H : Sound key st) : ∀ p, adjBy st p = true → AdjLex key p
  | [], _ => trivial
  | [_], _ => trivial
  | a :: b :: r, h => by
    unfold adjBy at h
    rw [Bool.and_eq_true] at h
    refine ⟨?_, adjBy_sound H (b :: r) h.2⟩
    have h1 := h.1
    cases hb : Nat.blt a b with
    | true =>
      rw [hb, cond_true] at h1
      exact .inr ⟨(H a b).1 h1, by simpa using hb⟩
    | false =>
      rw [hb, cond_false] at h1
      exact .inl ((H a b).2 h1)
theorem chk_sound {n : Nat} : ∀ (t : KasT (Array Nat)) (st : Known), chk n st t = true → Sound key st →
    treeOk n (fun i j => decide (key i < key j)) t = true ∧ AdjLex key (treeRun (fun i j => decide (key i < key j)) t).toList
  | .ret p, st, h, H => ⟨rfl, adjBy_sound H _ h⟩
  | .ask i j k, st, h, H => by
    unfold chk at h
    rw [Bool.and_eq_true, Bool.and_eq_true, Bool.and_eq_true, Bool.or_eq_true, Bool.or_eq_true] at h
    obtain ⟨h1, h2, h3, h4⟩ := h
    have h1' : i < n := by simpa using h1
    have h2' : j < n := by simpa using h2
    have go : ∃ st', chk n st' (k (decide (key i < key j))) = true ∧ Sound key st' := by
      cases hd : decide (key i < key j) with
      | true =>
        have hlt := of_decide_eq_true hd
        rcases h3 with h3 | h3
        · have := (H j i).1 h3; omega
        · exact ⟨_, h3, lt_sound H hlt⟩
      | false =>
        have hge := of_decide_eq_false hd
        rcases h4 with h4 | h4
        · have := (H i j).2 h4; omega
        · exact ⟨_, h4, ge_sound H (by omega)⟩
    obtain ⟨st', g1, g2⟩ := go
    obtain ⟨r1, r2⟩ := chk_sound (k (decide (key i < key j))) st' g1 g2
    refine ⟨?_, r2⟩
    unfold treeOk
    simp only [Bool.and_eq_true, decide_eq_true_eq]
    exact ⟨⟨h1', h2'⟩, r1⟩
end

/-- what the keyed sort of places makes of up to six keys -/
theorem arg_facts {ns : List Int} (hl : ns.length ≤ 6) : argOk ns = true ∧ (argP ns).Perm (List.range ns.length) ∧ AdjLex (fun i => ns.getD i 0) (argP ns) := by
  by_cases h2 : ns.length < 2
  · refine ⟨by simp [argOk, h2], ?_, ?_⟩
    · rw [argP, if_pos h2]
    · rw [argP, if_pos h2]
      have : ns.length = 0 ∨ ns.length = 1 := by omega
      rcases this with e | e <;> rw [e] <;> exact trivial
  · have key : chk ns.length (start ns.length) (kas_sort ns.length) = true := by
      have : ns.length = 2 ∨ ns.length = 3 ∨ ns.length = 4 ∨ ns.length = 5 ∨ ns.length = 6 := by omega
      rcases this with e | e | e | e | e <;> rw [e]
      · exact chk2
      · exact chk3
      · exact chk4
      · exact chk5
      · exact chk6
    obtain ⟨r1, r3⟩ := chk_sound (key := fun i => ns.getD i 0) _ _ key (start_sound _)
    refine ⟨by rw [argOk, Bool.or_eq_true_iff]; exact .inr r1, ?_, ?_⟩
    · rw [argP, if_neg h2]; exact (sort_perm ns.length).run
    · rw [argP, if_neg h2]; exact r3
theorem arg_len {ns : List Int} (hl : ns.length ≤ 6) : (argP ns).length = ns.length := by
  rw [(arg_facts hl).2.1.length_eq, List.length_range]
theorem arg_in {ns : List Int} (hl : ns.length ≤ 6) : ∀ i ∈ argP ns, i < ns.length := fun i hi => List.mem_range.mp ((arg_facts hl).2.1.mem_iff.mp hi)
theorem adj_at {key : Nat → Int} : ∀ {p : List Nat}, AdjLex key p → ∀ {k a b : Nat}, p[k]? = some a → p[k + 1]? = some b → LexLt key a b
  | x :: y :: r, h, 0, a, b, ha, hb => by
    simp at ha hb
    rw [← ha, ← hb]; exact h.1
  | x :: y :: r, h, k + 1, a, b, ha, hb => adj_at h.2 (k := k) (by simpa using ha) (by simpa using hb)
  | [x], _, k, a, b, ha, hb => by simp at hb
  | [], _, k, a, b, ha, hb => by simp at ha
theorem adj_pw {key : Nat → Int} : ∀ {p : List Nat}, AdjLex key p → (p.map key).Pairwise (· ≤ ·)
  | [], _ => .nil
  | [x], _ => by simp
  | x :: y :: r, h => by
    have ih := adj_pw h.2
    rw [List.map_cons, List.pairwise_cons]
    refine ⟨fun z hz => ?_, ih⟩
    have hxy : key x ≤ key y := by rcases h.1 with q | q <;> omega
    rw [List.map_cons] at hz ih
    rcases List.mem_cons.mp hz with rfl | hz
    · exact hxy
    · exact Int.le_trans hxy ((List.pairwise_cons.mp ih).1 z hz)
theorem range_pw (n : Nat) : ((List.range n).map Int.ofNat).Pairwise (· ≤ ·) := by
  rw [List.pairwise_map]
  exact List.Pairwise.imp (fun h => by show (_ : Int) ≤ _; exact Int.ofNat_le.mpr (Nat.le_of_lt h)) (List.pairwise_lt_range)
theorem sorted_same {a b : List Int} (hp : a.Perm b) (ha : a.Pairwise (· ≤ ·)) (hb : b.Pairwise (· ≤ ·)) : a = b := ksm_same hp ha hb
/-- argsort of an order is its inverse -/
theorem arg_back {ns : List Int} (hl : ns.length ≤ 6) : (argP ((argP ns).map Int.ofNat)).map (fun k => ((argP ns).map Int.ofNat).getD k 0) = (List.range ns.length).map Int.ofNat := by
  have hms : ((argP ns).map Int.ofNat).length = ns.length := by rw [List.length_map, arg_len hl]
  have f1 := (arg_facts hl).2.1
  have f2 := arg_facts (ns := (argP ns).map Int.ofNat) (by rw [hms]; exact hl)
  refine sorted_same ?_ (adj_pw f2.2.2) (range_pw _)
  refine (f2.2.1.map _).trans ?_
  rw [hms]
  have e : (List.range ns.length).map (fun k => ((argP ns).map Int.ofNat).getD k 0) = (argP ns).map Int.ofNat := by
    apply List.ext_getElem
    · simp [arg_len hl]
    · intro i h1 h2
      simp at h1
      have : i < (argP ns).length := by rw [arg_len hl]; exact h1
      simp [this]
  rw [e]
  exact f1.map _
end Pa
section Pt
theorem offPt : True := by w_top off; trivial
local macro_rules | `(tactic| ktr_unf) => `(tactic| repeat' (
  (fail_if_success (with_reducible show wpAny _ _ (exec (Stmt.For _ _ _ _ _) _) _ _ _));
  (fail_if_success (with_reducible show wpAny _ _ (pyIter _) _ _ _));
  (fail_if_success (with_reducible show wpAny _ _ (call (Value.type "zip") _ _) _ _ _));
  (fail_if_success (with_reducible show wpAny _ _ (eval (Expr.ListComp _ _ _ _) _) _ _ _));
  (fail_if_success (with_reducible show wpAny _ _ (eval (Expr.GeneratorExp _ _ _ _) _) _ _ _));
  (fail_if_success (with_reducible show InvPostN _ _ _ _ _ _ _ _ _));
  first | (k_unfold; (try dsimp only)) | (k_end; wrow_close) | walk1 | (dsimp only; walk1) | (leave1; walk_say "STEP leave1"; try dsimp only)))
set_option hygiene false in
local macro_rules | `(tactic| kpt_turns) => `(tactic| ((repeat' (
  (fail_if_success (with_reducible show wpAny _ _ (exec (Stmt.For _ _ _ _ _) _) _ _ _));
  (fail_if_success (with_reducible show wpAny _ _ (pyIter _) _ _ _));
  (fail_if_success (with_reducible show wpAny _ _ (call (Value.type _) _ _) _ _ _));
  (fail_if_success (with_reducible show wpAny _ _ (call (Value.builtin _) _ _) _ _ _));
  (fail_if_success (with_reducible show wpAny _ _ (call (Value.ref _) _ _) _ _ _));
  (fail_if_success (with_reducible show wpAny _ _ (subscriptTail _ _ _ _) _ _ _));
  (fail_if_success (with_reducible show wpAny _ _ (truthy (Value.ref _)) _ _ _));
  (fail_if_success (with_reducible show wpAny _ _ (newList _) _ _ _));
  (fail_if_success (with_reducible show wpAny _ _ (eval (Expr.Lambda _ _ _ _) _) _ _ _));
  (fail_if_success (with_reducible show wpAny _ _ (eval (Expr.ListComp _ _ _ _) _) _ _ _));
  (fail_if_success (with_reducible show wpAny _ _ (eval (Expr.GeneratorExp _ _ _ _) _) _ _ _));
  (fail_if_success (with_reducible show InvPostN _ _ _ _ _ _ _ _ _));
  first | (k_unfold; (try dsimp only)) | (k_end; wrow_close) | walk1 | (dsimp only; walk1) | (leave1; walk_say "STEP leave1"; try dsimp only))); (all_goals (try rename Fr _ _ _ _ => FF)); (all_goals (try rename News _ _ _ _ => NN))))
set_option maxRecDepth 100000 in
set_option maxHeartbeats 4000000 in
theorem small_ok {w : World} {dp un : Nat} {gd : Option (List Code)} {cn : Str} {cs : Scope} {a' : Addr} {ccd : Value} {cl : List (Str × Addr)} {outer : List Env} {A₀ : Around} {base h₀ : Heap} {L : Addr} {m : Str → Option Value} {s : Shared}
    {p : Program} {loose : List Str} {mean : ExcName → Option Value} {mg mb : Str → Option Value} {Q E : Value → Shared → Prop}
    {x : Int} {u : Tok} {own : List (Addr × Obj)}
    (B : Below A₀ base outer h₀) (F : Fr h₀ L s.heap m) (X : (hd.heap_39 w.params).In h₀) (N : News h₀ L s.heap own) (T : Top p loose mean mg mb h₀)
    (hk : cs.kind = .function) (hd : dp < 900)
    (ret : ∀ h tk, Fr h₀ L h m → News h₀ L h own → Q (.bool (decide (x < 2))) { s with heap := h, toks := tk }) :
    wpAny (model PySem.Challenge.rw_au0025_01.row.prog w) (ktrTop dp un gd cn cs L a' ccd cl outer) (call (.ref 82) [.int x u]) Q E s := by
  revert X; k_fill; intro X
  refine wpAny_call ?_
  k_dflt ktr_enter
  kpt_turns
  exact ret _ _ FF NN
set_option maxRecDepth 100000 in
set_option maxHeartbeats 4000000 in
theorem partition_ok {w : World} {dp un : Nat} {gd : Option (List Code)} {cn : Str} {cs : Scope} {a' : Addr} {ccd : Value} {cl : List (Str × Addr)} {outer : List Env} {A₀ : Around} {base h₀ : Heap} {L : Addr} {m : Str → Option Value} {s : Shared}
    {p : Program} {loose : List Str} {mean : ExcName → Option Value} {mg mb : Str → Option Value} {Q E : Value → Shared → Prop}
    {t : Addr} {n : Nat} {vs : List Value} {ns : List Int} {own : List (Addr × Obj)}
    (B : Below A₀ base outer h₀) (F : Fr h₀ L s.heap m) (X : (hd.heap_39 w.params).In h₀) (N : News h₀ L s.heap own) (T : Top p loose mean mg mb h₀)
    (hk : cs.kind = .function) (hd : dp < 800)
    (ht : (t, tupObj vs n) ∈ own) (hi : IntsAre vs ns) (hz : ns.length ≤ 6)
    (ret : ∀ D la lb k1 k2 us ws h tk, IntsAre us (ns.filter fun x => decide (x < 2)) → IntsAre ws (ns.filter fun x => !decide (x < 2)) → Fr h₀ L h m → News h₀ L h ((D, tupObj [.ref la, .ref lb] 0) :: (la, listOf us.toArray k1) :: (lb, listOf ws.toArray k2) :: own) → (∀ p ∈ own, p.1 < la) → la < lb → lb < D → Q (.ref D) { s with heap := h, toks := tk }) :
    wpAny (model PySem.Challenge.rw_au0025_01.row.prog w) (ktrTop dp un gd cn cs L a' ccd cl outer) (call (.ref 56) [.ref t, .ref 82]) Q E s := by
  have hvl := hi.length
  revert X; k_fill; intro X
  refine wpAny_call ?_
  k_dflt ktr_enter
  kpt_turns
  refine newList_K FF NN (fun la h1 F1 N1 l1 => ?_)
  kpt_turns
  refine newList_K FF NN (fun lb h2 F2 N2 l2 => ?_)
  kpt_turns
  refine For_turns FF ?_
  kpt_turns
  have hab := l2 _ (.head _)
  have hla : ∀ p ∈ own, p.1 < la := l1
  have hlb : ∀ p ∈ own, p.1 < lb := fun p hp => l2 p (.tail _ hp)
  refine iterSeq (κ := .tup) (vs := vs) [(t, tupObj vs n)] (fun i m' nx => ∃ us ws n1 n2, nx = (lb, listOf ws.toArray n2) :: (la, listOf us.toArray n1) :: own ∧ IntsAre us ((ns.take i).filter fun x => decide (x < 2)) ∧ IntsAre ws ((ns.take i).filter fun x => !decide (x < 2)) ∧
      m' (Str.ofString "a") = some (.ref la) ∧ m' (Str.ofString "b") = some (.ref lb) ∧ m' (Str.ofString "fxn") = some (.ref 82)) rfl rfl rfl
    (.inr ⟨_, n, .head _, rfl, rfl⟩) (fun p hp => by rw [List.mem_singleton.mp hp]; exact .tail _ (.tail _ ht)) FF NN ⟨[], [], 0, 0, rfl, .nil, .nil, rfl, rfl, rfl⟩ ?_ ?_
  · rintro i v m₁ news₁ h tk own' hv ha hkp hoff ⟨us, ws, n1, n2, rfl, hus, hws, hma, hmb, hmf⟩ F₁ N₁
    have hil : i < ns.length := by rw [← hi.length]; exact (List.getElem?_eq_some_iff.mp hv).1
    obtain ⟨x, hx⟩ : ∃ x, ns[i]? = some x := ⟨_, List.getElem?_eq_getElem hil⟩
    obtain ⟨tx, hx'⟩ := hi.get i x hx
    rw [hx'] at hv; cases hv
    have hul : us.length ≤ 6 := by rw [hus.length]; exact Nat.le_trans (List.length_filter_le ..) (by simp; omega)
    have hwl : ws.length ≤ 6 := by rw [hws.length]; exact Nat.le_trans (List.length_filter_le ..) (by simp; omega)
    have F₂ := frPut (frPut (frPut F₁ ((if_neg (by decide)).trans hma)) (x := Str.ofString "b") ((if_neg (by decide)).trans ((if_neg (by decide)).trans hmb))) (x := Str.ofString "fxn") ((if_neg (by decide)).trans ((if_neg (by decide)).trans ((if_neg (by decide)).trans hmf)))
    have offA : ∀ p ∈ (lb, listOf ws.toArray n2) :: (own ++ own'), p.1 ≠ la := fun p hp => by
      rcases List.mem_cons.mp hp with rfl | hp
      · exact Nat.ne_of_gt hab
      · rcases List.mem_append.mp hp with hp | hp
        · exact Nat.ne_of_lt (hla p hp)
        · exact hoff p hp la (.tail _ (.head _))
    have offB : ∀ p ∈ (la, listOf us.toArray n1) :: (own ++ own'), p.1 ≠ lb := fun p hp => by
      rcases List.mem_cons.mp hp with rfl | hp
      · exact Nat.ne_of_lt hab
      · rcases List.mem_append.mp hp with hp | hp
        · exact Nat.ne_of_lt (hlb p hp)
        · exact hoff p hp lb (.head _)
    have tk1 : ns.take (i + 1) = ns.take i ++ [x] := by rw [List.take_add_one, hx]; rfl
    clear F₁ FF NN
    kpt_turns
    rename Below _ _ _ _ => BB
    rename Top _ _ _ _ _ _ => TT
    rename (Mine.hd.heap_39 _).In _ => XX
    refine small_ok BB FF XX NN TT rfl (by show dp + 1 < 900; omega) fun h3 tk3 F3 N3 => ?_
    by_cases h2 : x < 2
    · rw [decide_eq_true h2]
      kpt_turns
      have N4 : News _ _ _ ((la, listOf us.toArray n1) :: (lb, listOf ws.toArray n2) :: (own ++ own')) := fun p hp => NN p (by
        rcases List.mem_cons.mp hp with e | hp
        · exact e ▸ .tail _ (.head _)
        · rcases List.mem_cons.mp hp with e | hp
          · exact e ▸ .head _
          · exact .tail _ (.tail _ hp))
      refine appendL FF N4 offA (by omega) fun h5 F5 N5 => ?_
      kpt_turns
      refine InvEndN.intro (nx := (lb, listOf ws.toArray n2) :: (la, listOf (us ++ [Value.int x tx]).toArray (n1 + 1)) :: own) FF NN ⟨fun p hp => by rw [List.mem_singleton.mp hp]; exact .tail _ (.tail _ ht), us ++ [Value.int x tx], ws, _, _, rfl, ?_, ?_, rfl, rfl, rfl⟩ rfl (fun p hp => ?_) (fun p hp => .tail _ (.tail _ (List.mem_append_right _ hp)))
      · rw [tk1, List.filter_append]
        exact hus.append (by simp [h2]; exact .cons _ _ .nil)
      · rw [tk1, List.filter_append]
        simpa [h2] using hws
      · rcases List.mem_cons.mp hp with e | hp
        · exact e ▸ .tail _ (.head _)
        · rcases List.mem_cons.mp hp with e | hp
          · exact e ▸ .head _
          · exact .tail _ (.tail _ (List.mem_append_left _ hp))
    · rw [decide_eq_false h2]
      kpt_turns
      refine appendL FF NN offB (by omega) fun h5 F5 N5 => ?_
      kpt_turns
      refine InvEndN.intro (nx := (lb, listOf (ws ++ [Value.int x tx]).toArray (n2 + 1)) :: (la, listOf us.toArray n1) :: own) FF NN ⟨fun p hp => by rw [List.mem_singleton.mp hp]; exact .tail _ (.tail _ ht), us, ws ++ [Value.int x tx], _, _, rfl, ?_, ?_, rfl, rfl, rfl⟩ rfl (fun p hp => ?_) (fun p hp => .tail _ (.tail _ (List.mem_append_right _ hp)))
      · rw [tk1, List.filter_append]
        simpa [h2] using hus
      · rw [tk1, List.filter_append]
        exact hws.append (by simp [h2]; exact .cons _ _ .nil)
      · rcases List.mem_cons.mp hp with e | hp
        · exact e ▸ .head _
        · rcases List.mem_cons.mp hp with e | hp
          · exact e ▸ .tail _ (.head _)
          · exact .tail _ (.tail _ (List.mem_append_left _ hp))
  · rintro m₁ news₁ h tk hkp ⟨us, ws, n1, n2, rfl, hus, hws, hma, hmb, hmf⟩ F₁ N₁
    have F₂ := frPut (frPut F₁ hma) (x := Str.ofString "b") ((if_neg (by decide)).trans hmb)
    rw [hvl, List.take_length] at hus hws
    clear F₁ FF NN
    kpt_turns
    rename _ ∧ _ ∧ AllLt _ _ => hlt
    exact ret _ la lb n1 n2 us ws _ _ hus hws FF (fun p hp => NN p (by
      rcases List.mem_cons.mp hp with e | hp
      · exact e ▸ .head _
      · rcases List.mem_cons.mp hp with e | hp
        · exact e ▸ .tail _ (.tail _ (.head _))
        · rcases List.mem_cons.mp hp with e | hp
          · exact e ▸ .tail _ (.head _)
          · exact .tail _ (.tail _ (.tail _ hp)))) hla hab hlt.1
end Pt
section Ml
theorem offMl : True := by w_top off; trivial
theorem prod_rev : ∀ (l : List Int), l.reverse.prod = l.prod
  | [] => rfl
  | x :: r => by
    rw [List.reverse_cons, List.prod_append, prod_rev r, List.prod_cons, List.prod_cons, List.prod_nil, Int.mul_one, Int.mul_comm]
theorem raw_at {ns : List Int} {i : Nat} (h : i < ns.length) : (rawS ns)[i]? = some (ns.drop (i + 1)).prod := by
  unfold rawS
  rw [List.getElem?_reverse (by rw [sufs_len]; exact h), sufs_len]
  unfold sufs
  rw [List.getElem?_map, List.getElem?_range (by omega)]
  simp only [Option.map_some]
  congr 1
  rw [List.take_reverse, prod_rev]
  congr 1
  have e : ns.tail.length - (ns.length - 1 - i) = i := by rw [List.length_tail]; omega
  rw [e, List.drop_tail]
/-- a stride -/
theorem stride_at {ns : List Int} {i : Nat} {x : Int} (h : ns[i]? = some x) : (canon ns (rawS ns))[i]? = some (if x = 1 then 0 else (ns.drop (i + 1)).prod) := by
  have hi : i < ns.length := (List.getElem?_eq_some_iff.mp h).1
  rw [canon, List.getElem?_zipWith, h, raw_at hi]
theorem drop_at {ns : List Int} {i : Nat} {x : Int} (h : ns[i]? = some x) : ns.drop i = x :: ns.drop (i + 1) := by
  have hi : i < ns.length := (List.getElem?_eq_some_iff.mp h).1
  rw [List.drop_eq_getElem_cons hi]
  congr 1
  exact Option.some.inj ((List.getElem?_eq_getElem hi).symm.trans h)
theorem rest_at {ns : List Int} {i : Nat} {x : Int} (h : ns[i]? = some x) (hx : 1 ≤ x) : (ns.drop i).prod.fdiv x = (ns.drop (i + 1)).prod := by
  rw [drop_at h, List.prod_cons, Int.fdiv_eq_ediv_of_nonneg _ (by omega)]
  exact Int.mul_ediv_cancel_left _ (by omega)
theorem drop_bound {ns : List Int} (h : ∀ x ∈ ns, 1 ≤ x ∧ x ≤ 5) (hl : ns.length ≤ 5) (i : Nat) : 1 ≤ (ns.drop i).prod ∧ (ns.drop i).prod ≤ 3125 := by
  have h1 := prod_bound (c := 5) (ns := ns.drop i) (by decide) fun y hy => h y (List.mem_of_mem_drop hy)
  refine ⟨h1.1, Int.le_trans h1.2 ?_⟩
  have hk : (ns.drop i).length ≤ 5 := by rw [List.length_drop]; omega
  revert hk
  generalize (ns.drop i).length = k
  intro hk
  have : k = 0 ∨ k = 1 ∨ k = 2 ∨ k = 3 ∨ k = 4 ∨ k = 5 := by omega
  rcases this with rfl | rfl | rfl | rfl | rfl | rfl <;> decide
theorem canon_bound {ns : List Int} (h : ∀ x ∈ ns, 1 ≤ x ∧ x ≤ 5) (hl : ns.length ≤ 5) : ∀ x ∈ canon ns (rawS ns), 0 ≤ x ∧ x ≤ 3125 := by
  intro y hy
  obtain ⟨i, hi⟩ := List.mem_iff_getElem?.mp hy
  have hil : i < ns.length := by
    have := (List.getElem?_eq_some_iff.mp hi).1
    simp [canon] at this
    omega
  rw [stride_at (List.getElem?_eq_getElem hil)] at hi
  have hb := drop_bound h hl (i + 1)
  have : y = if ns[i] = 1 then 0 else (ns.drop (i + 1)).prod := (Option.some.inj hi).symm
  rw [this]
  split
  · exact ⟨by decide, by decide⟩
  · exact ⟨by omega, by omega⟩
end Ml
section Mx
theorem offMx : True := by w_top off; trivial
/-- the strides, from the front -/
def strS : List Int → List Int
  | [] => []
  | x :: r => (if x = 1 then 0 else r.prod) :: strS r
theorem strS_len : ∀ ns : List Int, (strS ns).length = ns.length
  | [] => rfl
  | _ :: r => by rw [strS, List.length_cons, strS_len r, List.length_cons]
theorem strS_at : ∀ {ns : List Int} {i : Nat} {x : Int}, ns[i]? = some x → (strS ns)[i]? = some (if x = 1 then 0 else (ns.drop (i + 1)).prod)
  | [], _, _, h => by simp at h
  | y :: r, 0, x, h => by
    simp at h
    rw [strS, ← h]; rfl
  | y :: r, i + 1, x, h => by
    rw [strS, List.getElem?_cons_succ]
    exact strS_at (by simpa using h)
theorem canon_strS (ns : List Int) : canon ns (rawS ns) = strS ns := by
  apply List.ext_getElem?
  intro i
  cases h : ns[i]? with
  | some x => rw [stride_at h, strS_at h]
  | none =>
    have hl : ns.length ≤ i := List.getElem?_eq_none_iff.mp h
    rw [List.getElem?_eq_none (by simp [canon, rawS, sufs_len]; exact hl), List.getElem?_eq_none (by rw [strS_len]; exact hl)]
theorem digitsOf_len : ∀ (ts : List Int) (o : Int), (digitsOf ts o).length = ts.length
  | [], _ => rfl
  | t :: r, o => by rw [digitsOf, List.length_cons, digitsOf_len, List.length_cons]
/-- the sum of the digits by the strides -/
def dot : List Int → List Int → Int
  | x :: r, y :: s => x * y + dot r s
  | _, _ => 0
theorem dot_sum : ∀ (a b : List Int), (List.zipWith (· * ·) a b).sum = dot a b
  | [], _ => by simp [dot]
  | _ :: _, [] => by simp [dot]
  | x :: r, y :: s => by simp [dot, dot_sum r s]
theorem prod_ge {ns : List Int} (h : ∀ x ∈ ns, 1 ≤ x) : 1 ≤ ns.prod := by
  induction ns with
  | nil => decide
  | cons x r ih =>
    have h1 := h x (.head _)
    have h2 := ih fun y hy => h y (.tail _ hy)
    rw [List.prod_cons]
    have := Int.mul_le_mul h1 h2 (by decide) (by omega)
    omega
theorem prod_gt {x : Int} {r : List Int} (hx : 1 < x) (hr : 1 ≤ r.prod) : 1 < (x :: r).prod := by
  rw [List.prod_cons]
  have := Int.mul_le_mul_of_nonneg_right (show (2 : Int) ≤ x by omega) (show (0 : Int) ≤ r.prod by omega)
  omega
theorem step_fd {o t : Int} (ht : 1 ≤ t) : 0 ≤ o - o.fdiv t * t ∧ o - o.fdiv t * t < t := by
  rw [Int.fdiv_eq_ediv_of_nonneg _ (by omega)]
  have h1 := Int.emod_nonneg o (show t ≠ 0 by omega)
  have h2 := Int.emod_lt_of_pos o (show 0 < t by omega)
  have h3 := Int.emod_def o t
  rw [Int.mul_comm] at h3
  omega
theorem dig_one {x : Int} {r : List Int} {o : Int} (hx : x = 1) : digitsOf (strS (x :: r)) o = 0 :: digitsOf (strS r) o := by
  rw [strS, if_pos hx, digitsOf, if_pos rfl]; simp
theorem dig_more {x : Int} {r : List Int} {o : Int} (hx : x ≠ 1) (hr : 1 ≤ r.prod) : digitsOf (strS (x :: r)) o = o.fdiv r.prod :: digitsOf (strS r) (o - o.fdiv r.prod * r.prod) := by
  rw [strS, if_neg hx, digitsOf, if_neg (by omega)]
theorem told_is : ∀ {ns : List Int} (hA : ∀ x ∈ ns, 1 ≤ x) (o : Int), dot (digitsOf (strS ns) o) (strS ns) = o - if ns.prod = 1 then o else 0
  | [], _, o => by simp [strS, digitsOf, dot]
  | x :: r, h, o => by
    have hr : ∀ y ∈ r, 1 ≤ y := fun y hy => h y (.tail _ hy)
    have hp := prod_ge hr
    have hx := h x (.head _)
    by_cases h1 : x = 1
    · rw [dig_one h1]
      have e : strS (x :: r) = 0 :: strS r := by rw [strS, if_pos h1]
      rw [e, dot, told_is hr, List.prod_cons, h1, Int.one_mul]
      omega
    · rw [dig_more h1 hp]
      have e : strS (x :: r) = r.prod :: strS r := by rw [strS, if_neg h1]
      rw [e, dot, told_is hr]
      have hgt := prod_gt (show 1 < x by omega) hp
      rw [if_neg (show ¬ (x :: r).prod = 1 by omega)]
      have hs := step_fd (o := o) hp
      by_cases h2 : r.prod = 1
      · rw [if_pos h2]
        rw [h2] at hs ⊢
        omega
      · rw [if_neg h2]
        omega
theorem told_law {ns : List Int} (h : ∀ x ∈ ns, 1 ≤ x) (o : Int) : (dot (digitsOf (strS ns) o) (strS ns) = o) ↔ (1 < ns.prod ∨ o = 0) := by
  rw [told_is h]
  have := prod_ge h
  by_cases h1 : ns.prod = 1
  · rw [if_pos h1]; omega
  · rw [if_neg h1]; omega
/-- digits of a number within -/
theorem dig_in : ∀ {ns : List Int} (hA : ∀ x ∈ ns, 1 ≤ x) {o : Int} (hA0 : 0 ≤ o) (hA1 : o < ns.prod) {k : Nat} {x d : Int}, ns[k]? = some x → (digitsOf (strS ns) o)[k]? = some d → 0 ≤ d ∧ d < x
  | [], _, _, _, _, _, _, _, hx, _ => by simp at hx
  | y :: r, h, o, h0, h1, k, x, d, hx, hd => by
    have hr : ∀ z ∈ r, 1 ≤ z := fun z hz => h z (.tail _ hz)
    have hp := prod_ge hr
    have hy := h y (.head _)
    rw [List.prod_cons] at h1
    by_cases hy1 : y = 1
    · rw [dig_one hy1] at hd
      rw [hy1, Int.one_mul] at h1
      cases k with
      | zero =>
        simp at hx hd
        rw [← hx, ← hd, hy1]; decide
      | succ k => exact dig_in hr h0 h1 (by simpa using hx) (by simpa using hd)
    · rw [dig_more hy1 hp] at hd
      have hs := step_fd (o := o) hp
      cases k with
      | zero =>
        simp at hx hd
        rw [← hx, ← hd, Int.fdiv_eq_ediv_of_nonneg _ (by omega)]
        exact ⟨Int.ediv_nonneg h0 (by omega), Int.ediv_lt_of_lt_mul (by omega) h1⟩
      | succ k => exact dig_in hr hs.1 hs.2 (by simpa using hx) (by simpa using hd)
/-- digits behind a place of more than one -/
theorem dig_wide : ∀ {ns : List Int} (hA : ∀ x ∈ ns, 1 ≤ x) (o : Int) {j k : Nat} {w x d : Int}, j < k → ns[j]? = some w → 1 < w → ns[k]? = some x → (digitsOf (strS ns) o)[k]? = some d → 0 ≤ d ∧ d < x
  | [], _, _, _, _, _, _, _, _, hw, _, _, _ => by simp at hw
  | y :: r, h, o, j, k, w, x, d, hjk, hw, hw1, hx, hd => by
    have hr : ∀ z ∈ r, 1 ≤ z := fun z hz => h z (.tail _ hz)
    have hp := prod_ge hr
    obtain ⟨k, rfl⟩ : ∃ k', k = k' + 1 := ⟨k - 1, by omega⟩
    by_cases hy1 : y = 1
    · rw [dig_one hy1] at hd
      cases j with
      | zero => simp at hw; omega
      | succ j => exact dig_wide (j := j) (k := k) hr o (by omega) (by simpa using hw) hw1 (by simpa using hx) (by simpa using hd)
    · rw [dig_more hy1 hp] at hd
      have hs := step_fd (o := o) hp
      exact dig_in hr hs.1 hs.2 (by simpa using hx) (by simpa using hd)
/-- a digit of a one -/
theorem dig_ones : ∀ {ns : List Int} (hA : ∀ x ∈ ns, 1 ≤ x) (o : Int) {k : Nat} {d : Int}, ns[k]? = some 1 → (digitsOf (strS ns) o)[k]? = some d → d = 0
  | [], _, _, _, _, hx, _ => by simp at hx
  | y :: r, h, o, k, d, hx, hd => by
    have hr : ∀ z ∈ r, 1 ≤ z := fun z hz => h z (.tail _ hz)
    have hp := prod_ge hr
    by_cases hy1 : y = 1
    · rw [dig_one hy1] at hd
      cases k with
      | zero => simpa using hd.symm
      | succ k => exact dig_ones hr o (by simpa using hx) (by simpa using hd)
    · rw [dig_more hy1 hp] at hd
      cases k with
      | zero => simp at hx; omega
      | succ k => exact dig_ones hr _ (by simpa using hx) (by simpa using hd)
/-- the digits put together again -/
def horner : List Int → List Int → Int → Int
  | d :: r, x :: s, a => horner r s (a * x + d)
  | _, _, a => a
theorem horner_is : ∀ {ns : List Int} (hA : ∀ x ∈ ns, 1 ≤ x) {o : Int} (hA0 : 0 ≤ o) (hA1 : o < ns.prod) (a : Int), horner (digitsOf (strS ns) o) ns a = a * ns.prod + o
  | [], _, o, h0, h1, a => by simp [strS, digitsOf, horner] at h1 ⊢; omega
  | y :: r, h, o, h0, h1, a => by
    have hr : ∀ z ∈ r, 1 ≤ z := fun z hz => h z (.tail _ hz)
    have hp := prod_ge hr
    rw [List.prod_cons] at h1 ⊢
    by_cases hy1 : y = 1
    · rw [dig_one hy1, horner]
      rw [hy1, Int.one_mul] at h1
      rw [horner_is hr h0 h1, hy1]
      simp
    · rw [dig_more hy1 hp, horner]
      have hs := step_fd (o := o) hp
      rw [horner_is hr hs.1 hs.2, Int.add_mul, Int.mul_assoc]
      omega
theorem horner_take : ∀ {ds ns : List Int} {i : Nat} {d x : Int} (a : Int), ds[i]? = some d → ns[i]? = some x → horner (ds.take (i + 1)) (ns.take (i + 1)) a = horner (ds.take i) (ns.take i) a * x + d
  | [], _, _, _, _, _, h, _ => by simp at h
  | _ :: _, [], _, _, _, _, _, h => by simp at h
  | e :: r, y :: s, 0, d, x, a, hd, hx => by
    simp at hd hx
    simp [horner, hd, hx]
  | e :: r, y :: s, i + 1, d, x, a, hd, hx => by
    rw [List.take_succ_cons, List.take_succ_cons, horner, List.take_succ_cons, List.take_succ_cons, horner]
    exact horner_take _ (by simpa using hd) (by simpa using hx)
end Mx
section Lw
def GoodM (c : ClaimW) (cl : Str → Option Addr) (args : List WData) (s₁ : Shared) (res : Result) (s' : Shared) : Prop :=
  (∃ v d as, res = .ok (.ret v) ∧ (∀ cls, c.raises args cls = false) ∧ ReadsW c.records cl s'.heap v d as ∧ c.post args d args = true ∧ (c.unshared = true → as.Nodup ∧ ∀ a ∈ as, s₁.heap.get? a = none)) ∧
  (∀ b o, s₁.heap.get? b = some o → s'.heap.get? b = some o) ∧ s'.os = s₁.os ∧ AllBare s'.gens
theorem kn_postG {M : Model} {A : Around} {cd : Code} {s s₁ : Shared} {cw : ClaimW} {cl : Str → Option Addr} {mean : ExcName → Option Value} {args : List WData} {tabs : List (Addr × Addr)} (hT : TabsAt tabs s₁.heap)
    (h : codeAny M A cd (fun r s' => GoodM cw cl args { s₁ with heap := ghostOf s₁.heap tabs } r s' ∧ GrownAll tabs s'.heap) s) : codeAny M A cd (GoodWG cw cl mean args s₁) s :=
  codeAny_mono h fun r s' ⟨⟨hc, hk, hos, hg⟩, hgr⟩ => by
    have keep : ∀ b o, b ∉ tabs.map (·.2) → s₁.heap.get? b = some o → s'.heap.get? b = some o := fun b o hb e => hk b o (ghost_ne e hb)
    have grown : ∀ b o, b ∈ tabs.map (·.2) → s₁.heap.get? b = some o → isCodeTable s₁.heap b ∧ o = tabObj #[] ∧ ∃ ps, s'.heap.get? b = some (tabObj ps) := fun b o hb e => by
      obtain ⟨q, hq, rfl⟩ := List.mem_map.mp hb
      have e2 := (hT q hq).2
      rw [e] at e2
      exact ⟨((hT q hq).1.tab (hT q hq).2).isCodeTable, Option.some.inj e2, hgr.get q hq⟩
    refine ⟨?_, ⟨fun b o e => ?_, fun b o e => ?_⟩, hos, hg⟩
    · obtain ⟨v, d, as, r1, r2, r3, r4, r5⟩ := hc
      refine .inl ⟨v, d, as, r1, r2, r3, r4, fun q => ⟨(r5 q).1, fun a ha => ?_⟩⟩
      cases q1 : s₁.heap.get? a with
      | none => rfl
      | some o =>
        by_cases hb : a ∈ tabs.map (·.2)
        · obtain ⟨_, _, ps, hP⟩ := grown a o hb q1
          exact absurd ha (readsW_apart hP rfl r3)
        · have e3 := (r5 q).2 a ha
          rw [show (ghostOf s₁.heap tabs).get? a = some o from ghost_ne q1 hb] at e3
          cases e3
    · by_cases hb : b ∈ tabs.map (·.2)
      · obtain ⟨ht, rfl, ps, hP⟩ := grown b o hb e
        exact .inr (.inl ⟨ht, rfl, #[], ps, rfl, by rw [Array.empty_append]; exact hP⟩)
      · exact .inl (keep b o hb e)
    · by_cases hb : b ∈ tabs.map (·.2)
      · obtain ⟨_, _, ps, hP⟩ := grown b o hb e
        exact ⟨_, hP⟩
      · exact ⟨o, keep b o hb e⟩
theorem offBy {own own' : List (Addr × Obj)} {c : Addr} (h : ∀ p ∈ own, p.1 < c) (e : own'.map (·.1) = own.map (·.1)) : ∀ p ∈ own', p.1 ≠ c := fun p hp => by
  have : p.1 ∈ own.map (·.1) := e ▸ List.mem_map.mpr ⟨p, hp, rfl⟩
  obtain ⟨q, hq, e2⟩ := List.mem_map.mp this
  rw [← e2]
  exact Nat.ne_of_lt (h q hq)
theorem ofApp {own own' : List (Addr × Obj)} {P : Addr × Obj → Prop} (h : ∀ p ∈ own, P p) (h' : ∀ p ∈ own', P p) : ∀ p ∈ own ++ own', P p := fun p hp => (List.mem_append.mp hp).elim (h p) (h' p)
theorem ofCons {own : List (Addr × Obj)} {q : Addr × Obj} {P : Addr × Obj → Prop} (h : P q) (h' : ∀ p ∈ own, P p) : ∀ p ∈ q :: own, P p := fun p hp => (List.mem_cons.mp hp).elim (fun e => e ▸ h) (h' p)
theorem offTwo {own : List (Addr × Obj)} {st l : Addr} (h1 : ∀ p ∈ own, p.1 ≠ st) (h2 : ∀ p ∈ own, p.1 ≠ l) : OwnOff own [st, l] := fun p hp b hb => by
  rcases List.mem_cons.mp hb with rfl | hb
  · exact h1 p hp
  · rw [List.mem_singleton.mp hb]; exact h2 p hp
end Lw
section Lz
theorem offAdr {own : List (Addr × Obj)} {as : List Addr} {c : Addr} (h : ∀ a ∈ as, a ≠ c) (e : own.map (·.1) = as) : ∀ p ∈ own, p.1 ≠ c := fun p hp => h p.1 (e ▸ List.mem_map.mpr ⟨p, hp, rfl⟩)
/-- the addresses beside the state's two -/
theorem off8 {LL tS tH c : Nat} (h1 : LL + 1 + 1 + 1 + 1 < c) (h2 : 16 < c) (h3 : 44 < c) (h4 : c < tH) (h5 : c < tS) : ∀ a ∈ ([tS, 16, tH, LL + 1 + 1 + 1 + 1, LL + 1 + 1 + 1, LL + 1 + 1, LL + 1, 44] : List Addr), @Ne Addr a c := by
  simp only [List.forall_mem_cons, List.not_mem_nil, false_implies, implies_true, and_true]
  refine ⟨?_, ?_, ?_, ?_, ?_, ?_, ?_, ?_⟩ <;> (refine neN ?_; omega)
theorem off16s {LL tS tH st l : Nat} (h1 : 16 < LL) (h2 : LL + 1 + 1 + 1 + 1 < st) (h3 : LL + 1 + 1 + 1 + 1 < l) (h4 : st < tH) (h5 : st < tS) : ∀ a ∈ ([tH, st, l, tS, LL + 1 + 1 + 1 + 1, LL + 1 + 1 + 1, LL + 1 + 1, LL + 1, 44] : List Addr), @Ne Addr a 16 := by
  simp only [List.forall_mem_cons, List.not_mem_nil, false_implies, implies_true, and_true]
  refine ⟨?_, ?_, ?_, ?_, ?_, ?_, ?_, ?_, ?_⟩ <;> (refine neN ?_; omega)
/-- one of three -/
theorem pick3 {v a b c : Int} {t u w : Tok} (h0 : 0 ≤ v) (h3 : v < 3) (ha : -100000 ≤ a ∧ a ≤ 100000) (hb : -100000 ≤ b ∧ b ≤ 100000) (hc : -100000 ≤ c ∧ c ≤ 100000) :
    ∃ x y, [Value.int a t, .int b u, .int c w][v.toNat]? = some (.int x y) ∧ -100000 ≤ x ∧ x ≤ 100000 := by
  have : v = 0 ∨ v = 1 ∨ v = 2 := by omega
  rcases this with rfl | rfl | rfl
  · exact ⟨a, t, rfl, ha⟩
  · exact ⟨b, u, rfl, hb⟩
  · exact ⟨c, w, rfl, hc⟩
end Lz
section Ld
theorem dig_bd : ∀ {ts : List Int} (hA : ∀ t ∈ ts, 0 ≤ t) {o : Int} (hAo : -100000 ≤ o ∧ o ≤ 100000) (hAt : ∀ t ∈ ts, t ≤ 3125), ∀ d ∈ digitsOf ts o, -100000 ≤ d ∧ d ≤ 100000
  | [], _, _, _, _, d, hd => by simp [digitsOf] at hd
  | t :: r, h, o, ho, ht, d, hd => by
    have hr : ∀ z ∈ r, 0 ≤ z := fun z hz => h z (.tail _ hz)
    have htr : ∀ z ∈ r, z ≤ 3125 := fun z hz => ht z (.tail _ hz)
    have h0 := h t (.head _)
    have h1 := ht t (.head _)
    rw [digitsOf] at hd
    by_cases hz : t = 0
    · rw [if_pos hz] at hd
      rcases List.mem_cons.mp hd with rfl | hd
      · omega
      · exact dig_bd hr (o := o - 0 * t) (by omega) htr d hd
    · rw [if_neg hz] at hd
      obtain ⟨q1, q2, q3⟩ := un_step (x := t) (by omega) ho
      rcases List.mem_cons.mp hd with rfl | hd
      · exact q1
      · exact dig_bd hr (by omega) htr d hd
theorem zip_take {a b : List Int} {i : Nat} {x y : Int} (ha : a[i]? = some x) (hb : b[i]? = some y) : (List.zipWith (· * ·) a b).take (i + 1) = (List.zipWith (· * ·) a b).take i ++ [x * y] := by
  rw [List.take_add_one, List.getElem?_zipWith, ha, hb]
  rfl
theorem bools_snoc {b : Bool} : ∀ {vs : List Value} {bs : List Bool}, LSm.BoolsAre vs bs → LSm.BoolsAre (vs ++ [.bool b]) (bs ++ [b])
  | _, _, .nil => .cons b .nil
  | _, _, .cons c h => .cons c (bools_snoc h)
/-- a word that the walk does not open -/
structure Cut (P : Prop) : Prop where
  out : P
end Ld
section Le
/-- the places whose number passes a test -/
def wideP (t : Int → Bool) (ns : List Int) (i : Nat) : List Nat := (List.range i).filter fun k => t (ns.getD k 0)
theorem wideP_succ (t : Int → Bool) (ns : List Int) (i : Nat) : wideP t ns (i + 1) = wideP t ns i ++ (if t (ns.getD i 0) = true then [i] else []) := by
  unfold wideP
  rw [List.range_succ, List.filter_append]
  congr 1
  rw [List.filter_cons, List.filter_nil]
theorem wideP_len (t : Int → Bool) (ns : List Int) (i : Nat) : (wideP t ns i).length ≤ i := by
  have := List.length_filter_le (fun k => t (ns.getD k 0)) (List.range i)
  rw [List.length_range] at this
  exact this
theorem wide_in {t : Int → Bool} {ns : List Int} {n k : Nat} (h : k ∈ wideP t ns n) : k < n ∧ t (ns.getD k 0) = true := by
  have := List.mem_filter.mp h
  exact ⟨List.mem_range.mp this.1, this.2⟩
theorem wide_later {t : Int → Bool} {ns : List Int} {n i k : Nat} (h : (wideP t ns n)[i + 1]? = some k) : ∃ j, j < k ∧ k < n ∧ t (ns.getD j 0) = true ∧ t (ns.getD k 0) = true := by
  have hi := (List.getElem?_eq_some_iff.mp h).1
  have hp : (wideP t ns n).Pairwise (· < ·) := List.Pairwise.filter _ (List.pairwise_lt_range)
  have hj : (wideP t ns n)[0]? = some ((wideP t ns n)[0]'(by omega)) := List.getElem?_eq_getElem (by omega)
  have hk := (List.getElem?_eq_some_iff.mp h).2
  refine ⟨(wideP t ns n)[0]'(by omega), ?_, (wide_in (List.mem_of_getElem? h)).1, (wide_in (List.mem_of_getElem? hj)).2, (wide_in (List.mem_of_getElem? h)).2⟩
  have := List.pairwise_iff_getElem.mp hp 0 (i + 1) (by omega) hi (by omega)
  rw [hk] at this
  exact this
theorem CEnd.same {h₀ h' : Heap} {L : Addr} {m : Str → Option Value} {own : List (Addr × Obj)} (LD : List (Addr × Obj)) {adr : List Addr} {J : List (Addr × Obj) → Prop} {s₁ : Shared} {tk : Nat} (F : Fr h₀ L h' m) (N : News h₀ L h' (LD ++ own)) (ha : LD.map (·.1) = adr) (hj : J LD) :
    CEnd h₀ L m own adr J s₁ { s₁ with heap := h', toks := tk } := CEnd.intro LD F N (fun _ h => List.mem_append_left _ h) (fun _ h => List.mem_append_right _ h) ha hj
theorem bools_none : ∀ {bs : List Bool}, (∀ b ∈ bs, b = false) → bs.any id = false := fun h => by
  rw [List.any_eq_false]
  intro b hb
  rw [h b hb]; simp
theorem seqI {i n : Nat} (h : i < n) : seqIndex? (0 + (i : Int)) n = some i := by
  unfold seqIndex?
  first | (simp [h]; done) | (simp; omega) | (split <;> simp_all <;> omega)
theorem seqN {i n : Nat} (h : i < n) : seqIndex? (Int.ofNat i) n = some i := by
  have := seqI h
  rw [Int.zero_add] at this
  exact this
end Le
section Lg
theorem horn_bd {a P d x : Int} (h0 : 0 ≤ a) (h1 : a < P) (d0 : 0 ≤ d) (d1 : d < x) : 0 ≤ a * x + d ∧ a * x + d < P * x := by
  have hx : 0 ≤ x := by omega
  have h2 := Int.mul_nonneg h0 hx
  have h3 := Int.mul_le_mul_of_nonneg_right (show a + 1 ≤ P by omega) hx
  rw [Int.add_mul, Int.one_mul] at h3
  omega
end Lg
section Li
section
open PyProof.V PySem.Spec PySem.SeqAt
variable {prog : Program} {w : World} {A : Around} {E : Value → Shared → Prop} {s : Shared}
theorem readsTup {h : Heap} {a : Addr} {vs : List Value} {ns : List Int} (hl : IsTup h a vs.toArray) (hi : IntsAre vs ns) : ∃ as, Reads h (.ref a) (.tuple (ns.map .int)) as := by
  obtain ⟨o, ho, hc, n, hd⟩ := hl
  exact ⟨_, Reads.tuple ho hc hd (by simpa using readsAll_of_ints hi)⟩
theorem shapedTup (ns : List Int) : shaped (.tuple (ns.map PyData.int)) = true := by
  have h1 := PySem.W.depthAll_ints ns
  have h2 : PyData.depth (.tuple (ns.map PyData.int)) ≤ 64 := by simp only [PyData.depth]; omega
  show (PyData.canLay0 (.tuple (ns.map PyData.int)) && decide (PyData.depth (.tuple (ns.map PyData.int)) ≤ 64)) = true
  rw [Bool.and_eq_true]
  exact ⟨by simp only [PyData.canLay0]; exact canLayAll0_ints ns, decide_eq_true h2⟩
/-- two tuples of ints, unlike or not -/
theorem neTup {a b : Addr} {vs us : List Value} {ns ms : List Int} {Q : Value → Shared → Prop} (hl : IsTup s.heap a vs.toArray) (hi : IntsAre vs ns) (hl' : IsTup s.heap b us.toArray) (hi' : IntsAre us ms) (hu : A.units + 64 < cLine)
    (h : Q (.bool (!decide (ns = ms))) s) : wpAny (model prog w) A (compareOp .NotEq (.ref a) (.ref b)) Q E s := by
  obtain ⟨as, ra⟩ := readsTup hl hi
  obtain ⟨bs, rb⟩ := readsTup hl' hi'
  exact ne_dataH_same ra rb (shapedTup ns) (shapedTup ms) hu (by simp only [noMix]; exact noMix_ints ns ms) (by simp only [PySem.Spec.same]; rw [same_ints]; exact h)
end
end Li
section Lj
theorem seqE {k : Int} {i n : Nat} (e : k = (i : Int)) (h : i < n) : seqIndex? k n = some i := by
  rw [e]; exact seqN h
section
variable {prog : Program} {w : World} {A : Around} {E : Value → Shared → Prop} {s : Shared} {env : Env} {h₀ : Heap} {body : List Stmt} {Q : Flow → Shared → Prop}
abbrev rng2Obj (a n : Int) (t₁ u₁ v₁ : Tok) : Obj := { cls := .type "range", data := .fields #[.int a t₁, .int n u₁, .int 1 v₁] }
theorem range2K {L : Addr} {m : Str → Option Value} {news : List (Addr × Obj)} {a n : Int} {t u : Tok} {Q : Value → Shared → Prop} (F : Fr h₀ L s.heap m) (N : News h₀ L s.heap news)
    (h : ∀ r t₁ u₁ v₁ h' tk, Fr h₀ L h' m → News h₀ L h' ((r, rng2Obj a n t₁ u₁ v₁) :: news) → (∀ p ∈ news, p.1 < r) → L < r → Q (.ref r) { s with heap := h', toks := tk }) :
    wpAny (model prog w) A (call (.type "range") [.int a t, .int n u]) Q E s :=
  call_range_2 (h _ _ _ _ _ _ (F.push _) (N.push F _) (fun p hp => Heap.lt_size (N p hp).1) F.ns.lt)
/-- a loop over a range -/
theorem iterRange {x : Str} {px : Pos} {r : Addr} {a b : Int} {t u v : Tok} {n : Nat} {m : Str → Option Value} {news : List (Addr × Obj)} (J : Nat → (Str → Option Value) → List (Addr × Obj) → Prop)
    (hh : A.handled = none) (hx : env.kindOf x = some .local) (hp : (env.scope.kind == .class || (env.scope.kind == .module && env.locals != env.globals)) = false)
    (hr : IsRange s.heap r a b 1 t u v) (hsm : Builtin.Range.small a b 1 = true) (hn : Builtin.Range.rangeSize a b 1 = ((n : Nat) : Int)) (F : Fr h₀ env.locals s.heap m) (N : News h₀ env.locals s.heap news) (h0 : J 0 m news)
    (step : ∀ i tv m₁ news₁ h tk own, i < n → news₁.map (·.1) = news.map (·.1) → OwnOff own (news.map (·.1)) → J i m₁ news₁ → Fr h₀ env.locals h (fun y => if y = x then some (.int (a + (i : Int)) tv) else m₁ y) → News h₀ env.locals h (news₁ ++ own) →
      wpAny (model prog w) A (execs body env) (InvPostN h₀ env.locals (fun m' nx => (∀ p ∈ ([] : List (Addr × Obj)), p ∈ nx) ∧ J (i + 1) m' nx) own (news.map (·.1)) { s with heap := h, toks := tk } Q) E { s with heap := h, toks := tk })
    (done : ∀ m₁ news₁ h tk, J n m₁ news₁ → Fr h₀ env.locals h m₁ → News h₀ env.locals h news₁ → Q .next { s with heap := h, toks := tk }) :
    wpAny (model prog w) A (pyIter (.ref r)) (fun it s₂ => TurnsAt prog w A h₀ env (.Name x px) body Q E it s₂) E s := by
  have F' : ∀ o, Fr h₀ env.locals (s.heap.push o) m := fun o => F.push o
  have N' : ∀ o, News h₀ env.locals (s.heap.push o) news := fun o => N.grown fun _ _ e => Heap.get?_push_of_some _ e
  have fresh : ∀ p ∈ news, p.1 ≠ s.heap.objs.size := fun p hp => Nat.ne_of_lt (Heap.lt_size (N p hp).1)
  have W := LCg.range_walks (prog := prog) (w := w) (I := s.heap.objs.size) hh a n
  refine wpAny_pyIter_range hr hsm ?_
  exact turnsName (s := { s with heap := s.heap.push _ }) (keep := []) J hx hp W (fun i v s Q E _ q => wpAny_of_eq (a := ()) rfl q) (by show IsRangeIter _ _ _ _ _; rw [hn]; simpa using Heap.get?_push_size _ rfl)
    (fun hm => absurd F.ns.lt ((List.mem_singleton.mp hm) ▸ Nat.lt_irrefl _)) (fun b hb => by rw [List.mem_singleton.mp hb]; exact next_is_new F) (fun p hp hm => fresh p hp (List.mem_singleton.mp hm))
    (fun b hb => by rw [List.mem_singleton.mp hb]; exact .inr (.inr fresh)) (fun p hp => nomatch hp) (F' _) (N' _) h0
    (fun i v m₁ news₁ h tk own hi hP ha _ hoff hJ F₁ N₁ => by obtain ⟨tv, rfl⟩ := hP; exact step i tv m₁ news₁ h tk own hi ha hoff hJ F₁ N₁) (fun m₁ news₁ h tk _ hJ F₁ N₁ => done m₁ news₁ h tk hJ F₁ N₁)
end
end Lj
section Lk
theorem ints_snoc {ys : List Value} {ns : List Int} {v : Int} {t : Tok} (h : IntsAre ys ns) : IntsAre (ys ++ [.int v t]) (ns ++ [v]) := h.append (.cons _ _ .nil)
end Lk
section Lm
theorem filt_take {row : List Int} {i : Nat} {x : Int} {p : Int → Bool} (h : row[i]? = some x) : (row.take (i + 1)).filter p = (row.take i).filter p ++ (if p x = true then [x] else []) := by
  rw [List.take_add_one, h, List.filter_append]
  congr 1
  show List.filter p [x] = _
  by_cases e : p x = true
  · rw [if_pos e]; simp [e]
  · rw [if_neg e]; simp [e]
end Lm
section Ln
theorem law_post (scr : List Int) : PySem.Challenge.rw_au0025_01.row.claim.post [ofPy (PyData.list (List.map PyData.int scr))] (WData.bool true) [ofPy (PyData.list (List.map PyData.int scr))] = true := by
  wrow_post
end Ln
local macro_rules | `(tactic| ktr_unf) => `(tactic| repeat' (
  (fail_if_success (with_reducible show wpAny _ _ (exec (Stmt.For _ _ _ _ _) _) _ _ _));
  (fail_if_success (with_reducible show wpAny _ _ (pyIter _) _ _ _));
  (fail_if_success (with_reducible show wpAny _ _ (call (Value.type "zip") _ _) _ _ _));
  (fail_if_success (with_reducible show wpAny _ _ (eval (Expr.ListComp _ _ _ _) _) _ _ _));
  (fail_if_success (with_reducible show wpAny _ _ (eval (Expr.GeneratorExp _ _ _ _) _) _ _ _));
  (fail_if_success (with_reducible show InvPostN _ _ _ _ _ _ _ _ _));
  first | (k_unfold; (try dsimp only)) | (k_end; wrow_close) | walk1 | (dsimp only; walk1) | (leave1; walk_say "STEP leave1"; try dsimp only)))
set_option hygiene false in
local macro_rules | `(tactic| kpt_turns) => `(tactic| ((repeat' (
  (fail_if_success (with_reducible show wpAny _ _ (exec (Stmt.For _ _ _ _ _) _) _ _ _));
  (fail_if_success (with_reducible show wpAny _ _ (pyIter _) _ _ _));
  (fail_if_success (with_reducible show wpAny _ _ (call (Value.type _) _ _) _ _ _));
  (fail_if_success (with_reducible show wpAny _ _ (call (Value.builtin _) _ _) _ _ _));
  (fail_if_success (with_reducible show wpAny _ _ (call (Value.ref _) _ _) _ _ _));
  (fail_if_success (with_reducible show wpAny _ _ (subscriptTail _ _ _ _) _ _ _));
  (fail_if_success (with_reducible show wpAny _ _ (truthy (Value.ref _)) _ _ _));
  (fail_if_success (with_reducible show wpAny _ _ (newList _) _ _ _));
  (fail_if_success (with_reducible show wpAny _ _ (eval (Expr.Lambda _ _ _ _) _) _ _ _));
  (fail_if_success (with_reducible show wpAny _ _ (eval (Expr.ListComp _ _ _ _) _) _ _ _));
  (fail_if_success (with_reducible show wpAny _ _ (eval (Expr.GeneratorExp _ _ _ _) _) _ _ _));
  (fail_if_success (with_reducible show InvPostN _ _ _ _ _ _ _ _ _));
  first | (k_unfold; (try dsimp only)) | (k_end; wrow_close) | walk1 | (dsimp only; walk1) | (leave1; walk_say "STEP leave1"; try dsimp only))); (all_goals (try rename Fr _ _ _ _ => FF)); (all_goals (try rename News _ _ _ _ => NN))))
set_option hygiene false in
local macro_rules | `(tactic| kpc_turns) => `(tactic| ((repeat' (
  (fail_if_success (with_reducible show wpAny _ _ (exec (Stmt.For _ _ _ _ _) _) _ _ _));
  (fail_if_success (with_reducible show wpAny _ _ (pyIter _) _ _ _));
  (fail_if_success (with_reducible show wpAny _ _ (call (Value.type _) _ _) _ _ _));
  (fail_if_success (with_reducible show wpAny _ _ (call (Value.builtin _) _ _) _ _ _));
  (fail_if_success (with_reducible show wpAny _ _ (call (Value.ref _) _ _) _ _ _));
  (fail_if_success (with_reducible show wpAny _ _ (subscriptTail _ _ _ _) _ _ _));
  (fail_if_success (with_reducible show wpAny _ _ (truthy (Value.ref _)) _ _ _));
  (fail_if_success (with_reducible show wpAny _ _ (newList _) _ _ _));
  (fail_if_success (with_reducible show wpAny _ _ (eval (Expr.Lambda _ _ _ _) _) _ _ _));
  (fail_if_success (with_reducible show wpAny _ _ (eval (Expr.ListComp _ _ _ _) _) _ _ _));
  (fail_if_success (with_reducible show wpAny _ _ (exec (Stmt.Assign _ (Expr.ListComp _ _ _ _) _) _) _ _ _));
  (fail_if_success (with_reducible show wpAny _ _ (eval (Expr.GeneratorExp _ _ _ _) _) _ _ _));
  (fail_if_success (with_reducible show InvPostN _ _ _ _ _ _ _ _ _));
  first | (k_unfold; (try dsimp only)) | (k_end; wrow_close) | walk1 | (dsimp only; walk1) | (leave1; walk_say "STEP leave1"; try dsimp only))); (all_goals (try rename Fr _ _ _ _ => FF)); (all_goals (try rename News _ _ _ _ => NN))))
set_option hygiene false in
local macro_rules | `(tactic| kfm_turns) => `(tactic| ((repeat' (
  (fail_if_success (with_reducible show wpAny _ _ (exec (Stmt.For _ _ _ _ _) _) _ _ _));
  (fail_if_success (with_reducible show wpAny _ _ (pyIter _) _ _ _));
  (fail_if_success (with_reducible show wpAny _ _ (call (Value.type _) _ _) _ _ _));
  (fail_if_success (with_reducible show wpAny _ _ (call (Value.builtin _) _ _) _ _ _));
  (fail_if_success (with_reducible show wpAny _ _ (call (Value.ref _) _ _) _ _ _));
  (fail_if_success (with_reducible show wpAny _ _ (subscriptTail _ _ _ _) _ _ _));
  (fail_if_success (with_reducible show wpAny _ _ (truthy (Value.ref _)) _ _ _));
  (fail_if_success (with_reducible show wpAny _ _ (newList _) _ _ _));
  (fail_if_success (with_reducible show wpAny _ _ (eval (Expr.Lambda _ _ _ _) _) _ _ _));
  (fail_if_success (with_reducible show wpAny _ _ (eval (Expr.ListComp _ _ _ _) _) _ _ _));
  (fail_if_success (with_reducible show wpAny _ _ (exec (Stmt.Assign _ (Expr.ListComp _ _ _ _) _) _) _ _ _));
  (fail_if_success (with_reducible show wpAny _ _ (eval (Expr.GeneratorExp _ _ _ _) _) _ _ _));
  (fail_if_success (with_reducible show wpAny _ _ (eval (Expr.BoolOp _ _ _) _) _ _ _));
  (fail_if_success (with_reducible show wpAny _ _ (exec (Stmt.If _ _ _ _) _) _ _ _));
  (fail_if_success (with_reducible show InvPostN _ _ _ _ _ _ _ _ _));
  first | (k_unfold; (try dsimp only)) | (k_end; wrow_close) | walk1 | (dsimp only; walk1) | (leave1; walk_say "STEP leave1"; try dsimp only))); (all_goals (try rename Fr _ _ _ _ => FF)); (all_goals (try rename News _ _ _ _ => NN))))
set_option hygiene false in
local macro_rules | `(tactic| ktn_open) => `(tactic| ((repeat' (
  (fail_if_success (with_reducible show wpAny _ _ (exec (Stmt.For _ _ _ _ _) _) _ _ _));
  (fail_if_success (with_reducible show wpAny _ _ (pyIter _) _ _ _));
  (fail_if_success (with_reducible show wpAny _ _ (call (Value.type _) _ _) _ _ _));
  (fail_if_success (with_reducible show wpAny _ _ (call (Value.builtin _) _ _) _ _ _));
  (fail_if_success (with_reducible show wpAny _ _ (call (Value.ref _) _ _) _ _ _));
  (fail_if_success (with_reducible show wpAny _ _ (subscriptTail _ _ _ _) _ _ _));
  (fail_if_success (with_reducible show wpAny _ _ (truthy (Value.ref _)) _ _ _));
  (fail_if_success (with_reducible show wpAny _ _ (newList _) _ _ _));
  (fail_if_success (with_reducible show wpAny _ _ (eval (Expr.Lambda _ _ _ _) _) _ _ _));
  (fail_if_success (with_reducible show wpAny _ _ (eval (Expr.ListComp _ _ _ _) _) _ _ _));
  (fail_if_success (with_reducible show wpAny _ _ (exec (Stmt.Assign _ (Expr.ListComp _ _ _ _) _) _) _ _ _));
  (fail_if_success (with_reducible show wpAny _ _ (eval (Expr.GeneratorExp _ _ _ _) _) _ _ _));
  (fail_if_success (with_reducible show wpAny _ _ (compareOp _ (Value.ref _) (Value.ref _)) _ _ _));
  (fail_if_success (with_reducible show InvPostN _ _ _ _ _ _ _ _ _));
  first | (k_unfold; (try dsimp only)) | (k_end; wrow_close) | walk1 | (dsimp only; walk1) | (leave1; walk_say "STEP leave1"; try dsimp only))); (all_goals (try rename Fr _ _ _ _ => FF)); (all_goals (try rename News _ _ _ _ => NN))))
set_option maxRecDepth 100000 in
set_option maxHeartbeats 40000000 in
theorem law : PySem.Challenge.rw_au0025_01.Holds := by
  refine hd ?_
  k_fill
  intro w s₀ s₁ mg mb G Y fa o pm cd doc dV kV ho hd hcd hD hmg hg args vals as hpre hlay hrd hwl hlo
  have KX := km_in_of Y
  have hT8 := km_tabs_of Y
  have X := (Ground.X G).1
  have V := (Ground.X G).2
  refine Ground.open G ?_
  intro T B D TE TW
  try (refine guard_noD D (by decide +kernel) ?_; clear D)
  have hT9 : TabsAt ([(48, 44), (20, 16)] : List (Addr × Addr)) s₁.heap := List.forall_mem_cons.mpr ⟨⟨codeHd_of_K (c := 48) (P := 44) KX (by kernel_rfl), hT8 44 (by k_mem)⟩,
    List.forall_mem_cons.mpr ⟨tab_of (x := PySem.Str.ofString "canonicalize_strides") (c := 20) (P := 16) T KX rfl (by kernel_rfl), fun _ h => nomatch h⟩⟩
  clear hmg
  wrow_args hpre hlay hrd hwl hlo
  first | refine callC_kw (enter_call ?_) | refine enter_call ?_
  w_top on
  refine kn_postG hT9 ?_
  w_call any ho hd hcd hD T F
  clear hd
  kn_ghosts F T
  k_drop
  (try k_fold)
  rename_i o4 o3 o2 o1 d4 d3 d2 d1 X0 XX TT BB FF C44 NN l0
  have C16 : CodeHd _ 20 16 := codeHd
  have C44' : CodeHd _ 48 44 := C44
  rename List Int => scr
  rename IntsAre _ _ => hscr
  rename ¬ _ < _ => hlen63
  clear X0 hD codeHd C44
  have hlen : scr.length ≤ 63 := by omega
  have e1 : o1.data = .cell none := d1
  have e2 : o2.data = .cell none := d2
  have e3 : o3.data = .cell none := d3
  have e4 : o4.data = .cell none := d4
  clear d1 d2 d3 d4
  generalize hLL : s₁.heap.objs.size = LL at FF NN l0 ⊢
  -- the state
  kpt_turns
  refine start_ok BB FF XX NN TT rfl (by decide) lifted hscr hlen fun st l nst us ms ta tb h1 tk1 hms hmb hml F1 N1 hl1 hne hst1 => ?_
  clear FF NN
  have hl0 := hl1
  have hst0 := hst1
  k_lt hl1
  k_lt hst1
  kpt_turns
  rename _ = Data.cell (some (Value.ref st)) => es
  rename_i hS oS
  have ok : StOk ms 0 (7 + scr.length) := ⟨hmb, by omega, by decide, by decide, by omega, by omega⟩
  -- the shape
  refine compE FF (by with_unfolding_all rfl) (by decide) rfl (by decide) ?_
  kpt_turns
  refine take_ok BB FF XX NN TT rfl (by decide) (by decide) hne (offTwo (offBy hst0 rfl) (offBy hl0 rfl)) hms ok (by decide) (by decide) ?_
  intro v6 t6 a6 b6 ta6 tb6 n6 nl6 vs6 ns6 h6 tk6 v60 v61 ok6 hi6 F6 N6
  clear FF NN
  kpt_turns
  refine range1K FF NN fun r tr1 tr2 tr3 h7 tk7 F7 N7 l7 l7' => ?_
  k_lt l7
  clear FF NN
  kpt_turns
  refine compRange (n := v6.toNat) (fun i ys nx => ∃ a b ta tb n nl vs ns zs, nx = (st, listOf #[.ref l, .int a ta, .int b tb] n) :: (l, listOf vs.toArray nl) :: (LL + 1 + 1 + 1 + 1, o4) :: (LL + 1 + 1 + 1, o3) :: (LL + 1 + 1, o2) :: (LL + 1, oS) :: (44, tabObj #[]) :: (16, tabObj #[]) :: [] ∧
      StOk ns a b ∧ IntsAre vs ns ∧ IntsAre ys zs ∧ ys.length = i ∧ ∀ x ∈ zs, 1 ≤ x ∧ x ≤ 5) rfl rfl rfl (by omega) (NN _ (.head _)).1 (small0 (by decide) (by omega) (by omega) (by decide)) (by rw [rangeSize_nat]; omega) FF (fun p hp => NN p (.tail _ hp)) ⟨a6, b6, ta6, tb6, n6, nl6, vs6, ns6, [], rfl, ok6, hi6, .nil, rfl, fun x hx => nomatch hx⟩ ?_ ?_
  · rintro i tv ys m₂ news₁ h tk own C oC D E' hiv hm hoC hnC ha hoff ⟨a, b, ta, tb, n, nl, vs, ns, zs, rfl, ok, hi, hzs, hyl, hzb⟩ F₁ N₁
    refine wpAny_tests_nil ?_
    rw [if_pos rfl]
    clear FF NN
    have N₂ : News _ _ h ((st, listOf #[.ref l, .int a ta, .int b tb] n) :: (l, listOf vs.toArray nl) :: (LL + 1 + 1 + 1 + 1, o4) :: (LL + 1 + 1 + 1, o3) :: (LL + 1 + 1, o2) :: (LL + 1, oS) :: (44, tabObj #[]) :: (16, tabObj #[]) :: (C, oC) :: (D, lst ys) :: own) := N₁
    clear N₁
    kpt_turns
    have own1 : ∀ p ∈ (C, oC) :: (D, lst ys) :: own, p.1 ≠ st := fun p hp => hoff p hp st (.head _)
    have own2 : ∀ p ∈ (C, oC) :: (D, lst ys) :: own, p.1 ≠ l := fun p hp => hoff p hp l (.tail _ (.head _))
    refine take_ok BB FF XX NN TT rfl (by decide) (by decide) hne (offTwo (ofApp (offBy (own' := (LL + 1 + 1 + 1 + 1, o4) :: (LL + 1 + 1 + 1, o3) :: (LL + 1 + 1, o2) :: (LL + 1, oS) :: (44, tabObj #[]) :: (16, tabObj #[]) :: []) hst0 rfl) own1)
      (ofApp (offBy (own' := (LL + 1 + 1 + 1 + 1, o4) :: (LL + 1 + 1 + 1, o3) :: (LL + 1 + 1, o2) :: (LL + 1, oS) :: (44, tabObj #[]) :: (16, tabObj #[]) :: []) hl0 rfl) own2)) hi ok (by decide) (by decide) ?_
    intro v5 t5 a5 b5 ta5 tb5 n5 nl5 vs5 ns5 h5 tk5 v50 v51 ok5 hi5 F5 N5
    clear FF NN
    kpt_turns
    refine CEnd.intro ((st, listOf #[.ref l, .int a5 ta5, .int b5 tb5] n5) :: (l, listOf vs5.toArray nl5) :: (LL + 1 + 1 + 1 + 1, o4) :: (LL + 1 + 1 + 1, o3) :: (LL + 1 + 1, o2) :: (LL + 1, oS) :: (44, tabObj #[]) :: (16, tabObj #[]) :: []) FF NN
      (fun p hp => List.mem_append_left ((C, oC) :: (D, lst ys) :: own) hp) (fun p hp => List.mem_append_right ((st, listOf #[.ref l, .int a5 ta5, .int b5 tb5] n5) :: (l, listOf vs5.toArray nl5) :: (LL + 1 + 1 + 1 + 1, o4) :: (LL + 1 + 1 + 1, o3) :: (LL + 1 + 1, o2) :: (LL + 1, oS) :: (44, tabObj #[]) :: (16, tabObj #[]) :: []) hp) rfl
      ⟨a5, b5, ta5, tb5, n5, nl5, vs5, ns5, zs ++ [1 + v5], rfl, ok5, hi5, hzs.append (.cons _ _ .nil), by simp [hyl], fun x hx => ?_⟩
    rcases List.mem_append.mp hx with hx | hx
    · exact hzb x hx
    · rw [List.mem_singleton.mp hx]; omega
  rintro gH ysH newsH haH ⟨aH, bH, taH, tbH, nH, nlH, vsH, nsH, shp, rfl, okH, hiH, hshp, hylH, hsb⟩
  intro DH hH0 tkH0 FH0 NH0 lH00
  clear FF NN
  have hshl : shp.length ≤ 5 := by rw [← hshp.length, hylH]; omega
  kpt_turns
  refine tupleOfL FF NN (.head _) (by omega) fun tH hH FH NH lH => ?_
  have N2 : News _ _ hH ((tH, tupObj ysH 0) :: (st, listOf #[.ref l, .int aH taH, .int bH tbH] nH) :: (l, listOf vsH.toArray nlH) :: (LL + 1 + 1 + 1 + 1, o4) :: (LL + 1 + 1 + 1, o3) :: (LL + 1 + 1, o2) :: (LL + 1, oS) :: (44, tabObj #[]) :: (16, tabObj #[]) :: []) := fun p hp => NH p ((List.mem_cons.mp hp).elim (fun e => e ▸ .head _) fun hp => .tail _ (.tail _ hp))
  clear NN NH FF lH00
  have lH0 : ∀ p ∈ (st, listOf #[.ref l, .int aH taH, .int bH tbH] nH) :: (l, listOf vsH.toArray nlH) :: (LL + 1 + 1 + 1 + 1, o4) :: (LL + 1 + 1 + 1, o3) :: (LL + 1 + 1, o2) :: (LL + 1, oS) :: (44, tabObj #[]) :: (16, tabObj #[]) :: [], p.1 < tH := fun p hp => lH p (.tail _ hp)
  clear lH
  have lH := lH0
  k_lt lH
  kpt_turns
  rename _ = Data.cell (some (Value.ref tH)) => eH
  rename_i hH2 oH
  w_top off
  -- the strides
  have N3 : News _ _ hH2 ((16, tabObj #[]) :: (tH, tupObj ysH 0) :: (st, listOf #[.ref l, .int aH taH, .int bH tbH] nH) :: (l, listOf vsH.toArray nlH) :: (LL + 1 + 1 + 1 + 1, o4) :: (LL + 1 + 1 + 1, o3) :: (LL + 1 + 1, oH) :: (LL + 1, oS) :: (44, tabObj #[]) :: []) := fun p hp => NN p (by
    rcases List.mem_cons.mp hp with e | hp
    · exact e ▸ List.mem_append_right ((tH, tupObj ysH 0) :: (st, listOf #[.ref l, .int aH taH, .int bH tbH] nH) :: (l, listOf vsH.toArray nlH) :: (LL + 1 + 1 + 1 + 1, o4) :: (LL + 1 + 1 + 1, o3) :: (LL + 1 + 1, oH) :: (LL + 1, oS) :: (44, tabObj #[]) :: []) (.head _)
    · exact List.mem_append_left ((16, tabObj #[]) :: []) hp)
  clear NN
  have off16 : ∀ p ∈ (tH, tupObj ysH 0) :: (st, listOf #[.ref l, .int aH taH, .int bH tbH] nH) :: (l, listOf vsH.toArray nlH) :: (LL + 1 + 1 + 1 + 1, o4) :: (LL + 1 + 1 + 1, o3) :: (LL + 1 + 1, oH) :: (LL + 1, oS) :: (44, tabObj #[]) :: [], p.1 ≠ 16 := by
    iterate 8 (refine List.forall_mem_cons.mpr ⟨by k_ne, ?_⟩)
    exact fun _ h => nomatch h
  refine strides_all BB FF XX N3 TT C16 rfl (by decide) off16 trivial (.of_eq hg) (.head _) hshp hsb hshl fun tS psS vsS hS1 tkS gS htrS GS hvS FS NS lS lS16 => ?_
  clear FF N3
  have lS0 := lS
  k_lt lS
  have hSl : (canon shp (rawS shp)).length = shp.length := by simp [canon, rawS, sufs_len]
  have hvSl := hvS.length
  have hyH := hshp.length
  kpt_turns
  refine size_ok BB FF XX NN TT rfl (by decide) (.tail _ (.tail _ (.head _))) hshp hsb hshl fun uM hM1 tkM FM NM => ?_
  clear FF NN
  kpt_turns
  refine prod_ok BB FF XX NN TT rfl (by decide) (.tail _ (.tail _ (.head _))) hshp hsb hshl fun uM2 hM2 tkM2 FM2 NM2 => ?_
  clear FF NN
  kpt_turns
  · rename shp.prod ≠ _ => hn0
    exact absurd rfl hn0
  refine PyProof.Rows.len_tuple (items := vsS.toArray) ⟨_, (NN (tS, tupObj vsS 0) (.head _)).1, rfl, 0, rfl⟩ (by simp; omega) ?_
  rw [show (vsS.toArray.size : Int) = (shp.length : Int) by simp; omega]
  kpt_turns
  refine PyProof.Rows.len_tuple (items := ysH.toArray) ⟨_, (NN (tH, tupObj ysH 0) (.tail _ (.tail _ (.head _)))).1, rfl, 0, rfl⟩ (by simp; omega) ?_
  rw [show (ysH.toArray.size : Int) = (shp.length : Int) by simp; omega]
  kpt_turns
  · rename _ ≠ _ => hn1
    exact absurd rfl hn1
  w_top off
  -- the check of the strides
  refine For_turns FF ?_
  kpt_turns
  refine iterZip (κ₁ := .tup) (κ₂ := .tup) (vs := ysH) (us := vsS) [(tH, tupObj ysH 0), (tS, tupObj vsS 0)] (fun i m' nx => nx = [(tS, tupObj vsS 0), (16, tabObj psS), (tH, tupObj ysH 0), (st, listOf #[.ref l, .int aH taH, .int bH tbH] nH), (l, listOf vsH.toArray nlH), (LL + 1 + 1 + 1 + 1, o4), (LL + 1 + 1 + 1, o3), (LL + 1 + 1, oH), (LL + 1, oS), (44, tabObj #[])] ∧ (∃ u, m' (Str.ofString "rest") = some (.int ((shp.drop i).prod) u)) ∧ (∃ u, m' (Str.ofString "many") = some (.int shp.prod u)) ∧ m' (Str.ofString "strides") = some (.ref tS)) rfl rfl rfl rfl
    (.inr ⟨_, 0, .head _, rfl, rfl⟩) (.inr ⟨_, 0, .tail _ (.head _), rfl, rfl⟩) (by omega) (fun p hp => by
      rcases List.mem_cons.mp hp with e | hp
      · exact e ▸ .tail _ (.tail _ (.head _))
      · rw [List.mem_singleton.mp hp]; exact .head _) FF NN ⟨rfl, ⟨uM, rfl⟩, ⟨uM, rfl⟩, rfl⟩ ?_ ?_
  · rintro i va vb m₁ news₁ h tk own' hva hvb ha hkp hoff ⟨rfl, ⟨ur, hr⟩, ⟨um, hmn⟩, hstr⟩ F₁ N₁
    have hil : i < shp.length := by rw [← hshp.length]; exact (List.getElem?_eq_some_iff.mp hva).1
    obtain ⟨x, hx⟩ : ∃ x, shp[i]? = some x := ⟨_, List.getElem?_eq_getElem hil⟩
    obtain ⟨tx, hx'⟩ := hshp.get i x hx
    rw [hx'] at hva; cases hva
    have hy := stride_at hx
    obtain ⟨ty, hy'⟩ := hvS.get i _ hy
    rw [hy'] at hvb; cases hvb
    have hb := hsb x (List.mem_of_getElem? hx)
    have hq := rest_at hx hb.1
    have hd1 := drop_bound hsb hshl i
    have hd2 := drop_bound hsb hshl (i + 1)
    have F₂ := frPut (frPut (frPut F₁ ((if_neg (by decide)).trans ((if_neg (by decide)).trans hr))) (x := Str.ofString "many") ((if_neg (by decide)).trans ((if_neg (by decide)).trans ((if_neg (by decide)).trans hmn)))) (x := Str.ofString "strides") ((if_neg (by decide)).trans ((if_neg (by decide)).trans ((if_neg (by decide)).trans ((if_neg (by decide)).trans hstr))))
    clear F₁ FF NN
    generalize hyy : (if x = 1 then (0 : Int) else (shp.drop (i + 1)).prod) = y at *
    kpt_turns
    all_goals first
      | (exfalso; split at hyy <;> omega)
      | exact InvEndN.intro (nx := [(tS, tupObj vsS 0), (16, tabObj psS), (tH, tupObj ysH 0), (st, listOf #[.ref l, .int aH taH, .int bH tbH] nH), (l, listOf vsH.toArray nlH), (LL + 1 + 1 + 1 + 1, o4), (LL + 1 + 1 + 1, o3), (LL + 1 + 1, oH), (LL + 1, oS), (44, tabObj #[])]) FF NN ⟨fun p hp => by
          rcases List.mem_cons.mp hp with e | hp
          · exact e ▸ .tail _ (.tail _ (.head _))
          · rw [List.mem_singleton.mp hp]; exact .head _, rfl, ⟨_, congrArg (fun z => some (Value.int z _)) hq⟩, ⟨_, rfl⟩, rfl⟩ rfl memL memR
  · rintro m₁ news₁ hR1 tkR hkpR ⟨rfl, hrR, ⟨um, hmn⟩, hstr⟩ F₁ N₁
    have F₂ := frPut (frPut F₁ hmn) (x := Str.ofString "strides") ((if_neg (by decide)).trans hstr)
    clear F₁ FF NN hkpR
    kpt_turns
    w_top off
    -- the number
    have NR : News _ _ hR1 ((st, listOf #[.ref l, .int aH taH, .int bH tbH] nH) :: (l, listOf vsH.toArray nlH) :: [(tS, tupObj vsS 0), (16, tabObj psS), (tH, tupObj ysH 0), (LL + 1 + 1 + 1 + 1, o4), (LL + 1 + 1 + 1, o3), (LL + 1 + 1, oH), (LL + 1, oS), (44, tabObj #[])]) := fun p hp => NN p (by
      rcases List.mem_cons.mp hp with e | hp
      · exact e ▸ .tail _ (.tail _ (.tail _ (.head _)))
      · rcases List.mem_cons.mp hp with e | hp
        · exact e ▸ .tail _ (.tail _ (.tail _ (.tail _ (.head _))))
        · rcases List.mem_append.mp (show p ∈ [(tS, tupObj vsS 0), (16, tabObj psS), (tH, tupObj ysH 0)] ++ [(LL + 1 + 1 + 1 + 1, o4), (LL + 1 + 1 + 1, o3), (LL + 1 + 1, oH), (LL + 1, oS), (44, tabObj #[])] from hp) with hp | hp
          · exact List.mem_append_left [(st, listOf #[.ref l, .int aH taH, .int bH tbH] nH), (l, listOf vsH.toArray nlH), (LL + 1 + 1 + 1 + 1, o4), (LL + 1 + 1 + 1, o3), (LL + 1 + 1, oH), (LL + 1, oS), (44, tabObj #[])] hp
          · exact List.mem_append_right [(tS, tupObj vsS 0), (16, tabObj psS), (tH, tupObj ysH 0), (st, listOf #[.ref l, .int aH taH, .int bH tbH] nH), (l, listOf vsH.toArray nlH)] hp)
    have ost := off8 (LL := LL) (c := st) hst1.1 hst1.2.2.2.2.2 hst1.2.2.2.2.1 lH.1 lS.2.1
    have ol := off8 (LL := LL) (c := l) hl1.1 hl1.2.2.2.2.2 hl1.2.2.2.2.1 lH.2.1 lS.2.2.1
    have hmany := drop_bound hsb hshl 0
    rw [List.drop_zero] at hmany
    clear NN
    kpt_turns
    refine take_ok BB FF XX NN TT rfl (by decide) (by decide) hne (offTwo (offAdr ost rfl) (offAdr ol rfl)) hiH okH hmany.1 (by omega) ?_
    intro v1 t1 a1 b1 ta1 tb1 n1 nl1 vs1 ns1 h1' tk1' v10 v11 ok1 hi1 F1 N1
    clear FF NN
    kpt_turns
    refine take_ok BB FF XX NN TT rfl (by decide) (by decide) hne (offTwo (offAdr ost rfl) (offAdr ol rfl)) hi1 ok1 (by decide) (by decide) ?_
    intro v2 t2 a2 b2 ta2 tb2 n2 nl2 vs2 ns2 h2' tk2' v20 v21 ok2 hi2 F2 N2
    clear FF NN
    kpt_turns
    refine take_ok BB FF XX NN TT rfl (by decide) (by decide) hne (offTwo (offAdr ost rfl) (offAdr ol rfl)) hi2 ok2 (by decide) (by decide) ?_
    intro v3 t3 a3 b3 ta3 tb3 n3 nl3 vs3 ns3 h3' tk3' v30 v31 ok3 hi3 F3 N3
    clear FF NN
    kpt_turns
    refine newList_K FF NN (fun D4 h4 F4 N4 l4 => ?_)
    clear FF NN
    kpt_turns
    have l4st : @LT.lt Nat _ st D4 := l4 _ (.head _)
    have l4l : @LT.lt Nat _ l D4 := l4 _ (.tail _ (.head _))
    have N5 : News _ _ _ ((st, listOf #[.ref l, .int a3 ta3, .int b3 tb3] n3) :: (l, listOf vs3.toArray nl3) :: (D4, listOf #[Value.int v1 t1, Value.int v2 t2, Value.int (-v3) _] 0) :: [(tS, tupObj vsS 0), (16, tabObj psS), (tH, tupObj ysH 0), (LL + 1 + 1 + 1 + 1, o4), (LL + 1 + 1 + 1, o3), (LL + 1 + 1, oH), (LL + 1, oS), (44, tabObj #[])]) := fun p hp => NN p (by
      rcases List.mem_cons.mp hp with e | hp
      · exact e ▸ .tail _ (.head _)
      · rcases List.mem_cons.mp hp with e | hp
        · exact e ▸ .tail _ (.tail _ (.head _))
        · rcases List.mem_cons.mp hp with e | hp
          · exact e ▸ .head _
          · exact .tail _ (.tail _ (.tail _ hp)))
    refine take_ok BB FF XX N5 TT rfl (by decide) (by decide) hne (offTwo (ofCons (Nat.ne_of_gt l4st) (offAdr ost rfl)) (ofCons (Nat.ne_of_gt l4l) (offAdr ol rfl))) hi3 ok3 (by decide) (by decide) ?_
    intro v4 t4 a4 b4 ta4 tb4 n4 nl4 vs4 ns4 h5' tk5' v40 v41 ok4 hi4 F5 N6
    clear FF NN N5
    kpt_turns
    obtain ⟨num, tnum, hnum, hnb⟩ := pick3 (t := t1) (u := t2) (w := _) v40 v41 (show -100000 ≤ v1 ∧ v1 ≤ 100000 by omega) (show -100000 ≤ v2 ∧ v2 ≤ 100000 by omega) (show -100000 ≤ -v3 ∧ -v3 ≤ 100000 by omega)
    have hD4 : PySem.Heap.IsList _ D4 _ := ⟨_, (NN (D4, listOf #[Value.int v1 t1, Value.int v2 t2, Value.int (-v3) _] 0) (.tail _ (.tail _ (.head _)))).1, rfl, 0, rfl⟩
    refine tail_any hD4.typeIs PySem.F.slot_list_getitem.lookup (wpAny_getItem_list hD4 v40 (by omega) (by simpa using hnum) ?_) (by with_unfolding_all rfl)
    kpt_turns
    have N7 : News _ _ _ ((16, tabObj psS) :: (tH, tupObj ysH 0) :: (st, listOf #[.ref l, .int a4 ta4, .int b4 tb4] n4) :: (l, listOf vs4.toArray nl4) :: (tS, tupObj vsS 0) :: (LL + 1 + 1 + 1 + 1, o4) :: (LL + 1 + 1 + 1, o3) :: (LL + 1 + 1, oH) :: (LL + 1, oS) :: (44, tabObj #[]) :: []) := fun p hp => NN p (by
      rcases List.mem_cons.mp hp with e | hp
      · exact e ▸ .tail _ (.tail _ (.tail _ (.tail _ (.head _))))
      · rcases List.mem_cons.mp hp with e | hp
        · exact e ▸ .tail _ (.tail _ (.tail _ (.tail _ (.tail _ (.head _)))))
        · rcases List.mem_cons.mp hp with e | hp
          · exact e ▸ .head _
          · rcases List.mem_cons.mp hp with e | hp
            · exact e ▸ .tail _ (.head _)
            · rcases List.mem_cons.mp hp with e | hp
              · exact e ▸ .tail _ (.tail _ (.tail _ (.head _)))
              · exact .tail _ (.tail _ (.tail _ (.tail _ (.tail _ (.tail _ hp))))))
    clear NN
    refine un1d_ok BB FF XX N7 TT C16 rfl (by decide) (offAdr (off16s l0.2 hst1.1 hl1.1 lH.1 lS.2.1) rfl) htrS GS (.head _) hshp hsb hshl (canon_bound hsb hshl) (by omega) hnb fun tD kD psD dgs hD1 tkD gD htrD GD hdv FD ND lD lD16 => ?_
    clear FF N7
    have lD0 := lD
    k_lt lD
    kpt_turns
    rename _ = Data.cell (some (Value.ref tD)) => eD
    rename_i hD2 oD
    w_top off
    -- the lengths
    rw [canon_strS] at hdv hvS
    have hge : ∀ x ∈ shp, 1 ≤ x := fun x hx => (hsb x hx).1
    have hdl : dgs.length = shp.length := by rw [hdv.length, digitsOf_len, strS_len]
    have hsl : vsS.length = shp.length := by rw [hvS.length, strS_len]
    have hyl : ysH.length = shp.length := hshp.length
    have hss : ∀ x ∈ strS shp, 0 ≤ x ∧ x ≤ 3125 := by rw [← canon_strS]; exact canon_bound hsb hshl
    refine PyProof.Rows.len_list (items := dgs.toArray) ⟨_, (NN (tD, listOf dgs.toArray kD) (.head _)).1, rfl, kD, rfl⟩ (by simp; omega) ?_
    rw [show (dgs.toArray.size : Int) = (shp.length : Int) by simp; omega]
    kpc_turns
    refine PyProof.Rows.len_tuple (items := ysH.toArray) ⟨_, (NN (tH, tupObj ysH 0) (.tail _ (.tail _ (.head _)))).1, rfl, 0, rfl⟩ (by simp; omega) ?_
    rw [show (ysH.toArray.size : Int) = (shp.length : Int) by simp; omega]
    kpc_turns
    · rename _ ≠ _ => hn2
      exact absurd rfl hn2
    -- told
    refine compE FF (by with_unfolding_all rfl) (by decide) rfl (by decide) ?_
    kpc_turns
    refine compZip (κ₁ := .lst) (κ₂ := .tup) (vs := dgs) (us := vsS) [(tD, listOf dgs.toArray kD), (tS, tupObj vsS 0)] (fun i ys nx => nx = (tD, listOf dgs.toArray kD) :: (16, tabObj psD) :: (tH, tupObj ysH 0) :: (st, listOf #[.ref l, .int a4 ta4, .int b4 tb4] n4) :: (l, listOf vs4.toArray nl4) :: (tS, tupObj vsS 0) :: (LL + 1 + 1 + 1 + 1, o4) :: (LL + 1 + 1 + 1, oD) :: (LL + 1 + 1, oH) :: (LL + 1, oS) :: (44, tabObj #[]) :: [] ∧ ∃ zs, IntsAre ys zs ∧ zs = (List.zipWith (· * ·) (digitsOf (strS shp) num) (strS shp)).take i) rfl rfl rfl rfl (by decide) (by omega)
      (.inr ⟨_, kD, .head _, rfl, rfl⟩) (.inr ⟨_, 0, .tail _ (.head _), rfl, rfl⟩) (by omega) (fun p hp => by
        rcases List.mem_cons.mp hp with e | hp
        · exact e ▸ .head _
        · rw [List.mem_singleton.mp hp]; exact .tail _ (.tail _ (.tail _ (.tail _ (.tail _ (.head _)))))) FF NN ⟨rfl, [], .nil, by simp⟩ ?_ ?_
    · rintro i va vb ys m₂ news₁ h tk own C oC D E' hva hvb hma hmb hoC hnC ha hkp hoff ⟨rfl, zs, hzs, hzt⟩ F₁ N₁
      have hil : i < shp.length := by have := (List.getElem?_eq_some_iff.mp hva).1; omega
      obtain ⟨d, hd⟩ : ∃ d, (digitsOf (strS shp) num)[i]? = some d := ⟨_, List.getElem?_eq_getElem (by rw [digitsOf_len, strS_len]; exact hil)⟩
      obtain ⟨y, hy⟩ : ∃ y, (strS shp)[i]? = some y := ⟨_, List.getElem?_eq_getElem (by rw [strS_len]; exact hil)⟩
      obtain ⟨td, hd'⟩ := hdv.get i d hd
      obtain ⟨ty, hy'⟩ := hvS.get i y hy
      rw [hd'] at hva; cases hva
      rw [hy'] at hvb; cases hvb
      have hb1 := dig_bd (fun t ht => (hss t ht).1) hnb (fun t ht => (hss t ht).2) d (List.mem_of_getElem? hd)
      have hb2 := hss y (List.mem_of_getElem? hy)
      refine wpAny_tests_nil ?_
      rw [if_pos rfl]
      have N₂ : News _ _ h ((tD, listOf dgs.toArray kD) :: (16, tabObj psD) :: (tH, tupObj ysH 0) :: (st, listOf #[.ref l, .int a4 ta4, .int b4 tb4] n4) :: (l, listOf vs4.toArray nl4) :: (tS, tupObj vsS 0) :: (LL + 1 + 1 + 1 + 1, o4) :: (LL + 1 + 1 + 1, oD) :: (LL + 1 + 1, oH) :: (LL + 1, oS) :: (44, tabObj #[]) :: (C, oC) :: (D, lst ys) :: own) := N₁
      clear FF NN N₁
      kpc_turns
      exact CEnd.intro ((tD, listOf dgs.toArray kD) :: (16, tabObj psD) :: (tH, tupObj ysH 0) :: (st, listOf #[.ref l, .int a4 ta4, .int b4 tb4] n4) :: (l, listOf vs4.toArray nl4) :: (tS, tupObj vsS 0) :: (LL + 1 + 1 + 1 + 1, o4) :: (LL + 1 + 1 + 1, oD) :: (LL + 1 + 1, oH) :: (LL + 1, oS) :: (44, tabObj #[]) :: []) FF NN (fun p hp => List.mem_append_left ((C, oC) :: (D, lst ys) :: own) hp) (fun p hp => List.mem_append_right ((tD, listOf dgs.toArray kD) :: (16, tabObj psD) :: (tH, tupObj ysH 0) :: (st, listOf #[.ref l, .int a4 ta4, .int b4 tb4] n4) :: (l, listOf vs4.toArray nl4) :: (tS, tupObj vsS 0) :: (LL + 1 + 1 + 1 + 1, o4) :: (LL + 1 + 1 + 1, oD) :: (LL + 1 + 1, oH) :: (LL + 1, oS) :: (44, tabObj #[]) :: []) hp) rfl
        ⟨hkp, rfl, zs ++ [d * y], hzs.append (.cons _ _ .nil), by rw [zip_take hd hy, hzt]⟩
    rintro gT ysT newsT haT hkpT ⟨rfl, zsT, hzsT, hztT⟩
    intro DT hT0 tkT FT NT lT
    have hztT' : zsT.sum = dot (digitsOf (strS shp) num) (strS shp) := by
      rw [hztT, List.take_of_length_le (by simp [digitsOf_len, strS_len]; omega), dot_sum]
    clear FF NN hkpT
    kpc_turns
    refine LSm.sum_ints FF NN rfl ⟨_, (NN (DT, lst ysT) (.head _)).1, rfl, _, rfl⟩ hzsT fun hT1 tkT1 tT FT1 NT1 => ?_
    rw [hztT']
    clear FF NN
    kfm_turns
    rename_i hB
    walk1
    kfm_turns
    refine wpAny_mono (Q := fun v s' => Cut (∃ tk, v = .bool (decide (1 < shp.prod ∨ num = 0)) ∧ s' = { heap := hB, gens := gD, drawn := s₁.drawn, toks := tk, os := s₁.os })) ?_ (fun v s' hv => ?_) (fun _ _ e => e)
    · kpc_turns
      · rename 1 < _ => hq1
        exact ⟨_, by rw [decide_eq_true hq1, decide_eq_true (Or.inl hq1)], rfl⟩
      · rename ¬ 1 < _ => hq1
        exact ⟨_, congrArg Value.bool (by rw [Bool.eq_iff_iff]; simp [hq1]), rfl⟩
    obtain ⟨tkB, rfl, rfl⟩ := hv.out
    have htold : (dot (digitsOf (strS shp) num) (strS shp) == num) = decide (1 < shp.prod ∨ num = 0) := by
      rw [Bool.eq_iff_iff]
      simp [told_law hge num]
    kpc_turns
    · rename _ = true => hx
      rw [htold] at hx
      simp at hx
    w_top off
    -- wide
    have NE : News _ _ hB ((tD, listOf dgs.toArray kD) :: (16, tabObj psD) :: (tH, tupObj ysH 0) :: (st, listOf #[.ref l, .int a4 ta4, .int b4 tb4] n4) :: (l, listOf vs4.toArray nl4) :: (tS, tupObj vsS 0) :: (LL + 1 + 1 + 1 + 1, o4) :: (LL + 1 + 1 + 1, oD) :: (LL + 1 + 1, oH) :: (LL + 1, oS) :: (44, tabObj #[]) :: []) := fun p hp => NN p (.tail _ hp)
    clear NN lT
    refine compA FF rfl (by with_unfolding_all rfl) (by with_unfolding_all rfl) (by decide) rfl (by decide) rfl rfl ?_
    kpc_turns
    refine PyProof.Rows.len_tuple (items := ysH.toArray) ⟨_, (NN (tH, tupObj ysH 0) (.tail _ (.tail _ (.head _)))).1, rfl, 0, rfl⟩ (by simp; omega) ?_
    rw [show (ysH.toArray.size : Int) = (shp.length : Int) by simp; omega]
    kpc_turns
    refine range1K FF NN fun rW rw1 rw2 rw3 hW1 tkW1 FW NW lW lW' => ?_
    clear FF NN
    kpc_turns
    refine compRange (n := shp.length) (fun i ys nx => nx = (tD, listOf dgs.toArray kD) :: (16, tabObj psD) :: (tH, tupObj ysH 0) :: (st, listOf #[.ref l, .int a4 ta4, .int b4 tb4] n4) :: (l, listOf vs4.toArray nl4) :: (tS, tupObj vsS 0) :: (LL + 1 + 1 + 1 + 1, o4) :: (LL + 1 + 1 + 1, oD) :: (LL + 1 + 1, oH) :: (LL + 1, oS) :: (44, tabObj #[]) :: [] ∧ IntsAre ys ((wideP (fun z => decide (1 < z)) shp i).map Int.ofNat)) rfl rfl rfl (by omega) (NN _ (.head _)).1 (small0 (by decide) (by omega) (by omega) (by decide)) (by rw [rangeSize_nat]; omega) FF (fun p hp => NN p (.tail _ hp)) ⟨rfl, .nil⟩ ?_ ?_
    · rintro i tv ys m₂ news₁ h tk own C oC D E' hil hm hoC hnC ha hoff ⟨rfl, hzs⟩ F₁ N₁
      obtain ⟨x, hx⟩ : ∃ x, shp[i]? = some x := ⟨_, List.getElem?_eq_getElem hil⟩
      obtain ⟨tx, hx'⟩ := hshp.get i x hx
      have hgx : shp.getD i 0 = x := by show ((shp[i]?).getD 0) = x; rw [hx]; rfl
      have N₂ : News _ _ h ((tD, listOf dgs.toArray kD) :: (16, tabObj psD) :: (tH, tupObj ysH 0) :: (st, listOf #[.ref l, .int a4 ta4, .int b4 tb4] n4) :: (l, listOf vs4.toArray nl4) :: (tS, tupObj vsS 0) :: (LL + 1 + 1 + 1 + 1, o4) :: (LL + 1 + 1 + 1, oD) :: (LL + 1 + 1, oH) :: (LL + 1, oS) :: (44, tabObj #[]) :: (C, oC) :: (D, lst ys) :: own) := N₁
      clear FF NN N₁
      refine wpAny_tests_one ?_
      kpc_turns
      refine kim_tup (j := i) NN (.tail _ (.tail _ (.head _))) rfl rfl (by omega) (by omega) (seqI (by omega)) hx' ?_
      kpc_turns
      · rename 1 < x => hx1
        exact CEnd.same ((tD, listOf dgs.toArray kD) :: (16, tabObj psD) :: (tH, tupObj ysH 0) :: (st, listOf #[.ref l, .int a4 ta4, .int b4 tb4] n4) :: (l, listOf vs4.toArray nl4) :: (tS, tupObj vsS 0) :: (LL + 1 + 1 + 1 + 1, o4) :: (LL + 1 + 1 + 1, oD) :: (LL + 1 + 1, oH) :: (LL + 1, oS) :: (44, tabObj #[]) :: []) FF NN rfl ⟨rfl, by
          rw [wideP_succ, if_pos (by rw [hgx]; exact decide_eq_true hx1), List.map_append]
          have e0 : (0 + (i : Int)) = Int.ofNat i := by simp
          rw [e0]
          exact hzs.append (.cons _ _ .nil)⟩
      · rename ¬ 1 < x => hx1
        exact CEnd.same ((tD, listOf dgs.toArray kD) :: (16, tabObj psD) :: (tH, tupObj ysH 0) :: (st, listOf #[.ref l, .int a4 ta4, .int b4 tb4] n4) :: (l, listOf vs4.toArray nl4) :: (tS, tupObj vsS 0) :: (LL + 1 + 1 + 1 + 1, o4) :: (LL + 1 + 1 + 1, oD) :: (LL + 1 + 1, oH) :: (LL + 1, oS) :: (44, tabObj #[]) :: []) FF NN rfl ⟨rfl, by
          rw [wideP_succ, if_neg (by rw [hgx]; simpa using hx1), List.append_nil]
          exact hzs⟩
    rintro gW ysW newsW haW ⟨rfl, hzW⟩
    intro tW hW2 tkW FWW NWW lWW
    clear FF NN
    kpc_turns
    refine compE FF (by with_unfolding_all rfl) (by decide) rfl (by decide) ?_
    kpc_turns
    have hWl : ysW.length ≤ 5 := by rw [hzW.length, List.length_map]; exact Nat.le_trans (wideP_len ..) hshl
    refine kmk_slice_ints FF NN ⟨_, (NN (tW, lst ysW) (.head _)).1, rfl, _, rfl⟩ (.int 1 _) .none hzW (kmk_from hzW (by decide)) rfl (fun tV wsV hV1 FV NV lV hV _ _ => ?_) (by with_unfolding_all rfl) (by intro _; with_unfolding_all rfl) (by simp; exact Nat.le_trans hWl (by decide))
    have NV2 : News _ _ hV1 ((tV, listOf wsV.toArray 0) :: (tD, listOf dgs.toArray kD) :: (16, tabObj psD) :: (tH, tupObj ysH 0) :: (st, listOf #[.ref l, .int a4 ta4, .int b4 tb4] n4) :: (l, listOf vs4.toArray nl4) :: (tS, tupObj vsS 0) :: (LL + 1 + 1 + 1 + 1, o4) :: (LL + 1 + 1 + 1, oD) :: (LL + 1 + 1, oH) :: (LL + 1, oS) :: (44, tabObj #[]) :: []) := fun p hp => NV p ((List.mem_cons.mp hp).elim (fun e => e ▸ .head _) fun hp => .tail _ (.tail _ hp))
    have hVl : wsV.length ≤ 5 := by
      rw [hV.length, List.length_drop, List.length_map]
      have := wideP_len (fun z => decide (1 < z)) shp shp.length
      omega
    clear FF NN NV
    kpc_turns
    refine compSeq (κ := .lst) (vs := wsV) [(tV, listOf wsV.toArray 0)] (fun i ys nx => nx = (tV, listOf wsV.toArray 0) :: (tD, listOf dgs.toArray kD) :: (16, tabObj psD) :: (tH, tupObj ysH 0) :: (st, listOf #[.ref l, .int a4 ta4, .int b4 tb4] n4) :: (l, listOf vs4.toArray nl4) :: (tS, tupObj vsS 0) :: (LL + 1 + 1 + 1 + 1, o4) :: (LL + 1 + 1 + 1, oD) :: (LL + 1 + 1, oH) :: (LL + 1, oS) :: (44, tabObj #[]) :: [] ∧ ∃ bs, LSm.BoolsAre ys bs ∧ ∀ b ∈ bs, b = false) rfl rfl rfl (by omega)
      (.inr ⟨_, 0, .head _, rfl, rfl⟩) (fun p hp => by rw [List.mem_singleton.mp hp]; exact .head _) FF NN ⟨rfl, [], .nil, fun b hb => nomatch hb⟩ ?_ ?_
    · rintro i v ys m₂ news₁ h tk own C oC D E' hv hm hoC hnC ha hkp hoff ⟨rfl, bs, hbs, hbf⟩ F₁ N₁
      have hil : i < (((wideP (fun z => decide (1 < z)) shp shp.length).map Int.ofNat).drop (Int.toNat 1)).length := by rw [← hV.length]; exact (List.getElem?_eq_some_iff.mp hv).1
      obtain ⟨kz, hkz⟩ : ∃ kz, (((wideP (fun z => decide (1 < z)) shp shp.length).map Int.ofNat).drop (Int.toNat 1))[i]? = some kz := ⟨_, List.getElem?_eq_getElem hil⟩
      obtain ⟨tkz, hkz'⟩ := hV.get i kz hkz
      rw [hkz'] at hv; cases hv
      obtain ⟨k, hk, rfl⟩ : ∃ k, (wideP (fun z => decide (1 < z)) shp shp.length)[i + 1]? = some k ∧ kz = Int.ofNat k := by
        rw [List.getElem?_drop, List.getElem?_map, show Int.toNat 1 + i = i + 1 from Nat.add_comm 1 i] at hkz
        cases hq : (wideP (fun z => decide (1 < z)) shp shp.length)[i + 1]? with
        | none => rw [hq] at hkz; cases hkz
        | some k => rw [hq] at hkz; exact ⟨k, rfl, (Option.some.inj hkz).symm⟩
      obtain ⟨j, hjk, hkn, hj1, hk1⟩ := wide_later hk
      obtain ⟨x, hx⟩ : ∃ x, shp[k]? = some x := ⟨_, List.getElem?_eq_getElem hkn⟩
      obtain ⟨xj, hxj⟩ : ∃ x, shp[j]? = some x := ⟨_, List.getElem?_eq_getElem (by omega)⟩
      have hgj : shp.getD j 0 = xj := by show ((shp[j]?).getD 0) = xj; rw [hxj]; rfl
      rw [hgj] at hj1
      obtain ⟨d, hd⟩ : ∃ d, (digitsOf (strS shp) num)[k]? = some d := ⟨_, List.getElem?_eq_getElem (by rw [digitsOf_len, strS_len]; exact hkn)⟩
      have hdx := dig_wide hge num hjk hxj (of_decide_eq_true hj1) hx hd
      obtain ⟨tx, hx'⟩ := hshp.get k x hx
      obtain ⟨td, hd'⟩ := hdv.get k d hd
      refine wpAny_tests_nil ?_
      rw [if_pos rfl]
      have N₂ : News _ _ h ((tV, listOf wsV.toArray 0) :: (tD, listOf dgs.toArray kD) :: (16, tabObj psD) :: (tH, tupObj ysH 0) :: (st, listOf #[.ref l, .int a4 ta4, .int b4 tb4] n4) :: (l, listOf vs4.toArray nl4) :: (tS, tupObj vsS 0) :: (LL + 1 + 1 + 1 + 1, o4) :: (LL + 1 + 1 + 1, oD) :: (LL + 1 + 1, oH) :: (LL + 1, oS) :: (44, tabObj #[]) :: (C, oC) :: (D, lst ys) :: own) := N₁
      clear FF NN N₁
      kpc_turns
      refine kim_list NN (.tail _ (.head _)) rfl rfl (Int.natCast_nonneg k) (by show (k : Int) < 2 ^ 63; omega) (x := .int d td) (by simpa using hd') ?_
      kpc_turns
      refine kim_tup (j := k) NN (.tail _ (.tail _ (.tail _ (.head _)))) rfl rfl (by show -(2 ^ 63) ≤ (k : Int); omega) (by show (k : Int) < 2 ^ 63; omega) (seqN (by omega)) hx' ?_
      kpc_turns
      refine CEnd.same ((tV, listOf wsV.toArray 0) :: (tD, listOf dgs.toArray kD) :: (16, tabObj psD) :: (tH, tupObj ysH 0) :: (st, listOf #[.ref l, .int a4 ta4, .int b4 tb4] n4) :: (l, listOf vs4.toArray nl4) :: (tS, tupObj vsS 0) :: (LL + 1 + 1 + 1 + 1, o4) :: (LL + 1 + 1 + 1, oD) :: (LL + 1 + 1, oH) :: (LL + 1, oS) :: (44, tabObj #[]) :: []) FF NN rfl ⟨hkp, rfl, bs ++ [_], bools_snoc hbs, fun b hb => ?_⟩
      rcases List.mem_append.mp hb with hb | hb
      · exact hbf b hb
      · rw [List.mem_singleton.mp hb]
        simp [hdx.1, hdx.2]
    rintro gV ysV newsV haV hkpV ⟨rfl, bsV, hbsV, hbfV⟩
    intro tB hB1 tkB1 FB NB lB
    clear FF NN hkpV
    kpc_turns
    refine LSm.any_bools FF NN rfl ⟨_, (NN (tB, lst ysV) (.head _)).1, rfl, _, rfl⟩ hbsV fun hB2 tkB2 FB2 NB2 => ?_
    rw [bools_none hbfV]
    have NB3 : News _ _ hB2 ((tD, listOf dgs.toArray kD) :: (16, tabObj psD) :: (tH, tupObj ysH 0) :: (st, listOf #[.ref l, .int a4 ta4, .int b4 tb4] n4) :: (l, listOf vs4.toArray nl4) :: (tS, tupObj vsS 0) :: (LL + 1 + 1 + 1 + 1, o4) :: (LL + 1 + 1 + 1, oD) :: (LL + 1 + 1, oH) :: (LL + 1, oS) :: (44, tabObj #[]) :: []) := fun p hp => NB2 p (.tail _ (.tail _ hp))
    clear FF NN NB2
    kpc_turns
    w_top off
    -- the digits of the ones
    refine compE FF (by with_unfolding_all rfl) (by decide) rfl (by decide) ?_
    kpc_turns
    refine PyProof.Rows.len_tuple (items := ysH.toArray) ⟨_, (NN (tH, tupObj ysH 0) (.tail _ (.tail _ (.head _)))).1, rfl, 0, rfl⟩ (by simp; omega) ?_
    rw [show (ysH.toArray.size : Int) = (shp.length : Int) by simp; omega]
    kpc_turns
    refine range1K FF NN fun rO ro1 ro2 ro3 hO1 tkO1 FO NO lO lO' => ?_
    clear FF NN
    kpc_turns
    refine compRange (n := shp.length) (fun i ys nx => nx = (tD, listOf dgs.toArray kD) :: (16, tabObj psD) :: (tH, tupObj ysH 0) :: (st, listOf #[.ref l, .int a4 ta4, .int b4 tb4] n4) :: (l, listOf vs4.toArray nl4) :: (tS, tupObj vsS 0) :: (LL + 1 + 1 + 1 + 1, o4) :: (LL + 1 + 1 + 1, oD) :: (LL + 1 + 1, oH) :: (LL + 1, oS) :: (44, tabObj #[]) :: [] ∧ ∃ bs, LSm.BoolsAre ys bs ∧ ∀ b ∈ bs, b = false) rfl rfl rfl (by omega) (NN _ (.head _)).1 (small0 (by decide) (by omega) (by omega) (by decide)) (by rw [rangeSize_nat]; omega) FF (fun p hp => NN p (.tail _ hp)) ⟨rfl, [], .nil, fun b hb => nomatch hb⟩ ?_ ?_
    · rintro i tv ys m₂ news₁ h tk own C oC D E' hil hm hoC hnC ha hoff ⟨rfl, bs, hbs, hbf⟩ F₁ N₁
      obtain ⟨x, hx⟩ : ∃ x, shp[i]? = some x := ⟨_, List.getElem?_eq_getElem hil⟩
      obtain ⟨tx, hx'⟩ := hshp.get i x hx
      obtain ⟨d, hd⟩ : ∃ d, (digitsOf (strS shp) num)[i]? = some d := ⟨_, List.getElem?_eq_getElem (by rw [digitsOf_len, strS_len]; exact hil)⟩
      obtain ⟨td, hd'⟩ := hdv.get i d hd
      have N₂ : News _ _ h ((tD, listOf dgs.toArray kD) :: (16, tabObj psD) :: (tH, tupObj ysH 0) :: (st, listOf #[.ref l, .int a4 ta4, .int b4 tb4] n4) :: (l, listOf vs4.toArray nl4) :: (tS, tupObj vsS 0) :: (LL + 1 + 1 + 1 + 1, o4) :: (LL + 1 + 1 + 1, oD) :: (LL + 1 + 1, oH) :: (LL + 1, oS) :: (44, tabObj #[]) :: (C, oC) :: (D, lst ys) :: own) := N₁
      clear FF NN N₁
      refine wpAny_tests_one ?_
      kpc_turns
      refine kim_tup (j := i) NN (.tail _ (.tail _ (.head _))) rfl rfl (by omega) (by omega) (seqI (by omega)) hx' ?_
      kpc_turns
      · rename x = 1 => hx1
        refine kim_list NN (.head _) rfl rfl (by omega) (by omega) (x := .int d td) (by rw [show (0 + (i : Int)).toNat = i by omega]; exact hd') ?_
        have hd0 : d = 0 := dig_ones hge num (hx1 ▸ hx) hd
        kpc_turns
        refine CEnd.same ((tD, listOf dgs.toArray kD) :: (16, tabObj psD) :: (tH, tupObj ysH 0) :: (st, listOf #[.ref l, .int a4 ta4, .int b4 tb4] n4) :: (l, listOf vs4.toArray nl4) :: (tS, tupObj vsS 0) :: (LL + 1 + 1 + 1 + 1, o4) :: (LL + 1 + 1 + 1, oD) :: (LL + 1 + 1, oH) :: (LL + 1, oS) :: (44, tabObj #[]) :: []) FF NN rfl ⟨rfl, bs ++ [_], bools_snoc hbs, fun b hb => ?_⟩
        rcases List.mem_append.mp hb with hb | hb
        · exact hbf b hb
        · rw [List.mem_singleton.mp hb]
          simp [hd0]
      · exact CEnd.same ((tD, listOf dgs.toArray kD) :: (16, tabObj psD) :: (tH, tupObj ysH 0) :: (st, listOf #[.ref l, .int a4 ta4, .int b4 tb4] n4) :: (l, listOf vs4.toArray nl4) :: (tS, tupObj vsS 0) :: (LL + 1 + 1 + 1 + 1, o4) :: (LL + 1 + 1 + 1, oD) :: (LL + 1 + 1, oH) :: (LL + 1, oS) :: (44, tabObj #[]) :: []) FF NN rfl ⟨rfl, bs, hbs, hbf⟩
    rintro gO ysO newsO haO ⟨rfl, bsO, hbsO, hbfO⟩
    intro tO hO2 tkO2 FO2 NO2 lO2
    clear FF NN
    kpc_turns
    refine LSm.any_bools FF NN rfl ⟨_, (NN (tO, lst ysO) (.head _)).1, rfl, _, rfl⟩ hbsO fun hO3 tkO3 FO3 NO3 => ?_
    rw [bools_none hbfO]
    have NO4 : News _ _ hO3 ((tD, listOf dgs.toArray kD) :: (16, tabObj psD) :: (tH, tupObj ysH 0) :: (st, listOf #[.ref l, .int a4 ta4, .int b4 tb4] n4) :: (l, listOf vs4.toArray nl4) :: (tS, tupObj vsS 0) :: (LL + 1 + 1 + 1 + 1, o4) :: (LL + 1 + 1 + 1, oD) :: (LL + 1 + 1, oH) :: (LL + 1, oS) :: (44, tabObj #[]) :: []) := fun p hp => NO3 p (.tail _ hp)
    clear FF NN NO3
    kfm_turns
    w_top off
    -- a number within
    have hmany1 : 1 ≤ shp.prod := prod_ge hge
    refine wpAny_mono (Q := fun f s' => Cut (f = .next ∧ ∃ h tk m', s' = { heap := h, gens := gD, drawn := s₁.drawn, toks := tk, os := s₁.os } ∧ Fr (ghostOf s₁.heap [(48, 44), (20, 16)]) LL h m' ∧ News (ghostOf s₁.heap [(48, 44), (20, 16)]) LL h ((tD, listOf dgs.toArray kD) :: (16, tabObj psD) :: (tH, tupObj ysH 0) :: (st, listOf #[.ref l, .int a4 ta4, .int b4 tb4] n4) :: (l, listOf vs4.toArray nl4) :: (tS, tupObj vsS 0) :: (LL + 1 + 1 + 1 + 1, o4) :: (LL + 1 + 1 + 1, oD) :: (LL + 1 + 1, oH) :: (LL + 1, oS) :: (44, tabObj #[]) :: []))) ?_ (fun f s' hf => ?_) (fun _ _ e => e)
    · walk1
      kpc_turns
      · rename 0 ≤ num => hn0
        rename num < shp.prod => hn1
        refine For_turns FF ?_
        kpc_turns
        refine iterZip (κ₁ := .lst) (κ₂ := .tup) (vs := dgs) (us := ysH) [(tD, listOf dgs.toArray kD), (tH, tupObj ysH 0)] (fun i m' nx => nx = (tD, listOf dgs.toArray kD) :: (16, tabObj psD) :: (tH, tupObj ysH 0) :: (st, listOf #[.ref l, .int a4 ta4, .int b4 tb4] n4) :: (l, listOf vs4.toArray nl4) :: (tS, tupObj vsS 0) :: (LL + 1 + 1 + 1 + 1, o4) :: (LL + 1 + 1 + 1, oD) :: (LL + 1 + 1, oH) :: (LL + 1, oS) :: (44, tabObj #[]) :: [] ∧ (∃ a u, m' (Str.ofString "at") = some (.int a u) ∧ a = horner ((digitsOf (strS shp) num).take i) (shp.take i) 0 ∧ 0 ≤ a ∧ a < (shp.take i).prod) ∧ m' (Str.ofString "number") = some (.int num tnum)) rfl rfl rfl rfl
          (.inr ⟨_, kD, .head _, rfl, rfl⟩) (.inr ⟨_, 0, .tail _ (.head _), rfl, rfl⟩) (by omega) (fun p hp => by
            rcases List.mem_cons.mp hp with e | hp
            · exact e ▸ .head _
            · rw [List.mem_singleton.mp hp]; exact .tail _ (.tail _ (.head _))) FF NN ⟨rfl, ⟨0, _, rfl, by simp [horner], by decide, by simp⟩, rfl⟩ ?_ ?_
        · rintro i va vb m₁ news₁ h tk own' hva hvb ha hkp hoff ⟨rfl, ⟨a, ua, hma, hae, ha0, ha1⟩, hmn⟩ F₁ N₁
          have hil : i < shp.length := by have := (List.getElem?_eq_some_iff.mp hva).1; omega
          obtain ⟨x, hx⟩ : ∃ x, shp[i]? = some x := ⟨_, List.getElem?_eq_getElem hil⟩
          obtain ⟨d, hd⟩ : ∃ d, (digitsOf (strS shp) num)[i]? = some d := ⟨_, List.getElem?_eq_getElem (by rw [digitsOf_len, strS_len]; exact hil)⟩
          obtain ⟨tx, hx'⟩ := hshp.get i x hx
          obtain ⟨td, hd'⟩ := hdv.get i d hd
          rw [hd'] at hva; cases hva
          rw [hx'] at hvb; cases hvb
          have hdx := dig_in hge hn0 hn1 hx hd
          have hxb := hsb x (List.mem_of_getElem? hx)
          have hbd := horn_bd ha0 ha1 hdx.1 hdx.2
          rw [← take_succ_prod hx] at hbd
          have hP := prod_bound (c := 5) (ns := shp.take i) (by decide) fun y hy => hsb y (List.mem_of_mem_take hy)
          have hP5 : (shp.take i).prod ≤ 3125 := Int.le_trans hP.2 (by
            have : (shp.take i).length ≤ 5 := by rw [List.length_take]; omega
            revert this
            generalize (shp.take i).length = k
            intro this
            have : k = 0 ∨ k = 1 ∨ k = 2 ∨ k = 3 ∨ k = 4 ∨ k = 5 := by omega
            rcases this with rfl | rfl | rfl | rfl | rfl | rfl <;> decide)
          have F₂ := frPut (frPut F₁ ((if_neg (by decide)).trans ((if_neg (by decide)).trans hma))) (x := Str.ofString "number") ((if_neg (by decide)).trans ((if_neg (by decide)).trans ((if_neg (by decide)).trans hmn)))
          clear F₁ FF NN
          kpc_turns
          exact InvEndN.intro (nx := (tD, listOf dgs.toArray kD) :: (16, tabObj psD) :: (tH, tupObj ysH 0) :: (st, listOf #[.ref l, .int a4 ta4, .int b4 tb4] n4) :: (l, listOf vs4.toArray nl4) :: (tS, tupObj vsS 0) :: (LL + 1 + 1 + 1 + 1, o4) :: (LL + 1 + 1 + 1, oD) :: (LL + 1 + 1, oH) :: (LL + 1, oS) :: (44, tabObj #[]) :: []) FF NN ⟨hkp, rfl, ⟨_, _, rfl, by rw [horner_take _ hd hx, ← hae], hbd.1, hbd.2⟩, rfl⟩ rfl memL memR
        · rintro m₁ news₁ hA1 tkA1 hkpA ⟨rfl, ⟨a, ua, hma, hae, ha0, ha1⟩, hmn⟩ F₁ N₁
          have hfull : a = num := by
            rw [hae, List.take_of_length_le (by rw [digitsOf_len, strS_len]; omega), List.take_of_length_le (by omega), horner_is hge hn0 hn1]
            simp
          subst hfull
          have F₂ := frPut (frPut F₁ hma) (x := Str.ofString "number") ((if_neg (by decide)).trans hmn)
          clear F₁ FF NN hkpA
          kpc_turns
          · rename a ≠ a => hna
            exact absurd rfl hna
          refine compE FF (by with_unfolding_all rfl) (by decide) rfl (by decide) ?_
          kpc_turns
          refine compZip (κ₁ := .lst) (κ₂ := .tup) (vs := dgs) (us := ysH) [(tD, listOf dgs.toArray kD), (tH, tupObj ysH 0)] (fun i ys nx => nx = (tD, listOf dgs.toArray kD) :: (16, tabObj psD) :: (tH, tupObj ysH 0) :: (st, listOf #[.ref l, .int a4 ta4, .int b4 tb4] n4) :: (l, listOf vs4.toArray nl4) :: (tS, tupObj vsS 0) :: (LL + 1 + 1 + 1 + 1, o4) :: (LL + 1 + 1 + 1, oD) :: (LL + 1 + 1, oH) :: (LL + 1, oS) :: (44, tabObj #[]) :: [] ∧ ∃ bs, LSm.BoolsAre ys bs ∧ ∀ b ∈ bs, b = false) rfl rfl rfl rfl (by decide) (by omega)
            (.inr ⟨_, kD, .head _, rfl, rfl⟩) (.inr ⟨_, 0, .tail _ (.head _), rfl, rfl⟩) (by omega) (fun p hp => by
              rcases List.mem_cons.mp hp with e | hp
              · exact e ▸ .head _
              · rw [List.mem_singleton.mp hp]; exact .tail _ (.tail _ (.head _))) FF NN ⟨rfl, [], .nil, fun b hb => nomatch hb⟩ ?_ ?_
          · rintro i va vb ys m₂ news₁ h tk own C oC D E' hva hvb hma hmb hoC hnC ha hkp hoff ⟨rfl, bs, hbs, hbf⟩ F₁ N₁
            have hil : i < shp.length := by have := (List.getElem?_eq_some_iff.mp hva).1; omega
            obtain ⟨x, hx⟩ : ∃ x, shp[i]? = some x := ⟨_, List.getElem?_eq_getElem hil⟩
            obtain ⟨d, hd⟩ : ∃ d, (digitsOf (strS shp) a)[i]? = some d := ⟨_, List.getElem?_eq_getElem (by rw [digitsOf_len, strS_len]; exact hil)⟩
            obtain ⟨tx, hx'⟩ := hshp.get i x hx
            obtain ⟨td, hd'⟩ := hdv.get i d hd
            rw [hd'] at hva; cases hva
            rw [hx'] at hvb; cases hvb
            have hdx := dig_in hge hn0 hn1 hx hd
            refine wpAny_tests_nil ?_
            rw [if_pos rfl]
            have N₂ : News _ _ h ((tD, listOf dgs.toArray kD) :: (16, tabObj psD) :: (tH, tupObj ysH 0) :: (st, listOf #[.ref l, .int a4 ta4, .int b4 tb4] n4) :: (l, listOf vs4.toArray nl4) :: (tS, tupObj vsS 0) :: (LL + 1 + 1 + 1 + 1, o4) :: (LL + 1 + 1 + 1, oD) :: (LL + 1 + 1, oH) :: (LL + 1, oS) :: (44, tabObj #[]) :: (C, oC) :: (D, lst ys) :: own) := N₁
            clear FF NN N₁
            kpc_turns
            refine CEnd.same ((tD, listOf dgs.toArray kD) :: (16, tabObj psD) :: (tH, tupObj ysH 0) :: (st, listOf #[.ref l, .int a4 ta4, .int b4 tb4] n4) :: (l, listOf vs4.toArray nl4) :: (tS, tupObj vsS 0) :: (LL + 1 + 1 + 1 + 1, o4) :: (LL + 1 + 1 + 1, oD) :: (LL + 1 + 1, oH) :: (LL + 1, oS) :: (44, tabObj #[]) :: []) FF NN rfl ⟨hkp, rfl, bs ++ [_], bools_snoc hbs, fun b hb => ?_⟩
            rcases List.mem_append.mp hb with hb | hb
            · exact hbf b hb
            · rw [List.mem_singleton.mp hb]
              simp [hdx.1, hdx.2]
          rintro gZ ysZ newsZ haZ hkpZ ⟨rfl, bsZ, hbsZ, hbfZ⟩
          intro tZ hZ1 tkZ FZ NZ lZ
          clear FF NN hkpZ
          kpc_turns
          refine LSm.any_bools FF NN rfl ⟨_, (NN (tZ, lst ysZ) (.head _)).1, rfl, _, rfl⟩ hbsZ fun hZ2 tkZ2 FZ2 NZ2 => ?_
          rw [bools_none hbfZ]
          have NZ3 : News _ _ hZ2 ((tD, listOf dgs.toArray kD) :: (16, tabObj psD) :: (tH, tupObj ysH 0) :: (st, listOf #[.ref l, .int a4 ta4, .int b4 tb4] n4) :: (l, listOf vs4.toArray nl4) :: (tS, tupObj vsS 0) :: (LL + 1 + 1 + 1 + 1, o4) :: (LL + 1 + 1 + 1, oD) :: (LL + 1 + 1, oH) :: (LL + 1, oS) :: (44, tabObj #[]) :: []) := fun p hp => NZ2 p (.tail _ hp)
          clear FF NN NZ2
          kpc_turns
          exact ⟨rfl, _, _, _, rfl, FF, NN⟩
      · exact ⟨rfl, _, _, _, rfl, FF, NN⟩
      · exact ⟨rfl, _, _, _, rfl, FF, NN⟩
    obtain ⟨rfl, hQ1, tkQ, mQ, rfl, FQ, NQ⟩ := hf.out
    clear FF NN hf
    kpc_turns
    w_top off
    -- the row
    have ost2 := off8 (LL := LL) (c := st) hst1.1 hst1.2.2.2.2.2 hst1.2.2.2.2.1 lH.1 lS.2.1
    have ol2 := off8 (LL := LL) (c := l) hl1.1 hl1.2.2.2.2.2 hl1.2.2.2.2.1 lH.2.1 lS.2.2.1
    have NRW : News _ _ hQ1 ((st, listOf #[.ref l, .int a4 ta4, .int b4 tb4] n4) :: (l, listOf vs4.toArray nl4) :: (tS, tupObj vsS 0) :: (16, tabObj psD) :: (tH, tupObj ysH 0) :: (LL + 1 + 1 + 1 + 1, o4) :: (LL + 1 + 1 + 1, oD) :: (LL + 1 + 1, oH) :: (LL + 1, oS) :: (44, tabObj #[]) :: []) := fun p hp => NN p (by
      rcases List.mem_cons.mp hp with e | hp
      · exact e ▸ .tail _ (.tail _ (.tail _ (.head _)))
      · rcases List.mem_cons.mp hp with e | hp
        · exact e ▸ .tail _ (.tail _ (.tail _ (.tail _ (.head _))))
        · rcases List.mem_cons.mp hp with e | hp
          · exact e ▸ .tail _ (.tail _ (.tail _ (.tail _ (.tail _ (.head _)))))
          · rcases List.mem_cons.mp hp with e | hp
            · exact e ▸ .tail _ (.head _)
            · rcases List.mem_cons.mp hp with e | hp
              · exact e ▸ .tail _ (.tail _ (.head _))
              · exact .tail _ (.tail _ (.tail _ (.tail _ (.tail _ (.tail _ hp))))))
    clear NN
    refine compE FF (by with_unfolding_all rfl) (by decide) rfl (by decide) ?_
    kpc_turns
    refine take_ok BB FF XX NN TT rfl (by decide) (by decide) hne (offTwo (offAdr ost2 rfl) (offAdr ol2 rfl)) hi4 ok4 (by decide) (by decide) ?_
    intro v7 t7 a7 b7 ta7 tb7 n7 nl7 vs7 ns7 h7' tk7' v70 v71 ok7 hi7 F7' N7'
    clear FF NN
    kpc_turns
    refine range1K FF NN fun rR rr1 rr2 rr3 hr1 tkr1 Fr1 Nr1 lr1 lr1' => ?_
    clear FF NN
    kpc_turns
    refine compRange (n := v7.toNat) (fun i ys nx => ∃ a b ta tb n nl vs ns zs, nx = (st, listOf #[.ref l, .int a ta, .int b tb] n) :: (l, listOf vs.toArray nl) :: (tS, tupObj vsS 0) :: (16, tabObj psD) :: (tH, tupObj ysH 0) :: (LL + 1 + 1 + 1 + 1, o4) :: (LL + 1 + 1 + 1, oD) :: (LL + 1 + 1, oH) :: (LL + 1, oS) :: (44, tabObj #[]) :: [] ∧
        StOk ns a b ∧ IntsAre vs ns ∧ IntsAre ys zs ∧ ys.length = i ∧ ∀ x ∈ zs, 0 ≤ x ∧ x < 4) rfl rfl rfl (by omega) (NN _ (.head _)).1 (small0 (by decide) (by omega) (by omega) (by decide)) (by rw [rangeSize_nat]; omega) FF (fun p hp => NN p (.tail _ hp)) ⟨a7, b7, ta7, tb7, n7, nl7, vs7, ns7, [], rfl, ok7, hi7, .nil, rfl, fun x hx => nomatch hx⟩ ?_ ?_
    · rintro i tv ys m₂ news₁ h tk own C oC D E' hiv hm hoC hnC ha hoff ⟨a, b, ta, tb, n, nl, vs, ns, zs, rfl, ok, hi, hzs, hyl, hzb⟩ F₁ N₁
      refine wpAny_tests_nil ?_
      rw [if_pos rfl]
      clear FF NN
      have N₂ : News _ _ h ((st, listOf #[.ref l, .int a ta, .int b tb] n) :: (l, listOf vs.toArray nl) :: (tS, tupObj vsS 0) :: (16, tabObj psD) :: (tH, tupObj ysH 0) :: (LL + 1 + 1 + 1 + 1, o4) :: (LL + 1 + 1 + 1, oD) :: (LL + 1 + 1, oH) :: (LL + 1, oS) :: (44, tabObj #[]) :: (C, oC) :: (D, lst ys) :: own) := N₁
      clear N₁
      kpc_turns
      have own1 : ∀ p ∈ (C, oC) :: (D, lst ys) :: own, p.1 ≠ st := fun p hp => hoff p hp st (.head _)
      have own2 : ∀ p ∈ (C, oC) :: (D, lst ys) :: own, p.1 ≠ l := fun p hp => hoff p hp l (.tail _ (.head _))
      refine take_ok BB FF XX NN TT rfl (by decide) (by decide) hne (offTwo (ofApp (offAdr (own := (tS, tupObj vsS 0) :: (16, tabObj psD) :: (tH, tupObj ysH 0) :: (LL + 1 + 1 + 1 + 1, o4) :: (LL + 1 + 1 + 1, oD) :: (LL + 1 + 1, oH) :: (LL + 1, oS) :: (44, tabObj #[]) :: []) ost2 rfl) own1) (ofApp (offAdr (own := (tS, tupObj vsS 0) :: (16, tabObj psD) :: (tH, tupObj ysH 0) :: (LL + 1 + 1 + 1 + 1, o4) :: (LL + 1 + 1 + 1, oD) :: (LL + 1 + 1, oH) :: (LL + 1, oS) :: (44, tabObj #[]) :: []) ol2 rfl) own2)) hi ok (by decide) (by decide) ?_
      intro v9 t9 a9 b9 ta9 tb9 n9 nl9 vs9 ns9 h9 tk9 v90 v91 ok9 hi9 F9 N9
      clear FF NN
      kpc_turns
      refine CEnd.same ((st, listOf #[.ref l, .int a9 ta9, .int b9 tb9] n9) :: (l, listOf vs9.toArray nl9) :: (tS, tupObj vsS 0) :: (16, tabObj psD) :: (tH, tupObj ysH 0) :: (LL + 1 + 1 + 1 + 1, o4) :: (LL + 1 + 1 + 1, oD) :: (LL + 1 + 1, oH) :: (LL + 1, oS) :: (44, tabObj #[]) :: []) FF NN rfl ⟨a9, b9, ta9, tb9, n9, nl9, vs9, ns9, zs ++ [v9], rfl, ok9, hi9, hzs.append (.cons _ _ .nil), by simp [hyl], fun x hx => ?_⟩
      rcases List.mem_append.mp hx with hx | hx
      · exact hzb x hx
      · rw [List.mem_singleton.mp hx]; omega
    rintro gR ysR newsR haR ⟨aR, bR, taR, tbR, nR, nlR, vsR, nsR, row, rfl, okR, hiR, hrow, hylR, hrb⟩
    intro DR hR2 tkR2 FR2 NR2 lR2
    clear FF NN
    have hrl : row.length ≤ 6 := by rw [← hrow.length, hylR]; omega
    kpc_turns
    refine tupleOfL FF NN (.head _) (by omega) fun tR hR3 FR3 NR3 lR3 => ?_
    have NR4 : News _ _ hR3 ((44, tabObj #[]) :: (tR, tupObj ysR 0) :: (16, tabObj psD) :: (LL + 1 + 1 + 1 + 1, o4) :: []) := fun p hp => NR3 p (by
      simp only [List.mem_cons, List.not_mem_nil, or_false] at hp ⊢
      rcases hp with e | e | e | e <;> simp [e])
    have lR16 : @LT.lt Nat _ 16 tR := lR3 (16, tabObj psD) (by simp)
    have lR44 : @LT.lt Nat _ 44 tR := lR3 (44, tabObj #[]) (by simp)
    have lRO : @LT.lt Nat _ (LL + 1 + 1 + 1 + 1) tR := lR3 (LL + 1 + 1 + 1 + 1, o4) (by simp)
    clear FF NN NR3 lR2 lR3
    kpc_turns
    w_top off
    -- its order
    have hrow6 : ysR.length = row.length := hrow.length
    have offR : ∀ p ∈ (tR, tupObj ysR 0) :: (16, tabObj psD) :: (LL + 1 + 1 + 1 + 1, o4) :: [], p.1 ≠ 44 :=
      ofCons (Nat.ne_of_gt lR44) (ofCons (show (16 : Nat) ≠ 44 by decide) (ofCons (by show @Ne Nat _ 44; omega) fun _ h => nomatch h))
    obtain ⟨hok1, hperm1, hadj1⟩ := arg_facts hrl
    refine argsort_first BB FF XX NN TT C44' rfl (by decide) offR (.head _) hrow hrl hok1 (arg_in hrl) (by rw [arg_len hrl]; exact hrl) fun tX cO ocO dsO tqO vsO hO5 tkO5 hocO hqO hord FO5 NO5 lO5 lO44 lcO => ?_
    have lcR : @LT.lt Nat _ tR cO := lO5 _ (.head _)
    have lc16 : @LT.lt Nat _ 16 cO := lO5 _ (.tail _ (.head _))
    have lcL : @LT.lt Nat _ (LL + 1 + 1 + 1 + 1) cO := lO5 _ (.tail _ (.tail _ (.head _)))
    have lO44' : @LT.lt Nat _ 44 cO := lO44
    have lcO' : @LT.lt Nat _ cO tX := lcO
    clear FF NN offR lO5 lO44 lcO
    kpc_turns
    rename _ = Data.cell (some (Value.ref tX)) => eO
    rename_i hO6 oO
    have hvOl : vsO.length = row.length := by rw [hord.length, List.length_map, arg_len hrl]
    refine sortedTup FF NN ⟨_, (NN (tX, tupObj vsO 0) (.head _)).1, rfl, 0, rfl⟩ hord (by omega) fun tP kP vsP nsP hP1 FP NP lP hvP hpP hwP => ?_
    have hnsP : nsP = (List.range row.length).map Int.ofNat := sorted_same (hpP.trans (hperm1.map _)) hwP (range_pw _)
    subst hnsP
    clear FF NN
    kpc_turns
    refine PyProof.Rows.len_tuple (items := ysR.toArray) ⟨_, (NN (tR, tupObj ysR 0) (.tail _ (.tail _ (.tail _ (.tail _ (.head _)))))).1, rfl, 0, rfl⟩ (by simp; omega) ?_
    rw [show (ysR.toArray.size : Int) = (row.length : Int) by simp; omega]
    kpc_turns
    refine range1K FF NN fun rP rp1 rp2 rp3 hP2 tkP2 FP2 NP2 lP2 lP2' => ?_
    clear FF NN
    kpc_turns
    refine listOfRange (n := row.length) rfl FF NN (NN _ (.head _)).1 (small0 (by decide) (by omega) (by omega) (by decide)) (by rw [rangeSize_nat]; omega) (by omega) fun tU kU vsU hU1 tkU FU NU lU hvUl hvU => ?_
    have hvU' := ints_range hvUl hvU
    clear FF NN
    kpc_turns
    have NJ : News _ _ hU1 ((tX, tupObj vsO 0) :: (cO, ocO) :: (44, tabObj (argTab cO)) :: (tR, tupObj ysR 0) :: (16, tabObj psD) :: (LL + 1 + 1 + 1 + 1, oO) :: []) := fun p hp => NN p (.tail _ (.tail _ (.tail _ hp)))
    clear NN
    w_top off
    -- the order's neighbours
    refine For_turns FF ?_
    kpc_turns
    refine PyProof.Rows.len_tuple (items := ysR.toArray) ⟨_, (NN (tR, tupObj ysR 0) (.tail _ (.tail _ (.tail _ (.head _))))).1, rfl, 0, rfl⟩ (by simp; omega) ?_
    rw [show (ysR.toArray.size : Int) = (row.length : Int) by simp; omega]
    kpc_turns
    refine range2K FF NN fun rK rk1 rk2 rk3 hK1 tkK1 FK NK lK lK' => ?_
    clear FF NN
    kpc_turns
    refine iterRange (n := row.length - 1) (fun i m' nx => nx = (tX, tupObj vsO 0) :: (cO, ocO) :: (44, tabObj (argTab cO)) :: (tR, tupObj ysR 0) :: (16, tabObj psD) :: (LL + 1 + 1 + 1 + 1, oO) :: [] ∧ m' (Str.ofString "row") = some (.ref tR)) rfl rfl rfl (NN _ (.head _)).1 (small0 (by decide) (by omega) (by omega) (by decide)) (by rw [rangeSize_nat]; omega) FF (fun p hp => NN p (.tail _ hp)) ⟨rfl, rfl⟩ ?_ ?_
    · rintro i tv m₁ news₁ h tk own' hil ha hoff ⟨rfl, hmr⟩ F₁ N₁
      obtain ⟨pa, hpa⟩ : ∃ pa, (argP row)[i]? = some pa := ⟨_, List.getElem?_eq_getElem (by rw [arg_len hrl]; omega)⟩
      obtain ⟨pb, hpb⟩ : ∃ pb, (argP row)[i + 1]? = some pb := ⟨_, List.getElem?_eq_getElem (by rw [arg_len hrl]; omega)⟩
      have hpan := arg_in hrl pa (List.mem_of_getElem? hpa)
      have hpbn := arg_in hrl pb (List.mem_of_getElem? hpb)
      obtain ⟨tpa, hpa'⟩ := hord.get i (pa : Int) (by rw [List.getElem?_map, hpa]; rfl)
      obtain ⟨tpb, hpb'⟩ := hord.get (i + 1) (pb : Int) (by rw [List.getElem?_map, hpb]; rfl)
      obtain ⟨xa, hxa⟩ : ∃ xa, row[pa]? = some xa := ⟨_, List.getElem?_eq_getElem hpan⟩
      obtain ⟨xb, hxb⟩ : ∃ xb, row[pb]? = some xb := ⟨_, List.getElem?_eq_getElem hpbn⟩
      have ga : row.getD pa 0 = xa := by show ((row[pa]?).getD 0) = xa; rw [hxa]; rfl
      have gb : row.getD pb 0 = xb := by show ((row[pb]?).getD 0) = xb; rw [hxb]; rfl
      obtain ⟨txa, hxa'⟩ := hrow.get pa xa hxa
      obtain ⟨txb, hxb'⟩ := hrow.get pb xb hxb
      have hlex : xa < xb ∨ (xa ≤ xb ∧ pa < pb) := by
        have h9 : row.getD pa 0 < row.getD pb 0 ∨ (row.getD pa 0 ≤ row.getD pb 0 ∧ pa < pb) := adj_at hadj1 hpa hpb
        rw [ga, gb] at h9
        exact h9
      have F₂ := frPut F₁ ((if_neg (by decide)).trans hmr)
      clear F₁ FF NN
      kpc_turns
      refine kim_tup (j := i) NN (.head _) rfl rfl (by omega) (by omega) (seqE (by omega) (by omega)) hpa' ?_
      kpc_turns
      refine kim_tup (j := i + 1) NN (.head _) rfl rfl (by omega) (by omega) (seqE (by omega) (by omega)) hpb' ?_
      kpc_turns
      refine kim_tup (j := pa) (lo := tupObj ysR 0) NN (by k_mem) rfl rfl (by omega) (by omega) (seqE rfl (by omega)) hxa' ?_
      kpc_turns
      refine kim_tup (j := pb) (lo := tupObj ysR 0) NN (by k_mem) rfl rfl (by omega) (by omega) (seqE rfl (by omega)) hxb' ?_
      kpc_turns
      refine kim_tup (j := pa) (lo := tupObj ysR 0) NN (by k_mem) rfl rfl (by omega) (by omega) (seqE rfl (by omega)) hxa' ?_
      kpc_turns
      refine kim_tup (j := pb) (lo := tupObj ysR 0) NN (by k_mem) rfl rfl (by omega) (by omega) (seqE rfl (by omega)) hxb' ?_
      kpc_turns
      all_goals unfold InvPostN
      all_goals refine InvEndN.intro (nx := ((tX, tupObj vsO 0) :: (cO, ocO) :: (44, tabObj (argTab cO)) :: (tR, tupObj ysR 0) :: (16, tabObj psD) :: (LL + 1 + 1 + 1 + 1, oO) :: [])) FF NN ?_ ?_ ?_ ?_
      all_goals first
        | exact And.intro (fun p hp => nomatch hp) (And.intro rfl rfl)
        | exact rfl
        | exact (fun p hp => .tail _ (List.mem_append_left own' hp))
        | exact (fun p hp => .tail _ (List.mem_append_right ((tX, tupObj vsO 0) :: (cO, ocO) :: (44, tabObj (argTab cO)) :: (tR, tupObj ysR 0) :: (16, tabObj psD) :: (LL + 1 + 1 + 1 + 1, oO) :: []) hp))
    · rintro mK nK hK2 tkK2 ⟨rfl, hmr⟩ FK2 NK2
      have F₂ := frPut FK2 hmr
      clear FF NN FK2
      kpc_turns
      w_top off
      -- its inverse
      have NQ : News _ _ hK2 ((44, tabObj (argTab cO)) :: (tX, tupObj vsO 0) :: (cO, ocO) :: (tR, tupObj ysR 0) :: (16, tabObj psD) :: (LL + 1 + 1 + 1 + 1, oO) :: []) := fun p hp => NN p (by
        simp only [List.mem_cons, List.not_mem_nil, or_false] at hp ⊢
        rcases hp with e | e | e | e | e | e <;> simp [e])
      clear NN
      have hlX : ((argP row).map Int.ofNat).length = row.length := by rw [List.length_map, arg_len hrl]
      have hlX6 : ((argP row).map Int.ofNat).length ≤ 6 := by rw [hlX]; exact hrl
      obtain ⟨hok2, hperm2, hadj2⟩ := arg_facts hlX6
      have offX : ∀ p ∈ (tX, tupObj vsO 0) :: (cO, ocO) :: (tR, tupObj ysR 0) :: (16, tabObj psD) :: (LL + 1 + 1 + 1 + 1, oO) :: [], p.1 ≠ 44 :=
        ofCons (Nat.ne_of_gt (Nat.lt_trans lO44' lcO')) (ofCons (Nat.ne_of_gt lO44') (ofCons (Nat.ne_of_gt lR44) (ofCons (show (16 : Nat) ≠ 44 by decide) (ofCons (by show @Ne Nat _ 44; omega) fun _ h => nomatch h))))
      refine argsort_second BB FF XX NQ TT C44' rfl (by decide) offX (.head _) (.tail _ (.head _)) hocO hqO hord hlX6 hok2 (arg_in hlX6) (by rw [arg_len hlX6]; exact hlX6) fun tBk vsB hB5 tkB5 hback FB5 NB5 lB5 lB44 => ?_
      have lBX : @LT.lt Nat _ tX tBk := lB5 _ (.head _)
      have lBR : @LT.lt Nat _ tR tBk := lB5 _ (.tail _ (.tail _ (.head _)))
      clear FF NQ offX lB5
      kpc_turns
      have hvBl : vsB.length = row.length := by rw [hback.length, List.length_map, arg_len hlX6, hlX]
      -- the round trip
      refine compE FF (by with_unfolding_all rfl) (by decide) rfl (by decide) ?_
      kpc_turns
      refine compSeq (κ := .tup) (vs := vsB) [(tBk, tupObj vsB 0)] (fun i ys nx => nx = (tBk, tupObj vsB 0) :: (44, tabObj (argTab cO)) :: (tX, tupObj vsO 0) :: (cO, ocO) :: (tR, tupObj ysR 0) :: (16, tabObj psD) :: (LL + 1 + 1 + 1 + 1, oO) :: [] ∧ IntsAre ys (((argP ((argP row).map Int.ofNat)).map (fun k => ((argP row).map Int.ofNat).getD k 0)).take i)) rfl rfl rfl (by omega)
        (.inr ⟨_, 0, .head _, rfl, rfl⟩) (fun p hp => by rw [List.mem_singleton.mp hp]; exact .head _) FF NN ⟨rfl, .nil⟩ ?_ ?_
      · rintro i v ys m₂ news₁ h tk own C oC D E' hv hm hoC hnC ha hkp hoff ⟨rfl, hys⟩ F₁ N₁
        have hil : i < row.length := by rw [← hvBl]; exact (List.getElem?_eq_some_iff.mp hv).1
        obtain ⟨pb, hpb⟩ : ∃ pb, (argP ((argP row).map Int.ofNat))[i]? = some pb := ⟨_, List.getElem?_eq_getElem (by rw [arg_len hlX6, hlX]; exact hil)⟩
        have hpbn : pb < ((argP row).map Int.ofNat).length := arg_in hlX6 pb (List.mem_of_getElem? hpb)
        obtain ⟨tpb, hpb'⟩ := hback.get i (pb : Int) (by rw [List.getElem?_map, hpb]; rfl)
        rw [hpb'] at hv; cases hv
        obtain ⟨xb, hxb⟩ : ∃ xb, ((argP row).map Int.ofNat)[pb]? = some xb := ⟨_, List.getElem?_eq_getElem hpbn⟩
        have gb : ((argP row).map Int.ofNat).getD pb 0 = xb := by show ((((argP row).map Int.ofNat)[pb]?).getD 0) = xb; rw [hxb]; rfl
        obtain ⟨txb, hxb'⟩ := hord.get pb xb hxb
        refine wpAny_tests_nil ?_
        rw [if_pos rfl]
        have N₂ : News _ _ h ((tBk, tupObj vsB 0) :: (44, tabObj (argTab cO)) :: (tX, tupObj vsO 0) :: (cO, ocO) :: (tR, tupObj ysR 0) :: (16, tabObj psD) :: (LL + 1 + 1 + 1 + 1, oO) :: (C, oC) :: (D, lst ys) :: own) := N₁
        clear FF NN N₁
        kpc_turns
        refine kim_tup (j := pb) (lo := tupObj vsO 0) NN (by k_mem) rfl rfl (by omega) (by omega) (seqE rfl (by omega)) hxb' ?_
        kpc_turns
        refine CEnd.same ((tBk, tupObj vsB 0) :: (44, tabObj (argTab cO)) :: (tX, tupObj vsO 0) :: (cO, ocO) :: (tR, tupObj ysR 0) :: (16, tabObj psD) :: (LL + 1 + 1 + 1 + 1, oO) :: []) FF NN rfl ⟨hkp, rfl, ?_⟩
        rw [List.take_add_one, List.getElem?_map, hpb]
        show IntsAre _ (_ ++ [((argP row).map Int.ofNat).getD pb 0])
        rw [gb]
        exact ints_snoc hys
      rintro gK ysK newsK haK hkpK ⟨rfl, hysK⟩
      intro tC hC2 tkC2 FC2 NC2 lC2
      clear FF NN hkpK
      rw [hvBl, List.take_of_length_le (by rw [List.length_map, arg_len hlX6, hlX]; omega), arg_back hrl] at hysK
      have hysKl : ysK.length = row.length := by rw [hysK.length, List.length_map, List.length_range]
      kpc_turns
      refine tupleOfL FF NN (.head _) (by omega) fun tD hD3 FD3 ND3 lD3 => ?_
      clear FF NN
      kpc_turns
      refine PyProof.Rows.len_tuple (items := ysR.toArray) ⟨_, (NN (tR, tupObj ysR 0) (by k_mem)).1, rfl, 0, rfl⟩ (by simp; omega) ?_
      rw [show (ysR.toArray.size : Int) = (row.length : Int) by simp; omega]
      kpc_turns
      refine range1K FF NN fun rP rp1 rp2 rp3 hP2 tkP2 FP2 NP2 lP2 lP2' => ?_
      clear FF NN
      kpc_turns
      refine tupleOfRange (n := row.length) rfl FF NN (NN _ (.head _)).1 (small0 (by decide) (by omega) (by omega) (by decide)) (by rw [rangeSize_nat]; omega) (by omega) fun tU vsU hU1 tkU FU NU lU hvUl hvU => ?_
      have hvU' := ints_range hvUl hvU
      clear FF NN
      ktn_open
      refine neTup ⟨_, (NN (tD, tupObj ysK 0) (by k_mem)).1, rfl, 0, rfl⟩ hysK ⟨_, (NN (tU, tupObj vsU 0) (by k_mem)).1, rfl, 0, rfl⟩ hvU' (Nat.le_of_ble_eq_true rfl) ?_
      rw [decide_eq_true rfl]
      have NM : News _ _ hU1 ((tBk, tupObj vsB 0) :: (44, tabObj (argTab cO)) :: (tX, tupObj vsO 0) :: (cO, ocO) :: (tR, tupObj ysR 0) :: (16, tabObj psD) :: (LL + 1 + 1 + 1 + 1, oO) :: []) := fun p hp => NN p (by
        simp only [List.mem_cons, List.not_mem_nil, or_false] at hp ⊢
        rcases hp with e | e | e | e | e | e | e <;> simp [e])
      clear NN
      ktn_open
      w_top off
      -- the parting
      refine partition_ok BB FF XX NN TT rfl (by decide) (t := tR) (vs := ysR) (n := 0) (.tail _ (.tail _ (.tail _ (.tail _ (.head _))))) hrow hrl fun tP la lb ka kb usP wsP hP5 tkP5 husP hwsP FP5 NP5 lP5 lPab lPb => ?_
      clear FF NN lP5
      ktn_open
      refine compE FF (by with_unfolding_all rfl) (by decide) rfl (by decide) ?_
      ktn_open
      refine compSeq (κ := .tup) (vs := ysR) [(tR, tupObj ysR 0)] (fun i ys nx => nx = (tP, tupObj [.ref la, .ref lb] 0) :: (la, listOf usP.toArray ka) :: (lb, listOf wsP.toArray kb) :: (tBk, tupObj vsB 0) :: (44, tabObj (argTab cO)) :: (tX, tupObj vsO 0) :: (cO, ocO) :: (tR, tupObj ysR 0) :: (16, tabObj psD) :: (LL + 1 + 1 + 1 + 1, oO) :: [] ∧ IntsAre ys ((row.take i).filter fun x => decide (x < 2))) rfl rfl rfl (by omega)
        (.inr ⟨_, 0, .head _, rfl, rfl⟩) (fun p hp => by rw [List.mem_singleton.mp hp]; k_mem) FF NN ⟨rfl, .nil⟩ ?_ ?_
      · rintro i v ys m₂ news₁ h tk own C oC D E' hv hm hoC hnC ha hkp hoff ⟨rfl, hys⟩ F₁ N₁
        have hil : i < row.length := by rw [← hrow.length]; exact (List.getElem?_eq_some_iff.mp hv).1
        obtain ⟨xb, hxb⟩ : ∃ xb, row[i]? = some xb := ⟨_, List.getElem?_eq_getElem hil⟩
        obtain ⟨txb, hxb'⟩ := hrow.get i xb hxb
        rw [hxb'] at hv; cases hv
        have hfil := filt_take (p := fun x => decide (x < 2)) hxb
        have N₂ : News _ _ h ((tP, tupObj [.ref la, .ref lb] 0) :: (la, listOf usP.toArray ka) :: (lb, listOf wsP.toArray kb) :: (tBk, tupObj vsB 0) :: (44, tabObj (argTab cO)) :: (tX, tupObj vsO 0) :: (cO, ocO) :: (tR, tupObj ysR 0) :: (16, tabObj psD) :: (LL + 1 + 1 + 1 + 1, oO) :: (C, oC) :: (D, lst ys) :: own) := N₁
        clear FF NN N₁
        refine wpAny_tests_one ?_
        ktn_open
        · have hx1 : xb < 2 := by omega
          refine CEnd.same ((tP, tupObj [.ref la, .ref lb] 0) :: (la, listOf usP.toArray ka) :: (lb, listOf wsP.toArray kb) :: (tBk, tupObj vsB 0) :: (44, tabObj (argTab cO)) :: (tX, tupObj vsO 0) :: (cO, ocO) :: (tR, tupObj ysR 0) :: (16, tabObj psD) :: (LL + 1 + 1 + 1 + 1, oO) :: []) FF NN rfl ⟨hkp, rfl, ?_⟩
          rw [hfil, if_pos (by simp only [hx1]; decide)]
          exact ints_snoc hys
        · have hx1 : ¬ xb < 2 := by omega
          refine CEnd.same ((tP, tupObj [.ref la, .ref lb] 0) :: (la, listOf usP.toArray ka) :: (lb, listOf wsP.toArray kb) :: (tBk, tupObj vsB 0) :: (44, tabObj (argTab cO)) :: (tX, tupObj vsO 0) :: (cO, ocO) :: (tR, tupObj ysR 0) :: (16, tabObj psD) :: (LL + 1 + 1 + 1 + 1, oO) :: []) FF NN rfl ⟨hkp, rfl, ?_⟩
          rw [hfil, if_neg (by simp only [hx1]; decide), List.append_nil]
          exact hys
      rintro gV ysV newsV haV hkpV ⟨rfl, hysV⟩
      intro tV hV tkV FV NV lV
      clear FF NN hkpV
      rw [List.take_of_length_le (by rw [hrow.length]; omega)] at hysV
      ktn_open
      refine eq_intsK (vs := usP) (us := ysV) ⟨_, (NN (la, listOf usP.toArray ka) (by k_mem)).1, rfl, ka, rfl⟩ husP ⟨_, (NN (tV, lst ysV) (by k_mem)).1, rfl, _, rfl⟩ hysV (Nat.le_of_ble_eq_true rfl) ?_
      rw [decide_eq_true rfl]
      ktn_open
      refine compE FF (by with_unfolding_all rfl) (by decide) rfl (by decide) ?_
      ktn_open
      refine compSeq (κ := .tup) (vs := ysR) [(tR, tupObj ysR 0)] (fun i ys nx => nx = (tV, lst ysV) :: (tP, tupObj [.ref la, .ref lb] 0) :: (la, listOf usP.toArray ka) :: (lb, listOf wsP.toArray kb) :: (tBk, tupObj vsB 0) :: (44, tabObj (argTab cO)) :: (tX, tupObj vsO 0) :: (cO, ocO) :: (tR, tupObj ysR 0) :: (16, tabObj psD) :: (LL + 1 + 1 + 1 + 1, oO) :: [] ∧ IntsAre ys ((row.take i).filter fun x => !decide (x < 2))) rfl rfl rfl (by omega)
        (.inr ⟨_, 0, .head _, rfl, rfl⟩) (fun p hp => by rw [List.mem_singleton.mp hp]; k_mem) FF NN ⟨rfl, .nil⟩ ?_ ?_
      · rintro i v ys m₂ news₁ h tk own C oC D E' hv hm hoC hnC ha hkp hoff ⟨rfl, hys⟩ F₁ N₁
        have hil : i < row.length := by rw [← hrow.length]; exact (List.getElem?_eq_some_iff.mp hv).1
        obtain ⟨xb, hxb⟩ : ∃ xb, row[i]? = some xb := ⟨_, List.getElem?_eq_getElem hil⟩
        obtain ⟨txb, hxb'⟩ := hrow.get i xb hxb
        rw [hxb'] at hv; cases hv
        have hfil := filt_take (p := fun x => !decide (x < 2)) hxb
        have N₂ : News _ _ h ((tV, lst ysV) :: (tP, tupObj [.ref la, .ref lb] 0) :: (la, listOf usP.toArray ka) :: (lb, listOf wsP.toArray kb) :: (tBk, tupObj vsB 0) :: (44, tabObj (argTab cO)) :: (tX, tupObj vsO 0) :: (cO, ocO) :: (tR, tupObj ysR 0) :: (16, tabObj psD) :: (LL + 1 + 1 + 1 + 1, oO) :: (C, oC) :: (D, lst ys) :: own) := N₁
        clear FF NN N₁
        refine wpAny_tests_one ?_
        ktn_open
        · have hx1 : ¬ xb < 2 := by omega
          refine CEnd.same ((tV, lst ysV) :: (tP, tupObj [.ref la, .ref lb] 0) :: (la, listOf usP.toArray ka) :: (lb, listOf wsP.toArray kb) :: (tBk, tupObj vsB 0) :: (44, tabObj (argTab cO)) :: (tX, tupObj vsO 0) :: (cO, ocO) :: (tR, tupObj ysR 0) :: (16, tabObj psD) :: (LL + 1 + 1 + 1 + 1, oO) :: []) FF NN rfl ⟨hkp, rfl, ?_⟩
          rw [hfil, if_pos (by simp only [hx1]; decide)]
          exact ints_snoc hys
        · have hx1 : xb < 2 := by omega
          refine CEnd.same ((tV, lst ysV) :: (tP, tupObj [.ref la, .ref lb] 0) :: (la, listOf usP.toArray ka) :: (lb, listOf wsP.toArray kb) :: (tBk, tupObj vsB 0) :: (44, tabObj (argTab cO)) :: (tX, tupObj vsO 0) :: (cO, ocO) :: (tR, tupObj ysR 0) :: (16, tabObj psD) :: (LL + 1 + 1 + 1 + 1, oO) :: []) FF NN rfl ⟨hkp, rfl, ?_⟩
          rw [hfil, if_neg (by simp only [hx1]; decide), List.append_nil]
          exact hys
      rintro gZ ysZ newsZ haZ hkpZ ⟨rfl, hysZ⟩
      intro tZ hZ tkZ FZ NZ lZ
      clear FF NN hkpZ
      rw [List.take_of_length_le (by rw [hrow.length]; omega)] at hysZ
      ktn_open
      refine eq_intsK (vs := wsP) (us := ysZ) ⟨_, (NN (lb, listOf wsP.toArray kb) (by k_mem)).1, rfl, kb, rfl⟩ hwsP ⟨_, (NN (tZ, lst ysZ) (by k_mem)).1, rfl, _, rfl⟩ hysZ (Nat.le_of_ble_eq_true rfl) ?_
      rw [decide_eq_true rfl]
      ktn_open
      w_top off
      refine ⟨⟨.bool true, .bool true, [], rfl, fun _ => rfl, ?lawR, law_post scr, fun _ => ⟨.nil, fun a ha => nomatch ha⟩⟩, FF.keep, rfl, GD⟩
      case lawR => exact .bool true
end Mine
theorem PySem.Challenge.cw_au0025_01_holds : PySem.Challenge.rw_au0025_01.Holds := by
  exact Mine.law
