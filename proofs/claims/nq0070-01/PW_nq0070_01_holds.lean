import PyProof.Rows.All
import Wide.All
import OpenK.AllK
import Wide.FinOn
import PySem.Challenge.RW_nq0070_01
set_option Elab.async false
section
open PySem PySem.W PyProof.Rows
namespace Mine
set_option maxRecDepth 100000
set_option maxHeartbeats 8000000
open_top hd for PySem.Challenge.rw_nq0070_01
end Mine
end
section
open PySem PySem.W PyProof.Rows PySem.Spec PySem.Calls
set_option maxRecDepth 100000
set_option maxHeartbeats 8000000
namespace Mine

abbrev MM (w : World) : Model := model (RowW.prog (OpenRow.toRowW (OpenLaw.row Challenge.rw_nq0070_01))) w

/-- what a call of the def at f, by these arguments, does: from any frame, with that ledger -/
abbrev Tells (k : Nat) (f : Addr) (args : List Value) (news : List (Addr × Obj)) (Ret : Heap → Addr → (Str → Option Value) → Shared → (Value → Shared → Prop) → Prop) : Prop :=
  ∀ (w : World) (mean : ExcName → Option Value) (mg mb : Str → Option Value)
   (dp un : Nat) (gd : Option (List Code)) (cn : Str) (cs : Scope) (a : Addr) (ccd : Value) (cl : List (Str × Addr)) (outer : List Env) (A₀ : Around) (base h₀ : Heap) (L : Addr) (m : Str → Option Value) (s : Shared) (Q E : Value → Shared → Prop),
    Below A₀ base outer h₀ → Fr h₀ L s.heap m → Frag.In (Mine.hd.heap_39 (World.params w)) h₀ → News h₀ L s.heap news → Top Mine.hd.view_39 (looseW Mine.hd.view_39 []) mean mg mb h₀ → cs.kind = .function →
    dp + k < recursionLimit → un + 10 * k < cLine → Ret h₀ L m s Q →
      wpAny (model (RowW.prog (OpenRow.toRowW (OpenLaw.row Challenge.rw_nq0070_01))) w) (ktrTop dp un gd cn cs L a ccd cl outer) (call (.ref f) args) Q E s

/-- an item of the heap: its place, its three numbers -/
structure Item where
  adr : Addr
  c : Int
  f : Int
  b : Int
abbrev tup3 (c f b : Int) (t1 t2 t3 : Tok) : Obj := { cls := .type "tuple", data := .seq ([.int c t1, .int f t2, .int b t3] : List Value).toArray }
def Item.at (x : Item) (news : List (Addr × Obj)) : Prop := ∃ t1 t2 t3, (x.adr, tup3 x.c x.f x.b t1 t2 t3) ∈ news
abbrev heapO (xs : List Item) (n : Nat) : Obj := listOf (xs.map fun x => Value.ref x.adr).toArray n

end Mine
end
section
open PySem PySem.W PyProof.Rows PySem.Spec PySem.Calls
set_option maxRecDepth 100000
set_option maxHeartbeats 4000000
namespace Mine
def ltK (c f b c' f' b' : Int) : Bool := decide (c < c') || (decide (c = c') && (decide (f < f') || (decide (f = f') && decide (b < b'))))
section
variable {prog : Program} {w : World} {A : Around} {E : Value → Shared → Prop} {s : Shared}

theorem int_lt_rc {a b : Int} {t u : Tok} {Q : Value → Shared → Prop} (h : Q (.bool (decide (a < b))) s) : wpAny (model prog w) A (richCompare .Lt (.int a t) (.int b u)) Q E s :=
  show wpAny (model prog w) A (compareOp .Lt (.int a t) (.int b u)) Q E s from PyProof.Rows.lt_int h

theorem tup3_lt_tree {a a' : Addr} {c f b c' f' b' : Int} {t1 t2 t3 u1 u2 u3 : Tok} {P : Fin → Shared → Prop}
    (hx : IsTup s.heap a ([.int c t1, .int f t2, .int b t3] : List Value).toArray) (hy : IsTup s.heap a' ([.int c' u1, .int f' u2, .int b' u3] : List Value).toArray)
    (h : P (.done (.ret (.bool (ltK c f b c' f' b')))) s) :
    wpAny (model prog w) A (Builtin.«tuple.__lt__» ⟨[.ref a, .ref a'], []⟩) P E s := by
  have hTb := hy.typeIs
  show wpAny _ _ (isInstance (.ref a') (.type "tuple") >>= _) _ _ s
  refine wpAny_bind (wpAny_isInstance hTb isSubtype_tuple_tuple ?_)
  simp only [Bool.not_true, Bool.false_eq_true, if_false]
  refine wpAny_bind (tupleItemsOf_ hx ?_)
  refine wpAny_bind (tupleItemsOf_ hy ?_)
  unfold ltK at h
  simp only [List.zip_cons_cons, List.zip_nil_left, List.forIn_cons]
  refine wpAny_bind (wpAny_bind (wpAny_bind (wpAny_eqBool_int ?_)))
  by_cases e1 : c = c'
  · subst e1
    simp only [beq_self_eq_true, Bool.not_true, Bool.false_eq_true, if_false]
    refine wpAny_pure (wpAny_bind (wpAny_bind (wpAny_eqBool_int ?_)))
    by_cases e2 : f = f'
    · subst e2
      simp only [beq_self_eq_true, Bool.not_true, Bool.false_eq_true, if_false]
      refine wpAny_pure (wpAny_bind (wpAny_bind (wpAny_eqBool_int ?_)))
      by_cases e3 : b = b'
      · subst e3
        simp only [beq_self_eq_true, Bool.not_true, Bool.false_eq_true, if_false]
        refine wpAny_pure ?_
        refine wpAny_pure ?_
        refine wpAny_pure ?_
        simpa [Int.lt_irrefl, Builtin.Tuple.tupleCompareSizes] using h
      · rw [show (b == b') = false from beq_false_of_ne e3]
        simp only [Bool.not_false, if_true]
        refine wpAny_bind (wpAny_rule (wpAny_bind (int_lt_rc (wpAny_bind (wpAny_pure (wpAny_pure (wpAny_pure (wpAny_pure ?_))))))))
        simpa [Int.lt_irrefl] using h
    · rw [show (f == f') = false from beq_false_of_ne e2]
      simp only [Bool.not_false, if_true]
      refine wpAny_bind (wpAny_rule (wpAny_bind (int_lt_rc (wpAny_bind (wpAny_pure (wpAny_pure (wpAny_pure (wpAny_pure ?_))))))))
      simpa [Int.lt_irrefl, e2] using h
  · rw [show (c == c') = false from beq_false_of_ne e1]
    simp only [Bool.not_false, if_true]
    refine wpAny_bind (wpAny_rule (wpAny_bind (int_lt_rc (wpAny_bind (wpAny_pure (wpAny_pure (wpAny_pure (wpAny_pure ?_))))))))
    simpa [e1] using h

theorem tup3_lt {a a' : Addr} {c f b c' f' b' : Int} {t1 t2 t3 u1 u2 u3 : Tok} {Q : Value → Shared → Prop}
    (hx : IsTup s.heap a ([.int c t1, .int f t2, .int b t3] : List Value).toArray) (hy : IsTup s.heap a' ([.int c' u1, .int f' u2, .int b' u3] : List Value).toArray)
    (hu : A.units < cLine) (h : Q (.bool (ltK c f b c' f' b')) s) :
    wpAny (model prog w) A (compareOp .Lt (.ref a) (.ref a')) Q E s :=
  show wpAny (model prog w) A (richCompare .Lt (.ref a) (.ref a')) Q E s from
  wpAny_richCompare_same_room hx.typeIs hy.typeIs F.slot_tuple_lt
    (wpAny_call_entry F.slot_tuple_lt hx.typeIs F.entry_tuple_lt (tup3_lt_tree hx hy ⟨_, rfl, (nofun), h⟩) (F.args_tuple_lt_2 _ _)) hu

theorem sub_list {value slice : PySem.Expr} {l : Addr} {its : Array Value} {k : Int} {u : Tok} {v : Value} {Q : Value → Shared → Prop}
    (hl : s.heap.IsList l its) (h0 : 0 ≤ k) (hhi : k < 2 ^ 63) (hx : its[k.toNat]? = some v) (h : Q v s)
    (hs : subscripted slice false (.ref l) (.int k u) = operate [.ref l, .int k u] (getItem (.ref l) (.int k u)) := by with_unfolding_all rfl) :
    wpAny (model prog w) A (subscriptTail value slice (.ref l) (.int k u)) Q E s :=
  tail_any hl.typeIs slot_list_getitem.lookup (wpAny_getItem_list hl h0 hhi hx h) hs

variable {h₀ : Heap} {L D : Addr} {m : Str → Option Value} {news : List (Addr × Obj)}

/-- an item read off the heap -/
theorem heap_get {value slice : PySem.Expr} {l : Addr} {xs : List Item} {n : Nat} {k : Int} {u : Tok} {Q : Value → Shared → Prop}
    (N : News h₀ L s.heap news) (hm : (l, heapO xs n) ∈ news) (h0 : 0 ≤ k) (h1 : k < xs.length) (hf : xs.length < 1000)
    (h : ∀ x, xs[k.toNat]? = some x → Q (.ref x.adr) s)
    (hs : subscripted slice false (.ref l) (.int k u) = operate [.ref l, .int k u] (getItem (.ref l) (.int k u)) := by with_unfolding_all rfl) :
    wpAny (model prog w) A (subscriptTail value slice (.ref l) (.int k u)) Q E s := by
  have hk : k.toNat < xs.length := by omega
  refine sub_list (IsL.isList (n := n) (N _ hm).1) h0 (by omega) (v := .ref (xs[k.toNat]).adr) ?_ (h _ (List.getElem?_eq_getElem hk)) hs
  simp [hk]

theorem map_set_adr (xs : List Item) (k : Nat) (x : Item) : (xs.map fun x => Value.ref x.adr).toArray.setIfInBounds k (.ref x.adr) = ((xs.set k x).map fun x => Value.ref x.adr).toArray := by
  apply Array.toList_inj.mp
  simp [List.map_set]

/-- an item stored into the heap -/
theorem heap_set {l : Addr} {xs : List Item} {n : Nat} {k : Int} {u : Tok} {x : Item} {Q : Unit → Shared → Prop}
    (F : Fr h₀ L s.heap m) (N : News h₀ L s.heap ((l, heapO xs n) :: news)) (hn : ∀ p ∈ news, p.1 ≠ l) (h0 : 0 ≤ k) (h1 : k < xs.length) (hf : xs.length < 1000)
    (h : ∀ h', Fr h₀ L h' m → News h₀ L h' ((l, heapO (xs.set k.toNat x) n) :: news) → Q () { s with heap := h' }) :
    wpAny (model prog w) A (setItem (.ref l) (.int k u) (.ref x.adr)) Q E s := by
  have z := N (l, heapO xs n) (.head _)
  refine ki_setAt z.1 h0 (by omega) (by simp; omega) (h _ (F.change (Heap.SameBut.update ..) z.2.1 z.2.2) (ki_turn (pre := []) _ N (fun _ h => nomatch h) hn ?_ ?_))
  · exact map_set_adr xs k.toNat x
  · simp
end
end Mine
end
section
open PySem PySem.W PyProof.Rows PySem.Spec PySem.Calls
set_option maxRecDepth 100000
set_option maxHeartbeats 8000000
namespace Mine

def ltI (x y : Item) : Bool := ltK x.c x.f x.b y.c y.f y.b
def sdown (x : Item) (pos : Nat) (xs : List Item) : List Item :=
  if _h : pos = 0 then xs.set pos x else
    match xs[(pos - 1) / 2]? with
    | some p => if ltI x p then sdown x ((pos - 1) / 2) (xs.set pos p) else xs.set pos x
    | none => xs.set pos x
termination_by pos
decreasing_by omega

local macro_rules | `(tactic| walk_at "my enter") => `(tactic| (refine' code_def ?k1 ?k2 ?k3 ?k4 ?k5 ?kA ?kF ?kK ?k6 ?k7 ?k8 ?k9 ?kB ?_ ?c2 ?c3 ?c4 ?c5; (case kA => exact rfl); (case kF => exact rfl); (case kK => assumption); (case k1 => k_asm); (case k2 => k_asm); (case k3 => k_asm); (case k4 => k_asm); (case k5 => k_asm); (case k6 => k_is); (case k7 => k_is); (case k8 => ktr_room); (case k9 => exact BindsTo.of_eq rfl); (case c5 => decide); (case kB => exact locs rfl); (case c2 => exact rfl); (case c3 => exact rfl); (case c4 => exact rfl)))
theorem shr1 (a : Int) : Int.fdiv a (2 ^ Int.toNat 1) = a / 2 := by
  rw [show ((2 : Int) ^ Int.toNat 1) = 2 from rfl, Int.fdiv_eq_ediv_of_nonneg _ (by decide)]
local macro_rules | `(tactic| walk_at "my idx") => `(tactic| ((try dsimp only at *); first | omega | (simp only [shr1, decide_eq_true_eq, decide_eq_false_iff_not, gt_iff_lt, Int.not_lt] at *; omega)))
local macro_rules | `(tactic| walk_at "setItem") => `(tactic| (k_here; (with_reducible show wpAny _ _ (setItem (Value.ref _) (Value.int _ _) (Value.ref (Item.adr _))) _ _ _); k_dflt (refine' heap_set ?k1 ?k2 ?k3 ?k4 ?k5 ?k6 ?_; (case k1 => k_asm); (case k2 => k_asm); (case k3 => k_asm); (case k4 => walk_at "my idx"); (case k5 => walk_at "my idx"); (case k6 => walk_at "my idx"); k_whole); intro h' F' N'; (try k_sweep)))
local macro_rules | `(tactic| walk_at "subscriptTail") => `(tactic| (k_here; (with_reducible show wpAny _ _ (subscriptTail _ _ (Value.ref _) (Value.int _ _)) _ _ _); k_dflt (refine' heap_get ?k1 ?k2 ?k3 ?k4 ?k5 ?_ ?k7; (case k1 => k_asm); (case k2 => k_mem); (case k3 => walk_at "my idx"); (case k4 => walk_at "my idx"); (case k5 => walk_at "my idx"); (case k7 => with_unfolding_all rfl); k_whole); intro x hx'))

theorem Item.at_cons {x : Item} {p : Addr × Obj} {news : List (Addr × Obj)} (h : x.at news) : x.at (p :: news) := by
  obtain ⟨t1, t2, t3, h⟩ := h
  exact ⟨t1, t2, t3, .tail _ h⟩
theorem Item.at_of {x : Item} {xs : List Item} {i : Nat} {news : List (Addr × Obj)} (h : ∀ y ∈ xs, y.at news) (e : xs[i]? = some x) : x.at news := h _ (List.mem_of_getElem? e)
theorem item_lt {prog : Program} {w : World} {A : Around} {E : Value → Shared → Prop} {s : Shared} {h₀ : Heap} {L : Addr} {news : List (Addr × Obj)} {x y : Item} {Q : Value → Shared → Prop}
    (N : News h₀ L s.heap news) (hx : x.at news) (hy : y.at news) (hu : A.units < cLine) (h : Q (.bool (ltI x y)) s) : wpAny (model prog w) A (compareOp .Lt (.ref x.adr) (.ref y.adr)) Q E s := by
  obtain ⟨t1, t2, t3, mx⟩ := hx
  obtain ⟨u1, u2, u3, my⟩ := hy
  exact tup3_lt ⟨_, (N _ mx).1, rfl, _, rfl⟩ ⟨_, (N _ my).1, rfl, _, rfl⟩ hu h
local macro_rules | `(tactic| walk_at "my at") => `(tactic| first | assumption | exact Item.at_of (by assumption) (by assumption) | (refine Item.at_cons ?_; walk_at "my at"))
local macro_rules | `(tactic| walk_at "compareOp Lt ref ref") => `(tactic| (k_here; (with_reducible show wpAny _ _ (compareOp CmpOp.Lt (Value.ref (Item.adr _)) (Value.ref (Item.adr _))) _ _ _); k_dflt (refine' item_lt ?k1 ?k2 ?k3 ?k4 ?_; (case k1 => k_asm); (case k2 => walk_at "my at"); (case k3 => walk_at "my at"); (case k4 => ktr_units); k_whole)))
local macro_rules | `(tactic| walk_at "my same") => `(tactic| (intro z h2 h3; (simp only [List.forall_mem_cons, List.not_mem_nil, false_implies, implies_true, and_true, ne_eq] at h2); (simp only [List.contains_cons, List.contains_nil, Bool.or_false, Bool.or_eq_false_iff, beq_eq_false_iff_ne, ne_eq] at h3); (simp [kstB, h2, h3]; done)))
def Stopped (P : Prop) : Prop := P
theorem Stopped.out {P : Prop} (h : Stopped P) : P := h
local macro_rules | `(tactic| walk_at "exec While Compare cons nil") => `(tactic| refine Stopped.out ?_)
local macro_rules | `(tactic| walk_at "exec While") => `(tactic| refine Stopped.out ?_)

theorem sdown_step {x p : Item} {q : Nat} {ys : List Item} (h : 0 < q) (e : ys[(q - 1) / 2]? = some p) (hl : ltI x p = true) : sdown x ((q - 1) / 2) (ys.set q p) = sdown x q ys := by
  conv => rhs; unfold sdown
  rw [dif_neg (by omega), e]
  simp [hl]
theorem sdown_stop {x p : Item} {q : Nat} {ys : List Item} (h : 0 < q) (e : ys[(q - 1) / 2]? = some p) (hl : ltI x p = false) : ys.set q x = sdown x q ys := by
  conv => rhs; unfold sdown
  rw [dif_neg (by omega), e]
  simp [hl]
theorem sdown_zero {x : Item} {ys : List Item} : ys.set 0 x = sdown x 0 ys := by
  conv => rhs; unfold sdown
  rw [dif_pos rfl]
theorem half_cast {q : Nat} (h : 0 < q) : Int.fdiv ((q : Int) - 1) (2 ^ Int.toNat 1) = (((q - 1) / 2 : Nat) : Int) := by
  rw [shr1]; omega
theorem mem_set {α : Type} {P : α → Prop} {l : List α} {i : Nat} {a : α} (h : ∀ y ∈ l, P y) (ha : P a) : ∀ y ∈ l.set i a, P y := fun y hy => by
  rcases List.mem_or_eq_of_mem_set hy with h1 | h1
  · exact h y h1
  · rw [h1]; exact ha

theorem siftdown_tells (xs : List Item) (n : Nat) (l : Addr) (pos : Nat) (x : Item) (t0 tp : Tok) (news : List (Addr × Obj)) (hn : ∀ p ∈ news, p.1 ≠ l) (hx : ∀ x ∈ xs, x.at news) (hp : xs[pos]? = some x) (hf : xs.length < 1000) :
    Tells 5 42 [.ref l, .int 0 t0, .int (pos : Int) tp] ((l, heapO xs n) :: news) (fun h₀ L m s Q => ∀ h' tk', Fr h₀ L h' m → News h₀ L h' ((l, heapO (sdown x pos xs) n) :: news) → Q .none { s with heap := h', toks := tk' }) := by
  have hxa : x.at news := hx x (List.mem_of_getElem? hp)
  have hlt : pos < xs.length := (List.getElem?_eq_some_iff.mp hp).1
  unfold Tells
  w_top off
  k_fill
  intro w mean mg mb dp un gd cn cs a ccd cl outer A₀ base h₀ L m s Q E B F X N T hk hd hu hret
  refine wpAny_call ?_
  k_dflt (walk_at "my enter")
  k_whole
  intro g' L' h' FG' F' N' B' X' T'
  dsimp only
  replace F' : Fr g' L' h' (fun y => List.lookup y [(Str.ofString "pos", .int pos tp), (Str.ofString "startpos", .int 0 t0), (Str.ofString "heap", .ref l)]) := F'
  (try k_lift B')
  (try k_fold)
  k_steps
  rename_i x' hx' h1 F1 N1
  rw [Int.toNat_natCast, hp] at hx'
  cases hx'
  unfold Stopped
  refine ksw_while (σ := List Item × Nat × Tok) (fun c => (l, heapO c.1 n) :: news) (fun c => [(Str.ofString "pos", .int (c.2.1 : Int) c.2.2)]) (fun _ => True) [Str.ofString "parentpos", Str.ofString "parent"]
    (fun c => c.1.length = xs.length ∧ (∀ y ∈ c.1, y.at news) ∧ c.2.1 < xs.length ∧ sdown x c.2.1 c.1 = sdown x pos xs) (fun c => c.2.1) (xs, pos, tp) F1 N1 trivial (by kst_all) ⟨rfl, hx, hlt, rfl⟩ ?_
  rintro ⟨ys, q, tq⟩ u h2 tk2 - ⟨c1, c2, c3, c4⟩ F2 N2
  dsimp only at *
  (try k_fold)
  k_steps
  · rename_i ha hA y hy hB hl hC hD FF NN
    have hq : 0 < q := by omega
    simp only [half_cast hq, Int.toNat_natCast] at hy FF NN
    have hya : y.at news := Item.at_of c2 hy
    refine ksw_end (ys.set q y, (q - 1) / 2, _) FF NN (fun _ h => h) trivial (by kst_all) (by walk_at "my same") ⟨by simpa using c1, mem_set c2 hya, by show (q - 1) / 2 < _; omega, ?_⟩ (by show (q - 1) / 2 < q; omega)
    exact (sdown_step hq hy hl).trans c4
  · rename_i ha hA y hy hB hl hC FF NN kF kN Tc kX
    have hq : 0 < q := by omega
    simp only [half_cast hq, Int.toNat_natCast] at hy kN
    rw [sdown_stop hq hy hl, c4] at kN
    exact hret _ _ kF kN
  · rename_i ha hA FF NN kF kN Tc kX
    have hq : q = 0 := by omega
    subst hq
    simp only [Int.toNat_natCast] at kN
    rw [sdown_zero, c4] at kN
    exact hret _ _ kF kN
end Mine
end
section
open PySem PySem.W PyProof.Rows PySem.Spec PySem.Calls
set_option maxRecDepth 100000
set_option maxHeartbeats 8000000
namespace Mine
--PRE
local macro_rules | `(tactic| walk_at "my enter") => `(tactic| (refine' code_def ?k1 ?k2 ?k3 ?k4 ?k5 ?kA ?kF ?kK ?k6 ?k7 ?k8 ?k9 ?kB ?_ ?c2 ?c3 ?c4 ?c5; (case kA => exact rfl); (case kF => exact rfl); (case kK => assumption); (case k1 => k_asm); (case k2 => k_asm); (case k3 => k_asm); (case k4 => k_asm); (case k5 => k_asm); (case k6 => k_is); (case k7 => k_is); (case k8 => ktr_room); (case k9 => exact BindsTo.of_eq rfl); (case c5 => decide); (case kB => exact locs rfl); (case c2 => exact rfl); (case c3 => exact rfl); (case c4 => exact rfl)))
local macro_rules | `(tactic| walk_at "my idx") => `(tactic| ((try dsimp only at *); first | omega | (simp only [shr1, decide_eq_true_eq, decide_eq_false_iff_not, gt_iff_lt, Int.not_lt] at *; omega)))
local macro_rules | `(tactic| walk_at "my same") => `(tactic| (intro z h2 h3; (simp only [List.forall_mem_cons, List.not_mem_nil, false_implies, implies_true, and_true, ne_eq] at h2); (simp only [List.contains_cons, List.contains_nil, Bool.or_false, Bool.or_eq_false_iff, beq_eq_false_iff_ne, ne_eq] at h3); (simp [kstB, h2, h3]; done)))
local macro_rules | `(tactic| walk_at "exec While") => `(tactic| refine Stopped.out ?_)
local macro_rules | `(tactic| walk_at "exec While Compare cons nil") => `(tactic| refine Stopped.out ?_)
local macro_rules | `(tactic| walk_at "call ref") => `(tactic| refine Stopped.out ?_)
local macro_rules | `(tactic| walk_at "KswEnd") => `(tactic| refine Stopped.out ?_)
--PRE END
local macro_rules | `(tactic| walk_at "setItem") => `(tactic| (k_here; (with_reducible show wpAny _ _ (setItem (Value.ref _) (Value.int _ _) (Value.ref (Item.adr _))) _ _ _); k_dflt (refine' heap_set ?k1 ?k2 ?k3 ?k4 ?k5 ?k6 ?_; (case k1 => k_asm); (case k2 => k_asm); (case k3 => k_asm); (case k4 => walk_at "my idx"); (case k5 => walk_at "my idx"); (case k6 => walk_at "my idx"); k_whole); intro h' F' N'; (try k_sweep)))
local macro_rules | `(tactic| walk_at "subscriptTail") => `(tactic| (k_here; (with_reducible show wpAny _ _ (subscriptTail _ _ (Value.ref _) (Value.int _ _)) _ _ _); k_dflt (refine' heap_get ?k1 ?k2 ?k3 ?k4 ?k5 ?_ ?k7; (case k1 => k_asm); (case k2 => k_mem); (case k3 => walk_at "my idx"); (case k4 => walk_at "my idx"); (case k5 => walk_at "my idx"); (case k7 => with_unfolding_all rfl); k_whole); intro x hx'))
local macro_rules | `(tactic| walk_at "my at") => `(tactic| first | assumption | exact Item.at_of (by assumption) (by assumption) | (refine Item.at_cons ?_; walk_at "my at"))
local macro_rules | `(tactic| walk_at "compareOp Lt ref ref") => `(tactic| (k_here; (with_reducible show wpAny _ _ (compareOp CmpOp.Lt (Value.ref (Item.adr _)) (Value.ref (Item.adr _))) _ _ _); k_dflt (refine' item_lt ?k1 ?k2 ?k3 ?k4 ?_; (case k1 => k_asm); (case k2 => walk_at "my at"); (case k3 => walk_at "my at"); (case k4 => ktr_units); k_whole)))

theorem heap_len {prog : Program} {w : World} {A : Around} {E : Value → Shared → Prop} {s : Shared} {h₀ : Heap} {L : Addr} {news : List (Addr × Obj)} {l : Addr} {xs : List Item} {n : Nat} {Q : Value → Shared → Prop}
    (N : News h₀ L s.heap news) (hm : (l, heapO xs n) ∈ news) (hf : xs.length < 1000)
    (h : ∀ t tk, Q (.int xs.length t) { s with toks := tk }) : wpAny (model prog w) A (call (.builtin "len") [.ref l]) Q E s := by
  have hl := IsL.isList (n := n) (N _ hm).1
  refine PyProof.Rows.len_list hl (by simp; omega) ?_
  simpa using h _ _
local macro_rules | `(tactic| walk_at "call builtin:len") => `(tactic| (k_here; (with_reducible show wpAny _ _ (call (Value.builtin "len") [Value.ref _]) _ _ _); k_dflt (refine' heap_len ?k1 ?k2 ?k3 ?_; (case k1 => k_asm); (case k2 => k_mem); (case k3 => walk_at "my idx"); k_whole); intro t9 tk9))

def pick (ys : List Item) (q : Nat) : Nat :=
  match ys[2 * q + 1]?, ys[2 * q + 2]? with
  | some a, some b => if ltI a b then 2 * q + 1 else 2 * q + 2
  | _, _ => 2 * q + 1
theorem pick_gt (ys : List Item) (q : Nat) : q < pick ys q := by
  unfold pick
  split
  · split <;> omega
  · omega
def supLoop (q : Nat) (ys : List Item) : List Item × Nat :=
  if _h : 2 * q + 1 < ys.length then
    match ys[pick ys q]? with
    | some p => supLoop (pick ys q) (ys.set q p)
    | none => (ys, q)
  else (ys, q)
termination_by ys.length - q
decreasing_by
  have := pick_gt ys q
  rw [List.length_set]
  omega
def sup (x : Item) (xs : List Item) : List Item := sdown x (supLoop 0 xs).2 ((supLoop 0 xs).1.set (supLoop 0 xs).2 x)
theorem supLoop_end {q : Nat} {ys : List Item} (h : ¬ 2 * q + 1 < ys.length) : supLoop q ys = (ys, q) := by
  rw [supLoop, dif_neg h]
theorem supLoop_step {q c : Nat} {ys : List Item} {p : Item} (h : 2 * q + 1 < ys.length) (hc : pick ys q = c) (e : ys[c]? = some p) : supLoop c (ys.set q p) = supLoop q ys := by
  subst hc
  conv => rhs; rw [supLoop, dif_pos h]
  rw [e]

theorem siftup_tells (xs : List Item) (n : Nat) (l : Addr) (x : Item) (t0 : Tok) (news : List (Addr × Obj)) (hn : ∀ p ∈ news, p.1 ≠ l) (hx : ∀ x ∈ xs, x.at news) (hp : xs[0]? = some x) (hf : xs.length < 1000) :
    Tells 10 49 [.ref l, .int 0 t0] ((l, heapO xs n) :: news) (fun h₀ L m s Q => ∀ h' tk', Fr h₀ L h' m → News h₀ L h' ((l, heapO (sup x xs) n) :: news) → Q .none { s with heap := h', toks := tk' }) := by
  have hxa : x.at news := hx x (List.mem_of_getElem? hp)
  have hlt : 0 < xs.length := (List.getElem?_eq_some_iff.mp hp).1
  unfold Tells
  w_top off
  k_fill
  intro w mean mg mb dp un gd cn cs a ccd cl outer A₀ base h₀ L m s Q E B F X N T hk hd hu hret
  refine wpAny_call ?_
  k_dflt (walk_at "my enter")
  k_whole
  intro g' L' h' FG' F' N' B' X' T'
  dsimp only
  replace F' : Fr g' L' h' (fun y => List.lookup y [(Str.ofString "pos", .int 0 t0), (Str.ofString "heap", .ref l)]) := F'
  (try k_lift B')
  (try k_fold)
  k_steps
  rename_i te tke hE hE2 x' hx' hE3 hE4 F1 N1
  rw [show Int.toNat 0 = 0 from rfl, hp] at hx'
  cases hx'
  unfold Stopped
  refine ksw_while (σ := List Item × Nat × Tok × Tok) (fun c => (l, heapO c.1 n) :: news) (fun c => [(Str.ofString "pos", .int (c.2.1 : Int) c.2.2.1), (Str.ofString "childpos", .int (2 * (c.2.1 : Int) + 1) c.2.2.2)]) (fun _ => True) [Str.ofString "rightpos"]
    (fun c => c.1.length = xs.length ∧ (∀ y ∈ c.1, y.at news) ∧ c.2.1 < xs.length ∧ supLoop c.2.1 c.1 = supLoop 0 xs) (fun c => xs.length - c.2.1) (xs, 0, t0, _) F1 N1 trivial (by kst_all) ⟨rfl, hx, hlt, rfl⟩ ?_
  rintro ⟨ys, q, tq, tc⟩ u h2 tk2 - ⟨c1, c2, c3, c4⟩ F2 N2
  dsimp only at *
  (try k_fold)
  k_steps
  · rename_i ha hA hb y1 hy1 y2 hy2 hl y hy hB hC hD FF NN
    have e1 : (2 * (q : Int) + 1) = ((2 * q + 1 : Nat) : Int) := by omega
    have e2 : (((2 * q + 1 : Nat) : Int) + 1) = ((2 * q + 2 : Nat) : Int) := by omega
    simp only [e1, e2, Int.toNat_natCast] at hy hy1 hy2 FF NN
    have hya : y.at news := Item.at_of c2 hy
    have hpk : pick ys q = 2 * q + 1 := by unfold pick; rw [hy1, hy2]; simp [hl]
    refine ksw_end (ys.set q y, 2 * q + 1, _, _) FF NN (fun _ h => h) trivial (by kst_all) (by walk_at "my same") ⟨by simpa using c1, mem_set c2 hya, by show 2 * q + 1 < _; omega, ?_⟩ (by show xs.length - (2 * q + 1) < xs.length - q; omega)
    exact (supLoop_step (by omega) hpk hy).trans c4
  · rename_i ha hA hb y1 hy1 y2 hy2 hl hX y hy hB hC hD FF NN
    have e1 : (2 * (q : Int) + 1) = ((2 * q + 1 : Nat) : Int) := by omega
    have e2 : (((2 * q + 1 : Nat) : Int) + 1) = ((2 * q + 2 : Nat) : Int) := by omega
    simp only [e1, e2, Int.toNat_natCast] at hy hy1 hy2 FF NN
    have hya : y.at news := Item.at_of c2 hy
    have hpk : pick ys q = 2 * q + 2 := by unfold pick; rw [hy1, hy2]; simp [hl]
    refine ksw_end (ys.set q y, 2 * q + 2, _, _) FF NN (fun _ h => h) trivial (by kst_all) (by walk_at "my same") ⟨by simpa using c1, mem_set c2 hya, by show 2 * q + 2 < _; omega, ?_⟩ (by show xs.length - (2 * q + 2) < xs.length - q; omega)
    exact (supLoop_step (by omega) hpk hy).trans c4
  · rename_i ha hA hb y hy hB hC hD FF NN
    have e1 : (2 * (q : Int) + 1) = ((2 * q + 1 : Nat) : Int) := by omega
    simp only [e1, Int.toNat_natCast] at hy FF NN
    have hya : y.at news := Item.at_of c2 hy
    have hpk : pick ys q = 2 * q + 1 := by unfold pick; rw [List.getElem?_eq_none (i := 2 * q + 2) (by omega)]; split <;> first | rfl | contradiction
    refine ksw_end (ys.set q y, 2 * q + 1, _, _) FF NN (fun _ h => h) trivial (by kst_all) (by walk_at "my same") ⟨by simpa using c1, mem_set c2 hya, by show 2 * q + 1 < _; omega, ?_⟩ (by show xs.length - (2 * q + 1) < xs.length - q; omega)
    exact (supLoop_step (by omega) hpk hy).trans c4
  · rename_i ha hA FF NN
    unfold Stopped
    simp only [Int.toNat_natCast] at NN
    have hend := supLoop_end (q := q) (ys := ys) (by omega)
    rw [c4] at hend
    refine siftdown_tells (ys.set q x) n l q x t0 tq news hn (mem_set c2 hxa) (by simp [c1, c3]) (by simpa [c1] using hf) w mean mg mb _ _ _ _ _ _ _ _ _ _ _ _ _ _ _ _ _ B' FF X' NN T' rfl (by ktr_room) (by ktr_units) ?_
    intro h9 tk9 F9 N9
    (try dsimp only)
    k_steps
    rename_i kF kN Tc kX
    refine hret _ _ kF ?_
    rw [sup, hend]
    exact kN
end Mine
end
section
open PySem PySem.W PyProof.Rows PySem.Spec PySem.Calls
set_option maxRecDepth 100000
set_option maxHeartbeats 8000000
namespace Mine
--PRE
local macro_rules | `(tactic| walk_at "my enter") => `(tactic| (refine' code_def ?k1 ?k2 ?k3 ?k4 ?k5 ?kA ?kF ?kK ?k6 ?k7 ?k8 ?k9 ?kB ?_ ?c2 ?c3 ?c4 ?c5; (case kA => exact rfl); (case kF => exact rfl); (case kK => assumption); (case k1 => k_asm); (case k2 => k_asm); (case k3 => k_asm); (case k4 => k_asm); (case k5 => k_asm); (case k6 => k_is); (case k7 => k_is); (case k8 => ktr_room); (case k9 => exact BindsTo.of_eq rfl); (case c5 => decide); (case kB => exact locs rfl); (case c2 => exact rfl); (case c3 => exact rfl); (case c4 => exact rfl)))
local macro_rules | `(tactic| walk_at "my idx") => `(tactic| ((try dsimp only at *); first | omega | (simp only [shr1, decide_eq_true_eq, decide_eq_false_iff_not, gt_iff_lt, Int.not_lt] at *; omega)))
local macro_rules | `(tactic| walk_at "my same") => `(tactic| (intro z h2 h3; (simp only [List.forall_mem_cons, List.not_mem_nil, false_implies, implies_true, and_true, ne_eq] at h2); (simp only [List.contains_cons, List.contains_nil, Bool.or_false, Bool.or_eq_false_iff, beq_eq_false_iff_ne, ne_eq] at h3); (simp [kstB, h2, h3]; done)))
local macro_rules | `(tactic| walk_at "exec While") => `(tactic| refine Stopped.out ?_)
local macro_rules | `(tactic| walk_at "exec While Compare cons nil") => `(tactic| refine Stopped.out ?_)
local macro_rules | `(tactic| walk_at "call ref") => `(tactic| refine Stopped.out ?_)
local macro_rules | `(tactic| walk_at "KswEnd") => `(tactic| refine Stopped.out ?_)
--PRE END
local macro_rules | `(tactic| walk_at "setItem") => `(tactic| (k_here; (with_reducible show wpAny _ _ (setItem (Value.ref _) (Value.int _ _) (Value.ref (Item.adr _))) _ _ _); k_dflt (refine' heap_set ?k1 ?k2 ?k3 ?k4 ?k5 ?k6 ?_; (case k1 => k_asm); (case k2 => k_asm); (case k3 => k_asm); (case k4 => walk_at "my idx"); (case k5 => walk_at "my idx"); (case k6 => walk_at "my idx"); k_whole); intro h' F' N'; (try k_sweep)))
local macro_rules | `(tactic| walk_at "subscriptTail") => `(tactic| (k_here; (with_reducible show wpAny _ _ (subscriptTail _ _ (Value.ref _) (Value.int _ _)) _ _ _); k_dflt (refine' heap_get ?k1 ?k2 ?k3 ?k4 ?k5 ?_ ?k7; (case k1 => k_asm); (case k2 => k_mem); (case k3 => walk_at "my idx"); (case k4 => walk_at "my idx"); (case k5 => walk_at "my idx"); (case k7 => with_unfolding_all rfl); k_whole); intro x hx'))
local macro_rules | `(tactic| walk_at "my at") => `(tactic| first | assumption | exact Item.at_of (by assumption) (by assumption) | (refine Item.at_cons ?_; walk_at "my at"))
local macro_rules | `(tactic| walk_at "compareOp Lt ref ref") => `(tactic| (k_here; (with_reducible show wpAny _ _ (compareOp CmpOp.Lt (Value.ref (Item.adr _)) (Value.ref (Item.adr _))) _ _ _); k_dflt (refine' item_lt ?k1 ?k2 ?k3 ?k4 ?_; (case k1 => k_asm); (case k2 => walk_at "my at"); (case k3 => walk_at "my at"); (case k4 => ktr_units); k_whole)))

local macro_rules | `(tactic| walk_at "call builtin:len") => `(tactic| (k_here; (with_reducible show wpAny _ _ (call (Value.builtin "len") [Value.ref _]) _ _ _); k_dflt (refine' heap_len ?k1 ?k2 ?k3 ?_; (case k1 => k_asm); (case k2 => k_mem); (case k3 => walk_at "my idx"); k_whole); intro t9 tk9))


section
variable {prog : Program} {w : World} {A : Around} {E : Value → Shared → Prop} {s : Shared} {h₀ : Heap} {L : Addr} {m : Str → Option Value} {news : List (Addr × Obj)} {l : Addr} {xs : List Item} {n : Nat}
theorem heap_append {x : Item} {Q : Value → Shared → Prop} (F : Fr h₀ L s.heap m) (N : News h₀ L s.heap ((l, heapO xs n) :: news)) (hn : ∀ p ∈ news, p.1 ≠ l) (hf : xs.length < 1000)
    (h : ∀ h', Fr h₀ L h' m → News h₀ L h' ((l, heapO (xs ++ [x]) (n + 1)) :: news) → Q .none { s with heap := h' }) : wpAny (model prog w) A (call (.builtin "list.append") [.ref l, .ref x.adr]) Q E s := by
  refine append_K F N (Upd.head hn) ?_ (by rw [List.size_toArray, List.length_map]; unfold sizeLine; omega)
  intro h' F' N'
  refine h h' F' ?_
  have e : heapO (xs ++ [x]) (n + 1) = listOf ((xs.map fun x => Value.ref x.adr).toArray.push (.ref x.adr)) (n + 1) := by
    simp [heapO]
  rw [e]
  exact N'
theorem heap_pop {x : Item} {Q : Value → Shared → Prop} (F : Fr h₀ L s.heap m) (N : News h₀ L s.heap ((l, heapO (xs ++ [x]) n) :: news)) (hn : ∀ p ∈ news, p.1 ≠ l) (hf : xs.length < 1000)
    (h : ∀ h', Fr h₀ L h' m → News h₀ L h' ((l, heapO xs (n + 1)) :: news) → Q (.ref x.adr) { s with heap := h' }) : wpAny (model prog w) A (call (.builtin "list.pop") [.ref l]) Q E s := by
  refine kl_pop F N (p := xs.map fun x => Value.ref x.adr) (y := .ref x.adr) ?_ (Upd.head hn) ?_ h
  · simp only [List.map_append, List.map_cons, List.map_nil]
    exact kpa_last _ _
  · simp only [List.map_append, List.map_cons, List.map_nil, List.length_append, List.length_map, List.length_cons, List.length_nil]
    unfold sizeLine; omega
theorem heap_truthy {Q : Bool → Shared → Prop} (N : News h₀ L s.heap news) (hm : (l, heapO xs n) ∈ news) (hf : xs.length < 1000) (h : ∀ tk, Q (!xs.isEmpty) { s with toks := tk }) : wpAny (model prog w) A (truthy (.ref l)) Q E s := by
  refine wpAny_truthy_list (IsL.isList (n := n) (N _ hm).1) (by simp; omega) ?_
  have e : (!(xs.map fun x => Value.ref x.adr).toArray.isEmpty) = !xs.isEmpty := by cases xs <;> rfl
  rw [e]
  exact h _
end
local macro_rules | `(tactic| walk_at "call builtin:list.append") => `(tactic| (k_here; (with_reducible show wpAny _ _ (call (Value.builtin _) [Value.ref _, Value.ref (Item.adr _)]) _ _ _); k_dflt (refine' heap_append ?k1 ?k2 ?k3 ?k4 ?_; (case k1 => k_asm); (case k2 => k_asm); (case k3 => k_asm); (case k4 => walk_at "my idx"); k_whole); intro h' F' N'; (try k_sweep)))
local macro_rules | `(tactic| walk_at "call builtin:list.pop") => `(tactic| (k_here; (with_reducible show wpAny _ _ (call (Value.builtin _) [Value.ref _]) _ _ _); k_dflt (refine' heap_pop ?k1 ?k2 ?k3 ?k4 ?_; (case k1 => k_asm); (case k2 => k_asm); (case k3 => k_asm); (case k4 => walk_at "my idx"); k_whole); intro h' F' N'; (try k_sweep)))
local macro_rules | `(tactic| walk_at "truthy ref") => `(tactic| (k_here; (with_reducible show wpAny _ _ (truthy (Value.ref _)) _ _ _); k_dflt (refine' heap_truthy ?k1 ?k2 ?k3 ?_; (case k1 => k_asm); (case k2 => k_mem); (case k3 => walk_at "my idx"); k_whole); intro tk9))

theorem push_tells (xs : List Item) (n : Nat) (l : Addr) (x : Item) (news : List (Addr × Obj)) (hn : ∀ p ∈ news, p.1 ≠ l) (hx : ∀ x ∈ xs, x.at news) (hxa : x.at news) (hf : xs.length < 900) :
    Tells 15 21 [.ref l, .ref x.adr] ((l, heapO xs n) :: news) (fun h₀ L m s Q => ∀ h' tk', Fr h₀ L h' m → News h₀ L h' ((l, heapO (sdown x xs.length (xs ++ [x])) (n + 1)) :: news) → Q .none { s with heap := h', toks := tk' }) := by
  unfold Tells
  w_top off
  k_fill
  intro w mean mg mb dp un gd cn cs a ccd cl outer A₀ base h₀ L m s Q E B F X N T hk hd hu hret
  refine wpAny_call ?_
  k_dflt (walk_at "my enter")
  k_whole
  intro g' L' h' FG' F' N' B' X' T'
  dsimp only
  replace F' : Fr g' L' h' (fun y => List.lookup y [(Str.ofString "item", .ref x.adr), (Str.ofString "heap", .ref l)]) := F'
  (try k_lift B')
  (try k_fold)
  have hxs' : ∀ y ∈ xs ++ [x], y.at news := fun y hy => by
    rcases List.mem_append.mp hy with h1 | h1
    · exact hx y h1
    · rw [List.mem_singleton.mp h1]; exact hxa
  have hf' : (xs ++ [x]).length < 1000 := by simp; omega
  k_steps
  rename_i hA FF NN t9 tk9
  unfold Stopped
  rw [show (((xs ++ [x]).length : Nat) : Int) - 1 = (xs.length : Int) by simp]
  refine siftdown_tells (xs ++ [x]) (n + 1) l xs.length x _ _ news hn hxs' (by simp) hf' w mean mg mb _ _ _ _ _ _ _ _ _ _ _ _ _ _ _ _ _ B' FF X' NN T' rfl (by ktr_room) (by ktr_units) ?_
  intro h9 tk9 F9 N9
  (try dsimp only)
  k_steps
  rename_i kF kN Tc kX
  exact hret _ _ kF kN

theorem replace_tells (xs : List Item) (n : Nat) (l : Addr) (x : Item) (news : List (Addr × Obj)) (hn : ∀ p ∈ news, p.1 ≠ l) (hx : ∀ x ∈ xs, x.at news) (hxa : x.at news) (h0 : 0 < xs.length) (hf : xs.length < 900) :
    Tells 15 35 [.ref l, .ref x.adr] ((l, heapO xs n) :: news) (fun h₀ L m s Q => ∀ v h' tk', Fr h₀ L h' m → News h₀ L h' ((l, heapO (sup x (xs.set 0 x)) n) :: news) → Q v { s with heap := h', toks := tk' }) := by
  unfold Tells
  w_top off
  k_fill
  intro w mean mg mb dp un gd cn cs a ccd cl outer A₀ base h₀ L m s Q E B F X N T hk hd hu hret
  refine wpAny_call ?_
  k_dflt (walk_at "my enter")
  k_whole
  intro g' L' h' FG' F' N' B' X' T'
  dsimp only
  replace F' : Fr g' L' h' (fun y => List.lookup y [(Str.ofString "item", .ref x.adr), (Str.ofString "heap", .ref l)]) := F'
  (try k_lift B')
  (try k_fold)
  k_steps
  rename_i x' hx' hA hB FF NN
  unfold Stopped
  rw [show Int.toNat 0 = 0 from rfl] at NN
  refine siftup_tells (xs.set 0 x) n l x _ news hn (mem_set hx hxa) (by simp [h0]) (by simp; omega) w mean mg mb _ _ _ _ _ _ _ _ _ _ _ _ _ _ _ _ _ B' FF X' NN T' rfl (by ktr_room) (by ktr_units) ?_
  intro h9 tk9 F9 N9
  (try dsimp only)
  k_steps
  rename_i kF kN Tc kX
  exact hret _ _ _ kF kN

theorem pop_tells (xs : List Item) (x : Item) (n : Nat) (l : Addr) (news : List (Addr × Obj)) (hn : ∀ p ∈ news, p.1 ≠ l) (hx : ∀ y ∈ xs ++ [x], y.at news) (hf : xs.length < 900) :
    Tells 15 28 [.ref l] ((l, heapO (xs ++ [x]) n) :: news) (fun h₀ L m s Q => ∀ v h' tk', Fr h₀ L h' m → News h₀ L h' ((l, heapO (if xs.isEmpty then [] else sup x (xs.set 0 x)) (n + 1)) :: news) → Q v { s with heap := h', toks := tk' }) := by
  have hxa : x.at news := hx x (by simp)
  have hxs : ∀ y ∈ xs, y.at news := fun y hy => hx y (List.mem_append_left _ hy)
  unfold Tells
  w_top off
  k_fill
  intro w mean mg mb dp un gd cn cs a ccd cl outer A₀ base h₀ L m s Q E B F X N T hk hd hu hret
  refine wpAny_call ?_
  k_dflt (walk_at "my enter")
  k_whole
  intro g' L' h' FG' F' N' B' X' T'
  dsimp only
  replace F' : Fr g' L' h' (fun y => List.lookup y [(Str.ofString "heap", .ref l)]) := F'
  (try k_lift B')
  (try k_fold)
  k_steps
  · rename_i hA hB FF NN tk9 he kF kN Tc kX
    refine hret _ _ _ kF ?_
    rw [if_pos he]
    rw [List.isEmpty_iff.mp he] at kN
    exact kN
  · rename_i hA hB FF NN tk9 he
    have h0 : 0 < xs.length := by
      cases xs with
      | nil => cases he
      | cons a r => simp
    k_steps
    rename_i x' hx' hC hD FG NG
    unfold Stopped
    rw [show Int.toNat 0 = 0 from rfl] at NG
    refine siftup_tells (xs.set 0 x) (n + 1) l x _ news hn (mem_set hxs hxa) (by simp [h0]) (by simp; omega) w mean mg mb _ _ _ _ _ _ _ _ _ _ _ _ _ _ _ _ _ B' FG X' NG T' rfl (by ktr_room) (by ktr_units) ?_
    intro h9 tk9 F9 N9
    (try dsimp only)
    k_steps
    rename_i kF kN Tc kX
    refine hret _ _ _ kF ?_
    rw [if_neg (by rw [he]; exact Bool.false_ne_true)]
    exact kN
end Mine
end
section
open PySem PySem.W PyProof.Rows PySem.Spec PySem.Calls
set_option maxRecDepth 100000
set_option maxHeartbeats 8000000
namespace Mine
local macro_rules | `(tactic| walk_at "my enter") => `(tactic| (refine' code_def ?k1 ?k2 ?k3 ?k4 ?k5 ?kA ?kF ?kK ?k6 ?k7 ?k8 ?k9 ?kB ?_ ?c2 ?c3 ?c4 ?c5; (case kA => exact rfl); (case kF => exact rfl); (case kK => assumption); (case k1 => k_asm); (case k2 => k_asm); (case k3 => k_asm); (case k4 => k_asm); (case k5 => k_asm); (case k6 => k_is); (case k7 => k_is); (case k8 => ktr_room); (case k9 => exact BindsTo.of_eq rfl); (case c5 => decide); (case kB => exact locs rfl); (case c2 => exact rfl); (case c3 => exact rfl); (case c4 => exact rfl)))
local macro_rules | `(tactic| walk_at "my same") => `(tactic| (intro z h2 h3; (simp only [List.forall_mem_cons, List.not_mem_nil, false_implies, implies_true, and_true, ne_eq] at h2); (simp only [List.contains_cons, List.contains_nil, Bool.or_false, Bool.or_eq_false_iff, beq_eq_false_iff_ne, ne_eq] at h3); (simp [kstB, h2, h3]; done)))
local macro_rules | `(tactic| walk_at "exec While") => `(tactic| refine Stopped.out ?_)
local macro_rules | `(tactic| walk_at "exec While Compare cons nil") => `(tactic| refine Stopped.out ?_)
local macro_rules | `(tactic| walk_at "call ref") => `(tactic| refine Stopped.out ?_)
local macro_rules | `(tactic| walk_at "KswEnd") => `(tactic| refine Stopped.out ?_)
def priceF (x y : Int) : Int := if x = y then 0 else if x < 4 ∧ x / 2 = y / 2 then 1 else 2

theorem price_tells (x y : Int) (tx ty : Tok) (news : List (Addr × Obj)) :
    Tells 5 75 [.int x tx, .int y ty] news (fun h₀ L m s Q => ∀ t h' tk', Fr h₀ L h' m → News h₀ L h' news → Q (.int (priceF x y) t) { s with heap := h', toks := tk' }) := by
  unfold Tells
  w_top off
  k_fill
  intro w mean mg mb dp un gd cn cs a ccd cl outer A₀ base h₀ L m s Q E B F X N T hk hd hu hret
  refine wpAny_call ?_
  k_dflt (walk_at "my enter")
  k_whole
  intro g' L' h' FG' F' N' B' X' T'
  dsimp only
  replace F' : Fr g' L' h' (fun z => List.lookup z [(Str.ofString "other", .int y ty), (Str.ofString "one", .int x tx)]) := F'
  (try k_lift B')
  (try k_fold)
  k_steps
  all_goals
    rename_i kF kN Tc kX
    refine cb_retI (Q := Q) hret ?_ kF kN
    have e : ∀ a : Int, Int.fdiv a 2 = a / 2 := fun a => Int.fdiv_eq_ediv_of_nonneg _ (by decide)
    simp only [e] at *
    unfold priceF
    repeat' split
    all_goals first | rfl | omega

structure Pair where
  adr : Addr
  f : Int
  b : Int
abbrev tup2 (f b : Int) (t1 t2 : Tok) : Obj := { cls := .type "tuple", data := .seq ([.int f t1, .int b t2] : List Value).toArray }
def Pair.at (x : Pair) (news : List (Addr × Obj)) : Prop := ∃ t1 t2, (x.adr, tup2 x.f x.b t1 t2) ∈ news
abbrev doneO (xs : List Pair) (n : Nat) : Obj := listOf (xs.map fun x => Value.ref x.adr).toArray n
theorem item_sub {prog : Program} {w : World} {A : Around} {E : Value → Shared → Prop} {s : Shared} {h₀ : Heap} {L : Addr} {news : List (Addr × Obj)} {value slice : PySem.Expr} {x : Item} {k : Int} {u : Tok} {i : Int} {Q : Value → Shared → Prop}
    (N : News h₀ L s.heap news) (hx : x.at news) (hk : (k = 0 ∧ i = x.c) ∨ (k = 1 ∧ i = x.f) ∨ (k = 2 ∧ i = x.b)) (h : ∀ t, Q (.int i t) s)
    (hs : subscripted slice false (.ref x.adr) (.int k u) = operate [.ref x.adr, .int k u] (getItem (.ref x.adr) (.int k u)) := by with_unfolding_all rfl) :
    wpAny (model prog w) A (subscriptTail value slice (.ref x.adr) (.int k u)) Q E s := by
  obtain ⟨t1, t2, t3, mx⟩ := hx
  have hT : IsTup s.heap x.adr ([.int x.c t1, .int x.f t2, .int x.b t3] : List Value).toArray := ⟨_, (N _ mx).1, rfl, _, rfl⟩
  rcases hk with ⟨rfl, rfl⟩ | ⟨rfl, rfl⟩ | ⟨rfl, rfl⟩
  · exact tail_any hT.typeIs slot_tuple_getitem.lookup (PyProof.Rows.getItem_tuple hT (j := 0) (by decide) (by decide) rfl rfl (h t1)) hs
  · exact tail_any hT.typeIs slot_tuple_getitem.lookup (PyProof.Rows.getItem_tuple hT (j := 1) (by decide) (by decide) rfl rfl (h t2)) hs
  · exact tail_any hT.typeIs slot_tuple_getitem.lookup (PyProof.Rows.getItem_tuple hT (j := 2) (by decide) (by decide) rfl rfl (h t3)) hs
theorem heap_getE {prog : Program} {w : World} {A : Around} {E : Value → Shared → Prop} {s : Shared} {h₀ : Heap} {L : Addr} {news : List (Addr × Obj)} {value slice : PySem.Expr} {l : Addr} {xs : List Item} {n : Nat} {k : Int} {u : Tok} {x : Item} {Q : Value → Shared → Prop}
    (N : News h₀ L s.heap news) (hm : (l, heapO xs n) ∈ news) (h0 : 0 ≤ k) (hf : xs.length < 1000) (hx : xs[k.toNat]? = some x) (h : Q (.ref x.adr) s)
    (hs : subscripted slice false (.ref l) (.int k u) = operate [.ref l, .int k u] (getItem (.ref l) (.int k u)) := by with_unfolding_all rfl) :
    wpAny (model prog w) A (subscriptTail value slice (.ref l) (.int k u)) Q E s := by
  have hl := (List.getElem?_eq_some_iff.mp hx).1
  refine heap_get N hm h0 (by omega) hf (fun y hy => ?_) hs
  rw [hx] at hy
  cases hy
  exact h
theorem fold_start_news {g' hE : Heap} {L' l d lc a0 : Addr} {vs : List Value} {nc : Nat} {news : List (Addr × Obj)} {t1 t2 t3 : Tok} {z : Int}
    (N1 : News g' L' hE ((d, listOf #[] 0) :: (l, listOf ([.ref a0] : List Value).toArray 0) :: (a0, tup3 0 0 z t1 t2 t3) :: (lc, listOf vs.toArray nc) :: news)) :
    ∃ t1 t2 t3, News g' L' hE ((l, heapO [⟨a0, 0, 0, z⟩] 0) :: (d, doneO [] 0) :: (lc, listOf vs.toArray nc) :: (a0, tup3 0 0 z t1 t2 t3) :: news) := by
  refine ⟨t1, t2, t3, fun p hp => N1 p ?_⟩
  rcases List.mem_cons.mp hp with e | hp
  · rw [e]; exact .tail _ (.head _)
  rcases List.mem_cons.mp hp with e | hp
  · rw [e]; exact .head _
  rcases List.mem_cons.mp hp with e | hp
  · rw [e]; exact .tail _ (.tail _ (.tail _ (.head _)))
  rcases List.mem_cons.mp hp with e | hp
  · rw [e]; exact .tail _ (.tail _ (.head _))
  exact .tail _ (.tail _ (.tail _ (.tail _ hp)))

theorem Pair.at_mono {x : Pair} {n1 n2 : List (Addr × Obj)} (h : x.at n1) (hs : ∀ p ∈ n1, p ∈ n2) : x.at n2 := by
  obtain ⟨t1, t2, h⟩ := h
  exact ⟨t1, t2, hs _ h⟩
theorem Item.at_mono {x : Item} {n1 n2 : List (Addr × Obj)} (h : x.at n1) (hs : ∀ p ∈ n1, p ∈ n2) : x.at n2 := by
  obtain ⟨t1, t2, t3, h⟩ := h
  exact ⟨t1, t2, t3, hs _ h⟩
def pairD (f b : Int) : Dat := .tuple [.int f, .int b]
theorem pair_all {news : List (Addr × Obj)} : ∀ {ds : List Pair}, (∀ p ∈ ds, p.at news) → DatAll news (ds.map fun x => Value.ref x.adr) (ds.map fun x => pairD x.f x.b)
  | [], _ => .nil
  | p :: r, h => by
    obtain ⟨t1, t2, hm⟩ := h p (.head _)
    exact .cons (.tuple hm (.cons (.int _ _) (.cons (.int _ _) .nil))) (pair_all fun q hq => h q (.tail _ hq))
theorem pair_ok (f b : Int) : kqdOk 8 (pairD f b) = true := rfl
section
variable {prog : Program} {w : World} {A : Around} {E : Value → Shared → Prop} {s : Shared} {h₀ : Heap} {L d : Addr} {m : Str → Option Value} {news : List (Addr × Obj)} {ds : List Pair} {k : Nat}
open Classical in
theorem done_in {a : Addr} {f b : Int} {t1 t2 : Tok} {Q : Value → Shared → Prop} (N : News h₀ L s.heap news) (hm : (d, doneO ds k) ∈ news) (hp : ∀ p ∈ ds, p.at news) (hx : (a, tup2 f b t1 t2) ∈ news) (hu : A.units + 64 < cLine)
    (h : Q (.bool (decide (∃ p ∈ ds, p.f = f ∧ p.b = b))) s) : wpAny (model prog w) A (compareOp .In (.ref a) (.ref d)) Q E s := by
  refine kqd_isIn (ds := ds.map fun x => pairD x.f x.b) (d := pairD f b) N hm rfl rfl (pair_all hp) (fun _ h => h) (.tuple hx (.cons (.int _ _) (.cons (.int _ _) .nil))) (fun _ h => h) ?_ (pair_ok f b) hu ?_
  · intro e he
    obtain ⟨p, _, rfl⟩ := List.mem_map.mp he
    exact pair_ok _ _
  · have e : (pairD f b ∈ ds.map fun x => pairD x.f x.b) ↔ ∃ p ∈ ds, p.f = f ∧ p.b = b := by
      rw [List.mem_map]
      constructor
      · rintro ⟨p, hp, e⟩
        simp only [pairD, Dat.tuple.injEq, List.cons.injEq, Dat.int.injEq, and_true] at e
        exact ⟨p, hp, e⟩
      · rintro ⟨p, hp, e1, e2⟩
        exact ⟨p, hp, by rw [e1, e2]⟩
    have e' : decide (pairD f b ∈ ds.map fun x => pairD x.f x.b) = decide (∃ p ∈ ds, p.f = f ∧ p.b = b) := by simp only [e]
    rw [e']
    exact h
theorem done_append {x : Pair} {news' : List (Addr × Obj)} {Q : Value → Shared → Prop} (F : Fr h₀ L s.heap m) (N : News h₀ L s.heap news) (hm : (d, doneO ds k) ∈ news) (hf : ds.length < 1000)
    (hs : ∀ p ∈ news', p.1 ≠ d ∧ p ∈ news)
    (h : ∀ h', Fr h₀ L h' m → News h₀ L h' ((d, doneO (ds ++ [x]) (k + 1)) :: news') → Q .none { s with heap := h' }) : wpAny (model prog w) A (call (.builtin "list.append") [.ref d, .ref x.adr]) Q E s := by
  have N' : News h₀ L s.heap ((d, doneO ds k) :: news') := fun p hp => by
    rcases List.mem_cons.mp hp with rfl | hp
    · exact N _ hm
    · exact N _ (hs p hp).2
  refine append_K F N' (Upd.head fun p hp => (hs p hp).1) ?_ (by rw [List.size_toArray, List.length_map]; unfold sizeLine; omega)
  intro h' F' N2
  refine h h' F' ?_
  have e : doneO (ds ++ [x]) (k + 1) = listOf ((ds.map fun x => Value.ref x.adr).toArray.push (.ref x.adr)) (k + 1) := by
    simp [doneO]
  rw [e]
  exact N2
end
end Mine
end
section
namespace Mine
theorem length_sdown (x : Item) (q : Nat) (xs : List Item) : (sdown x q xs).length = xs.length := by
  induction q using Nat.strongRecOn generalizing xs with
  | _ q ih =>
    unfold sdown
    split
    · simp
    · split
      · split
        · rw [ih _ (by omega)]; simp
        · simp
      · simp
theorem mem_sdown {x z : Item} {q : Nat} {xs : List Item} (h : z ∈ sdown x q xs) : z = x ∨ z ∈ xs := by
  induction q using Nat.strongRecOn generalizing xs with
  | _ q ih =>
    unfold sdown at h
    split at h
    · rcases List.mem_or_eq_of_mem_set h with h | h
      · exact .inr h
      · exact .inl h
    · split at h
      · rename_i p hp
        split at h
        · rcases ih _ (by omega) h with h | h
          · exact .inl h
          · rcases List.mem_or_eq_of_mem_set h with h | h
            · exact .inr h
            · exact .inr (h ▸ List.mem_of_getElem? hp)
        · rcases List.mem_or_eq_of_mem_set h with h | h
          · exact .inr h
          · exact .inl h
      · rcases List.mem_or_eq_of_mem_set h with h | h
        · exact .inr h
        · exact .inl h
theorem supLoop_facts (k : Nat) : ∀ (q : Nat) (ys : List Item), ys.length - q ≤ k → (supLoop q ys).1.length = ys.length ∧ ∀ z ∈ (supLoop q ys).1, z ∈ ys := by
  induction k with
  | zero =>
    intro q ys hk
    rw [supLoop_end (by omega)]
    exact ⟨rfl, fun _ h => h⟩
  | succ k ih =>
    intro q ys hk
    by_cases h : 2 * q + 1 < ys.length
    · cases e : ys[pick ys q]? with
      | none =>
        have e2 : supLoop q ys = (ys, q) := by rw [supLoop, dif_pos h, e]
        rw [e2]
        exact ⟨rfl, fun _ h => h⟩
      | some p =>
        rw [← supLoop_step h rfl e]
        have := pick_gt ys q
        obtain ⟨a, b⟩ := ih (pick ys q) (ys.set q p) (by simp; omega)
        refine ⟨by simpa using a, fun z hz => ?_⟩
        rcases List.mem_or_eq_of_mem_set (b z hz) with h | h
        · exact h
        · exact h ▸ List.mem_of_getElem? e
    · rw [supLoop_end h]
      exact ⟨rfl, fun _ h => h⟩
theorem length_sup (x : Item) (xs : List Item) : (sup x xs).length = xs.length := by
  unfold sup
  rw [length_sdown, List.length_set]
  exact (supLoop_facts _ 0 xs (Nat.le_refl _)).1
theorem mem_sup {x z : Item} {xs : List Item} (h : z ∈ sup x xs) : z = x ∨ z ∈ xs := by
  unfold sup at h
  rcases mem_sdown h with h | h
  · exact .inl h
  · rcases List.mem_or_eq_of_mem_set h with h | h
    · exact .inr ((supLoop_facts _ 0 xs (Nat.le_refl _)).2 z h)
    · exact .inl h
def popF (ys : List Item) (y : Item) : List Item := if ys.isEmpty then [] else sup y (ys.set 0 y)
theorem mem_popF {ys : List Item} {y z : Item} (h : z ∈ popF ys y) : z = y ∨ z ∈ ys := by
  unfold popF at h
  split at h
  · cases h
  · rcases mem_sup h with h | h
    · exact .inl h
    · rcases List.mem_or_eq_of_mem_set h with h | h
      · exact .inr h
      · exact .inl h
def pushF (xs : List Item) (x : Item) : List Item := sdown x xs.length (xs ++ [x])
theorem mem_pushF {xs : List Item} {x z : Item} (h : z ∈ pushF xs x) : z = x ∨ z ∈ xs := by
  rcases mem_sdown h with h | h
  · exact .inl h
  · rcases List.mem_append.mp h with h | h
    · exact .inr h
    · exact .inl (List.mem_singleton.mp h)
theorem length_pushF (xs : List Item) (x : Item) : (pushF xs x).length = xs.length + 1 := by
  unfold pushF
  rw [length_sdown]; simp
def replF (xs : List Item) (x : Item) : List Item := sup x (xs.set 0 x)
theorem mem_replF {xs : List Item} {x z : Item} (h : z ∈ replF xs x) : z = x ∨ z ∈ xs := by
  rcases mem_sup h with h | h
  · exact .inl h
  · rcases List.mem_or_eq_of_mem_set h with h | h
    · exact .inr h
    · exact .inl h
theorem length_replF (xs : List Item) (x : Item) : (replF xs x).length = xs.length := by
  unfold replF
  rw [length_sup]; simp
end Mine
end
section
namespace Mine
/-- one word laid on another: what it costs -/
inductive Al (sub : Nat → Nat → Int) : List Nat → List Nat → Int → Prop
  | nil : Al sub [] [] 0
  | sub (x y : Nat) {xs ys : List Nat} {c : Int} : Al sub xs ys c → Al sub (x :: xs) (y :: ys) (sub x y + c)
  | del (x : Nat) {xs ys : List Nat} {c : Int} : Al sub xs ys c → Al sub (x :: xs) ys (2 + c)
  | ins (y : Nat) {xs ys : List Nat} {c : Int} : Al sub xs ys c → Al sub xs (y :: ys) (2 + c)
structure SubOk (sub : Nat → Nat → Int) : Prop where
  self : ∀ x, sub x x = 0
  symm : ∀ x y, sub x y = sub y x
  nonneg : ∀ x y, 0 ≤ sub x y
  le2 : ∀ x y, sub x y ≤ 2
  tri : ∀ x y z, sub x z ≤ sub x y + sub y z
section
variable {sub : Nat → Nat → Int}
theorem Al.cast {a b : List Nat} {c c' : Int} (h : Al sub a b c) (e : c = c') : Al sub a b c' := e ▸ h
theorem Al.nonneg (H : SubOk sub) {a b : List Nat} {c : Int} (h : Al sub a b c) : 0 ≤ c := by
  induction h with
  | nil => exact Int.le_refl _
  | sub x y _ ih => have := H.nonneg x y; omega
  | del x _ ih => omega
  | ins y _ ih => omega
theorem Al.append {a b a' b' : List Nat} {c c' : Int} (h : Al sub a b c) (h' : Al sub a' b' c') : Al sub (a ++ a') (b ++ b') (c + c') := by
  induction h with
  | nil => exact h'.cast (by omega)
  | sub x y _ ih => exact (Al.sub x y ih).cast (by omega)
  | del x _ ih => exact (Al.del x ih).cast (by omega)
  | ins y _ ih => exact (Al.ins y ih).cast (by omega)
theorem Al.refl (H : SubOk sub) : ∀ a : List Nat, Al sub a a 0
  | [] => .nil
  | x :: a => (Al.sub x x (Al.refl H a)).cast (by rw [H.self]; rfl)
theorem Al.symm (H : SubOk sub) {a b : List Nat} {c : Int} (h : Al sub a b c) : Al sub b a c := by
  induction h with
  | nil => exact .nil
  | sub x y _ ih => exact (Al.sub y x ih).cast (by rw [H.symm y x])
  | del x _ ih => exact .ins x ih
  | ins y _ ih => exact .del y ih
theorem Al.reverse {a b : List Nat} {c : Int} (h : Al sub a b c) : Al sub a.reverse b.reverse c := by
  induction h with
  | nil => exact .nil
  | sub x y _ ih =>
    rw [List.reverse_cons, List.reverse_cons]
    exact (ih.append (.sub x y .nil)).cast (by omega)
  | del x _ ih =>
    rw [List.reverse_cons]
    have := ih.append (Al.del (sub := sub) x .nil)
    rw [List.append_nil] at this
    exact this.cast (by omega)
  | ins y _ ih =>
    rw [List.reverse_cons]
    have := ih.append (Al.ins (sub := sub) y .nil)
    rw [List.append_nil] at this
    exact this.cast (by omega)
theorem Al.split {l b : List Nat} {c : Int} (h : Al sub l b c) : ∀ {a a' : List Nat}, l = a ++ a' → ∃ b1 b2 c1 c2, b = b1 ++ b2 ∧ Al sub a b1 c1 ∧ Al sub a' b2 c2 ∧ c = c1 + c2 := by
  induction h with
  | nil =>
    intro a a' e
    obtain ⟨rfl, rfl⟩ := List.append_eq_nil_iff.mp e.symm
    exact ⟨[], [], 0, 0, rfl, .nil, .nil, rfl⟩
  | sub x y h0 ih =>
    intro a a' e
    cases a with
    | nil => exact ⟨[], _, 0, _, rfl, .nil, e ▸ Al.sub x y h0, by omega⟩
    | cons z a =>
      obtain ⟨rfl, e'⟩ := List.cons.inj e
      obtain ⟨b1, b2, c1, c2, rfl, h1, h2, rfl⟩ := ih e'
      exact ⟨y :: b1, b2, _, c2, rfl, .sub x y h1, h2, by omega⟩
  | del x h0 ih =>
    intro a a' e
    cases a with
    | nil => exact ⟨[], _, 0, _, rfl, .nil, e ▸ Al.del x h0, by omega⟩
    | cons z a =>
      obtain ⟨rfl, e'⟩ := List.cons.inj e
      obtain ⟨b1, b2, c1, c2, rfl, h1, h2, rfl⟩ := ih e'
      exact ⟨b1, b2, _, c2, rfl, .del x h1, h2, by omega⟩
  | ins y h0 ih =>
    intro a a' e
    obtain ⟨b1, b2, c1, c2, rfl, h1, h2, rfl⟩ := ih e
    exact ⟨y :: b1, b2, _, c2, rfl, .ins y h1, h2, by omega⟩
theorem Al.tri (H : SubOk sub) {a b : List Nat} {c : Int} (h : Al sub a b c) : ∀ {d : List Nat} {c' : Int}, Al sub b d c' → ∃ c2, c2 ≤ c + c' ∧ Al sub a d c2 := by
  induction h with
  | nil => intro d c' h'; exact ⟨c', by omega, h'⟩
  | sub x y h0 ih =>
    intro d c' h'
    rename_i xs ys c0
    generalize hb : y :: ys = b at h'
    induction h' with
    | nil => cases hb
    | sub y' z h1 _ =>
      obtain ⟨rfl, rfl⟩ := List.cons.inj hb
      obtain ⟨c2, hc2, h2⟩ := ih h1
      have := H.tri x y z
      exact ⟨_, by omega, .sub x z h2⟩
    | del y' h1 _ =>
      obtain ⟨rfl, rfl⟩ := List.cons.inj hb
      obtain ⟨c2, hc2, h2⟩ := ih h1
      have := H.nonneg x y
      exact ⟨_, by omega, .del x h2⟩
    | ins z h1 ih2 =>
      obtain ⟨c2, hc2, h2⟩ := ih2 hb
      exact ⟨_, by omega, .ins z h2⟩
  | del x h0 ih =>
    intro d c' h'
    obtain ⟨c2, hc2, h2⟩ := ih h'
    exact ⟨_, by omega, .del x h2⟩
  | ins y h0 ih =>
    intro d c' h'
    rename_i xs ys c0
    generalize hb : y :: ys = b at h'
    induction h' with
    | nil => cases hb
    | sub y' z h1 _ =>
      obtain ⟨rfl, rfl⟩ := List.cons.inj hb
      obtain ⟨c2, hc2, h2⟩ := ih h1
      have := H.nonneg y z
      exact ⟨_, by omega, .ins z h2⟩
    | del y' h1 _ =>
      obtain ⟨rfl, rfl⟩ := List.cons.inj hb
      obtain ⟨c2, hc2, h2⟩ := ih h1
      exact ⟨c2, by omega, h2⟩
    | ins z h1 ih2 =>
      obtain ⟨c2, hc2, h2⟩ := ih2 hb
      exact ⟨_, by omega, .ins z h2⟩
theorem Al.cross {a b : List Nat} {c : Int} (h : Al sub a b c) : ∀ k, k ≤ a.length + b.length →
    (∃ a1 a2 b1 b2 c1 c2, a = a1 ++ a2 ∧ b = b1 ++ b2 ∧ a1.length + b1.length = k ∧ Al sub a1 b1 c1 ∧ Al sub a2 b2 c2 ∧ c = c1 + c2) ∨
    (∃ a1 x a2 b1 y b2 c1 c2, a = a1 ++ x :: a2 ∧ b = b1 ++ y :: b2 ∧ a1.length + b1.length + 1 = k ∧ Al sub a1 b1 c1 ∧ Al sub a2 b2 c2 ∧ c = c1 + sub x y + c2) := by
  induction h with
  | nil =>
    intro k hk
    have : k = 0 := by simpa using hk
    subst this
    exact .inl ⟨[], [], [], [], 0, 0, rfl, rfl, rfl, .nil, .nil, rfl⟩
  | sub x y h0 ih =>
    intro k hk
    rename_i xs ys c0
    match k with
    | 0 => exact .inl ⟨[], x :: xs, [], y :: ys, 0, _, rfl, rfl, rfl, .nil, .sub x y h0, by omega⟩
    | 1 => exact .inr ⟨[], x, xs, [], y, ys, 0, c0, rfl, rfl, rfl, .nil, h0, by omega⟩
    | k + 2 =>
      rcases ih k (by simp at hk; omega) with ⟨a1, a2, b1, b2, c1, c2, rfl, rfl, e, h1, h2, rfl⟩ | ⟨a1, x', a2, b1, y', b2, c1, c2, rfl, rfl, e, h1, h2, rfl⟩
      · exact .inl ⟨x :: a1, a2, y :: b1, b2, _, c2, rfl, rfl, by simp; omega, .sub x y h1, h2, by omega⟩
      · exact .inr ⟨x :: a1, x', a2, y :: b1, y', b2, _, c2, rfl, rfl, by simp; omega, .sub x y h1, h2, by omega⟩
  | del x h0 ih =>
    intro k hk
    rename_i xs ys c0
    match k with
    | 0 => exact .inl ⟨[], x :: xs, [], ys, 0, _, rfl, rfl, rfl, .nil, .del x h0, by omega⟩
    | k + 1 =>
      rcases ih k (by simp at hk; omega) with ⟨a1, a2, b1, b2, c1, c2, rfl, rfl, e, h1, h2, rfl⟩ | ⟨a1, x', a2, b1, y', b2, c1, c2, rfl, rfl, e, h1, h2, rfl⟩
      · exact .inl ⟨x :: a1, a2, b1, b2, _, c2, rfl, rfl, by simp; omega, .del x h1, h2, by omega⟩
      · exact .inr ⟨x :: a1, x', a2, b1, y', b2, _, c2, rfl, rfl, by simp; omega, .del x h1, h2, by omega⟩
  | ins y h0 ih =>
    intro k hk
    rename_i xs ys c0
    match k with
    | 0 => exact .inl ⟨[], xs, [], y :: ys, 0, _, rfl, rfl, rfl, .nil, .ins y h0, by omega⟩
    | k + 1 =>
      rcases ih k (by simp at hk; omega) with ⟨a1, a2, b1, b2, c1, c2, rfl, rfl, e, h1, h2, rfl⟩ | ⟨a1, x', a2, b1, y', b2, c1, c2, rfl, rfl, e, h1, h2, rfl⟩
      · exact .inl ⟨a1, a2, y :: b1, b2, _, c2, rfl, rfl, by simp; omega, .ins y h1, h2, by omega⟩
      · exact .inr ⟨a1, x', a2, y :: b1, y', b2, _, c2, rfl, rfl, by simp; omega, .ins y h1, h2, by omega⟩
end
/-- the least cost -/
def D (sub : Nat → Nat → Int) : List Nat → List Nat → Int
  | [], ys => 2 * (ys.length : Int)
  | x :: xs, [] => 2 * ((x :: xs).length : Int)
  | x :: xs, y :: ys => min (min (D sub xs (y :: ys)) (D sub (x :: xs) ys) + 2) (D sub xs ys + sub x y)
termination_by xs ys => xs.length + ys.length
section
variable {sub : Nat → Nat → Int}
theorem D_nil1 (ys : List Nat) : D sub [] ys = 2 * (ys.length : Int) := by rw [D]
theorem D_nil2 (xs : List Nat) : D sub xs [] = 2 * (xs.length : Int) := by
  cases xs with
  | nil => rw [D]
  | cons x xs => rw [D]
theorem D_cons (x y : Nat) (xs ys : List Nat) : D sub (x :: xs) (y :: ys) = min (min (D sub xs (y :: ys)) (D sub (x :: xs) ys) + 2) (D sub xs ys + sub x y) := by rw [D]
theorem al_ins : ∀ ys : List Nat, Al sub [] ys (2 * (ys.length : Int))
  | [] => .nil
  | y :: ys => (Al.ins y (al_ins ys)).cast (by simp; omega)
theorem al_del : ∀ xs : List Nat, Al sub xs [] (2 * (xs.length : Int))
  | [] => .nil
  | x :: xs => (Al.del x (al_del xs)).cast (by simp; omega)
theorem al_D : ∀ (n : Nat) (xs ys : List Nat), xs.length + ys.length ≤ n → Al sub xs ys (D sub xs ys) := by
  intro n
  induction n with
  | zero =>
    intro xs ys h
    have e1 : xs = [] := List.eq_nil_of_length_eq_zero (by omega)
    have e2 : ys = [] := List.eq_nil_of_length_eq_zero (by omega)
    subst e1 e2
    rw [D_nil1]
    exact .nil
  | succ n ih =>
    intro xs ys h
    cases xs with
    | nil => rw [D_nil1]; exact al_ins ys
    | cons x xs =>
      cases ys with
      | nil => rw [D_nil2]; exact al_del (x :: xs)
      | cons y ys =>
        rw [D_cons]
        simp only [List.length_cons] at h
        have h1 := ih xs (y :: ys) (by simp; omega)
        have h2 := ih (x :: xs) ys (by simp; omega)
        have h3 := ih xs ys (by omega)
        by_cases e1 : D sub xs ys + sub x y ≤ min (D sub xs (y :: ys)) (D sub (x :: xs) ys) + 2
        · rw [Int.min_eq_right e1]
          exact (Al.sub x y h3).cast (by omega)
        · rw [Int.min_eq_left (by omega)]
          by_cases e2 : D sub xs (y :: ys) ≤ D sub (x :: xs) ys
          · rw [Int.min_eq_left e2]
            exact (Al.del x h1).cast (by omega)
          · rw [Int.min_eq_right (by omega)]
            exact (Al.ins y h2).cast (by omega)
theorem al_min (xs ys : List Nat) : Al sub xs ys (D sub xs ys) := al_D _ xs ys (Nat.le_refl _)
theorem D_del (x : Nat) (xs ys : List Nat) : D sub (x :: xs) ys ≤ 2 + D sub xs ys := by
  cases ys with
  | nil => rw [D_nil2, D_nil2]; simp; omega
  | cons y ys => rw [D_cons]; omega
theorem D_ins (y : Nat) (xs ys : List Nat) : D sub xs (y :: ys) ≤ 2 + D sub xs ys := by
  cases xs with
  | nil => rw [D_nil1, D_nil1]; simp; omega
  | cons x xs => rw [D_cons]; omega
theorem D_le {xs ys : List Nat} {c : Int} (h : Al sub xs ys c) : D sub xs ys ≤ c := by
  induction h with
  | nil => rw [D_nil1]; simp
  | sub x y _ ih => rw [D_cons]; omega
  | del x _ ih => have := D_del (sub := sub) x; rename_i xs ys c _; have := this xs ys; omega
  | ins y _ ih => have := D_ins (sub := sub) y; rename_i xs ys c _; have := this xs ys; omega
end
end Mine
end
section
namespace Mine
section
variable {sub : Nat → Nat → Int} (H : SubOk sub)
include H
theorem D_nonneg (a b : List Nat) : 0 ≤ D sub a b := (al_min a b).nonneg H
theorem D_refl (a : List Nat) : D sub a a = 0 := by
  have h1 := D_le (Al.refl H a)
  have h2 := D_nonneg H a a
  omega
theorem D_symm (a b : List Nat) : D sub a b = D sub b a := by
  have h1 := D_le ((al_min (sub := sub) b a).symm H)
  have h2 := D_le ((al_min (sub := sub) a b).symm H)
  omega
theorem D_tri (a b d : List Nat) : D sub a d ≤ D sub a b + D sub b d := by
  obtain ⟨c, hc, h⟩ := (al_min (sub := sub) a b).tri H (al_min b d)
  have := D_le h
  omega
theorem D_head (x : Nat) (a b : List Nat) : D sub (x :: a) (x :: b) = D sub a b := by
  have h1 := D_tri H a (x :: b) b
  have h2 := D_tri H a (x :: a) b
  have h3 := D_del (sub := sub) x b b
  have h4 := D_ins (sub := sub) x a a
  rw [D_refl H] at h3 h4
  rw [D_cons, H.self]
  omega
theorem D_pre : ∀ (p a b : List Nat), D sub (p ++ a) (p ++ b) = D sub a b
  | [], _, _ => rfl
  | x :: p, a, b => (D_head H x _ _).trans (D_pre p a b)
end
section
variable {sub : Nat → Nat → Int}
theorem D_rev (a b : List Nat) : D sub a.reverse b.reverse = D sub a b := by
  have h1 := D_le (al_min (sub := sub) a b).reverse
  have h2 := D_le (al_min (sub := sub) a.reverse b.reverse).reverse
  rw [List.reverse_reverse, List.reverse_reverse] at h2
  omega
theorem D_post (H : SubOk sub) (p a b : List Nat) : D sub (a ++ p) (b ++ p) = D sub a b := by
  rw [← D_rev, List.reverse_append, List.reverse_append, D_pre H, D_rev]
theorem Al.len (H : SubOk sub) {a b : List Nat} {c : Int} (h : Al sub a b c) : 2 * ((b.length : Int) - a.length) ≤ c := by
  induction h with
  | nil => simp
  | sub x y _ ih => have := H.nonneg x y; simp only [List.length_cons]; omega
  | del x _ ih => simp only [List.length_cons]; omega
  | ins y _ ih => simp only [List.length_cons]; omega
theorem D_step (a b : List Nat) (i j : Nat) (hi : i < b.length) (hj : j < a.length) :
    D sub (b.take (i + 1)) (a.take (j + 1)) = min (min (D sub (b.take (i + 1)) (a.take j)) (D sub (b.take i) (a.take (j + 1))) + 2) (D sub (b.take i) (a.take j) + sub b[i] a[j]) := by
  have e1 : (b.take (i + 1)).reverse = b[i] :: (b.take i).reverse := by
    rw [List.take_succ_eq_append_getElem hi, List.reverse_append]; rfl
  have e2 : (a.take (j + 1)).reverse = a[j] :: (a.take j).reverse := by
    rw [List.take_succ_eq_append_getElem hj, List.reverse_append]; rfl
  rw [← D_rev (b.take (i + 1)) (a.take (j + 1)), ← D_rev (b.take (i + 1)) (a.take j), ← D_rev (b.take i) (a.take (j + 1)), ← D_rev (b.take i) (a.take j), e1, e2, D_cons]
  omega
theorem D_row (H : SubOk sub) (a b : List Nat) (i : Nat) (hi : i < b.length) (ha : 0 < a.length) : ∃ j, j < a.length ∧ D sub (b.take (i + 1)) (a.take (j + 1)) ≤ D sub b a := by
  obtain ⟨a1, a2, c1, c2, e, h1, h2, hc⟩ := (al_min (sub := sub) b a).split (List.take_append_drop (i + 1) b).symm
  have n2 := h2.nonneg H
  cases a1 with
  | nil =>
    refine ⟨0, ha, ?_⟩
    have h3 := D_le h1
    rw [D_nil2] at h3
    have hs := D_step (sub := sub) a b i 0 hi ha
    rw [List.take_zero, D_nil2, D_nil2, List.length_take, List.length_take] at hs
    rw [List.length_take] at h3
    have := H.le2 b[i] a[0]
    omega
  | cons x a1 =>
    refine ⟨a1.length, by rw [e]; simp; omega, ?_⟩
    have h3 := D_le h1
    have e2 : a.take (a1.length + 1) = x :: a1 := by rw [e]; simp
    rw [e2]
    omega
end
end Mine
end
section
namespace Mine
section
variable {sub : Nat → Nat → Int}
/-- the middle sign of a palindrome: it has a partner, or none -/
theorem Al.mid (H : SubOk sub) {l v : List Nat} {c : Int} (h : Al sub l v c) : ∀ {m : Nat} {q : List Nat}, l = m :: q →
    (∃ t v2 c3, v = t ++ v2 ∧ Al sub q v2 c3 ∧ 2 * (t.length : Int) + c3 ≤ c) ∨ (∃ t z v2 c3, v = t ++ z :: v2 ∧ Al sub q v2 c3 ∧ 2 * (t.length : Int) + c3 ≤ c) := by
  induction h with
  | nil => intro m q e; cases e
  | sub x y h0 _ =>
    intro m q e
    obtain ⟨rfl, rfl⟩ := List.cons.inj e
    have := H.nonneg x y
    exact .inr ⟨[], y, _, _, rfl, h0, by simp; omega⟩
  | del x h0 _ =>
    intro m q e
    obtain ⟨rfl, rfl⟩ := List.cons.inj e
    exact .inl ⟨[], _, _, rfl, h0, by simp; omega⟩
  | ins y h0 ih =>
    intro m q e
    rcases ih e with ⟨t, v2, c3, rfl, h1, hc⟩ | ⟨t, z, v2, c3, rfl, h1, hc⟩
    · exact .inl ⟨y :: t, v2, c3, rfl, h1, by simp only [List.length_cons]; omega⟩
    · exact .inr ⟨y :: t, z, v2, c3, rfl, h1, by simp only [List.length_cons]; omega⟩
variable (H : SubOk sub) {w : List Nat} {c : Int}
  (m1 : ∀ u v, w = u ++ v → c ≤ D sub u.reverse v) (m2 : ∀ u x v, w = u ++ x :: v → c ≤ D sub u.reverse v)
include H m1
theorem pal_even (h : List Nat) : c ≤ D sub w (h ++ h.reverse) := by
  obtain ⟨u, v, c1, c2, e, h1, h2, hc⟩ := ((al_min (sub := sub) w (h ++ h.reverse)).symm H).split rfl
  obtain ⟨c3, hc3, h3⟩ := (h1.reverse.symm H).tri H h2
  have := D_le h3
  have := m1 u v e
  omega
include m2
theorem pal_odd (h : List Nat) : c ≤ D sub w (h ++ h.reverse.drop 1) := by
  cases e0 : h.reverse with
  | nil =>
    have : h = [] := by simpa using e0
    subst this
    exact pal_even H m1 []
  | cons m q =>
    have eh : h = q.reverse ++ [m] := by rw [← List.reverse_reverse h, e0, List.reverse_cons]
    subst eh
    show c ≤ D sub w (q.reverse ++ [m] ++ q)
    rw [List.append_assoc]
    obtain ⟨u, v, c1, c2, e, h1, h2, hc⟩ := ((al_min (sub := sub) w (q.reverse ++ ([m] ++ q))).symm H).split rfl
    rcases h2.mid H (m := m) (q := q) rfl with ⟨t, v2, c3, rfl, h3, hc3⟩ | ⟨t, z, v2, c3, rfl, h3, hc3⟩
    · have h4 := h1.append (al_ins (sub := sub) t)
      rw [List.append_nil] at h4
      have h5 := h4.reverse.symm H
      rw [List.reverse_reverse] at h5
      obtain ⟨c4, hc4, h6⟩ := h5.tri H h3
      have := D_le h6
      have := m1 (u ++ t) v2 (by rw [e, List.append_assoc])
      omega
    · have h4 := h1.append (al_ins (sub := sub) t)
      rw [List.append_nil] at h4
      have h5 := h4.reverse.symm H
      rw [List.reverse_reverse] at h5
      obtain ⟨c4, hc4, h6⟩ := h5.tri H h3
      have := D_le h6
      have := m2 (u ++ t) z v2 (by rw [e, List.append_assoc])
      omega
theorem mirror_ge : 2 * c ≤ D sub w w.reverse := by
  have hsplit : ∀ (u v p q : List Nat), w = u ++ v → w.reverse = p ++ q → p.length = v.length → p = v.reverse ∧ q = u.reverse := by
    intro u v p q e1 e2 hl
    rw [e1, List.reverse_append] at e2
    exact (List.append_inj e2 (by simp [hl])).imp Eq.symm Eq.symm
  rcases (al_min (sub := sub) w w.reverse).cross w.length (by simp) with ⟨u, v, p, q, c1, c2, e1, e2, hk, h1, h2, hc⟩ | ⟨u, x, v, p, y, q, c1, c2, e1, e2, hk, h1, h2, hc⟩
  · have hl : p.length = v.length := by
      have := congrArg List.length e1
      simp only [List.length_append] at this
      omega
    obtain ⟨rfl, rfl⟩ := hsplit u v p q e1 e2 hl
    have a1 := D_le h1
    have a2 := D_le ((h2.symm H))
    have a3 := D_rev (sub := sub) u v.reverse
    rw [List.reverse_reverse] at a3
    have := m1 u v e1
    omega
  · have hl : p.length = v.length := by
      have := congrArg List.length e1
      simp only [List.length_append, List.length_cons] at this
      omega
    have e2' : v.reverse ++ x :: u.reverse = p ++ y :: q := by
      rw [← e2, e1, List.reverse_append, List.reverse_cons]; simp
    obtain ⟨r1, r2⟩ := List.append_inj e2' (by simp [hl])
    obtain ⟨rfl, rfl⟩ := List.cons.inj r2
    subst r1
    have a1 := D_le h1
    have a2 := D_le ((h2.symm H))
    have a3 := D_rev (sub := sub) u v.reverse
    rw [List.reverse_reverse] at a3
    have := m2 u x v e1
    have := H.self x
    omega
end
end Mine
end
section
namespace Mine
section
variable {sub : Nat → Nat → Int}
theorem mirror_le (H : SubOk sub) (u v : List Nat) : D sub (u ++ v) (u ++ v).reverse ≤ 2 * D sub u.reverse v := by
  have h := al_min (sub := sub) u.reverse v
  have h1 := h.reverse
  rw [List.reverse_reverse] at h1
  have := D_le (h1.append (h.symm H))
  rw [List.reverse_append]
  omega
theorem mirror_le' (H : SubOk sub) (u : List Nat) (x : Nat) (v : List Nat) : D sub (u ++ x :: v) (u ++ x :: v).reverse ≤ 2 * D sub u.reverse v := by
  have h := al_min (sub := sub) u.reverse v
  have h1 := h.reverse
  rw [List.reverse_reverse] at h1
  have h2 := D_le (h1.append (Al.sub x x (h.symm H)))
  rw [H.self] at h2
  rw [List.reverse_append, List.reverse_cons, List.append_assoc]
  show D sub (u ++ x :: v) (v.reverse ++ x :: u.reverse) ≤ _
  omega
theorem pal_le (H : SubOk sub) (p u v : List Nat) : D sub (p ++ v) (p ++ u.reverse) ≤ D sub u.reverse v := by
  rw [D_pre H, D_symm H]
  exact Int.le_refl _
/-- the folding's end, told of the word -/
theorem fold_facts (H : SubOk sub) (w : List Nat) (c : Int) (f b : Nat) (hfb : f ≤ b) (hb1 : b ≤ f + 1) (hbn : b ≤ w.length) (hach : D sub (w.take f).reverse (w.drop b) ≤ c)
    (hmin : ∀ f' b', f' ≤ b' → b' ≤ f' + 1 → b' ≤ w.length → c ≤ D sub (w.take f').reverse (w.drop b')) :
    D sub w w.reverse = 2 * c ∧ D sub w (w.take b ++ (w.take f).reverse) = c ∧ (∀ h : List Nat, c ≤ D sub w (h ++ h.reverse)) ∧ (∀ h : List Nat, c ≤ D sub w (h ++ h.reverse.drop 1)) := by
  have m1 : ∀ u v, w = u ++ v → c ≤ D sub u.reverse v := by
    intro u v e
    have := hmin u.length u.length (Nat.le_refl _) (Nat.le_succ _) (by rw [e]; simp)
    rw [e] at this
    simpa using this
  have m2 : ∀ u x v, w = u ++ x :: v → c ≤ D sub u.reverse v := by
    intro u x v e
    have := hmin u.length (u.length + 1) (Nat.le_succ _) (Nat.le_refl _) (by rw [e]; simp)
    rw [e] at this
    have e1 : (u ++ x :: v).take u.length = u := by simp
    have e2 : (u ++ x :: v).drop (u.length + 1) = v := by rw [← List.drop_drop]; simp
    rw [e1, e2] at this
    exact this
  have hge := mirror_ge H m1 m2
  have p1 := pal_even H m1
  have p2 := pal_odd H m1 m2
  have hpl := pal_le (sub := sub) H (w.take b) (w.take f) (w.drop b)
  rw [List.take_append_drop] at hpl
  rcases Nat.lt_or_ge f b with hlt | hge2
  · have hb : b = f + 1 := by omega
    subst hb
    have hf : f < w.length := by omega
    have ew : w = w.take f ++ w[f] :: w.drop (f + 1) := by
      rw [← List.drop_eq_getElem_cons hf, List.take_append_drop]
    have hl := mirror_le' H (w.take f) w[f] (w.drop (f + 1))
    rw [← ew] at hl
    have ep : (w.take (f + 1)).reverse.drop 1 = (w.take f).reverse := by
      rw [List.take_succ_eq_append_getElem hf, List.reverse_append]; rfl
    have hp := p2 (w.take (f + 1))
    rw [ep] at hp
    exact ⟨by omega, by omega, p1, p2⟩
  · have hb : b = f := by omega
    subst hb
    have hl := mirror_le H (w.take b) (w.drop b)
    rw [List.take_append_drop] at hl
    have hp := p1 (w.take b)
    exact ⟨by omega, by omega, p1, p2⟩
end
end Mine
end
section
namespace Mine
theorem ltI_iff (x y : Item) : ltI x y = true ↔ x.c < y.c ∨ (x.c = y.c ∧ (x.f < y.f ∨ (x.f = y.f ∧ x.b < y.b))) := by
  unfold ltI ltK
  simp
def leI (x y : Item) : Prop := ltI y x = false
theorem leI_iff (x y : Item) : leI x y ↔ ¬ (y.c < x.c ∨ (y.c = x.c ∧ (y.f < x.f ∨ (y.f = x.f ∧ y.b < x.b)))) := by
  unfold leI
  rw [← ltI_iff, Bool.not_eq_true]
theorem leI_refl (x : Item) : leI x x := by rw [leI_iff]; omega
theorem leI_trans {x y z : Item} (h1 : leI x y) (h2 : leI y z) : leI x z := by
  rw [leI_iff] at *; omega
theorem leI_of_lt {x y : Item} (h : ltI x y = true) : leI x y := by
  rw [ltI_iff] at h; rw [leI_iff]; omega
theorem leI_cost {x y : Item} (h : leI x y) : x.c ≤ y.c := by
  rw [leI_iff] at h; omega
/-- in order at j: not less than its parent -/
def OrdAt (xs : List Item) (j : Nat) : Prop := ∀ p x, xs[(j - 1) / 2]? = some p → xs[j]? = some x → leI p x
def IsHeap (xs : List Item) : Prop := ∀ j, 0 < j → OrdAt xs j
theorem heap_head {xs : List Item} (h : IsHeap xs) {x : Item} (h0 : xs[0]? = some x) : ∀ (j : Nat) (y : Item), xs[j]? = some y → leI x y := by
  intro j
  induction j using Nat.strongRecOn with
  | _ j ih =>
    intro y hy
    by_cases e : j = 0
    · subst e
      rw [h0] at hy
      cases hy
      exact leI_refl x
    · have hl := (List.getElem?_eq_some_iff.mp hy).1
      have hp : (j - 1) / 2 < xs.length := by omega
      exact leI_trans (ih ((j - 1) / 2) (by omega) _ (List.getElem?_eq_getElem hp)) (h j (by omega) _ _ (List.getElem?_eq_getElem hp) hy)
theorem get_set {xs : List Item} {q j : Nat} {x y : Item} (h : (xs.set q x)[j]? = some y) : (j = q ∧ y = x) ∨ (j ≠ q ∧ xs[j]? = some y) := by
  rw [List.getElem?_set] at h
  by_cases e : q = j
  · rw [if_pos e] at h
    split at h
    · cases h; exact .inl ⟨e.symm, rfl⟩
    · cases h
  · rw [if_neg e] at h
    exact .inr ⟨fun h' => e h'.symm, h⟩
/-- what must hold ahead of sdown: a hole at q, for x -/
structure Hole (xs : List Item) (q : Nat) (x : Item) : Prop where
  lt : q < xs.length
  off : ∀ j, 0 < j → j ≠ q → (j - 1) / 2 ≠ q → OrdAt xs j
  kids : ∀ j y, 0 < j → (j - 1) / 2 = q → xs[j]? = some y → leI x y
  gap : ∀ j y p, 0 < q → 0 < j → (j - 1) / 2 = q → xs[j]? = some y → xs[(q - 1) / 2]? = some p → leI p y
theorem sdown_heap (x : Item) : ∀ (q : Nat) (xs : List Item), Hole xs q x → IsHeap (sdown x q xs) := by
  intro q
  induction q using Nat.strongRecOn with
  | _ q ih =>
    intro xs H
    have base : (0 < q → ∀ p, xs[(q - 1) / 2]? = some p → leI p x) → IsHeap (xs.set q x) := by
      intro hp j hj p y h1 h2
      rcases get_set h2 with ⟨rfl, rfl⟩ | ⟨hne, g2⟩
      · rcases get_set h1 with ⟨e, _⟩ | ⟨_, h1⟩
        · omega
        · exact hp hj p h1
      · rcases get_set h1 with ⟨e, rfl⟩ | ⟨hne2, h1⟩
        · exact H.kids j y hj e g2
        · exact H.off j hj hne hne2 p y h1 g2
    by_cases e : q = 0
    · subst e
      rw [← sdown_zero]
      exact base fun h => absurd h (Nat.lt_irrefl _)
    · have hq : 0 < q := by omega
      have hpl : (q - 1) / 2 < xs.length := by have := H.lt; omega
      have hg := List.getElem?_eq_getElem hpl
      generalize xs[(q - 1) / 2] = p at hg
      cases hl : ltI x p with
      | false =>
        rw [← sdown_stop hq hg hl]
        exact base fun _ p' h => by rw [hg] at h; cases h; exact hl
      | true =>
        rw [← sdown_step hq hg hl]
        refine ih _ (by omega) _ ⟨by rw [List.length_set]; exact hpl, ?_, ?_, ?_⟩
        · intro j hj hne hne2 p' y h1 h2
          rcases get_set h2 with ⟨rfl, rfl⟩ | ⟨hne3, g2⟩
          · exact absurd rfl hne2
          · rcases get_set h1 with ⟨e1, rfl⟩ | ⟨hne4, h1⟩
            · exact H.gap j y _ hq hj e1 g2 hg
            · exact H.off j hj hne3 hne4 p' y h1 g2
        · intro j y hj e1 h2
          rcases get_set h2 with ⟨rfl, rfl⟩ | ⟨hne3, g2⟩
          · exact leI_of_lt hl
          · exact leI_trans (leI_of_lt hl) (H.off j hj hne3 (by omega) p y (by rw [e1]; exact hg) g2)
        · intro j y p' hpp hj e1 h2 h3
          have h3' : xs[((q - 1) / 2 - 1) / 2]? = some p' := by
            rcases get_set h3 with ⟨e3, _⟩ | ⟨_, h3⟩
            · omega
            · exact h3
          have hpq : leI p' p := H.off ((q - 1) / 2) hpp (by omega) (by omega) p' p h3' hg
          rcases get_set h2 with ⟨rfl, rfl⟩ | ⟨hne3, g2⟩
          · exact hpq
          · exact leI_trans hpq (H.off j hj hne3 (by omega) p y (by rw [e1]; exact hg) g2)
theorem mem_setI {xs : List Item} {q : Nat} {x y : Item} (hq : q < xs.length) : y ∈ xs.set q x ↔ y = x ∨ ∃ j, j ≠ q ∧ xs[j]? = some y := by
  constructor
  · intro h
    obtain ⟨j, hj⟩ := List.mem_iff_getElem?.mp h
    rcases get_set hj with ⟨_, rfl⟩ | ⟨hne, g⟩
    · exact .inl rfl
    · exact .inr ⟨j, hne, g⟩
  · rintro (rfl | ⟨j, hne, g⟩)
    · exact List.mem_iff_getElem?.mpr ⟨q, by rw [List.getElem?_set, if_pos rfl, if_pos hq]⟩
    · exact List.mem_iff_getElem?.mpr ⟨j, by rw [List.getElem?_set, if_neg (fun e => hne e.symm)]; exact g⟩
theorem sdown_mem (x : Item) : ∀ (q : Nat) (xs : List Item), q < xs.length → ∀ y, y ∈ sdown x q xs ↔ (y = x ∨ ∃ j, j ≠ q ∧ xs[j]? = some y) := by
  intro q
  induction q using Nat.strongRecOn with
  | _ q ih =>
    intro xs hq y
    by_cases e : q = 0
    · subst e
      rw [← sdown_zero]
      exact mem_setI hq
    · have hq0 : 0 < q := by omega
      have hpl : (q - 1) / 2 < xs.length := by omega
      have hg := List.getElem?_eq_getElem hpl
      generalize xs[(q - 1) / 2] = p at hg
      cases hl : ltI x p with
      | false =>
        rw [← sdown_stop hq0 hg hl]
        exact mem_setI hq
      | true =>
        rw [← sdown_step hq0 hg hl, ih _ (by omega) _ (by rw [List.length_set]; exact hpl)]
        constructor
        · rintro (h | ⟨j, hne, h⟩)
          · exact .inl h
          · rcases get_set h with ⟨rfl, rfl⟩ | ⟨hne2, g⟩
            · exact .inr ⟨_, by omega, hg⟩
            · exact .inr ⟨j, hne2, g⟩
        · rintro (h | ⟨j, hne, h⟩)
          · exact .inl h
          · by_cases e2 : j = (q - 1) / 2
            · subst e2
              rw [hg] at h
              cases h
              exact .inr ⟨q, by omega, by rw [List.getElem?_set, if_pos rfl, if_pos hq]⟩
            · exact .inr ⟨j, e2, by rw [List.getElem?_set, if_neg (fun e => hne e.symm)]; exact h⟩
/-- push -/
theorem push_heap {xs : List Item} (h : IsHeap xs) (x : Item) : IsHeap (pushF xs x) ∧ ∀ y, y ∈ pushF xs x ↔ y = x ∨ y ∈ xs := by
  have hl : xs.length < (xs ++ [x]).length := by simp
  have low : ∀ (j : Nat) (y : Item), j ≠ xs.length → ((xs ++ [x])[j]? = some y ↔ xs[j]? = some y) := by
    intro j y hne
    rcases Nat.lt_or_ge j xs.length with hj | hj
    · rw [List.getElem?_append_left hj]
    · rw [List.getElem?_eq_none (l := xs ++ [x]) (by simp; omega), List.getElem?_eq_none hj]
  constructor
  · refine sdown_heap x _ _ ⟨hl, ?_, ?_, ?_⟩
    · intro j hj hne hne2 p y h1 h2
      exact h j hj p y ((low _ _ hne2).mp h1) ((low _ _ hne).mp h2)
    · intro j y hj e h2
      have := (List.getElem?_eq_some_iff.mp h2).1
      simp at this
      omega
    · intro j y p _ hj e h2 _
      have := (List.getElem?_eq_some_iff.mp h2).1
      simp at this
      omega
  · intro y
    unfold pushF
    rw [sdown_mem x _ _ hl]
    constructor
    · rintro (h1 | ⟨j, hne, h1⟩)
      · exact .inl h1
      · exact .inr (List.mem_iff_getElem?.mpr ⟨j, (low _ _ hne).mp h1⟩)
    · rintro (h1 | h1)
      · exact .inl h1
      · obtain ⟨j, hj⟩ := List.mem_iff_getElem?.mp h1
        have := (List.getElem?_eq_some_iff.mp hj).1
        exact .inr ⟨j, by omega, (low _ _ (by omega)).mpr hj⟩
theorem pick_spec {ys : List Item} {q : Nat} (h : 2 * q + 1 < ys.length) : ∃ p, ys[pick ys q]? = some p ∧ (pick ys q - 1) / 2 = q ∧ 0 < pick ys q ∧ ∀ j y, 0 < j → (j - 1) / 2 = q → ys[j]? = some y → leI p y := by
  have g1 := List.getElem?_eq_getElem h
  generalize ys[2 * q + 1] = a at g1
  have kid : ∀ j, 0 < j → (j - 1) / 2 = q → j = 2 * q + 1 ∨ j = 2 * q + 2 := by intro j hj e; omega
  cases g2 : ys[2 * q + 2]? with
  | none =>
    have e : pick ys q = 2 * q + 1 := by unfold pick; rw [g1, g2]
    rw [e]
    refine ⟨a, g1, by omega, by omega, fun j y hj hp hy => ?_⟩
    rcases kid j hj hp with rfl | rfl
    · rw [g1] at hy; cases hy; exact leI_refl _
    · rw [g2] at hy; cases hy
  | some b =>
    cases hl : ltI a b with
    | true =>
      have e : pick ys q = 2 * q + 1 := by unfold pick; rw [g1, g2]; simp [hl]
      rw [e]
      refine ⟨a, g1, by omega, by omega, fun j y hj hp hy => ?_⟩
      rcases kid j hj hp with rfl | rfl
      · rw [g1] at hy; cases hy; exact leI_refl _
      · rw [g2] at hy; cases hy; exact leI_of_lt hl
    | false =>
      have e : pick ys q = 2 * q + 2 := by unfold pick; rw [g1, g2]; simp [hl]
      rw [e]
      refine ⟨b, g2, by omega, by omega, fun j y hj hp hy => ?_⟩
      rcases kid j hj hp with rfl | rfl
      · rw [g1] at hy; cases hy; exact hl
      · rw [g2] at hy; cases hy; exact leI_refl _
structure SInv (ys : List Item) (q : Nat) : Prop where
  lt : q < ys.length
  off : ∀ j, 0 < j → (j - 1) / 2 ≠ q → OrdAt ys j
  gap : ∀ j y p, 0 < q → 0 < j → (j - 1) / 2 = q → ys[j]? = some y → ys[(q - 1) / 2]? = some p → leI p y
theorem supLoop_inv (n : Nat) : ∀ (q : Nat) (ys : List Item), ys.length - q ≤ n → SInv ys q →
    SInv (supLoop q ys).1 (supLoop q ys).2 ∧ (supLoop q ys).1.length ≤ 2 * (supLoop q ys).2 + 1 ∧
    ∀ y, (∃ j, j ≠ (supLoop q ys).2 ∧ (supLoop q ys).1[j]? = some y) ↔ (∃ j, j ≠ q ∧ ys[j]? = some y) := by
  induction n with
  | zero =>
    intro q ys hn H
    have := H.lt
    omega
  | succ n ih =>
    intro q ys hn H
    by_cases h : 2 * q + 1 < ys.length
    · obtain ⟨p, gp, ep, pp, hmin⟩ := pick_spec h
      rw [← supLoop_step h rfl gp]
      generalize pick ys q = c at gp ep pp
      have hc := (List.getElem?_eq_some_iff.mp gp).1
      have hqc : q < c := by omega
      have K : SInv (ys.set q p) c := by
        refine ⟨by rw [List.length_set]; exact hc, ?_, ?_⟩
        · intro j hj hne p' y h1 h2
          rcases get_set h2 with ⟨rfl, rfl⟩ | ⟨hne2, g2⟩
          · rcases get_set h1 with ⟨e, _⟩ | ⟨_, g1⟩
            · omega
            · exact H.gap c y p' hj pp ep gp g1
          · rcases get_set h1 with ⟨e, rfl⟩ | ⟨hne3, g1⟩
            · exact hmin j y hj e g2
            · exact H.off j hj hne3 p' y g1 g2
        · intro j y p' _ hj e h2 h3
          have hjq : j ≠ q := by omega
          rcases get_set h2 with ⟨e2, _⟩ | ⟨_, g2⟩
          · exact absurd e2 hjq
          · rw [ep] at h3
            rcases get_set h3 with ⟨_, rfl⟩ | ⟨hne, _⟩
            · exact H.off j hj (by omega) p' y (by rw [e]; exact gp) g2
            · exact absurd rfl hne
      obtain ⟨r1, r2, r3⟩ := ih c (ys.set q p) (by rw [List.length_set]; omega) K
      refine ⟨r1, r2, fun y => (r3 y).trans ?_⟩
      constructor
      · rintro ⟨j, hne, g⟩
        rcases get_set g with ⟨rfl, rfl⟩ | ⟨hne2, g⟩
        · exact ⟨c, by omega, gp⟩
        · exact ⟨j, hne2, g⟩
      · rintro ⟨j, hne, g⟩
        by_cases e : j = c
        · subst e
          rw [gp] at g
          cases g
          exact ⟨q, by omega, by rw [List.getElem?_set, if_pos rfl, if_pos H.lt]⟩
        · exact ⟨j, e, by rw [List.getElem?_set, if_neg (fun e => hne e.symm)]; exact g⟩
    · rw [supLoop_end h]
      exact ⟨H, by show ys.length ≤ 2 * q + 1; omega, fun y => Iff.rfl⟩
/-- the root replaced: in order again -/
theorem repl_heap {xs : List Item} (h : IsHeap xs) (h0 : 0 < xs.length) (x : Item) : IsHeap (replF xs x) ∧ ∀ y, y ∈ replF xs x ↔ y = x ∨ ∃ j, j ≠ 0 ∧ xs[j]? = some y := by
  have K : SInv (xs.set 0 x) 0 := by
    refine ⟨by rw [List.length_set]; exact h0, ?_, fun j y p h => absurd h (Nat.lt_irrefl _)⟩
    intro j hj hne p y h1 h2
    rcases get_set h1 with ⟨e, _⟩ | ⟨_, g1⟩
    · exact absurd e hne
    · rcases get_set h2 with ⟨e, _⟩ | ⟨_, g2⟩
      · omega
      · exact h j hj p y g1 g2
  obtain ⟨r1, r2, r3⟩ := supLoop_inv _ 0 (xs.set 0 x) (Nat.le_refl _) K
  unfold replF sup
  generalize (supLoop 0 (xs.set 0 x)).1 = ys at r1 r2 r3
  generalize (supLoop 0 (xs.set 0 x)).2 = q at r1 r2 r3
  have hl : q < (ys.set q x).length := by rw [List.length_set]; exact r1.lt
  have low : ∀ (j : Nat) (y : Item), j ≠ q → ((ys.set q x)[j]? = some y ↔ ys[j]? = some y) := by
    intro j y hne
    rw [List.getElem?_set, if_neg (fun e => hne e.symm)]
  constructor
  · refine sdown_heap x q _ ⟨hl, ?_, ?_, ?_⟩
    · intro j hj hne hne2 p y h1 h2
      exact r1.off j hj hne2 p y ((low _ _ hne2).mp h1) ((low _ _ hne).mp h2)
    · intro j y hj e h2
      have := (List.getElem?_eq_some_iff.mp h2).1
      rw [List.length_set] at this
      omega
    · intro j y p _ hj e h2 _
      have := (List.getElem?_eq_some_iff.mp h2).1
      rw [List.length_set] at this
      omega
  · intro y
    rw [sdown_mem x q _ hl]
    have e1 : (∃ j, j ≠ q ∧ (ys.set q x)[j]? = some y) ↔ ∃ j, j ≠ q ∧ ys[j]? = some y := by
      constructor
      · rintro ⟨j, hne, g⟩; exact ⟨j, hne, (low j y hne).mp g⟩
      · rintro ⟨j, hne, g⟩; exact ⟨j, hne, (low j y hne).mpr g⟩
    have e2 : (∃ j, j ≠ 0 ∧ (xs.set 0 x)[j]? = some y) ↔ ∃ j, j ≠ 0 ∧ xs[j]? = some y := by
      constructor
      · rintro ⟨j, hne, g⟩; exact ⟨j, hne, by rwa [List.getElem?_set, if_neg (fun e => hne e.symm)] at g⟩
      · rintro ⟨j, hne, g⟩; exact ⟨j, hne, by rw [List.getElem?_set, if_neg (fun e => hne e.symm)]; exact g⟩
    rw [e1, r3 y, e2]
/-- pop -/
theorem pop_heap {ys : List Item} {x : Item} (h : IsHeap (ys ++ [x])) : IsHeap (popF ys x) ∧ (popF ys x).length = ys.length ∧ ∀ y, y ∈ popF ys x ↔ ∃ j, j ≠ 0 ∧ (ys ++ [x])[j]? = some y := by
  unfold popF
  cases ys with
  | nil =>
    refine ⟨fun j _ p y h1 => by simp at h1, rfl, fun y => ?_⟩
    constructor
    · intro h; cases h
    · rintro ⟨j, hne, g⟩
      have := (List.getElem?_eq_some_iff.mp g).1
      simp at this
      omega
  | cons a r =>
    rw [if_neg (by simp)]
    generalize hys : a :: r = ys at h
    have h0 : 0 < ys.length := by rw [← hys]; simp
    have low : ∀ (j : Nat) (y : Item), ys[j]? = some y → (ys ++ [x])[j]? = some y := by
      intro j y g
      have := (List.getElem?_eq_some_iff.mp g).1
      rw [List.getElem?_append_left this]; exact g
    have hh : IsHeap ys := fun j hj p y h1 h2 => h j hj p y (low _ _ h1) (low _ _ h2)
    obtain ⟨r1, r2⟩ := repl_heap hh h0 x
    refine ⟨r1, length_replF ys x, fun y => (r2 y).trans ?_⟩
    constructor
    · rintro (rfl | ⟨j, hne, g⟩)
      · exact ⟨ys.length, by omega, by simp⟩
      · exact ⟨j, hne, low j y g⟩
    · rintro ⟨j, hne, g⟩
      rcases Nat.lt_or_ge j ys.length with hj | hj
      · rw [List.getElem?_append_left hj] at g
        exact .inr ⟨j, hne, g⟩
      · have := (List.getElem?_eq_some_iff.mp g).1
        simp at this
        have e : j = ys.length := by omega
        subst e
        simp at g
        exact .inl g.symm
end Mine
end
section
namespace Mine
section
variable {sub : Nat → Nat → Int}
/-- what it costs to fold w from its two ends up to f and b -/
def G (sub : Nat → Nat → Int) (w : List Nat) (f b : Nat) : Int := D sub (w.take f).reverse (w.drop b)
theorem G_start (w : List Nat) : G sub w 0 w.length = 0 := by
  unfold G
  rw [List.take_zero, List.drop_length, List.reverse_nil, D_nil1]
  rfl
theorem rev_take (w : List Nat) (f : Nat) (h : f < w.length) : (w.take (f + 1)).reverse = w[f] :: (w.take f).reverse := by
  rw [List.take_succ_eq_append_getElem h, List.reverse_append]; rfl
theorem G_both (w : List Nat) (f b : Nat) (hf : f < w.length) (hb : b < w.length) :
    G sub w (f + 1) b = min (min (G sub w f b) (G sub w (f + 1) (b + 1)) + 2) (G sub w f (b + 1) + sub w[f] w[b]) := by
  unfold G
  rw [rev_take w f hf, List.drop_eq_getElem_cons hb, D_cons]
theorem G_first (w : List Nat) (f b : Nat) (hf : f < w.length) : G sub w (f + 1) b ≤ 2 + G sub w f b := by
  unfold G
  rw [rev_take w f hf]
  exact D_del _ _ _
theorem G_last (w : List Nat) (f b : Nat) (hb : b < w.length) : G sub w f b ≤ 2 + G sub w f (b + 1) := by
  unfold G
  rw [List.drop_eq_getElem_cons hb]
  exact D_ins _ _ _
theorem G_left (w : List Nat) (b : Nat) (hb : b < w.length) : G sub w 0 b = 2 + G sub w 0 (b + 1) := by
  unfold G
  rw [List.take_zero, List.reverse_nil, D_nil1, D_nil1, List.length_drop, List.length_drop]
  omega
theorem G_right (w : List Nat) (f : Nat) (hf : f < w.length) : G sub w (f + 1) w.length = 2 + G sub w f w.length := by
  unfold G
  rw [List.drop_length, D_nil2, D_nil2, List.length_reverse, List.length_reverse, List.length_take, List.length_take]
  omega
end
def hasP (ds : List Pair) (f b : Int) : Prop := ∃ p ∈ ds, p.f = f ∧ p.b = b
def Reached (xs : List Item) (ds : List Pair) (f b k : Int) : Prop := hasP ds f b ∨ ∃ x ∈ xs, x.f = f ∧ x.b = b ∧ x.c ≤ k
open Classical in
/-- the cells of the grid that are not done -/
noncomputable def free (ds : List Pair) : Nat := ((List.range 64).filter fun k => decide (¬ hasP ds (k / 8 : Nat) (k % 8 : Nat))).length
structure FI (sub : Nat → Nat → Int) (w : List Nat) (xs : List Item) (ds : List Pair) : Prop where
  heap : IsHeap xs
  good : ∀ x ∈ xs, 0 ≤ x.f ∧ x.f ≤ x.b ∧ x.b ≤ (w.length : Int) ∧ G sub w x.f.toNat x.b.toNat ≤ x.c
  dn : ∀ p ∈ ds, 0 ≤ p.f ∧ 1 < p.b - p.f ∧ p.b ≤ (w.length : Int)
  start : Reached xs ds 0 w.length 0
  succ1 : ∀ p ∈ ds, Reached xs ds (p.f + 1) (p.b - 1) (G sub w p.f.toNat p.b.toNat + sub (w.getD p.f.toNat 0) (w.getD (p.b - 1).toNat 0))
  succ2 : ∀ p ∈ ds, Reached xs ds (p.f + 1) p.b (G sub w p.f.toNat p.b.toNat + 2)
  succ3 : ∀ p ∈ ds, Reached xs ds p.f (p.b - 1) (G sub w p.f.toNat p.b.toNat + 2)
  size : xs.length + 2 * free ds ≤ 200
  dsize : ds.length + free ds ≤ 64
theorem Reached.weak {xs : List Item} {ds : List Pair} {f b k k' : Int} (h : Reached xs ds f b k) (hk : k ≤ k') : Reached xs ds f b k' := by
  rcases h with h | ⟨x, hx, e1, e2, hc⟩
  · exact .inl h
  · exact .inr ⟨x, hx, e1, e2, by omega⟩
theorem free_le (ds : List Pair) : free ds ≤ 64 := by
  unfold free
  refine Nat.le_trans (List.length_filter_le _ _) ?_
  simp
section
variable {sub : Nat → Nat → Int} {w : List Nat} {xs : List Item} {ds : List Pair}
theorem FI.reach (H : SubOk sub) (I : FI sub w xs ds) : ∀ (n f b : Nat), f + (w.length - b) ≤ n → f ≤ b → b ≤ w.length → ¬ hasP ds f b → ∃ x ∈ xs, x.c ≤ G sub w f b := by
  intro n
  have go : ∀ (f b f' b' : Nat) (k : Int), f' ≤ b' → b' ≤ w.length → 0 ≤ k → G sub w f' b' + k ≤ G sub w f b → ¬ hasP ds f b → (hasP ds f' b' → Reached xs ds f b (G sub w f' b' + k)) → (¬ hasP ds f' b' → ∃ x ∈ xs, x.c ≤ G sub w f' b') → ∃ x ∈ xs, x.c ≤ G sub w f b := by
    intro f b f' b' k _ _ hk hG hnd h1 h2
    by_cases hd : hasP ds f' b'
    · rcases h1 hd with h | ⟨x, hx, _, _, hc⟩
      · exact absurd h hnd
      · exact ⟨x, hx, by omega⟩
    · obtain ⟨x, hx, hc⟩ := h2 hd
      exact ⟨x, hx, by omega⟩
  have st1 : ∀ (f b : Nat), hasP ds f (b + 1 : Nat) → Reached xs ds (f + 1 : Nat) b (G sub w f (b + 1) + sub (w.getD f 0) (w.getD b 0)) := by
    rintro f b ⟨p, hp, e1, e2⟩
    have := I.succ1 p hp
    rw [e1, e2] at this
    have ee : ((b + 1 : Nat) : Int) - 1 = (b : Int) := by omega
    rw [ee] at this
    simpa using this
  have st2 : ∀ (f b : Nat), hasP ds f b → Reached xs ds (f + 1 : Nat) b (G sub w f b + 2) := by
    rintro f b ⟨p, hp, e1, e2⟩
    have := I.succ2 p hp
    rw [e1, e2] at this
    simpa using this
  have st3 : ∀ (f b : Nat), hasP ds f (b + 1 : Nat) → Reached xs ds f b (G sub w f (b + 1) + 2) := by
    rintro f b ⟨p, hp, e1, e2⟩
    have := I.succ3 p hp
    rw [e1, e2] at this
    have ee : ((b + 1 : Nat) : Int) - 1 = (b : Int) := by omega
    rw [ee] at this
    simpa using this
  induction n with
  | zero =>
    intro f b hn hfb hb hnd
    have e1 : f = 0 := by omega
    have e2 : b = w.length := by omega
    subst e1 e2
    rcases I.start with h | ⟨x, hx, _, _, hc⟩
    · exact absurd h hnd
    · exact ⟨x, hx, by rw [G_start]; exact hc⟩
  | succ n ih =>
    intro f b hn hfb hb hnd
    cases f with
    | zero =>
      rcases Nat.lt_or_ge b w.length with hbl | hbl
      · refine go 0 b 0 (b + 1) 2 (by omega) (by omega) (by omega) (by have := G_left (sub := sub) w b hbl; omega) hnd (fun h => st3 0 b h) (fun h => ih 0 (b + 1) (by omega) (by omega) (by omega) h)
      · exact ih 0 b (by omega) hfb hb hnd
    | succ f =>
      rcases Nat.lt_or_ge b w.length with hbl | hbl
      · have hf : f < w.length := by omega
        have hG := G_both (sub := sub) w f b hf hbl
        have eg1 : w.getD f 0 = w[f] := by simp [List.getD_eq_getElem?_getD, hf]
        have eg2 : w.getD b 0 = w[b] := by simp [List.getD_eq_getElem?_getD, hbl]
        by_cases c1 : G sub w f (b + 1) + sub w[f] w[b] ≤ G sub w (f + 1) b
        · refine go (f + 1) b f (b + 1) (sub w[f] w[b]) (by omega) (by omega) (H.nonneg _ _) c1 hnd (fun h => ?_) (fun h => ih f (b + 1) (by omega) (by omega) (by omega) h)
          have := st1 f b h
          rw [eg1, eg2] at this
          exact this
        · by_cases c2 : G sub w f b + 2 ≤ G sub w (f + 1) b
          · exact go (f + 1) b f b 2 (by omega) hb (by omega) c2 hnd (fun h => st2 f b h) (fun h => ih f b (by omega) (by omega) hb h)
          · exact go (f + 1) b (f + 1) (b + 1) 2 (by omega) (by omega) (by omega) (by omega) hnd (fun h => st3 (f + 1) b h) (fun h => ih (f + 1) (b + 1) (by omega) (by omega) (by omega) h)
      · have e2 : b = w.length := by omega
        subst e2
        exact go (f + 1) w.length f w.length 2 (by omega) (Nat.le_refl _) (by omega) (by have := G_right (sub := sub) w f (by omega); omega) hnd (fun h => st2 f w.length h) (fun h => ih f w.length (by omega) (by omega) (Nat.le_refl _) h)
end
end Mine
end
section
namespace Mine
theorem filter_le {p q : Nat → Bool} (h : ∀ k, p k = true → q k = true) : ∀ l : List Nat, (l.filter p).length ≤ (l.filter q).length
  | [] => Nat.le_refl _
  | a :: l => by
    have ih := filter_le h l
    have ha := h a
    rw [List.filter_cons, List.filter_cons]
    cases e1 : p a with
    | true => rw [ha e1]; simpa using ih
    | false =>
      cases e2 : q a with
      | true => simp; omega
      | false => simpa using ih
theorem filter_lt {p q : Nat → Bool} (h : ∀ k, p k = true → q k = true) {k : Nat} (h1 : q k = true) (h2 : p k = false) : ∀ l : List Nat, k ∈ l → (l.filter p).length < (l.filter q).length
  | [], hk => nomatch hk
  | a :: l, hk => by
    rw [List.filter_cons, List.filter_cons]
    rcases List.mem_cons.mp hk with rfl | hk
    · have := filter_le h l
      rw [h1, h2]
      simp
      omega
    · have ih := filter_lt h h1 h2 l hk
      have ha := h a
      cases e1 : p a with
      | true => rw [ha e1]; simpa using ih
      | false =>
        cases e2 : q a with
        | true => simp; omega
        | false => simpa using ih
theorem hasP_snoc {ds : List Pair} {p : Pair} {f b : Int} : hasP (ds ++ [p]) f b ↔ hasP ds f b ∨ (p.f = f ∧ p.b = b) := by
  unfold hasP
  constructor
  · rintro ⟨q, hq, h⟩
    rcases List.mem_append.mp hq with hq | hq
    · exact .inl ⟨q, hq, h⟩
    · rw [List.mem_singleton.mp hq] at h; exact .inr h
  · rintro (⟨q, hq, h⟩ | h)
    · exact ⟨q, List.mem_append_left _ hq, h⟩
    · exact ⟨p, List.mem_append_right _ (.head _), h⟩
theorem free_snoc {ds : List Pair} {p : Pair} (hn : ¬ hasP ds p.f p.b) (h0 : 0 ≤ p.f) (h1 : p.f < 8) (h2 : 0 ≤ p.b) (h3 : p.b < 8) : free (ds ++ [p]) < free ds := by
  unfold free
  have e1 : (((p.f.toNat * 8 + p.b.toNat) / 8 : Nat) : Int) = p.f := by omega
  have e2 : (((p.f.toNat * 8 + p.b.toNat) % 8 : Nat) : Int) = p.b := by omega
  refine filter_lt (k := p.f.toNat * 8 + p.b.toNat) ?_ ?_ ?_ _ ?_
  · intro k hk
    simp only [decide_eq_true_eq] at hk ⊢
    exact fun h => hk (hasP_snoc.mpr (.inl h))
  · simp only [decide_eq_true_eq]
    rw [e1, e2]
    exact hn
  · simp only [decide_eq_false_iff_not, Classical.not_not]
    rw [e1, e2]
    exact hasP_snoc.mpr (.inr ⟨rfl, rfl⟩)
  · rw [List.mem_range]
    omega
section
variable {sub : Nat → Nat → Int} {w : List Nat} {xs : List Item} {ds : List Pair}
theorem FI.begin (w : List Nat) (a : PySem.Addr) : FI sub w [⟨a, 0, 0, (w.length : Int)⟩] [] := by
  have hf := free_le []
  refine ⟨?_, ?_, (fun p hp => absurd hp List.not_mem_nil), ?_, (fun p hp => absurd hp List.not_mem_nil), (fun p hp => absurd hp List.not_mem_nil), (fun p hp => absurd hp List.not_mem_nil), ?_, ?_⟩
  · intro j hj p x _ h2
    have := (List.getElem?_eq_some_iff.mp h2).1
    simp at this
    omega
  · intro x hx
    rw [List.mem_singleton.mp hx]
    refine ⟨Int.le_refl _, by simp, Int.le_refl _, ?_⟩
    have := G_start (sub := sub) w
    simp [this]
  · exact .inr ⟨_, .head _, rfl, rfl, Int.le_refl _⟩
  · simp; omega
  · simp; omega
/-- the head is the least of all that is not done -/
theorem FI.least (H : SubOk sub) (I : FI sub w xs ds) {x : Item} (h0 : xs[0]? = some x) (f b : Nat) (hfb : f ≤ b) (hb : b ≤ w.length) (hn : ¬ hasP ds f b) : x.c ≤ G sub w f b := by
  obtain ⟨y, hy, hc⟩ := I.reach H _ f b (Nat.le_refl _) hfb hb hn
  obtain ⟨j, hj⟩ := List.mem_iff_getElem?.mp hy
  have := leI_cost (heap_head I.heap h0 j y hj)
  omega
theorem FI.open_end (I : FI sub w xs ds) (f b : Nat) (h : b ≤ f + 1) : ¬ hasP ds f b := by
  rintro ⟨p, hp, e1, e2⟩
  have := (I.dn p hp).2.1
  omega
theorem FI.len (H : SubOk sub) (I : FI sub w xs ds) : 0 < xs.length := by
  obtain ⟨y, hy, _⟩ := I.reach H _ 0 0 (Nat.le_refl _) (Nat.le_refl _) (Nat.zero_le _) (I.open_end 0 0 (by omega))
  exact List.length_pos_of_mem hy
theorem Reached.mono {xs' : List Item} {ds' : List Pair} (hd : ∀ f b, hasP ds f b → hasP ds' f b) (hx : ∀ y ∈ xs, hasP ds' y.f y.b ∨ y ∈ xs') {f b k : Int} (h : Reached xs ds f b k) : Reached xs' ds' f b k := by
  rcases h with h | ⟨y, hy, rfl, rfl, hc⟩
  · exact .inl (hd _ _ h)
  · rcases hx y hy with h | h
    · exact .inl h
    · exact .inr ⟨y, h, rfl, rfl, hc⟩
theorem FI.pop {ys : List Item} {y : Item} (I : FI sub w (ys ++ [y]) ds) {x : Item} (h0 : (ys ++ [y])[0]? = some x) (hd : hasP ds x.f x.b) : FI sub w (popF ys y) ds := by
  obtain ⟨p1, p2, p3⟩ := pop_heap I.heap
  have hm : ∀ z ∈ ys ++ [y], hasP ds z.f z.b ∨ z ∈ popF ys y := by
    intro z hz
    obtain ⟨j, hj⟩ := List.mem_iff_getElem?.mp hz
    by_cases e : j = 0
    · subst e
      rw [h0] at hj
      cases hj
      exact .inl hd
    · exact .inr ((p3 z).mpr ⟨j, e, hj⟩)
  have hm2 : ∀ z ∈ popF ys y, z ∈ ys ++ [y] := by
    intro z hz
    obtain ⟨j, _, hj⟩ := (p3 z).mp hz
    exact List.mem_of_getElem? hj
  have hR : ∀ {f b k : Int}, Reached (ys ++ [y]) ds f b k → Reached (popF ys y) ds f b k := fun h => h.mono (fun _ _ h => h) hm
  have hs := I.size
  rw [List.length_append] at hs
  exact ⟨p1, fun z hz => I.good z (hm2 z hz), I.dn, hR I.start, fun p hp => hR (I.succ1 p hp), fun p hp => hR (I.succ2 p hp), fun p hp => hR (I.succ3 p hp), by rw [p2]; omega, I.dsize⟩
theorem FI.step (H : SubOk sub) (hw : w.length < 8) (I : FI sub w xs ds) {x : Item} (h0 : xs[0]? = some x) (hgt : 1 < x.b - x.f) (hn : ¬ hasP ds x.f x.b) (a1 a2 a3 a4 : PySem.Addr) :
    FI sub w (pushF (pushF (replF xs ⟨a1, x.c + sub (w.getD x.f.toNat 0) (w.getD (x.b - 1).toNat 0), x.f + 1, x.b - 1⟩) ⟨a2, x.c + 2, x.f + 1, x.b⟩) ⟨a3, x.c + 2, x.f, x.b - 1⟩) (ds ++ [⟨a4, x.f, x.b⟩]) ∧ free (ds ++ [⟨a4, x.f, x.b⟩]) < free ds := by
  obtain ⟨g1, g2, g3, g4⟩ := I.good x (List.mem_of_getElem? h0)
  have hfr : free (ds ++ [⟨a4, x.f, x.b⟩]) < free ds := free_snoc hn g1 (by show x.f < 8; omega) (by show 0 ≤ x.b; omega) (by show x.b < 8; omega)
  refine ⟨?_, hfr⟩
  have hl := (List.getElem?_eq_some_iff.mp h0).1
  have hc : x.c ≤ G sub w x.f.toNat x.b.toNat := I.least H h0 _ _ (by omega) (by omega) (by rw [Int.toNat_of_nonneg g1, Int.toNat_of_nonneg (by omega)]; exact hn)
  have hf : x.f.toNat < w.length := by omega
  have hb : (x.b - 1).toNat < w.length := by omega
  have eg1 : w.getD x.f.toNat 0 = w[x.f.toNat] := by simp [List.getD_eq_getElem?_getD, hf]
  have eg2 : w.getD (x.b - 1).toNat 0 = w[(x.b - 1).toNat] := by rw [List.getD_eq_getElem?_getD, List.getElem?_eq_getElem hb]; rfl
  have ef : (x.f + 1).toNat = x.f.toNat + 1 := by omega
  have eb : (x.b - 1).toNat + 1 = x.b.toNat := by omega
  have k1 := G_both (sub := sub) w x.f.toNat (x.b - 1).toNat hf hb
  have k2 := G_first (sub := sub) w x.f.toNat x.b.toNat hf
  have k3 := G_last (sub := sub) w x.f.toNat (x.b - 1).toNat hb
  rw [eb] at k1 k3
  generalize hpr : sub (w.getD x.f.toNat 0) (w.getD (x.b - 1).toNat 0) = pr
  rw [← eg1, ← eg2, hpr] at k1
  generalize hX1 : (⟨a1, x.c + pr, x.f + 1, x.b - 1⟩ : Item) = X1
  generalize hX2 : (⟨a2, x.c + 2, x.f + 1, x.b⟩ : Item) = X2
  generalize hX3 : (⟨a3, x.c + 2, x.f, x.b - 1⟩ : Item) = X3
  obtain ⟨q1, m1⟩ := repl_heap I.heap hl X1
  obtain ⟨q2, m2⟩ := push_heap q1 X2
  obtain ⟨q3, m3⟩ := push_heap q2 X3
  have hlen : (pushF (pushF (replF xs X1) X2) X3).length = xs.length + 2 := by rw [length_pushF, length_pushF, length_replF]
  generalize pushF (pushF (replF xs X1) X2) X3 = zs at q3 m3 hlen
  have hm : ∀ y, y ∈ zs ↔ y = X3 ∨ y = X2 ∨ y = X1 ∨ ∃ j, j ≠ 0 ∧ xs[j]? = some y := by
    intro y
    rw [m3, m2, m1]
  have hR : ∀ {f b k : Int}, Reached xs ds f b k → Reached zs (ds ++ [⟨a4, x.f, x.b⟩]) f b k := by
    intro f b k h
    refine h.mono (fun f b h => hasP_snoc.mpr (.inl h)) ?_
    intro y hy
    obtain ⟨j, hj⟩ := List.mem_iff_getElem?.mp hy
    by_cases e : j = 0
    · subst e
      rw [h0] at hj
      cases hj
      exact .inl (hasP_snoc.mpr (.inr ⟨rfl, rfl⟩))
    · exact .inr ((hm y).mpr (.inr (.inr (.inr ⟨j, e, hj⟩))))
  have new : ∀ p ∈ ds ++ [⟨a4, x.f, x.b⟩], p ∈ ds ∨ p = ⟨a4, x.f, x.b⟩ := by
    intro p hp
    rcases List.mem_append.mp hp with h | h
    · exact .inl h
    · exact .inr (List.mem_singleton.mp h)
  have hs := I.size
  have hds := I.dsize
  refine ⟨q3, ?_, ?_, hR I.start, ?_, ?_, ?_, by omega, by simp; omega⟩
  · intro y hy
    rcases (hm y).mp hy with rfl | rfl | rfl | ⟨j, _, hj⟩
    · rw [← hX3]
      dsimp only
      exact ⟨g1, by omega, by omega, by omega⟩
    · rw [← hX2]
      dsimp only
      rw [ef]
      exact ⟨by omega, by omega, by omega, by omega⟩
    · rw [← hX1]
      dsimp only
      rw [ef]
      exact ⟨by omega, by omega, by omega, by omega⟩
    · exact I.good y (List.mem_of_getElem? hj)
  · intro p hp
    rcases new p hp with h | rfl
    · exact I.dn p h
    · exact ⟨g1, hgt, g3⟩
  · intro p hp
    rcases new p hp with h | rfl
    · exact hR (I.succ1 p h)
    · refine .inr ⟨X1, (hm _).mpr (.inr (.inr (.inl rfl))), ?_⟩
      rw [← hX1]
      dsimp only
      rw [hpr]
      exact ⟨rfl, rfl, by omega⟩
  · intro p hp
    rcases new p hp with h | rfl
    · exact hR (I.succ2 p h)
    · refine .inr ⟨X2, (hm _).mpr (.inr (.inl rfl)), ?_⟩
      rw [← hX2]
      exact ⟨rfl, rfl, by dsimp only; omega⟩
  · intro p hp
    rcases new p hp with h | rfl
    · exact hR (I.succ3 p h)
    · refine .inr ⟨X3, (hm _).mpr (.inl rfl), ?_⟩
      rw [← hX3]
      exact ⟨rfl, rfl, by dsimp only; omega⟩
/-- the folding's end -/
theorem FI.fin (H : SubOk sub) (I : FI sub w xs ds) {x : Item} (h0 : xs[0]? = some x) (hle : ¬ 1 < x.b - x.f) :
    0 ≤ x.f ∧ x.f ≤ x.b ∧ x.b ≤ (w.length : Int) ∧ D sub w w.reverse = 2 * x.c ∧ D sub w (w.take x.b.toNat ++ (w.take x.f.toNat).reverse) = x.c ∧ (∀ h : List Nat, x.c ≤ D sub w (h ++ h.reverse)) ∧ (∀ h : List Nat, x.c ≤ D sub w (h ++ h.reverse.drop 1)) := by
  obtain ⟨g1, g2, g3, g4⟩ := I.good x (List.mem_of_getElem? h0)
  refine ⟨g1, g2, g3, fold_facts H w x.c x.f.toNat x.b.toNat (by omega) (by omega) (by omega) g4 ?_⟩
  intro f b h1 h2 h3
  exact I.least H h0 f b h1 h3 (I.open_end f b h2)
end
end Mine
end
section
open PySem PySem.W PyProof.Rows PySem.Spec PySem.Calls
set_option maxRecDepth 100000
set_option maxHeartbeats 8000000
namespace Mine
local macro_rules | `(tactic| walk_at "my enter") => `(tactic| (refine' code_def ?k1 ?k2 ?k3 ?k4 ?k5 ?kA ?kF ?kK ?k6 ?k7 ?k8 ?k9 ?kB ?_ ?c2 ?c3 ?c4 ?c5; (case kA => exact rfl); (case kF => exact rfl); (case kK => assumption); (case k1 => k_asm); (case k2 => k_asm); (case k3 => k_asm); (case k4 => k_asm); (case k5 => k_asm); (case k6 => k_is); (case k7 => k_is); (case k8 => ktr_room); (case k9 => exact BindsTo.of_eq rfl); (case c5 => decide); (case kB => exact locs rfl); (case c2 => exact rfl); (case c3 => exact rfl); (case c4 => exact rfl)))
local macro_rules | `(tactic| walk_at "my same") => `(tactic| (intro z h2 h3; (simp only [List.forall_mem_cons, List.not_mem_nil, false_implies, implies_true, and_true, ne_eq] at h2); (simp only [List.contains_cons, List.contains_nil, Bool.or_false, Bool.or_eq_false_iff, beq_eq_false_iff_ne, ne_eq] at h3); (simp [kstB, h2, h3]; done)))
local macro_rules | `(tactic| walk_at "exec While") => `(tactic| refine Stopped.out ?_)
local macro_rules | `(tactic| walk_at "exec While Compare cons nil") => `(tactic| refine Stopped.out ?_)
local macro_rules | `(tactic| walk_at "call ref") => `(tactic| refine Stopped.out ?_)
local macro_rules | `(tactic| walk_at "KswEnd") => `(tactic| refine Stopped.out ?_)
local macro_rules | `(tactic| walk_at "call builtin:list.append") => `(tactic| refine Stopped.out ?_)
local macro_rules | `(tactic| walk_at "compareOp In") => `(tactic| refine Stopped.out ?_)
local macro_rules | `(tactic| walk_at "my at") => `(tactic| first | assumption | exact Item.at_of (by assumption) (by assumption) | (refine Item.at_cons ?_; walk_at "my at"))
local macro_rules | `(tactic| walk_at "my idx") => `(tactic| ((try dsimp only at *); first | omega | (simp only [shr1, decide_eq_true_eq, decide_eq_false_iff_not, gt_iff_lt, Int.not_lt] at *; omega)))
local macro_rules | `(tactic| walk_at "subscriptTail") => `(tactic| (k_here; (with_reducible show wpAny _ _ (subscriptTail _ _ (Value.ref _) (Value.int _ _)) _ _ _); k_dflt (refine' heap_get ?k1 ?k2 ?k3 ?k4 ?k5 ?_ ?k7; (case k1 => k_asm); (case k2 => k_mem); (case k3 => walk_at "my idx"); (case k4 => walk_at "my idx"); (case k5 => walk_at "my idx"); (case k7 => with_unfolding_all rfl); k_whole); intro x hx'))
local macro_rules | `(tactic| walk_at "subscriptTail") => `(tactic| (k_here; (with_reducible show wpAny _ _ (subscriptTail _ _ (Value.ref (Item.adr _)) (Value.int _ _)) _ _ _); k_dflt (refine' item_sub ?k1 ?k2 ?k3 ?_ ?k7; (case k1 => k_asm); (case k2 => walk_at "my at"); (case k3 => first | exact .inl ⟨rfl, rfl⟩ | exact .inr (.inl ⟨rfl, rfl⟩) | exact .inr (.inr ⟨rfl, rfl⟩)); (case k7 => with_unfolding_all rfl); k_whole); intro t9))
local macro_rules | `(tactic| walk_at "subscriptTail") => `(tactic| (k_here; (with_reducible show wpAny _ _ (subscriptTail _ _ (Value.ref _) (Value.int _ _)) _ _ _); k_dflt (refine' heap_getE ?k1 ?k2 ?k3 ?k4 ?k5 ?_ ?k7; (case k1 => k_asm); (case k2 => k_mem); (case k3 => walk_at "my idx"); (case k4 => walk_at "my idx"); (case k5 => assumption); (case k7 => with_unfolding_all rfl); k_whole)))
local macro_rules | `(tactic| walk_at "assign Tuple") => `(tactic| (k_here; (with_reducible show wpAny _ _ (assign (Expr.Tuple _ _ _) _ (Value.ref _)) _ _ _); k_dflt (refine' unpackN_ ?k1 ?k2 ?k3 ?k4 ?k5 ?k6 ?_; (case k1 => k_asm); (case k2 => k_asm); (case k3 => assumption); (case k4 => exact rfl); (case k5 => exact rfl); (case k6 => exact rfl); k_whole); intro h' F' N'; (try k_sweep)))
theorem reord1 {g h : Heap} {L D d l lc : Addr} {o1 o2 o3 : Obj} {rest : List (Addr × Obj)} {c f b : Int} {t1 t2 t3 : Tok} (N : News g L h ((D, tup3 c f b t1 t2 t3) :: (d, o1) :: (l, o2) :: (lc, o3) :: rest)) :
    ∃ t1 t2 t3, News g L h ((l, o2) :: (d, o1) :: (lc, o3) :: (D, tup3 c f b t1 t2 t3) :: rest) := by
  refine ⟨t1, t2, t3, fun p hp => N p ?_⟩
  simp only [List.mem_cons] at hp ⊢
  rcases hp with h | h | h | h | h <;> simp [h]
theorem reord2 {g h : Heap} {L D d l lc : Addr} {o1 o2 o3 : Obj} {rest : List (Addr × Obj)} {c f b : Int} {t1 t2 t3 : Tok} (N : News g L h ((D, tup3 c f b t1 t2 t3) :: (l, o2) :: (d, o1) :: (lc, o3) :: rest)) :
    ∃ t1 t2 t3, News g L h ((l, o2) :: (d, o1) :: (lc, o3) :: (D, tup3 c f b t1 t2 t3) :: rest) := by
  refine ⟨t1, t2, t3, fun p hp => N p ?_⟩
  simp only [List.mem_cons] at hp ⊢
  rcases hp with h | h | h | h | h <;> simp [h]
theorem off_l {d l lc : Addr} {o1 o3 : Obj} {tups : List (Addr × Obj)} (hdl : d ≠ l) (hcl : lc ≠ l) (c4 : ∀ p ∈ tups, p.1 ≠ l ∧ p.1 ≠ d) : ∀ p ∈ (d, o1) :: (lc, o3) :: tups, p.1 ≠ l := by
  intro p hp
  simp only [List.mem_cons] at hp
  rcases hp with h | h | h
  · rw [h]; exact hdl
  · rw [h]; exact hcl
  · exact (c4 p h).1
theorem off_cons {D d l : Addr} {o : Obj} {tups : List (Addr × Obj)} (h1 : l < D) (h2 : d < D) (c4 : ∀ p ∈ tups, p.1 ≠ l ∧ p.1 ≠ d) : ∀ p ∈ (D, o) :: tups, p.1 ≠ l ∧ p.1 ≠ d := by
  intro p hp
  simp only [List.mem_cons] at hp
  rcases hp with h | h
  · rw [h]; exact ⟨Nat.ne_of_gt h1, Nat.ne_of_gt h2⟩
  · exact c4 p h
theorem at_cons {xs : List Item} {tups : List (Addr × Obj)} {p : Addr × Obj} (c2 : ∀ y ∈ xs, y.at tups) : ∀ y ∈ xs, y.at (p :: tups) := fun y hy => Item.at_cons (c2 y hy)
theorem pat_cons {xs : List Pair} {tups : List (Addr × Obj)} {p : Addr × Obj} (c2 : ∀ y ∈ xs, y.at tups) : ∀ y ∈ xs, y.at (p :: tups) := fun y hy => Pair.at_mono (c2 y hy) fun _ h => .tail _ h
theorem fold_tells (ns : List Int) (FI : List Item → List Pair → Prop) (μ : List Item → List Pair → Nat)
    (hstart : ∀ a, FI [⟨a, 0, 0, ns.length⟩] [])
    (hok : ∀ (xs : List Item) (ds : List Pair), FI xs ds → 0 < xs.length ∧ xs.length < 800 ∧ ds.length < 800)
    (hhead : ∀ (xs : List Item) (ds : List Pair) (x : Item), FI xs ds → xs[0]? = some x → 0 ≤ x.f ∧ x.b ≤ (ns.length : Int))
    (hpop : ∀ (ys : List Item) (y : Item) (ds : List Pair) (x : Item), FI (ys ++ [y]) ds → (ys ++ [y])[0]? = some x → 1 < x.b - x.f → (∃ p ∈ ds, p.f = x.f ∧ p.b = x.b) →
      FI (popF ys y) ds ∧ μ (popF ys y) ds < μ (ys ++ [y]) ds)
    (hstep : ∀ (xs : List Item) (ds : List Pair) (x : Item) (a1 a2 a3 a4 : Addr), FI xs ds → xs[0]? = some x → 1 < x.b - x.f → (¬ ∃ p ∈ ds, p.f = x.f ∧ p.b = x.b) →
      FI (pushF (pushF (replF xs ⟨a1, x.c + priceF (ns.getD x.f.toNat 0) (ns.getD (x.b - 1).toNat 0), x.f + 1, x.b - 1⟩) ⟨a2, x.c + 2, x.f + 1, x.b⟩) ⟨a3, x.c + 2, x.f, x.b - 1⟩) (ds ++ [⟨a4, x.f, x.b⟩]) ∧
      μ (pushF (pushF (replF xs ⟨a1, x.c + priceF (ns.getD x.f.toNat 0) (ns.getD (x.b - 1).toNat 0), x.f + 1, x.b - 1⟩) ⟨a2, x.c + 2, x.f + 1, x.b⟩) ⟨a3, x.c + 2, x.f, x.b - 1⟩) (ds ++ [⟨a4, x.f, x.b⟩]) < μ xs ds)
    (vs : List Value) (nc : Nat) (lc : Addr) (hi : IntsAre vs ns) (h2 : 2 < ns.length) (h7 : ns.length < 8) (news : List (Addr × Obj)) (hn : ∀ p ∈ news, p.1 < lc) :
    Tells 30 82 [.ref lc] ((lc, listOf vs.toArray nc) :: news) (fun h₀ L m s Q => ∀ (xs : List Item) (ds : List Pair) (x : Item) (t1 t2 t3 : Tok) h' tk', FI xs ds → xs[0]? = some x → ¬ 1 < x.b - x.f → Fr h₀ L h' m →
      News h₀ L h' ((x.adr, tup3 x.c x.f x.b t1 t2 t3) :: (lc, listOf vs.toArray nc) :: news) → Q (.ref x.adr) { s with heap := h', toks := tk' }) := by
  unfold Tells
  w_top off
  k_fill
  intro w mean mg mb dp un gd cn cs a ccd cl outer A₀ base h₀ L m s Q E B F X N T hk hd hu hret
  refine wpAny_call ?_
  k_dflt (walk_at "my enter")
  k_whole
  intro g' L' h' FG' F' N' B' X' T'
  dsimp only
  replace F' : Fr g' L' h' (fun z => List.lookup z [(Str.ofString "codes", .ref lc)]) := F'
  (try k_lift B')
  (try k_fold)
  k_steps
  rename_i a0 hA l01 l hB l02 hC tkA d hD l03 hE F1 N1
  unfold Stopped
  obtain ⟨t1, t2, t3, N1'⟩ := fold_start_news N1
  have hl1 : ∀ p ∈ (a0, tup3 0 0 ns.length t1 t2 t3) :: news, p.1 ≠ l ∧ p.1 ≠ d := by
    intro p hp
    rcases List.mem_cons.mp hp with e | hp
    · subst e; exact ⟨Nat.ne_of_lt l02.1, Nat.ne_of_lt l03.2.1⟩
    · have := hn p hp; exact ⟨Nat.ne_of_lt (Nat.lt_trans this l02.2.1), Nat.ne_of_lt (Nat.lt_trans this l03.2.2.1)⟩
  refine ksw_while (σ := List Item × Nat × List Pair × Nat × List (Addr × Obj)) (fun c => (l, heapO c.1 c.2.1) :: (d, doneO c.2.2.1 c.2.2.2.1) :: (lc, listOf vs.toArray nc) :: c.2.2.2.2) (fun c => []) (fun _ => True) [Str.ofString "cost", Str.ofString "first", Str.ofString "behind", Str.ofString "price"]
    (fun c => FI c.1 c.2.2.1 ∧ (∀ y ∈ c.1, y.at c.2.2.2.2) ∧ (∀ y ∈ c.2.2.1, y.at c.2.2.2.2) ∧ (∀ p ∈ c.2.2.2.2, p.1 ≠ l ∧ p.1 ≠ d) ∧ (∀ p ∈ news, p ∈ c.2.2.2.2)) (fun c => μ c.1 c.2.2.1) ([⟨a0, 0, 0, ns.length⟩], 0, [], 0, (a0, tup3 0 0 ns.length t1 t2 t3) :: news) F1 N1' trivial (fun _ h => nomatch h) ?_ ?_
  · refine ⟨hstart a0, ?_, ?_, hl1, ?_⟩
    rotate_left
    · intro y hy; exact nomatch hy
    · intro p hp; exact List.Mem.tail _ hp
    intro y hy
    rw [List.mem_singleton.mp hy]
    exact ⟨t1, t2, t3, .head _⟩
  rintro ⟨xs, n, ds, k, tups⟩ u h2 tk2 - ⟨c1, c2, c3, c4, c5⟩ F2 N2
  dsimp only at *
  (try k_fold)
  obtain ⟨g1, g2, g3⟩ := hok _ _ c1
  have hx0 : xs[Int.toNat 0]? = some (xs[0]) := by rw [show Int.toNat 0 = 0 from rfl]; exact List.getElem?_eq_getElem g1
  generalize xs[0] = x0 at hx0
  have hx0' : xs[0]? = some x0 := hx0
  have hat := Item.at_of c2 hx0
  obtain ⟨q1, q2, q3, hm0⟩ := id hat
  obtain ⟨hf0, hb0⟩ := hhead _ _ _ c1 hx0'
  have hT0 : IsTup h2 x0.adr ([.int x0.c q1, .int x0.f q2, .int x0.b q3] : List Value).toArray := ⟨_, (N2 _ (.tail _ (.tail _ (.tail _ hm0)))).1, rfl, _, rfl⟩
  k_steps
  · rename_i ta tb hgt hA hB hC hD D1 hE F3 N3 l1
    unfold Stopped
    refine done_in N3 (.tail _ (.tail _ (.head _))) (fun p hp => Pair.at_mono (c3 p hp) fun q hq => .tail _ (.tail _ (.tail _ (.tail _ hq)))) (.head _) (by ktr_units) ?_
    have hdl : d ≠ l := Nat.ne_of_gt l03.1
    have hcl : lc ≠ l := Nat.ne_of_lt l02.2.1
    have hcd : lc ≠ d := Nat.ne_of_lt l03.2.2.1
    k_steps
    · rename_i hin
      unfold Stopped
      obtain ⟨ys, y, e⟩ : ∃ ys y, xs = ys ++ [y] := ⟨xs.dropLast, xs.getLast (by intro e; rw [e] at g1; cases g1), (List.dropLast_concat_getLast _).symm⟩
      subst e
      refine pop_tells ys y n l ((d, doneO ds k) :: (lc, listOf vs.toArray nc) :: tups) ?_ (fun z hz => Item.at_mono (c2 z hz) fun q hq => .tail _ (.tail _ hq)) (by simp at g2; omega) w mean mg mb _ _ _ _ _ _ _ _ _ _ _ _ _ _ _ _ _ B' F3 X' (fun p hp => N3 p (.tail _ hp)) T' rfl (by ktr_room) (by ktr_units) ?_
      · intro p hp
        rcases List.mem_cons.mp hp with e | hp
        · rw [e]; exact hdl
        rcases List.mem_cons.mp hp with e | hp
        · rw [e]; exact hcl
        exact (c4 p hp).1
      intro v h9 tk9 F9 N9
      replace N9 : News g' L' h9 ((l, heapO (popF ys y) (n + 1)) :: (d, doneO ds k) :: (lc, listOf vs.toArray nc) :: tups) := N9
      obtain ⟨r1, r2⟩ := hpop ys y ds x0 c1 hx0' hgt hin
      (try dsimp only)
      k_steps
      unfold Stopped
      refine ksw_end (popF ys y, n + 1, ds, k, tups) F9 N9 (fun _ h => h) trivial (fun _ h => nomatch h) (by walk_at "my same") ⟨r1, ?_, c3, c4, c5⟩ r2
      intro z hz
      rcases mem_popF hz with h | h
      · exact h ▸ c2 y (by simp)
      · exact c2 z (List.mem_append_left _ h)
    · rename_i hin D2 hF F4 N4 l4
      unfold Stopped
      refine done_append (x := ⟨D2, x0.f, x0.b⟩) (ds := ds) (k := k) (news' := (l, heapO xs n) :: (lc, listOf vs.toArray nc) :: (D2, tup2 x0.f x0.b q2 q3) :: tups) F4 N4 (.tail _ (.tail _ (.tail _ (.head _)))) ?_ ?_ ?_
      · omega
      · intro p hp
        rcases List.mem_cons.mp hp with e | hp
        · rw [e]; exact ⟨fun e => hdl e.symm, .tail _ (.tail _ (.head _))⟩
        rcases List.mem_cons.mp hp with e | hp
        · rw [e]; exact ⟨hcd, .tail _ (.tail _ (.tail _ (.tail _ (.head _))))⟩
        rcases List.mem_cons.mp hp with e | hp
        · rw [e]; exact ⟨Nat.ne_of_gt l4.2.2.1, .head _⟩
        exact ⟨(c4 p hp).2, .tail _ (.tail _ (.tail _ (.tail _ (.tail _ hp))))⟩
      intro h5 F5 N5
      clear F4 N4
      k_steps
      unfold Stopped
      refine price_tells _ _ _ _ _ w mean mg mb _ _ _ _ _ _ _ _ _ _ _ _ _ _ _ _ _ B' F5 X' N5 T' rfl (by ktr_room) (by ktr_units) ?_
      intro tpr h6 tk6 F6 N6
      clear F5 N5
      (try dsimp only)
      k_steps
      rename_i hG D3 hH F7 N7 l7
      unfold Stopped
      obtain ⟨u1, u2, u3, N7'⟩ := reord1 N7
      have c4a := off_cons (o := tup2 x0.f x0.b q2 q3) l4.2.1 l4.2.2.1 c4
      have c4b := off_cons (o := tup3 (x0.c + priceF (ns.getD x0.f.toNat 0) (ns.getD (x0.b - 1).toNat 0)) (x0.f + 1) (x0.b - 1) u1 u2 u3) l7.2.1 l7.1 c4a
      have c2b : ∀ y ∈ xs, y.at ((D3, tup3 (x0.c + priceF (ns.getD x0.f.toNat 0) (ns.getD (x0.b - 1).toNat 0)) (x0.f + 1) (x0.b - 1) u1 u2 u3) :: (D2, tup2 x0.f x0.b q2 q3) :: tups) := at_cons (at_cons c2)
      have ha1 : (⟨D3, x0.c + priceF (ns.getD x0.f.toNat 0) (ns.getD (x0.b - 1).toNat 0), x0.f + 1, x0.b - 1⟩ : Item).at ((D3, tup3 (x0.c + priceF (ns.getD x0.f.toNat 0) (ns.getD (x0.b - 1).toNat 0)) (x0.f + 1) (x0.b - 1) u1 u2 u3) :: (D2, tup2 x0.f x0.b q2 q3) :: tups) := ⟨u1, u2, u3, .head _⟩
      refine replace_tells xs n l ⟨D3, x0.c + priceF (ns.getD x0.f.toNat 0) (ns.getD (x0.b - 1).toNat 0), x0.f + 1, x0.b - 1⟩ _ (off_l hdl hcl c4b) (at_cons (at_cons c2b)) (Item.at_cons (Item.at_cons ha1)) g1 (by omega) w mean mg mb _ _ _ _ _ _ _ _ _ _ _ _ _ _ _ _ _ B' F7 X' N7' T' rfl (by ktr_room) (by ktr_units) ?_
      intro v8 h8 tk8 F8 N8
      clear F7 N7 N7'
      generalize hX1 : (⟨D3, x0.c + priceF (ns.getD x0.f.toNat 0) (ns.getD (x0.b - 1).toNat 0), x0.f + 1, x0.b - 1⟩ : Item) = X1 at N8 ha1
      replace N8 : News g' L' h8 ((l, heapO (replF xs X1) n) :: _) := N8
      have cm1 : ∀ y ∈ replF xs X1, y.at ((D3, tup3 (x0.c + priceF (ns.getD x0.f.toNat 0) (ns.getD (x0.b - 1).toNat 0)) (x0.f + 1) (x0.b - 1) u1 u2 u3) :: (D2, tup2 x0.f x0.b q2 q3) :: tups) := fun y hy => by
        rcases mem_replF hy with h | h
        · exact h ▸ ha1
        · exact c2b y h
      have hz1 : (replF xs X1).length = xs.length := length_replF _ _
      have c3b : ∀ y ∈ ds ++ [⟨D2, x0.f, x0.b⟩], y.at ((D3, tup3 (x0.c + priceF (ns.getD x0.f.toNat 0) (ns.getD (x0.b - 1).toNat 0)) (x0.f + 1) (x0.b - 1) u1 u2 u3) :: (D2, tup2 x0.f x0.b q2 q3) :: tups) := fun y hy => by
        rcases List.mem_append.mp hy with h | h
        · exact pat_cons (pat_cons c3) y h
        · rw [List.mem_singleton.mp h]; exact ⟨q2, q3, .tail _ (.head _)⟩
      have c5b : ∀ p ∈ news, p ∈ ((D3, tup3 (x0.c + priceF (ns.getD x0.f.toNat 0) (ns.getD (x0.b - 1).toNat 0)) (x0.f + 1) (x0.b - 1) u1 u2 u3) :: (D2, tup2 x0.f x0.b q2 q3) :: tups) := fun p hp => .tail _ (.tail _ (c5 p hp))
      generalize hT1 : ((D3, tup3 (x0.c + priceF (ns.getD x0.f.toNat 0) (ns.getD (x0.b - 1).toNat 0)) (x0.f + 1) (x0.b - 1) u1 u2 u3) :: (D2, tup2 x0.f x0.b q2 q3) :: tups) = T1 at N8 ha1 cm1 c4b c3b c5b
      generalize hY1 : (replF xs X1) = Y1 at N8 cm1 hz1
      clear c2b c4a
      (try dsimp only)
      k_steps
      rename_i D4 hI F9 N9 l9
      unfold Stopped
      obtain ⟨u4, u5, u6, N9'⟩ := reord2 N9
      have c4c := off_cons (o := tup3 (x0.c + 2) (x0.f + 1) x0.b u4 u5 u6) l9.1 l9.2.1 c4b
      have ha2 : (⟨D4, x0.c + 2, x0.f + 1, x0.b⟩ : Item).at ((D4, tup3 (x0.c + 2) (x0.f + 1) x0.b u4 u5 u6) :: T1) := ⟨u4, u5, u6, .head _⟩
      refine push_tells Y1 n l ⟨D4, x0.c + 2, x0.f + 1, x0.b⟩ _ (off_l hdl hcl c4c) (at_cons (at_cons (at_cons cm1))) (Item.at_cons (Item.at_cons ha2)) (by omega) w mean mg mb _ _ _ _ _ _ _ _ _ _ _ _ _ _ _ _ _ B' F9 X' N9' T' rfl (by ktr_room) (by ktr_units) ?_
      intro h10 tk10 F10 N10
      clear F9 N9 N9'
      generalize hX2 : (⟨D4, x0.c + 2, x0.f + 1, x0.b⟩ : Item) = X2 at N10 ha2
      replace N10 : News g' L' h10 ((l, heapO (pushF Y1 X2) (n + 1)) :: _) := N10
      have cm2 : ∀ y ∈ pushF Y1 X2, y.at ((D4, tup3 (x0.c + 2) (x0.f + 1) x0.b u4 u5 u6) :: T1) := fun y hy => by
        rcases mem_pushF hy with h | h
        · exact h ▸ ha2
        · exact at_cons cm1 y h
      have hz2 : (pushF Y1 X2).length = Y1.length + 1 := length_pushF _ _
      have c3c := pat_cons (p := (D4, tup3 (x0.c + 2) (x0.f + 1) x0.b u4 u5 u6)) c3b
      have c5c : ∀ p ∈ news, p ∈ ((D4, tup3 (x0.c + 2) (x0.f + 1) x0.b u4 u5 u6) :: T1) := fun p hp => .tail _ (c5b p hp)
      generalize hT2 : ((D4, tup3 (x0.c + 2) (x0.f + 1) x0.b u4 u5 u6) :: T1) = T2 at N10 ha2 cm2 c4c c3c c5c
      generalize hY2 : (pushF Y1 X2) = Y2 at N10 cm2 hz2
      (try dsimp only)
      k_steps
      rename_i D5 hJ F11 N11 l11
      unfold Stopped
      obtain ⟨u7, u8, u9, N11'⟩ := reord2 N11
      have c4d := off_cons (o := tup3 (x0.c + 2) x0.f (x0.b - 1) u7 u8 u9) l11.1 l11.2.1 c4c
      have ha3 : (⟨D5, x0.c + 2, x0.f, x0.b - 1⟩ : Item).at ((D5, tup3 (x0.c + 2) x0.f (x0.b - 1) u7 u8 u9) :: T2) := ⟨u7, u8, u9, .head _⟩
      refine push_tells Y2 (n + 1) l ⟨D5, x0.c + 2, x0.f, x0.b - 1⟩ _ (off_l hdl hcl c4d) (at_cons (at_cons (at_cons cm2))) (Item.at_cons (Item.at_cons ha3)) (by omega) w mean mg mb _ _ _ _ _ _ _ _ _ _ _ _ _ _ _ _ _ B' F11 X' N11' T' rfl (by ktr_room) (by ktr_units) ?_
      intro h12 tk12 F12 N12
      clear F11 N11 N11'
      replace N12 : News g' L' h12 ((l, heapO (pushF Y2 ⟨D5, x0.c + 2, x0.f, x0.b - 1⟩) (n + 1 + 1)) :: _) := N12
      obtain ⟨r1, r2⟩ := hstep xs ds x0 D3 D4 D5 D2 c1 hx0' hgt hin
      rw [hX1, hX2, hY1, hY2] at r1 r2
      (try dsimp only)
      k_steps
      unfold Stopped
      refine ksw_end (pushF Y2 ⟨D5, x0.c + 2, x0.f, x0.b - 1⟩, n + 1 + 1, ds ++ [⟨D2, x0.f, x0.b⟩], k + 1, (D5, tup3 (x0.c + 2) x0.f (x0.b - 1) u7 u8 u9) :: T2) F12 N12 (fun _ h => h) trivial (fun _ h => nomatch h) (by walk_at "my same") ⟨r1, ?_, pat_cons c3c, c4d, fun p hp => .tail _ (c5c p hp)⟩ r2
      intro z hz
      rcases mem_pushF hz with h | h
      · exact h ▸ ha3
      · exact at_cons cm2 z h
  · rename_i ta tb hgt kF kN Tc kX
    refine hret xs ds x0 q1 q2 q3 _ _ c1 hx0' hgt kF fun p hp => kN p ?_
    rcases List.mem_cons.mp hp with e | hp
    · rw [e]; exact .tail _ (.tail _ (.tail _ hm0))
    rcases List.mem_cons.mp hp with e | hp
    · rw [e]; exact .tail _ (.tail _ (.head _))
    exact .tail _ (.tail _ (.tail _ (c5 p hp)))
end Mine
end
section
namespace Mine
open PySem PySem.Builtin.Str
/-- the text of these signs -/
def S (l : List Nat) : Str := ⟨l.toArray⟩
theorem S_len (l : List Nat) : (S l).length = l.length := by
  show l.toArray.size = l.length
  simp
theorem S_inj {a b : List Nat} : S a = S b ↔ a = b := by
  constructor
  · intro h
    have h2 : a.toArray = b.toArray := congrArg Str.cps h
    simpa using h2
  · intro h; rw [h]
theorem S_beq (a b : List Nat) : (S a == S b) = decide (a = b) := by
  by_cases h : a = b
  · subst h; simp
  · rw [decide_eq_false h]
    exact beq_false_of_ne fun e => h (S_inj.mp e)
theorem range_up (s k : Nat) : sliceRange (s : Int) ((s + k : Nat) : Int) 1 = List.range' s k := by
  unfold sliceRange
  have hc : ((if (1 : Int) > 0 then (if (s : Int) < ((s + k : Nat) : Int) then (((s + k : Nat) : Int) - s + 1 - 1) / 1 else 0) else (if (s : Int) > ((s + k : Nat) : Int) then ((s : Int) - ((s + k : Nat) : Int) - 1 - 1) / (-1) else 0)) : Int).toNat = k := by
    rw [if_pos (by decide)]
    split <;> omega
  dsimp only
  rw [hc, List.range'_eq_map_range]
  apply List.map_congr_left
  intro i _
  omega
theorem pick_up (l : List Nat) : ∀ (k s : Nat), s + k ≤ l.length → (List.range' s k).filterMap (l.toArray[·]?) = (l.drop s).take k
  | 0, s, _ => by simp
  | k + 1, s, h => by
    have hs : s < l.length := by omega
    rw [List.range'_succ, List.filterMap_cons]
    rw [pick_up l k (s + 1) (by omega)]
    have e : l.toArray[s]? = some l[s] := by simp [hs]
    rw [e]
    rw [List.drop_eq_getElem_cons hs, List.take_succ_cons]
theorem slice_of (l : List Nat) (lo hi : Option Int) (s k : Nat) (h : s + k ≤ l.length) (e : strSliceIndices lo hi 1 l.length = List.range' s k) : Txt.slice (S l) lo hi = S ((l.drop s).take k) := by
  unfold Txt.slice
  rw [S_len, e]
  split
  · rename_i hq
    simp at hq
    have hs : s = 0 := by omega
    subst hs; subst hq
    simp
  · show (⟨((List.range' s k).filterMap (l.toArray[·]?)).toArray⟩ : Str) = _
    rw [pick_up l k s h]
    rfl
theorem slice_drop (l : List Nat) (q : Nat) (h : q ≤ l.length) : Txt.slice (S l) (some (q : Int)) none = S (l.drop q) := by
  rw [slice_of l _ _ q (l.length - q) (by omega), List.take_of_length_le (by simp)]
  show sliceRange _ _ 1 = _
  have e1 : (if (1 : Int) > 0 then max (0 : Int) (min (if (q : Int) < 0 then (q : Int) + (l.length : Int) else (q : Int)) (l.length : Int)) else max (-1) (min (if (q : Int) < 0 then (q : Int) + (l.length : Int) else (q : Int)) ((l.length : Int) - 1))) = (q : Int) := by
    rw [if_pos (by decide), if_neg (by omega)]; omega
  have e2 : (if (1 : Int) > 0 then (l.length : Int) else -1) = ((q + (l.length - q) : Nat) : Int) := by
    rw [if_pos (by decide)]; omega
  dsimp only
  rw [e1, e2]
  exact range_up _ _
theorem slice_all (l : List Nat) : Txt.slice (S l) none none = S l := by
  rw [slice_of l _ _ 0 l.length (by omega)]
  · simp
  show sliceRange _ _ 1 = _
  have e2 : (if (1 : Int) > 0 then (l.length : Int) else -1) = ((0 + l.length : Nat) : Int) := by
    rw [if_pos (by decide)]; omega
  have e1 : (if (1 : Int) > 0 then (0 : Int) else (l.length : Int) - 1) = ((0 : Nat) : Int) := by
    rw [if_pos (by decide)]; rfl
  dsimp only
  rw [e1, e2]
  exact range_up _ _
theorem slice_take (l : List Nat) (q : Nat) (h : q ≤ l.length) : Txt.slice (S l) none (some (q : Int)) = S (l.take q) := by
  rw [slice_of l _ _ 0 q (by omega)]
  · simp
  show sliceRange _ _ 1 = _
  have e1 : (if (1 : Int) > 0 then max (0 : Int) (min (if (q : Int) < 0 then (q : Int) + (l.length : Int) else (q : Int)) (l.length : Int)) else max (-1) (min (if (q : Int) < 0 then (q : Int) + (l.length : Int) else (q : Int)) ((l.length : Int) - 1))) = ((0 + q : Nat) : Int) := by
    rw [if_pos (by decide), if_neg (by omega)]; omega
  have e2 : (if (1 : Int) > 0 then (0 : Int) else (l.length : Int) - 1) = ((0 : Nat) : Int) := by
    rw [if_pos (by decide)]; rfl
  dsimp only
  rw [e1, e2]
  exact range_up _ _
theorem slice_neg (l : List Nat) (i : Int) (p : Nat) (hi : i = -(p : Int)) (h0 : 0 < p) (h : p ≤ l.length) : Txt.slice (S l) none (some i) = S (l.take (l.length - p)) := by
  subst hi
  rw [slice_of l _ _ 0 (l.length - p) (by omega)]
  · simp
  show sliceRange _ _ 1 = _
  have e1 : (if (1 : Int) > 0 then max (0 : Int) (min (if -(p : Int) < 0 then -(p : Int) + (l.length : Int) else -(p : Int)) (l.length : Int)) else max (-1) (min (if -(p : Int) < 0 then -(p : Int) + (l.length : Int) else -(p : Int)) ((l.length : Int) - 1))) = ((0 + (l.length - p) : Nat) : Int) := by
    rw [if_pos (by decide), if_pos (by omega)]; omega
  have e2 : (if (1 : Int) > 0 then (0 : Int) else (l.length : Int) - 1) = ((0 : Nat) : Int) := by
    rw [if_pos (by decide)]; rfl
  dsimp only
  rw [e1, e2]
  exact range_up _ _
theorem item_at (l : List Nat) (i : Int) (q : Nat) (h : q < l.length) (hi : i = (q : Int) ∨ i + (l.length : Int) = (q : Int) ∧ i < 0) : Txt.item (S l) i = S [l[q]] := by
  have e : seqIndex? i (S l).length = some q := by
    unfold seqIndex?
    rw [S_len]
    rcases hi with rfl | ⟨hi, hn⟩
    · have h1 : ¬ ((q : Int) < 0) := by omega
      simp [h1, h]
    · simp [hn, hi, h]
  unfold Txt.item Txt.charAt
  rw [e]
  show (⟨#[((S l).cps[q]?).getD 0]⟩ : Str) = ⟨#[l[q]]⟩
  have : (S l).cps[q]? = some l[q] := by
    show l.toArray[q]? = _
    simp [h]
  rw [this]
  rfl
theorem range_down (n : Nat) : sliceRange ((n : Int) - 1) (-1) (-1) = (List.range n).map (n - 1 - ·) := by
  unfold sliceRange
  have hc : ((if (-1 : Int) > 0 then (if ((n : Int) - 1) < -1 then (-1 - ((n : Int) - 1) + -1 - 1) / -1 else 0) else (if ((n : Int) - 1) > -1 then (((n : Int) - 1) - -1 - -1 - 1) / (- -1) else 0)) : Int).toNat = n := by
    rw [if_neg (by decide), show (- -1 : Int) = 1 from rfl, Int.ediv_one]
    split <;> omega
  dsimp only
  rw [hc]
  apply List.map_congr_left
  intro i hi
  have := List.mem_range.mp hi
  omega
theorem pick_down (l : List Nat) : ((List.range l.length).map (l.length - 1 - ·)).filterMap (l.toArray[·]?) = l.reverse := by
  have e : (List.range l.length).map (l.length - 1 - ·) = (List.range l.length).reverse := by
    apply List.ext_getElem
    · simp
    · intro i h1 h2
      simp
  rw [e, List.filterMap_reverse]
  congr 1
  have := pick_up l l.length 0 (by omega)
  rw [← List.range_eq_range'] at this
  simpa using this
theorem slice_rev (l : List Nat) (t : Tok) : Txt.sliceBy (S l) none none (-1, t) = S l.reverse := by
  unfold Txt.sliceBy
  rw [if_neg (by simp)]
  have e : slicePicked (S l) none none (some (-1, t)) = (List.range l.length).map (l.length - 1 - ·) := by
    unfold slicePicked
    rw [S_len]
    show sliceRange _ _ _ = _
    have e1 : (if (((some ((-1 : Int), t)).map (·.1)).getD 1) > 0 then (0 : Int) else (l.length : Int) - 1) = (l.length : Int) - 1 := if_neg (show ¬ ((-1 : Int) > 0) by decide)
    have e2 : (if (((some ((-1 : Int), t)).map (·.1)).getD 1) > 0 then (l.length : Int) else -1) = -1 := if_neg (show ¬ ((-1 : Int) > 0) by decide)
    dsimp only [Option.map] at e1 e2 ⊢
    rw [e1, e2]
    exact range_down _
  rw [e]
  show (⟨(((List.range l.length).map (l.length - 1 - ·)).filterMap (l.toArray[·]?)).toArray⟩ : Str) = _
  rw [pick_down]
  rfl
theorem S_append (a b : List Nat) : S a ++ S b = S (a ++ b) := by
  show Str.append (S a) (S b) = _
  unfold Str.append S
  simp
end Mine
end
section
open PySem PySem.W PyProof.Rows PySem.Spec PySem.Calls
set_option maxRecDepth 100000
set_option maxHeartbeats 4000000
namespace Mine
section
variable {prog : Program} {w : World} {A : Around} {E : Value → Shared → Prop} {s : Shared} {h₀ : Heap} {L : Addr} {m : Str → Option Value} {news : List (Addr × Obj)} {value slice : PySem.Expr} {l : List Nat} {t : Tok} {Q : Value → Shared → Prop}
theorem fits_S (h : l.length < 1000) : (S l).length ≤ sizeLine := by rw [S_len]; unfold sizeLine; omega
theorem cut_nn (hF : Fr h₀ L s.heap m) (hN : News h₀ L s.heap news) (hl : l.length < 1000) (h : ∀ h' t' k, Fr h₀ L h' m → News h₀ L h' news → Q (.str (S l) t') { s with heap := h', toks := k })
    (hs : subscripted slice false (.str (S l) t) (.ref s.heap.objs.size) = operate [.ref s.heap.objs.size, .str (S l) t] (getItem (.str (S l) t) (.ref s.heap.objs.size)) := by with_unfolding_all rfl)
    (ht : ∀ r, letTemporaryGo value (.str (S l) t) r = pure () := by intro _; with_unfolding_all rfl) :
    wpAny (model prog w) A (subscriptTail value slice (.str (S l) t) (.ref s.heap.objs.size)) Q E { s with heap := s.heap.push { cls := .type "slice", data := .fields #[.none, .none, .none] } } :=
  slice_strN_nn hF hN (fun h' t' k F N => by rw [slice_all]; exact h h' t' k F N) hs ht (fits_S hl)
theorem cut_ns {j : Int} {uj : Tok} (hF : Fr h₀ L s.heap m) (hN : News h₀ L s.heap news) (hl : l.length < 1000) (h0 : j < 0) (h1 : 0 ≤ j + l.length)
    (h : ∀ h' t' k, Fr h₀ L h' m → News h₀ L h' news → Q (.str (S (l.take (j + l.length).toNat)) t') { s with heap := h', toks := k })
    (hs : subscripted slice false (.str (S l) t) (.ref s.heap.objs.size) = operate [.ref s.heap.objs.size, .str (S l) t] (getItem (.str (S l) t) (.ref s.heap.objs.size)) := by with_unfolding_all rfl)
    (ht : ∀ r, letTemporaryGo value (.str (S l) t) r = pure () := by intro _; with_unfolding_all rfl) :
    wpAny (model prog w) A (subscriptTail value slice (.str (S l) t) (.ref s.heap.objs.size)) Q E { s with heap := s.heap.push { cls := .type "slice", data := .fields #[.none, .int j uj, .none] } } :=
  slice_strN_ns hF hN (fun h' t' k F N => by
    rw [slice_neg l j (-j).toNat (by omega) (by omega) (by omega), show l.length - (-j).toNat = (j + l.length).toNat by omega]
    exact h h' t' k F N) hs ht (fits_S hl)
theorem cut_np {j : Int} {uj : Tok} (hF : Fr h₀ L s.heap m) (hN : News h₀ L s.heap news) (hl : l.length < 1000) (h0 : 0 ≤ j) (h1 : j ≤ l.length)
    (h : ∀ h' t' k, Fr h₀ L h' m → News h₀ L h' news → Q (.str (S (l.take j.toNat)) t') { s with heap := h', toks := k })
    (hs : subscripted slice false (.str (S l) t) (.ref s.heap.objs.size) = operate [.ref s.heap.objs.size, .str (S l) t] (getItem (.str (S l) t) (.ref s.heap.objs.size)) := by with_unfolding_all rfl)
    (ht : ∀ r, letTemporaryGo value (.str (S l) t) r = pure () := by intro _; with_unfolding_all rfl) :
    wpAny (model prog w) A (subscriptTail value slice (.str (S l) t) (.ref s.heap.objs.size)) Q E { s with heap := s.heap.push { cls := .type "slice", data := .fields #[.none, .int j uj, .none] } } :=
  slice_strN_ns hF hN (fun h' t' k F N => by
    have e := slice_take l j.toNat (by omega)
    rw [Int.toNat_of_nonneg h0] at e
    rw [e]
    exact h h' t' k F N) hs ht (fits_S hl)
theorem cut_pn {j : Int} {uj : Tok} (hF : Fr h₀ L s.heap m) (hN : News h₀ L s.heap news) (hl : l.length < 1000) (h0 : 0 ≤ j) (h1 : j ≤ l.length)
    (h : ∀ h' t' k, Fr h₀ L h' m → News h₀ L h' news → Q (.str (S (l.drop j.toNat)) t') { s with heap := h', toks := k })
    (hs : subscripted slice false (.str (S l) t) (.ref s.heap.objs.size) = operate [.ref s.heap.objs.size, .str (S l) t] (getItem (.str (S l) t) (.ref s.heap.objs.size)) := by with_unfolding_all rfl)
    (ht : ∀ r, letTemporaryGo value (.str (S l) t) r = pure () := by intro _; with_unfolding_all rfl) :
    wpAny (model prog w) A (subscriptTail value slice (.str (S l) t) (.ref s.heap.objs.size)) Q E { s with heap := s.heap.push { cls := .type "slice", data := .fields #[.int j uj, .none, .none] } } :=
  slice_strN_sn hF hN (fun h' t' k F N => by
    have e := slice_drop l j.toNat (by omega)
    rw [Int.toNat_of_nonneg h0] at e
    rw [e]
    exact h h' t' k F N) hs ht (fits_S hl)
theorem sign_neg {i : Int} {u : Tok} (hl : l.length < 1000) (h0 : i < 0) (h1 : 0 ≤ i + l.length) (h : ∀ t' k, Q (.str (S [l.getD (i + l.length).toNat 0]) t') { s with toks := k })
    (hs : subscripted slice false (.str (S l) t) (.int i u) = operate [.int i u, .str (S l) t] (getItem (.str (S l) t) (.int i u)) := by with_unfolding_all rfl)
    (ht : ∀ r, letTemporaryGo value (.str (S l) t) r = pure () := by intro _; with_unfolding_all rfl) :
    wpAny (model prog w) A (subscriptTail value slice (.str (S l) t) (.int i u)) Q E s := by
  have hk : (i + l.length).toNat < l.length := by omega
  refine tail_of_ItemOn (SBL.item (by rw [S_len]; omega) (by rw [S_len]; omega) (by rw [S_len]; omega) fun _ => ?_) hs ht
  rw [item_at l i (i + l.length).toNat hk (.inr ⟨by omega, h0⟩)]
  have e : l[(i + l.length).toNat] = l.getD (i + l.length).toNat 0 := by simp [List.getD_eq_getElem?_getD, hk]
  rw [e]
  exact h _ _
theorem sign_pos {i : Int} {u : Tok} (hl : l.length < 1000) (h0 : 0 ≤ i) (h1 : i < l.length) (h : ∀ t' k, Q (.str (S [l.getD i.toNat 0]) t') { s with toks := k })
    (hs : subscripted slice false (.str (S l) t) (.int i u) = operate [.int i u, .str (S l) t] (getItem (.str (S l) t) (.int i u)) := by with_unfolding_all rfl)
    (ht : ∀ r, letTemporaryGo value (.str (S l) t) r = pure () := by intro _; with_unfolding_all rfl) :
    wpAny (model prog w) A (subscriptTail value slice (.str (S l) t) (.int i u)) Q E s := by
  have hk : i.toNat < l.length := by omega
  refine tail_of_ItemOn (SBL.item (by rw [S_len]; omega) (by rw [S_len]; omega) (by rw [S_len]; omega) fun _ => ?_) hs ht
  rw [item_at l i i.toNat hk (.inl (by omega))]
  have e : l[i.toNat] = l.getD i.toNat 0 := by simp [List.getD_eq_getElem?_getD, hk]
  rw [e]
  exact h _ _
theorem text_truthy {Q : Bool → Shared → Prop} (hl : l.length < 1000) (h : ∀ k, Q (decide (0 < l.length)) { s with toks := k }) : wpAny (model prog w) A (truthy (.str (S l) t)) Q E s := by
  refine SBL.truthy (by rw [S_len]; omega) ?_
  rw [S_len]
  have e : (((l.length : Nat) : Int) != 0) = decide (0 < l.length) := by cases l <;> simp <;> omega
  rw [e]
  exact h _
theorem text_len (hl : l.length < 1000) (h : ∀ t' k, Q (.int l.length t') { s with toks := k }) : wpAny (model prog w) A (call (.builtin "len") [.str (S l) t]) Q E s := by
  refine SBL.len (by rw [S_len]; omega) ?_
  rw [S_len]
  exact h _ _
theorem text_eq {l' : List Nat} {u : Tok} (h : Q (.bool (decide (l = l'))) s) : wpAny (model prog w) A (compareOp .Eq (.str (S l) t) (.str (S l') u)) Q E s := by
  refine eq_str ?_
  rw [S_beq]
  exact h
end
end Mine
end
section
open PySem PySem.W PyProof.Rows PySem.Spec PySem.Calls PyProof.V
set_option maxRecDepth 100000
set_option maxHeartbeats 4000000
namespace Mine
theorem execs_append_eq {env : Env} {ys : List Stmt} : ∀ (xs : List Stmt), execs (xs ++ ys) env = (execs xs env >>= fun f => match f with | .next => execs ys env | f => pure f)
  | [] => by
    show execs ys env = (pure Flow.next >>= _)
    rw [pure_bind]
  | st :: xs => by
    rw [List.cons_append, execs_cons, execs_cons, bind_assoc]
    congr 1
    funext f
    cases f with
    | next => exact execs_append_eq xs
    | brk => exact (pure_bind _ _).symm
    | cont => exact (pure_bind _ _).symm
    | ret v => exact (pure_bind _ _).symm
theorem execs_cut {M : Model} {A : Around} {E : Value → Shared → Prop} {env : Env} {Q : Flow → Shared → Prop} {s : Shared} {l : List Stmt} (n : Nat)
    (h : wpAny M A (execs (l.take n) env) (fun f s' => match f with | .next => wpAny M A (execs (l.drop n) env) Q E s' | f => Q f s') E s) : wpAny M A (execs l env) Q E s := by
  have e := execs_append_eq (env := env) (ys := l.drop n) (l.take n)
  rw [List.take_append_drop] at e
  rw [e]
  refine wpAny_bind (wpAny_mono h (fun f s' h' => ?_) fun _ _ h => h)
  cases f with
  | next => exact h'
  | brk => exact wpAny_pure h'
  | cont => exact wpAny_pure h'
  | ret v => exact wpAny_pure h'
/-- a set of statements cut behind its n-th, by what holds there -/
theorem execs_mid {M : Model} {A : Around} {E : Value → Shared → Prop} {env : Env} {Q : Flow → Shared → Prop} {s : Shared} {l : List Stmt} (n : Nat) (Post : Shared → Prop)
    (h : wpAny M A (execs (l.take n) env) (fun f s' => match f with | .next => Stopped (Post s') | f => Q f s') E s)
    (h2 : ∀ s', Post s' → wpAny M A (execs (l.drop n) env) Q E s') : wpAny M A (execs l env) Q E s := by
  refine execs_cut n (wpAny_mono h (fun f s' h' => ?_) fun _ _ h => h)
  cases f with
  | next => exact h2 _ h'
  | brk => exact h'
  | cont => exact h'
  | ret v => exact h'
section
variable {prog : Program} {w : World} {A : Around} {E : Value → Shared → Prop} {s : Shared} {h₀ : Heap} {L r : Addr} {m : Str → Option Value} {news : List (Addr × Obj)} {Q : Value → Shared → Prop} {t₀ u₀ v₀ : Tok}
theorem ints_of : ∀ (vs : List Value) (f : Nat → Int), (∀ (j : Nat) (v : Value), vs[j]? = some v → ∃ t, v = .int (f j) t) → IntsAre vs ((List.range vs.length).map f)
  | [], f, _ => by exact IntsAre.nil
  | v :: r, f, h => by
    obtain ⟨t, ht⟩ := h 0 v rfl
    rw [List.length_cons, List.range_succ_eq_map, List.map_cons, List.map_map, ht]
    exact IntsAre.cons _ _ (ints_of r (f ∘ Nat.succ) fun j v hj => h (j + 1) v hj)
theorem fits_long (i : Int) (h1 : -1000000 ≤ i) (h2 : i < 1000000) : Builtin.Range.rangeFitsLong i = true := by
  unfold Builtin.Range.rangeFitsLong
  rw [Bool.and_eq_true, decide_eq_true_eq, decide_eq_true_eq]
  omega
theorem list_range2 {n : Nat} {z : Int} (hz : z = 2 * ((n : Int) + 1)) (hn : n < 1000) (hh : A.handled = none) (F : Fr h₀ L s.heap m) (N : News h₀ L s.heap news) (hr : IsRange s.heap r 2 z 2 t₀ u₀ v₀)
    (h : ∀ D us c h' tk, Fr h₀ L h' m → News h₀ L h' ((D, listOf (List.toArray us) c) :: news) → (∀ p ∈ news, p.1 < D) → IntsAre us ((List.range n).map fun (i : Nat) => 2 + (i : Int) * 2) → Q (.ref D) { s with heap := h', toks := tk }) :
    wpAny (model prog w) A (call (.type "list") [.ref r]) Q E s := by
  subst hz
  have hsz : Builtin.Range.rangeSize 2 (2 * ((n : Int) + 1)) 2 = (n : Int) := by
    unfold Builtin.Range.rangeSize
    rw [if_pos (by decide)]
    split <;> omega
  have hsmall : Builtin.Range.small 2 (2 * ((n : Int) + 1)) 2 = true := by
    unfold Builtin.Range.small
    rw [hsz]
    rw [fits_long 2 (by omega) (by omega), fits_long (2 * ((n : Int) + 1)) (by omega) (by omega), fits_long (n : Int) (by omega) (by omega), if_pos (by decide), fits_long (2 * ((n : Int) + 1) + (2 - 1)) (by omega) (by omega)]
    simp
  refine call_list_range hh hr hsmall hsz (by omega) fun h' tk acc c hk hD hI => ?_
  have hD' : h'.get? s.heap.objs.size = some (listOf (List.toArray acc.toList) c) := by
    rw [Array.toArray_toList]
    exact hD
  refine h _ acc.toList c h' tk (F.keeps hk) (news_pushed F N hk hD' rfl) (fun p hp => Heap.lt_size (N p hp).1) ?_
  have := ints_of acc.toList (fun (i : Nat) => 2 + (i : Int) * 2) fun j v hj => hI.2 j v (by rw [← hj, Array.getElem?_toList])
  rw [Array.length_toList, hI.1] at this
  exact this
end
section
variable {prog : Program} {w : World} {A : Around} {E : Value → Shared → Prop} {s : Shared} {env : Env} {h₀ : Heap} {x : Str} {body : List Stmt} {Q : Flow → Shared → Prop}
theorem range_inv {r : Addr} {b₀ : Int} {t₀ u₀ v₀ : Tok} {n : Nat} {m₀ : Str → Option Value} {news : List (Addr × Obj)} (J : Nat → (Str → Option Value) → List (Addr × Obj) → Prop)
    (hb : b₀ = (n : Int)) (hn : n < 1000) (hh : A.handled = none) (hr : IsRange s.heap r 0 b₀ 1 t₀ u₀ v₀) (F : Fr h₀ env.locals s.heap m₀) (N : News h₀ env.locals s.heap news) (hj : J 0 m₀ news)
    (turn : ∀ i t m₁ nx h tk own, i < n → nx.map (·.1) = news.map (·.1) → OwnOff own (news.map (·.1)) → J i m₁ nx → Fr h₀ env.locals h (fun y => if y = x then some (.int (i : Int) t) else m₁ y) → News h₀ env.locals h (nx ++ own) →
      wpAny (model prog w) A (execs body env) (InvPostN h₀ env.locals (J (i + 1)) own (news.map (·.1)) { s with heap := h, toks := tk } Q) E { s with heap := h, toks := tk })
    (done : ∀ m₁ nx h tk, J n m₁ nx → Fr h₀ env.locals h m₁ → News h₀ env.locals h nx → Q .next { s with heap := h, toks := tk }) :
    wpAny (model prog w) A (pyIter (.ref r)) (fun it s₂ => LoopAtV prog w A h₀ env x body Q E it s₂) E s := by
  subst hb
  have hsz : Builtin.Range.rangeSize 0 (n : Int) 1 = (n : Int) := by
    unfold Builtin.Range.rangeSize
    rw [if_pos (by decide)]
    split <;> omega
  refine wpAny_pyIter_range hr (small_one (by omega) (by omega) (by omega) (by omega)) ?_
  have W : Walks prog w A s.heap.objs.size [s.heap.objs.size] [s.heap.objs.size] n (fun i v => i < n ∧ ∃ t, v = .int (0 + i * 1) t)
      (fun i h => IsRangeIter h s.heap.objs.size (0 + (i : Nat) * 1) ((n : Int) - (i : Nat)) 1) := (Walks.range hh _ 0 1 n).bound
  refine loop_invN J W ?_ ?_ ?_ ?_ (by show IsRangeIter _ _ _ _ _; rw [hsz]; simpa using Heap.get?_push_size _ rfl) (F.push _) (fun p hp => ⟨Heap.get?_push_of_some _ (N p hp).1, (N p hp).2⟩) hj ?_ ?_
  · intro hm
    exact absurd F.ns.lt ((List.mem_singleton.mp hm) ▸ Nat.lt_irrefl _)
  · intro b hb
    rw [List.mem_singleton.mp hb]
    exact next_is_new F
  · intro p hp hI
    exact absurd (Heap.lt_size (N p hp).1) ((List.mem_singleton.mp hI) ▸ Nat.lt_irrefl _)
  · intro p hp hI
    exact absurd (Heap.lt_size (N p hp).1) ((List.mem_singleton.mp hI) ▸ Nat.lt_irrefl _)
  · rintro i v m₁ nx h tk own hin ⟨_, t, rfl⟩ hadr hoff hJ F₁ N₁
    have e : (0 + (i : Int) * 1) = (i : Int) := by omega
    rw [e] at F₁
    exact turn i t m₁ nx h tk own hin hadr hoff hJ F₁ N₁
  · intro m₁ nx h tk hJ F₁ N₁
    exact done m₁ nx h tk hJ F₁ N₁
end
end Mine
end
section
open PySem PySem.W PyProof.Rows PySem.Spec PySem.Calls
set_option maxRecDepth 100000
set_option maxHeartbeats 4000000
namespace Mine
section
variable {prog : Program} {w : World} {A : Around} {E : Value → Shared → Prop} {s : Shared} {h₀ : Heap} {L : Addr} {m : Str → Option Value} {news : List (Addr × Obj)} {value slice : PySem.Expr} {l : List Nat} {t uk : Tok} {Q : Value → Shared → Prop}
theorem cut_rev (hF : Fr h₀ L s.heap m) (hN : News h₀ L s.heap news) (hl : l.length < 1000) (h : ∀ h' t' k, Fr h₀ L h' m → News h₀ L h' news → Q (.str (S l.reverse) t') { s with heap := h', toks := k })
    (hs : subscripted slice false (.str (S l) t) (.ref s.heap.objs.size) = operate [.ref s.heap.objs.size, .str (S l) t] (getItem (.str (S l) t) (.ref s.heap.objs.size)) := by with_unfolding_all rfl)
    (ht : ∀ r, letTemporaryGo value (.str (S l) t) r = pure () := by intro _; with_unfolding_all rfl) :
    wpAny (model prog w) A (subscriptTail value slice (.str (S l) t) (.ref s.heap.objs.size)) Q E { s with heap := s.heap.push { cls := .type "slice", data := .fields #[.none, .none, .int (-1) uk] } } :=
  slice_strK_nn (k := -1) (uk := uk) hF hN (by decide) (fun h' t' k F N => by rw [slice_rev]; exact h h' t' k F N) hs ht (fits_S hl)
theorem text_add {l' : List Nat} {u : Tok} (hl : l.length < 1000) (hl' : l'.length < 1000) (h : ∀ t' k, Q (.str (S (l ++ l')) t') { s with toks := k }) : wpAny (model prog w) A (binaryOp .Add (.str (S l) t) (.str (S l') u)) Q E s := by
  refine SBL.add (fun t' k _ => ?_) (by rw [S_len, S_len]; unfold sizeLine; omega)
  rw [S_append]
  exact h t' k
end
end Mine
end
section
open PySem PySem.W PyProof.Rows PySem.Spec PySem.Calls
set_option maxRecDepth 100000
set_option maxHeartbeats 8000000
namespace Mine
local macro_rules | `(tactic| walk_at "my enter") => `(tactic| (refine' code_def ?k1 ?k2 ?k3 ?k4 ?k5 ?kA ?kF ?kK ?k6 ?k7 ?k8 ?k9 ?kB ?_ ?c2 ?c3 ?c4 ?c5; (case kA => exact rfl); (case kF => exact rfl); (case kK => assumption); (case k1 => k_asm); (case k2 => k_asm); (case k3 => k_asm); (case k4 => k_asm); (case k5 => k_asm); (case k6 => k_is); (case k7 => k_is); (case k8 => ktr_room); (case k9 => exact BindsTo.of_eq rfl); (case c5 => decide); (case kB => exact locs rfl); (case c2 => exact rfl); (case c3 => exact rfl); (case c4 => exact rfl)))
local macro_rules | `(tactic| walk_at "my same") => `(tactic| (intro z h2 h3; (simp only [List.forall_mem_cons, List.not_mem_nil, false_implies, implies_true, and_true, ne_eq] at h2); (simp only [List.contains_cons, List.contains_nil, Bool.or_false, Bool.or_eq_false_iff, beq_eq_false_iff_ne, ne_eq] at h3); (simp [kstB, h2, h3]; done)))
local macro_rules | `(tactic| walk_at "exec While") => `(tactic| refine Stopped.out ?_)
local macro_rules | `(tactic| walk_at "exec While Compare cons nil") => `(tactic| refine Stopped.out ?_)
local macro_rules | `(tactic| walk_at "call ref") => `(tactic| refine Stopped.out ?_)
local macro_rules | `(tactic| walk_at "KswEnd") => `(tactic| refine Stopped.out ?_)
def subS (x y : Str) : Int := if x == y then 0 else if Txt.lower x == Txt.lower y then 1 else 2
theorem subS_le (x y : Str) : subS x y ≤ 2 := by
  unfold subS
  split
  · decide
  · split <;> decide
theorem sub_tells (x y : Str) (tx ty : Tok) (news : List (Addr × Obj)) (hx : x.length = 1) (hy : y.length = 1) :
    Tells 5 56 [.str x tx, .str y ty] news (fun h₀ L m s Q => ∀ t h' tk', Fr h₀ L h' m → News h₀ L h' news → Q (.int (subS x y) t) { s with heap := h', toks := tk' }) := by
  unfold Tells
  w_top off
  k_fill
  intro w mean mg mb dp un gd cn cs a ccd cl outer A₀ base h₀ L m s Q E B F X N T hk hd hu hret
  refine wpAny_call ?_
  k_dflt (walk_at "my enter")
  k_whole
  intro g' L' h' FG' F' N' B' X' T'
  dsimp only
  replace F' : Fr g' L' h' (fun z => List.lookup z [(Str.ofString "ch_b", .str y ty), (Str.ofString "ch_a", .str x tx)]) := F'
  (try k_lift B')
  (try k_fold)
  k_steps
  all_goals
    rename_i kF kN Tc kX
    refine cb_retI (Q := Q) hret ?_ kF kN
    unfold subS
    simp [*]


theorem fr_known {g h : Heap} {L : Addr} {m1 : Str → Option Value} (ps : List (Str × Value)) (F : Fr g L h m1) (hp : ∀ p ∈ ps, m1 p.1 = some p.2) : Fr g L h (kstB m1 ps) := by
  have e : kstB m1 ps = m1 := funext fun z => kstB_eq hp fun _ => rfl
  rw [e]; exact F

structure LevLaws (D : List Nat → List Nat → Int) : Prop where
  refl : ∀ a, D a a = 0
  pre : ∀ p a b, D (p ++ a) (p ++ b) = D a b
  post : ∀ p a b, D (a ++ p) (b ++ p) = D a b
  nil1 : ∀ b, D [] b = 2 * (b.length : Int)
  nil2 : ∀ a, D a [] = 2 * (a.length : Int)
  symm : ∀ a b, D a b = D b a
  len : ∀ a b, 2 * ((b.length : Int) - a.length) ≤ D a b
  step : ∀ (a b : List Nat) (i j : Nat) (hi : i < b.length) (hj : j < a.length), D (b.take (i + 1)) (a.take (j + 1)) = min (min (D (b.take (i + 1)) (a.take j)) (D (b.take i) (a.take (j + 1))) + 2) (D (b.take i) (a.take j) + subS (S [b[i]]) (S [a[j]]))
  row : ∀ (a b : List Nat) (i : Nat), i < b.length → 0 < a.length → ∃ j, j < a.length ∧ D (b.take (i + 1)) (a.take (j + 1)) ≤ D b a
/-- what the function may give: the distance, or one more than a bound that is below it -/
def LevAns (D : List Nat → List Nat → Int) (a b : List Nat) (k r : Int) : Prop := r = D a b ∨ (r = k + 1 ∧ k < D a b)
theorem drop_one_more {as bs : List Nat} {p : Nat} (h : as.drop (as.length - p) = bs.drop (bs.length - p)) (h1 : p < as.length) (h2 : p < bs.length) (e : as.getD (as.length - (p + 1)) 0 = bs.getD (bs.length - (p + 1)) 0) :
    as.drop (as.length - (p + 1)) = bs.drop (bs.length - (p + 1)) := by
  have i1 : as.length - (p + 1) < as.length := by omega
  have i2 : bs.length - (p + 1) < bs.length := by omega
  rw [List.drop_eq_getElem_cons i1, List.drop_eq_getElem_cons i2, show as.length - (p + 1) + 1 = as.length - p by omega, show bs.length - (p + 1) + 1 = bs.length - p by omega, h]
  simp only [List.getD_eq_getElem?_getD, List.getElem?_eq_getElem i1, List.getElem?_eq_getElem i2, Option.getD_some] at e
  rw [e]
theorem take_one_more {xs ys : List Nat} {q : Nat} (h : xs.take q = ys.take q) (h1 : q < xs.length) (h2 : q < ys.length) (e : xs[q] = ys[q]) : xs.take (q + 1) = ys.take (q + 1) := by
  rw [List.take_succ_eq_append_getElem h1, List.take_succ_eq_append_getElem h2, h, e]

local macro_rules | `(tactic| walk_at "my len") => `(tactic| ((try dsimp only at *); first | omega | ((try simp only [List.length_take, List.length_drop, decide_eq_true_eq, decide_eq_false_iff_not] at *); omega)))
local macro_rules | `(tactic| walk_at "my cut") => `(tactic| (k_here; (with_reducible show wpAny _ _ (subscriptTail _ (Expr.Slice none (some _) none _) (Value.str (S _) _) (Value.ref _)) _ _ _); (first
  | (refine cut_nn (s := ⟨_, _, _, _, _⟩) (by assumption) (by assumption) (by walk_at "my len") ?_)
  | (refine cut_ns (s := ⟨_, _, _, _, _⟩) (by assumption) (by assumption) (by walk_at "my len") (by walk_at "my len") (by walk_at "my len") ?_)
  | (refine cut_np (s := ⟨_, _, _, _, _⟩) (by assumption) (by assumption) (by walk_at "my len") (by walk_at "my len") (by walk_at "my len") ?_)); intro h9 t9 k9 F9 N9; (try k_sweep)))
local macro_rules | `(tactic| walk_at "my cut") => `(tactic| (k_here; (with_reducible show wpAny _ _ (subscriptTail _ (Expr.Slice (some _) none none _) (Value.str (S _) _) (Value.ref _)) _ _ _); (refine cut_pn (s := ⟨_, _, _, _, _⟩) (by assumption) (by assumption) (by walk_at "my len") (by walk_at "my len") (by walk_at "my len") ?_); intro h9 t9 k9 F9 N9; (try k_sweep)))
local macro_rules | `(tactic| walk_at "my sign") => `(tactic| (k_here; (with_reducible show wpAny _ _ (subscriptTail _ _ (Value.str (S _) _) (Value.int _ _)) _ _ _); k_dflt (first
  | (refine sign_pos (by walk_at "my len") (by walk_at "my len") (by walk_at "my len") ?_)
  | (refine sign_neg (by walk_at "my len") (by walk_at "my len") (by walk_at "my len") ?_)); intro t9 k9))
local macro_rules | `(tactic| walk_at "subscriptTail Name Name str int") => `(tactic| walk_at "my sign")
local macro_rules | `(tactic| walk_at "subscriptTail Name BinOp str int") => `(tactic| walk_at "my sign")
local macro_rules | `(tactic| walk_at "subscriptTail Name Slice str ref") => `(tactic| walk_at "my cut")
local macro_rules | `(tactic| walk_at "InvEndN") => `(tactic| refine Stopped.out ?_)
local macro_rules | `(tactic| walk_at "my names") => `(tactic| (intro p hp; (simp only [List.mem_cons, List.not_mem_nil, or_false] at hp); (repeat (rcases hp with rfl | hp; · (dsimp only; decide +kernel))); (subst hp; dsimp only; decide +kernel)))
local macro_rules | `(tactic| walk_at "setItem") => `(tactic| refine Stopped.out ?_)
local macro_rules | `(tactic| walk_at "setItem ref int") => `(tactic| refine Stopped.out ?_)
local macro_rules | `(tactic| walk_at "setItem ref int int") => `(tactic| refine Stopped.out ?_)
local macro_rules | `(tactic| walk_at "call type:list") => `(tactic| refine Stopped.out ?_)
local macro_rules | `(tactic| walk_at "pyIter ref") => `(tactic| refine Stopped.out ?_)
local macro_rules | `(tactic| walk_at "truthy str") => `(tactic| (k_here; k_dflt (refine text_truthy (by walk_at "my len") ?_); intro k9))
local macro_rules | `(tactic| walk_at "call builtin:len") => `(tactic| (k_here; (with_reducible show wpAny _ _ (call (Value.builtin "len") [Value.str (S _) _]) _ _ _); k_dflt (refine text_len (by walk_at "my len") ?_); intro t9 k9))
local macro_rules | `(tactic| walk_at "compareOp Eq str str") => `(tactic| (k_here; (with_reducible show wpAny _ _ (compareOp CmpOp.Eq (Value.str (S _) _) (Value.str (S _) _)) _ _ _); k_dflt (refine text_eq ?_)))

def rowD (D : List Nat → List Nat → Int) (as bs : List Nat) (i : Nat) : List Int := (List.range as.length).map fun j => D (bs.take i) (as.take (j + 1))
def mixD (D : List Nat → List Nat → Int) (as bs : List Nat) (i j : Nat) : List Int := (List.range as.length).map fun t => if t < j then D (bs.take (i + 1)) (as.take (t + 1)) else D (bs.take i) (as.take (t + 1))
theorem mix_zero (D : List Nat → List Nat → Int) (as bs : List Nat) (i : Nat) : mixD D as bs i 0 = rowD D as bs i := by
  unfold mixD rowD
  simp
theorem mix_full (D : List Nat → List Nat → Int) (as bs : List Nat) (i : Nat) : mixD D as bs i as.length = rowD D as bs (i + 1) := by
  unfold mixD rowD
  apply List.map_congr_left
  intro t ht
  rw [if_pos (List.mem_range.mp ht)]
theorem mix_len (D : List Nat → List Nat → Int) (as bs : List Nat) (i j : Nat) : (mixD D as bs i j).length = as.length := by simp [mixD]
theorem mix_get (D : List Nat → List Nat → Int) (as bs : List Nat) (i j : Nat) (h : j < as.length) : (mixD D as bs i j).getD j 0 = D (bs.take i) (as.take (j + 1)) := by
  unfold mixD
  rw [List.getD_eq_getElem?_getD, List.getElem?_map, List.getElem?_range h]
  simp
theorem mix_set (D : List Nat → List Nat → Int) (as bs : List Nat) (i j : Nat) : (mixD D as bs i j).set j (D (bs.take (i + 1)) (as.take (j + 1))) = mixD D as bs i (j + 1) := by
  apply List.ext_getElem
  · simp [mixD]
  · intro t h1 h2
    rw [List.getElem_set]
    simp only [mixD, List.getElem_map, List.getElem_range]
    by_cases e : j = t
    · subst e; simp
    · rw [if_neg e]
      by_cases e2 : t < j
      · rw [if_pos e2, if_pos (by omega)]
      · rw [if_neg e2, if_neg (by omega)]
theorem row_zero {D : List Nat → List Nat → Int} (hD : LevLaws D) (as bs : List Nat) : rowD D as bs 0 = (List.range as.length).map fun (i : Nat) => 2 + (i : Int) * 2 := by
  unfold rowD
  apply List.map_congr_left
  intro t ht
  have := List.mem_range.mp ht
  rw [List.take_zero, hD.nil1, List.length_take]
  omega
theorem known_over {m₁ : Str → Option Value} {x : Str} {v : Value} {ps : List (Str × Value)} (h : ∀ p ∈ ps, m₁ p.1 = some p.2) (hx : (ps.all fun p => p.1 != x) = true) : ∀ p ∈ (x, v) :: ps, (fun y => if y = x then some v else m₁ y) p.1 = some p.2 := by
  intro p hp
  rcases List.mem_cons.mp hp with e | hp
  · rw [e]; simp
  · have h1 := List.all_eq_true.mp hx p hp
    simp only [bne_iff_ne] at h1
    simp only [if_neg h1]; exact h p hp
/-- the words that are still to be laid on each other, in the frame -/
def LevAt (D : List Nat → List Nat → Int) (k : Int) (tk0 : Tok) (xs ys : List Nat) (P : List Nat → List Nat → Prop) (g : Heap) (L : Addr) (news : List (Addr × Obj)) (s s' : Shared) : Prop :=
  ∃ (as bs : List Nat) (ta tb : Tok) (h : Heap) (tk : Nat) (m1 : Str → Option Value), s' = { s with heap := h, toks := tk } ∧ (∀ r, LevAns D as bs k r → LevAns D xs ys k r) ∧ as.length < 30 ∧ bs.length < 30 ∧ P as bs ∧
    Fr g L h m1 ∧ News g L h news ∧ ∀ p ∈ [(Str.ofString "max_cost", Value.int k tk0), (Str.ofString "b", Value.str (S bs) tb), (Str.ofString "a", Value.str (S as) ta)], m1 p.1 = some p.2

theorem lev_tells (D : List Nat → List Nat → Int) (hD : LevLaws D) (xs ys : List Nat) (k : Int) (tx ty tk0 : Tok) (news : List (Addr × Obj)) (hx : xs.length < 30) (hy : ys.length < 30) :
    Tells 15 63 [.str (S xs) tx, .str (S ys) ty, .int k tk0] news (fun h₀ L m s Q => ∀ r t h' tk', LevAns D xs ys k r → Fr h₀ L h' m → News h₀ L h' news → Q (.int r t) { s with heap := h', toks := tk' }) := by
  unfold Tells
  w_top off
  k_fill
  intro w mean mg mb dp un gd cn cs a ccd cl outer A₀ base h₀ L m s Q E B F X N T hk hd hu hret
  refine wpAny_call ?_
  k_dflt (walk_at "my enter")
  k_whole
  intro g' L' h' FG' F' N' B' X' T'
  dsimp only
  replace F' : Fr g' L' h' (fun z => List.lookup z [(Str.ofString "max_cost", .int k tk0), (Str.ofString "b", .str (S ys) ty), (Str.ofString "a", .str (S xs) tx)]) := F'
  (try k_lift B')
  (try k_fold)
  refine execs_mid 5 (LevAt D k tk0 xs ys (fun _ _ => True) g' L' news s) ?_ ?_
  · dsimp only [List.take]
    k_steps
    · rename_i heq kF kN Tc kX
      exact hret _ _ _ _ (.inl (by rw [heq, hD.refl])) kF kN
    rename_i hne hA F1 N1
    unfold Stopped
    refine wpAny_mono (Q := fun f s₂ => Stopped (f = .next ∧ ∃ (q : Nat) (tq : Tok) (h2 : Heap) (tk2 : Nat) (m1 : Str → Option Value), s₂ = { s with heap := h2, toks := tk2 } ∧ q ≤ xs.length ∧ q ≤ ys.length ∧ xs.take q = ys.take q ∧
        Fr g' L' h2 m1 ∧ News g' L' h2 news ∧ ∀ p ∈ [(Str.ofString "max_cost", Value.int k tk0), (Str.ofString "b", Value.str (S ys) ty), (Str.ofString "a", Value.str (S xs) tx), (Str.ofString "pre", Value.int (q : Int) tq)], m1 p.1 = some p.2))
      (ksw_while (σ := Nat × Tok) (fun c => news) (fun c => [(Str.ofString "pre", .int (c.1 : Int) c.2)]) (fun _ => True) []
        (fun c => c.1 ≤ xs.length ∧ c.1 ≤ ys.length ∧ xs.take c.1 = ys.take c.1) (fun c => 30 - c.1) (0, _) F1 N1 trivial (by kst_all) ⟨Nat.zero_le _, Nat.zero_le _, by simp⟩ ?_) ?_ (fun _ _ h => h)
    · rintro ⟨q, tq⟩ u h2 tk2 - ⟨c1, c2, c3⟩ F2 N2
      dsimp only at *
      (try k_fold)
      k_steps
      · rename_i heq hB F3 N3
        unfold Stopped
        have q1 : q < xs.length ∧ q < ys.length := by
          clear F3 N3 heq
          simp only [Int.toNat_natCast, List.length_drop] at *
          omega
        have e : xs[q]'q1.1 = ys[q]'q1.2 := by
          simpa [List.getD_eq_getElem?_getD, q1.1, q1.2] using heq
        refine ksw_end (q + 1, _) F3 N3 (fun _ h => h) trivial (by kst_all) (by walk_at "my same") ⟨q1.1, q1.2, take_one_more c3 q1.1 q1.2 e⟩ (by show 30 - (q + 1) < 30 - q; omega)
      all_goals
        exact ⟨rfl, q, tq, _, _, _, rfl, c1, c2, c3, by assumption, by assumption, by kst_all⟩
    rintro f s₂ ⟨rfl, q, tq, h2, tk2, m1, rfl, c1, c2, c3, F2, N2, hm⟩
    replace F2 := fr_known _ F2 hm
    clear hm F1 N1
    dsimp only
    k_steps
    rename_i hB ta tkA hC hE tb tkB hF F3 N3
    rw [Int.toNat_natCast] at F3
    refine ⟨xs.drop q, ys.drop q, ta, tb, _, _, _, rfl, ?_, by rw [List.length_drop]; omega, by rw [List.length_drop]; omega, trivial, F3, N3, by kst_all⟩
    intro r hr
    have e : D xs ys = D (xs.drop q) (ys.drop q) := by
      conv => lhs; rw [← List.take_append_drop q xs, ← List.take_append_drop q ys, c3]
      exact hD.pre _ _ _
    unfold LevAns at *
    rw [e]; exact hr
  rintro s' ⟨as, bs, ta, tb, h2, tk2, m1, rfl, hans, hx1, hy1, -, F2, N2, hm⟩
  replace F2 := fr_known _ F2 hm
  clear hm F' N'
  dsimp only [List.drop]
  refine execs_mid 4 (LevAt D k tk0 xs ys (fun _ _ => True) g' L' news s) ?_ ?_
  · dsimp only [List.take]
    k_steps
    rename_i hA F3 N3
    unfold Stopped
    refine wpAny_mono (Q := fun f s₂ => Stopped (f = .next ∧ ∃ (p : Nat) (tq : Tok) (h2 : Heap) (tk2 : Nat) (m1 : Str → Option Value), s₂ = { s with heap := h2, toks := tk2 } ∧ p ≤ as.length ∧ p ≤ bs.length ∧ as.drop (as.length - p) = bs.drop (bs.length - p) ∧
        Fr g' L' h2 m1 ∧ News g' L' h2 news ∧ ∀ z ∈ [(Str.ofString "max_cost", Value.int k tk0), (Str.ofString "b", Value.str (S bs) tb), (Str.ofString "a", Value.str (S as) ta), (Str.ofString "post", Value.int (-(p : Int)) tq)], m1 z.1 = some z.2))
      (ksw_while (σ := Nat × Tok) (fun c => news) (fun c => [(Str.ofString "post", .int (-(c.1 : Int)) c.2)]) (fun _ => True) []
        (fun c => c.1 ≤ as.length ∧ c.1 ≤ bs.length ∧ as.drop (as.length - c.1) = bs.drop (bs.length - c.1)) (fun c => 30 - c.1) (0, _) F3 N3 trivial (by kst_all) ⟨Nat.zero_le _, Nat.zero_le _, by simp⟩ ?_) ?_ (fun _ _ h => h)
    · rintro ⟨p, tq⟩ u h2 tk2 - ⟨c1, c2, c3⟩ F4 N4
      dsimp only at *
      (try k_fold)
      k_steps
      all_goals first
        | (exact ⟨rfl, p, tq, _, _, _, rfl, c1, c2, c3, by assumption, by assumption, by kst_all⟩)
        | (exfalso; omega)
        | (unfold Stopped
           (rename [List.getD _ _ _] = [List.getD _ _ _] => heq)
           (rename Fr _ _ _ _ => F5)
           (rename News _ _ _ _ => N5)
           have hlen : p < as.length ∧ p < bs.length := by
             clear F5 N5 heq
             (try simp only [List.length_take] at *)
             omega
           have e1 : (-(p : Int) - 1 + as.length).toNat = as.length - (p + 1) := by omega
           have e2 : (-(p : Int) - 1 + bs.length).toNat = bs.length - (p + 1) := by omega
           have e3 : (-(p : Int) - 1) = -((p + 1 : Nat) : Int) := by omega
           rw [e1, e2] at heq
           simp only [e3] at F5
           refine ksw_end (p + 1, _) F5 N5 (fun _ h => h) trivial (by kst_all) (by walk_at "my same") ⟨hlen.1, hlen.2, drop_one_more c3 hlen.1 hlen.2 (List.cons.inj heq).1⟩ (by show 30 - (p + 1) < 30 - p; omega))
    rintro f s₂ ⟨rfl, p, tq2, h4, tk4, m2, rfl, c1, c2, c3, F2, N2, hm⟩
    replace F2 := fr_known _ F2 hm
    clear hm F3 N3
    dsimp only
    have hans2 : ∀ r, LevAns D (as.take (as.length - p)) (bs.take (bs.length - p)) k r → LevAns D xs ys k r := by
      intro r hr
      refine hans r ?_
      have e : D as bs = D (as.take (as.length - p)) (bs.take (bs.length - p)) := by
        conv => lhs; rw [← List.take_append_drop (as.length - p) as, ← List.take_append_drop (bs.length - p) bs, c3]
        exact hD.post _ _ _
      unfold LevAns at *
      rw [e]; exact hr
    have e1 : (-(p : Int) + as.length).toNat = as.length - p := by omega
    have e2 : (-(p : Int) + bs.length).toNat = bs.length - p := by omega
    k_steps
    all_goals first
      | (exfalso; omega)
      | ((rename Fr _ _ _ _ => F5)
         (rename News _ _ _ _ => N5)
         rw [e1, e2] at F5
         exact ⟨as.take (as.length - p), bs.take (bs.length - p), _, _, _, _, _, rfl, hans2, by rw [List.length_take]; omega, by rw [List.length_take]; omega, trivial, F5, N5, by kst_all⟩)
      | ((rename Fr _ _ _ _ => F5)
         (rename News _ _ _ _ => N5)
         have hp0 : p = 0 := by omega
         subst hp0
         rw [Nat.sub_zero, Nat.sub_zero, List.take_length, List.take_length] at hans2
         exact ⟨as, bs, _, _, _, _, _, rfl, hans2, hx1, hy1, trivial, F5, N5, by kst_all⟩)
  rintro s' ⟨as, bs, ta, tb, h2, tk2, m1, rfl, hans, hx1, hy1, -, F2, N2, hm⟩
  replace F2 := fr_known _ F2 hm
  clear hm
  dsimp only [List.drop]
  refine execs_mid 3 (LevAt D k tk0 xs ys (fun as bs => 0 < as.length ∧ as.length ≤ bs.length) g' L' news s) ?_ ?_
  · dsimp only [List.take]
    k_steps
    · (rename Fr _ _ _ _ => F5)
      (rename News _ _ _ _ => N5)
      refine ⟨bs, as, _, _, _, _, _, rfl, ?_, hy1, hx1, ⟨by omega, by omega⟩, F5, fun p hp => N5 p (.tail _ hp), by kst_all⟩
      intro r hr
      refine hans r ?_
      unfold LevAns at *
      rw [hD.symm as bs]; exact hr
    · exact ⟨as, bs, _, _, _, _, _, rfl, hans, hx1, hy1, ⟨by omega, by omega⟩, F2, N2, by kst_all⟩
    · rename_i kF kN Tc kX
      refine hret _ _ _ _ (hans _ (.inl ?_)) kF kN
      have e : bs = [] := List.eq_nil_of_length_eq_zero (by omega)
      subst e
      rw [hD.nil2]; simp
    · rename_i kF kN Tc kX
      refine hret _ _ _ _ (hans _ (.inl ?_)) kF kN
      have e : as = [] := List.eq_nil_of_length_eq_zero (by omega)
      subst e
      rw [hD.nil1]; simp
  rintro s' ⟨as, bs, ta, tb, h2, tk2, m1, rfl, hans, hx1, hy1, ⟨ha0, hab⟩, F2, N2, hm⟩
  replace F2 := fr_known _ F2 hm
  clear hm
  dsimp only [List.drop]
  k_steps
  · rename_i hlt kF kN Tc kX
    refine hret _ _ _ _ (hans _ (.inr ⟨rfl, ?_⟩)) kF kN
    have := hD.len as bs
    omega
  rename_i hle t9 k9 hA tkA t1 u1 v1 hR F3 N3 hkp
  unfold Stopped
  refine list_range2 (n := as.length) rfl (by omega) rfl F3 N3 hR ?_
  intro R us c h4 tk4 F4 N4 l4 hi
  (try dsimp only)
  k_steps
  rename_i hB hC F5' N5' t10 k10 hE tk10 t2 u2 v2 hR2 F5 N5 hkp2
  unfold Stopped
  refine range_inv (n := bs.length) (fun i m nx => ∃ (us : List Value) (c : Nat) (res : Int) (tr : Tok), nx = (R, listOf us.toArray c) :: news ∧ IntsAre us (rowD D as bs i) ∧ (0 < i → res = D (bs.take i) as) ∧
      ∀ p ∈ [(Str.ofString "max_cost", Value.int k tk0), (Str.ofString "b", Value.str (S bs) tb), (Str.ofString "a", Value.str (S as) ta), (Str.ofString "row", Value.ref R), (Str.ofString "result", Value.int res tr)], m p.1 = some p.2)
    rfl (by omega) rfl hR2 F5 N5 ⟨us, c, 0, _, rfl, by rw [row_zero hD]; exact hi, fun h => absurd h (Nat.lt_irrefl _), by kst_all⟩ ?_ ?_
  · rintro i ti m₁ nx h5 tk5 own hin hadr hoff ⟨us, c, res, tr, rfl, hi, hres, hm⟩ F6 N6
    replace F6 := fr_known _ F6 (known_over hm rfl)
    clear hm
    dsimp only
    k_steps
    rename_i tbc kbc hG hH hI hJ F7' N7' t11 k11 hK tk11 t3 u3 v3 hR3 F7 N7 hkp3
    unfold Stopped
    rw [← mix_zero] at hi
    refine range_inv (n := as.length) (news := (R, listOf us.toArray c) :: (news ++ own)) (fun j m nx => ∃ (us : List Value) (c : Nat) (dist res mn : Int) (td tr tm : Tok), nx = (R, listOf us.toArray c) :: (news ++ own) ∧ IntsAre us (mixD D as bs i j) ∧ dist = D (bs.take i) (as.take j) ∧
        (res = if j = 0 then 2 * (i : Int) else D (bs.take (i + 1)) (as.take j)) ∧ (∀ t, t < j → mn ≤ D (bs.take (i + 1)) (as.take (t + 1))) ∧
        ∀ p ∈ [(Str.ofString "max_cost", Value.int k tk0), (Str.ofString "b", Value.str (S bs) tb), (Str.ofString "a", Value.str (S as) ta), (Str.ofString "row", Value.ref R), (Str.ofString "bchar", Value.str (S [bs.getD i 0]) tbc), (Str.ofString "distance", Value.int dist td), (Str.ofString "result", Value.int res tr), (Str.ofString "minimum", Value.int mn tm)], m p.1 = some p.2)
      rfl (by omega) rfl hR3 F7 N7 ⟨us, c, _, _, _, _, _, _, rfl, hi, ?_, ?_, fun t ht => absurd ht (Nat.not_lt_zero _), by kst_all⟩ ?_ ?_
    · rw [List.take_zero, hD.nil2, List.length_take]; omega
    · rw [if_pos rfl]; omega
    · rintro j tj m₂ nx h6 tk6 own2 hjn hadr2 hoff2 ⟨us, c, dist, res, mn, td, tr, tm, rfl, hi, hdist, hres, hmn, hm⟩ F8 N8
      replace F8 := fr_known _ F8 (known_over hm rfl)
      clear hm
      dsimp only
      k_steps
      rename_i ts ks
      unfold Stopped
      refine sub_tells _ _ _ _ _ (S_len _) (S_len _) w mean mg mb _ _ _ _ _ _ _ _ _ _ _ _ _ _ _ _ _ B' F8 X' N8 T' rfl (by ktr_room) (by ktr_units) ?_
      intro tsub h7 tk7 F9 N9
      clear F8 N8
      have hstep := hD.step as bs i j hin hjn
      rw [show (Int.toNat (j : Int)) = j from rfl]
      have es : subS (S [bs.getD i 0]) (S [as.getD j 0]) = subS (S [bs[i]]) (S [as[j]]) := by
        simp [List.getD_eq_getElem?_getD, hin, hjn]
      rw [es]
      have hsb : subS (S [bs[i]]) (S [as[j]]) ≤ 2 := subS_le _ _
      generalize subS (S [bs[i]]) (S [as[j]]) = sb at hstep hsb ⊢
      have hml := mix_len D as bs i j
      (try dsimp only)
      k_steps
      rename_i hM tM tW hN hO hP hS F10 N10
      unfold Stopped
      simp only [Int.toNat_natCast, mix_get D as bs i j hjn] at F10 ⊢
      have hv : (if dist + sb < (if D (bs.take i) (as.take (j + 1)) < res then D (bs.take i) (as.take (j + 1)) else res) + 2 then dist + sb else (if D (bs.take i) (as.take (j + 1)) < res then D (bs.take i) (as.take (j + 1)) else res) + 2) = D (bs.take (i + 1)) (as.take (j + 1)) := by
        rw [hstep, ← hdist]
        by_cases h0 : j = 0
        · rw [if_pos h0] at hres
          subst h0
          rw [List.take_zero, hD.nil2, List.length_take]
          rw [List.take_zero, hD.nil2, List.length_take] at hdist
          repeat' split
          all_goals omega
        · rw [if_neg h0] at hres
          rw [← hres]
          repeat' split
          all_goals omega
      simp only [hv] at F10 ⊢
      have hne : ∀ p ∈ (news ++ own) ++ own2, p.1 ≠ R := by
        intro p hp
        rcases List.mem_append.mp hp with hp | hp
        · rcases List.mem_append.mp hp with hp | hp
          · exact Nat.ne_of_lt (l4 p hp)
          · exact hoff p hp R (.head _)
        · exact hoff2 p hp R (.head _)
      refine ksa_set (ns := mixD D as bs i j) F10 N10 (Upd.head hne) hi (by omega) (by omega) (by omega) ?_
      intro h8 F11 N11 hi2 hl2 hs2
      rw [Int.toNat_natCast] at N11
      rw [Int.toNat_natCast, mix_set] at hi2
      clear F10 N10 hl2 hs2
      (try dsimp only)
      k_steps
      · rename_i hlt hQ F12 N12
        unfold Stopped
        refine InvEndN.intro F12 N12 ⟨_, c, _, _, _, _, _, _, rfl, hi2, rfl, (if_neg (Nat.succ_ne_zero j)).symm, ?_, by kst_all⟩ hadr2 (fun p hp => List.mem_append_left _ hp) (fun p hp => List.Mem.tail _ (List.mem_append_right _ hp))
        intro t ht
        by_cases e : t = j
        · subst e; exact Int.le_refl _
        · have := hmn t (by omega); omega
      · rename_i hlt
        unfold Stopped
        refine InvEndN.intro F11 N11 ⟨_, c, _, _, _, _, _, _, rfl, hi2, rfl, (if_neg (Nat.succ_ne_zero j)).symm, ?_, by kst_all⟩ hadr2 (fun p hp => List.mem_append_left _ hp) (fun p hp => List.Mem.tail _ (List.mem_append_right _ hp))
        intro t ht
        by_cases e : t = j
        · subst e; omega
        · exact hmn t (by omega)
    · rintro m₂ nx h6 tk6 ⟨us, c, dist, res, mn, td, tr, tm, rfl, hi, hdist, hres, hmn, hm⟩ F8 N8
      replace F8 := fr_known _ F8 hm
      clear hm
      dsimp only
      k_steps
      · rename_i hlt kF kN Tc kX
        refine hret _ _ _ _ (hans _ (.inr ⟨rfl, ?_⟩)) kF (fun p hp => kN p (.tail _ (List.mem_append_left _ hp)))
        obtain ⟨j, hj, hle⟩ := hD.row as bs i hin ha0
        have := hmn j hj
        rw [hD.symm as bs]
        omega
      · unfold Stopped
        rw [mix_full] at hi
        rw [if_neg (by omega), List.take_length] at hres
        exact InvEndN.intro F8 N8 ⟨us, c, res, tr, rfl, hi, fun _ => hres, by kst_all⟩ rfl (fun p hp => by
          rcases List.mem_cons.mp hp with e | hp
          · rw [e]; exact .head _
          · exact .tail _ (List.mem_append_left _ hp)) (fun p hp => .tail _ (List.mem_append_right _ hp))
  · rintro m₁ nx h5 tk5 ⟨us, c, res, tr, rfl, hi, hres, hm⟩ F6 N6
    replace F6 := fr_known _ F6 hm
    clear hm
    dsimp only
    k_steps
    rename_i kF kN Tc kX
    refine hret _ _ _ _ (hans _ (.inl ?_)) kF (fun p hp => kN p (.tail _ hp))
    rw [hres (by omega), List.take_length, hD.symm]
end Mine
end
section
open PySem PySem.W PyProof.Rows PySem.Spec PySem.Calls
set_option maxRecDepth 100000
set_option maxHeartbeats 8000000
namespace Mine
local macro_rules | `(tactic| walk_at "my enter") => `(tactic| (refine' code_def ?k1 ?k2 ?k3 ?k4 ?k5 ?kA ?kF ?kK ?k6 ?k7 ?k8 ?k9 ?kB ?_ ?c2 ?c3 ?c4 ?c5; (case kA => exact rfl); (case kF => exact rfl); (case kK => assumption); (case k1 => k_asm); (case k2 => k_asm); (case k3 => k_asm); (case k4 => k_asm); (case k5 => k_asm); (case k6 => k_is); (case k7 => k_is); (case k8 => ktr_room); (case k9 => exact BindsTo.of_eq rfl); (case c5 => decide); (case kB => exact locs rfl); (case c2 => exact rfl); (case c3 => exact rfl); (case c4 => exact rfl)))
local macro_rules | `(tactic| walk_at "my same") => `(tactic| (intro z h2 h3; (simp only [List.forall_mem_cons, List.not_mem_nil, false_implies, implies_true, and_true, ne_eq] at h2); (simp only [List.contains_cons, List.contains_nil, Bool.or_false, Bool.or_eq_false_iff, beq_eq_false_iff_ne, ne_eq] at h3); (simp [kstB, h2, h3]; done)))
local macro_rules | `(tactic| walk_at "exec While") => `(tactic| refine Stopped.out ?_)
local macro_rules | `(tactic| walk_at "exec While Compare cons nil") => `(tactic| refine Stopped.out ?_)
local macro_rules | `(tactic| walk_at "call ref") => `(tactic| refine Stopped.out ?_)
local macro_rules | `(tactic| walk_at "KswEnd") => `(tactic| refine Stopped.out ?_)

/-- the sign that a number stands for -/
def sgn (x : Int) : Nat := [97, 65, 98, 66, 91, 123].getD (x % 6).toNat 0
theorem table_is : Str.ofString "aAbB[{" = S [97, 65, 98, 66, 91, 123] := by decide +kernel
theorem sign_is (a : Int) : Txt.item (Str.ofString "aAbB[{") (Int.fmod a 6) = S [sgn a] := by
  have h1 := Int.emod_nonneg a (show (6 : Int) ≠ 0 by decide)
  have h2 := Int.emod_lt_of_pos a (show (0 : Int) < 6 by decide)
  rw [table_is, Int.fmod_eq_emod_of_nonneg a (by decide), item_at _ _ (a % 6).toNat (by simp; omega) (.inl (by omega))]
  unfold sgn
  rw [List.getD_eq_getElem?_getD, List.getElem?_eq_getElem (by simp; omega)]
  rfl
theorem join_signs : ∀ ns : List Int, Txt.join (Str.ofString "") (ns.map fun a => Txt.item (Str.ofString "aAbB[{") (Int.fmod a 6)) = S (ns.map sgn) := by
  have e0 : Str.ofString "" = S [] := by decide +kernel
  have key : ∀ ns : List Int, Str.join (S []) (ns.map fun a => S [sgn a]) = S (ns.map sgn) := by
    intro ns
    induction ns with
    | nil => rfl
    | cons a r ih =>
      cases r with
      | nil => rfl
      | cons b r =>
        show S [sgn a] ++ S [] ++ Str.join (S []) ((b :: r).map fun a => S [sgn a]) = _
        rw [ih, S_append, S_append]
        rfl
  intro ns
  have e1 : (ns.map fun a => Txt.item (Str.ofString "aAbB[{") (Int.fmod a 6)) = ns.map fun a => S [sgn a] := List.map_congr_left fun a _ => sign_is a
  rw [e1, e0]
  exact (StrLaws.glued_eq_join _ _).trans (key ns)
theorem word_tells (vs : List Value) (ns : List Int) (n : Nat) (l : Addr) (hi : IntsAre vs ns) (hl : ns.length < 100) (news : List (Addr × Obj)) :
    Tells 15 68 [.ref l] ((l, listOf vs.toArray n) :: news) (fun h₀ L m s Q => ∀ t h' tk', Fr h₀ L h' m → News h₀ L h' ((l, listOf vs.toArray n) :: news) → Q (.str (S (ns.map sgn)) t) { s with heap := h', toks := tk' }) := by
  unfold Tells
  w_top off
  k_fill
  intro w mean mg mb dp un gd cn cs a ccd cl outer A₀ base h₀ L m s Q E B F X N T hk hd hu hret
  refine wpAny_call ?_
  k_dflt (walk_at "my enter")
  k_whole
  intro g' L' h' FG' F' N' B' X' T'
  dsimp only
  replace F' : Fr g' L' h' (fun z => List.lookup z [(Str.ofString "numbers", .ref l)]) := F'
  (try k_lift B')
  (try k_fold)
  k_steps
  rename_i kF kN Tc kX
  refine cb_retS (Q := Q) hret ?_ kF kN
  rw [List.filter_eq_self.mpr (by simp)]
  exact join_signs ns
end Mine
end
section
open PySem PySem.W PyProof.Rows PySem.Spec PySem.Calls
set_option maxRecDepth 100000
set_option maxHeartbeats 8000000
namespace Mine
local macro_rules | `(tactic| walk_at "call ref") => `(tactic| refine Stopped.out ?_)
local macro_rules | `(tactic| walk_at "my len") => `(tactic| ((try dsimp only at *); first | omega | ((try simp only [List.length_take, List.length_drop, List.length_map, List.length_reverse, List.length_append, decide_eq_true_eq, decide_eq_false_iff_not] at *); omega)))
local macro_rules | `(tactic| walk_at "my cut") => `(tactic| (k_here; (with_reducible show wpAny _ _ (subscriptTail _ (Expr.Slice none (some _) none _) (Value.str (S _) _) (Value.ref _)) _ _ _); (refine cut_np (s := ⟨_, _, _, _, _⟩) (by assumption) (by assumption) (by walk_at "my len") (by walk_at "my len") (by walk_at "my len") ?_); intro h9 t9 k9 F9 N9; (try k_sweep)))
local macro_rules | `(tactic| walk_at "my cut") => `(tactic| (k_here; (with_reducible show wpAny _ _ (subscriptTail _ (Expr.Slice (some _) none none _) (Value.str (S _) _) (Value.ref _)) _ _ _); (refine cut_pn (s := ⟨_, _, _, _, _⟩) (by assumption) (by assumption) (by walk_at "my len") (by walk_at "my len") (by walk_at "my len") ?_); intro h9 t9 k9 F9 N9; (try k_sweep)))
local macro_rules | `(tactic| walk_at "my cut") => `(tactic| (k_here; (with_reducible show wpAny _ _ (subscriptTail _ (Expr.Slice none none (some _) _) (Value.str (S _) _) (Value.ref _)) _ _ _); (refine cut_rev (s := ⟨_, _, _, _, _⟩) (by assumption) (by assumption) (by walk_at "my len") ?_); intro h9 t9 k9 F9 N9; (try k_sweep)))
local macro_rules | `(tactic| walk_at "subscriptTail Name Slice str ref") => `(tactic| walk_at "my cut")
local macro_rules | `(tactic| walk_at "subscriptTail Subscript Name Slice Slice str ref") => `(tactic| walk_at "my cut")
local macro_rules | `(tactic| walk_at "subscriptTail Subscript") => `(tactic| walk_at "my cut")
local macro_rules | `(tactic| walk_at "binaryOp Add str str") => `(tactic| (k_here; (with_reducible show wpAny _ _ (binaryOp Operator.Add (Value.str (S _) _) (Value.str (S _) _)) _ _ _); k_dflt (refine text_add (by walk_at "my len") (by walk_at "my len") ?_); intro t9 k9))
/-- what the folding's invariant must obey -/
structure FoldLaws (cs : List Int) (FI : List Item → List Pair → Prop) (μ : List Item → List Pair → Nat) : Prop where
  start : ∀ a, FI [⟨a, 0, 0, cs.length⟩] []
  ok : ∀ (xs : List Item) (ds : List Pair), FI xs ds → 0 < xs.length ∧ xs.length < 800 ∧ ds.length < 800
  head : ∀ (xs : List Item) (ds : List Pair) (x : Item), FI xs ds → xs[0]? = some x → 0 ≤ x.f ∧ x.b ≤ (cs.length : Int)
  pop : ∀ (ys : List Item) (y : Item) (ds : List Pair) (x : Item), FI (ys ++ [y]) ds → (ys ++ [y])[0]? = some x → 1 < x.b - x.f → (∃ p ∈ ds, p.f = x.f ∧ p.b = x.b) →
      FI (popF ys y) ds ∧ μ (popF ys y) ds < μ (ys ++ [y]) ds
  step : ∀ (xs : List Item) (ds : List Pair) (x : Item) (a1 a2 a3 a4 : Addr), FI xs ds → xs[0]? = some x → 1 < x.b - x.f → (¬ ∃ p ∈ ds, p.f = x.f ∧ p.b = x.b) →
      FI (pushF (pushF (replF xs ⟨a1, x.c + priceF (cs.getD x.f.toNat 0) (cs.getD (x.b - 1).toNat 0), x.f + 1, x.b - 1⟩) ⟨a2, x.c + 2, x.f + 1, x.b⟩) ⟨a3, x.c + 2, x.f, x.b - 1⟩) (ds ++ [⟨a4, x.f, x.b⟩]) ∧
      μ (pushF (pushF (replF xs ⟨a1, x.c + priceF (cs.getD x.f.toNat 0) (cs.getD (x.b - 1).toNat 0), x.f + 1, x.b - 1⟩) ⟨a2, x.c + 2, x.f + 1, x.b⟩) ⟨a3, x.c + 2, x.f, x.b - 1⟩) (ds ++ [⟨a4, x.f, x.b⟩]) < μ xs ds
/-- what the law asks of the word and the folding's end -/
structure LawFacts (D : List Nat → List Nat → Int) (w : List Nat) (c f b : Int) : Prop where
  f0 : 0 ≤ f
  fb : f ≤ b
  bn : b ≤ (w.length : Int)
  mirror : D w w.reverse = 2 * c
  pal : D w (w.take b.toNat ++ (w.take f.toNat).reverse) = c
  oth1 : ∀ h : List Nat, c ≤ D w (h ++ h.reverse)
  oth2 : ∀ h : List Nat, c ≤ D w (h ++ h.reverse.drop 1)
/-- the numbers are picked -/
def LawAt (script : List Int) (sl : Addr) (g : Heap) (L : Addr) (s s' : Shared) : Prop :=
  ∃ (ns : List Int) (ws : List Value) (n : Nat) (lc : Addr) (h : Heap) (tk : Nat) (m1 : Str → Option Value), s' = { s with heap := h, toks := tk } ∧ 2 < ns.length ∧ ns.length < 8 ∧ IntsAre ws ns ∧ Fr g L h m1 ∧ News g L h [(lc, listOf ws.toArray n)] ∧
    ∀ p ∈ [(Str.ofString "numbers", Value.ref lc), (Str.ofString "script", Value.ref sl)], m1 p.1 = some p.2
/-- the two distances are told -/
def LawMid (D : List Nat → List Nat → Int) (sl : Addr) (g : Heap) (L : Addr) (s s' : Shared) : Prop :=
  ∃ (wd : List Nat) (c : Int) (tw tc : Tok) (h : Heap) (tk : Nat) (m1 : Str → Option Value), s' = { s with heap := h, toks := tk } ∧ wd.length < 8 ∧ (∀ h : List Nat, c ≤ D wd (h ++ h.reverse)) ∧ (∀ h : List Nat, c ≤ D wd (h ++ h.reverse.drop 1)) ∧
    Fr g L h m1 ∧ News g L h [] ∧ ∀ p ∈ [(Str.ofString "word", Value.str (S wd) tw), (Str.ofString "cost", Value.int c tc), (Str.ofString "script", Value.ref sl)], m1 p.1 = some p.2
/-- the half is there -/
def LawHalf (wd : List Nat) (c : Int) (tw tc : Tok) (g : Heap) (L : Addr) (s s' : Shared) : Prop :=
  ∃ (hf : List Nat) (th : Tok) (h : Heap) (tk : Nat) (m1 : Str → Option Value), s' = { s with heap := h, toks := tk } ∧ 0 < hf.length ∧ hf.length < 4 ∧ Fr g L h m1 ∧ News g L h [] ∧
    ∀ p ∈ [(Str.ofString "half", Value.str (S hf) th), (Str.ofString "word", Value.str (S wd) tw), (Str.ofString "cost", Value.int c tc)], m1 p.1 = some p.2
theorem lawW (D : List Nat → List Nat → Int) (hD : LevLaws D) (FI : List Int → List Item → List Pair → Prop) (μ : List Item → List Pair → Nat)
    (hfold : ∀ ns : List Int, 2 < ns.length → ns.length < 8 → FoldLaws (ns.map fun k => Int.fmod k 6) (FI (ns.map fun k => Int.fmod k 6)) μ)
    (hfin : ∀ (ns : List Int) (xs : List Item) (ds : List Pair) (x : Item), 2 < ns.length → ns.length < 8 → FI (ns.map fun k => Int.fmod k 6) xs ds → xs[0]? = some x → ¬ 1 < x.b - x.f → LawFacts D (ns.map sgn) x.c x.f x.b) : PySem.Challenge.rw_nq0070_01.Holds := Mine.hd (by
  k_go0
  all_goals try k_fold
  rename_i w s₀ s₁ mg mb G Y fa ob pm doc kV ho hg KX X V GL T BT TE TW wa wo M wb wc hcd script hs hlay0 hL1 hr1 hl2 w4 w3 sl vs w0 hL ra w1 r0 hI hr hc1 hc2 K0 hDf h₁ F N0
  dsimp only
  refine execs_mid 1 (LawAt script sl (Shared.heap s₁) (Array.size (Heap.objs (Shared.heap s₁))) s₁) ?_ ?_
  · dsimp only [List.take]
    k_steps
    · rename_i hlen lc ws hA hI2 hC2 hL2 l1 hB F2 N2
      refine ⟨_, ws, 0, lc, _, _, _, rfl, ?_, ?_, hI2, F2, N2, by kst_all⟩ <;> omega
    · rename_i hlen l' hA l1 lc2 ws2 hB hI3 l2 lc ws hC hI2 hC2 hL2 l3 hD2 F2 N2
      refine ⟨_, ws, 0, lc, _, _, _, rfl, ?_, ?_, hI2, F2, fun p hp => N2 p (by rw [List.mem_singleton.mp hp]; exact .head _), by kst_all⟩
      · rw [hC2, List.length_append]; simp
      · omega
  rintro s' ⟨ns, ws, n, lc, h2, tk2, m1, rfl, hn3, hn7, hI2, F2, N2, hm⟩
  replace F2 := fr_known _ F2 hm
  clear hm F N0
  dsimp only [List.drop]
  refine execs_mid 4 (LawMid D sl (Shared.heap s₁) (Array.size (Heap.objs (Shared.heap s₁))) s₁) ?_ ?_
  · dsimp only [List.take]
    k_steps
    unfold Stopped
    refine word_tells ws ns n lc hI2 (by omega) [] w _ mg mb _ _ _ _ _ _ _ _ _ _ _ _ _ _ _ _ _ K0 F2 KX N2 T rfl (by ktr_room) (by ktr_units) ?_
    intro tw h3 tk3 F3 N3
    clear F2 N2
    (try dsimp only)
    k_steps
    rename_i nD tkA e1 e2 gh hI8 hL8 lc2 h4 tk4 F4 N4 hne
    unfold Stopped
    have HF := hfold ns hn3 hn7
    refine fold_tells (ns.map fun k => Int.fmod k 6) (FI (ns.map fun k => Int.fmod k 6)) μ HF.start HF.ok HF.head HF.pop HF.step ys ys.length lc2 hI8 (by simpa using hn3) (by simpa using hn7) [] (fun _ h => nomatch h) w _ mg mb _ _ _ _ _ _ _ _ _ _ _ _ _ _ _ _ _ K0 F4 KX (fun p hp => N4 p (by rw [List.mem_singleton.mp hp]; exact .head _)) T rfl (by ktr_room) (by ktr_units) ?_
    intro xs ds x t1 t2 t3 h5 tk5 hFI hx0 hle F5 N5
    clear F4 N4
    have HL := hfin ns xs ds x hn3 hn7 hFI hx0 hle
    have hw8 : (ns.map sgn).length < 8 := by simpa using hn7
    generalize ns.map sgn = wd at HL F5 hw8
    obtain ⟨a, c, f, b⟩ := x
    dsimp only at HL F5 N5 ⊢
    obtain ⟨f0, fb, bn, mirror, pal, oth1, oth2⟩ := HL
    k_steps
    rename_i hA hB hC hE h6 t6 k6 F6 N6
    unfold Stopped
    refine lev_tells D hD wd wd.reverse (2 * c) _ _ _ _ (by omega) (by rw [List.length_reverse]; omega) w _ mg mb _ _ _ _ _ _ _ _ _ _ _ _ _ _ _ _ _ K0 F6 KX N6 T rfl (by ktr_room) (by ktr_units) ?_
    intro r t7 h7 tk7 hr F7 N7
    clear F6 N6
    have er : r = 2 * c := by
      unfold LevAns at hr
      omega
    subst er
    (try dsimp only)
    k_steps
    rename_i h8 t8 k8 h9 t9 k9 h10 t10 k10 F8 N8 t11 k11
    unfold Stopped
    refine lev_tells D hD wd _ c _ _ _ _ (by omega) (by rw [List.length_append, List.length_reverse, List.length_take, List.length_take]; omega) w _ mg mb _ _ _ _ _ _ _ _ _ _ _ _ _ _ _ _ _ K0 F8 KX N8 T rfl (by ktr_room) (by ktr_units) ?_
    intro r t12 h12 tk12 hr F9 N9
    clear F8 N8
    have er : r = c := by
      unfold LevAns at hr
      omega
    subst er
    (try dsimp only)
    k_steps
    exact ⟨wd, r, tw, t1, _, _, _, rfl, hw8, oth1, oth2, F9, News.nil, by kst_all⟩
  rintro s' ⟨wd, c, tw, tc, h2, tk2, m1, rfl, hw8, oth1, oth2, F2, N2, hm⟩
  replace F2 := fr_known _ F2 hm
  clear hm
  dsimp only [List.drop]
  refine execs_mid 1 (LawHalf wd c tw tc (Shared.heap s₁) (Array.size (Heap.objs (Shared.heap s₁))) s₁) ?_ ?_
  · dsimp only [List.take]
    k_steps
    · rename_i hlen lc ws hA F3 N3 hI3 hC3 hL3 l1
      unfold Stopped
      refine word_tells ws _ 0 lc hI3 (by omega) [] w _ mg mb _ _ _ _ _ _ _ _ _ _ _ _ _ _ _ _ _ K0 F3 KX N3 T rfl (by ktr_room) (by ktr_units) ?_
      intro th h4 tk4 F4 N4
      clear F3 N3
      (try dsimp only)
      k_steps
      rename_i hB F5 N5
      exact ⟨((script.drop 7).take (min 10 script.length - 7)).map sgn, th, _, _, _, rfl, by rw [List.length_map, hC3]; omega, by rw [List.length_map, hC3]; omega, F5, News.nil, by kst_all⟩
    · rename_i hlen lc hA F3 N3 l1
      unfold Stopped
      refine word_tells _ [1] 0 lc (.cons _ _ .nil) (by decide) [] w _ mg mb _ _ _ _ _ _ _ _ _ _ _ _ _ _ _ _ _ K0 F3 KX N3 T rfl (by ktr_room) (by ktr_units) ?_
      intro th h4 tk4 F4 N4
      clear F3 N3
      (try dsimp only)
      k_steps
      rename_i hB F5 N5
      exact ⟨[1].map sgn, th, _, _, _, rfl, by decide, by decide, F5, News.nil, by kst_all⟩
  rintro s' ⟨hf, th, h3, tk3, m2, rfl, hf0, hf4, F3, N3, hm⟩
  have hf1 : 0 < hf.reverse.length := by rw [List.length_reverse]; exact hf0
  replace F3 := fr_known _ F3 hm
  clear hm
  dsimp only [List.drop]
  k_steps
  rename_i hA t4 k4 t5 k5 hB t6 k6 hC t7 k7 t8 k8 l' hE N4' l1 i' l2 it' hG tkG hit F4 N4
  unfold Stopped
  refine lev_tells D hD wd (hf ++ hf.reverse) (c - 1) _ _ _ _ (by omega) (by rw [List.length_append, List.length_reverse]; omega) w _ mg mb _ _ _ _ _ _ _ _ _ _ _ _ _ _ _ _ _ K0 F4 KX N4 T rfl (by ktr_room) (by ktr_units) ?_
  intro r t9 h9 tk9 hr F5 N5
  have o1 := oth1 hf
  have er : ¬ r < c := by
    unfold LevAns at hr
    omega
  clear F4 N4
  (try dsimp only)
  k_steps
  rename_i it2 hH tkH hit2 F6 N6
  unfold Stopped
  refine lev_tells D hD wd _ (c - 1) _ _ _ _ (by omega) (by rw [List.length_append, List.length_drop, List.length_reverse]; omega) w _ mg mb _ _ _ _ _ _ _ _ _ _ _ _ _ _ _ _ _ K0 F6 KX N6 T rfl (by ktr_room) (by ktr_units) ?_
  intro r2 t10 h10 tk10 hr2 F7 N7
  have o2 := oth2 hf
  have er2 : ¬ r2 < c := by
    rw [show Int.toNat 1 = 1 from rfl] at hr2
    unfold LevAns at hr2
    omega
  clear F6 N6
  (try dsimp only)
  k_steps)
end Mine
end
section
open PySem PySem.W PyProof.Rows PySem.Spec PySem.Calls
set_option maxRecDepth 100000
set_option maxHeartbeats 8000000
namespace Mine
def sb (x y : Nat) : Int := subS (S [x]) (S [y])
theorem subS_cases (x y : Str) : (x = y ∧ subS x y = 0) ∨ (x ≠ y ∧ 1 ≤ subS x y ∧ subS x y ≤ 2) := by
  by_cases e : x = y
  · exact .inl ⟨e, by unfold subS; rw [if_pos (beq_iff_eq.mpr e)]⟩
  · refine .inr ⟨e, ?_, subS_le x y⟩
    unfold subS
    rw [if_neg fun h => e (beq_iff_eq.mp h)]
    split <;> decide
theorem subS_symm (x y : Str) : subS x y = subS y x := by
  unfold subS
  have e1 : (x == y) = (y == x) := Bool.eq_iff_iff.mpr (by rw [beq_iff_eq, beq_iff_eq]; exact eq_comm)
  have e2 : (Txt.lower x == Txt.lower y) = (Txt.lower y == Txt.lower x) := Bool.eq_iff_iff.mpr (by rw [beq_iff_eq, beq_iff_eq]; exact eq_comm)
  rw [e1, e2]
theorem sb_ok : SubOk sb := by
  refine ⟨fun x => ?_, fun x y => subS_symm _ _, fun x y => ?_, fun x y => subS_le _ _, fun x y z => ?_⟩
  · rcases subS_cases (S [x]) (S [x]) with ⟨_, h⟩ | ⟨h, _⟩
    · exact h
    · exact absurd rfl h
  · unfold sb
    rcases subS_cases (S [x]) (S [y]) with ⟨_, h⟩ | ⟨_, h, _⟩ <;> omega
  · unfold sb
    rcases subS_cases (S [x]) (S [y]) with ⟨e1, h1⟩ | ⟨_, h1, _⟩
    · rw [e1]
      have := subS_cases (S [y]) (S [y])
      rcases this with ⟨_, h⟩ | ⟨h, _⟩
      · omega
      · exact absurd rfl h
    · rcases subS_cases (S [y]) (S [z]) with ⟨e2, h2⟩ | ⟨_, h2, _⟩
      · rw [← e2]
        rcases subS_cases (S [y]) (S [y]) with ⟨_, h⟩ | ⟨h, _⟩
        · omega
        · exact absurd rfl h
      · have := subS_le (S [x]) (S [z])
        omega
theorem lev_laws : LevLaws (D sb) where
  refl := D_refl sb_ok
  pre := D_pre sb_ok
  post := D_post sb_ok
  nil1 := D_nil1
  nil2 := D_nil2
  symm := D_symm sb_ok
  len := fun a b => (al_min a b).len sb_ok
  step := fun a b i j hi hj => D_step a b i j hi hj
  row := fun a b i hi ha => D_row sb_ok a b i hi ha
theorem sb_is : ∀ i j : Fin 6, subS (S [[97, 65, 98, 66, 91, 123].getD i.val 0]) (S [[97, 65, 98, 66, 91, 123].getD j.val 0]) = priceF (i.val : Int) (j.val : Int) := by
  decide +kernel
theorem price_sb (a b : Int) (ha : 0 ≤ a) (ha6 : a < 6) (hb : 0 ≤ b) (hb6 : b < 6) : priceF a b = sb (sgn a) (sgn b) := by
  have h := sb_is ⟨a.toNat, by omega⟩ ⟨b.toNat, by omega⟩
  dsimp only at h
  rw [Int.toNat_of_nonneg ha, Int.toNat_of_nonneg hb] at h
  unfold sb sgn
  rw [Int.emod_eq_of_lt ha ha6, Int.emod_eq_of_lt hb hb6]
  exact h.symm
theorem sgn_mod (a : Int) : sgn (Int.fmod a 6) = sgn a := by
  unfold sgn
  rw [Int.fmod_eq_emod_of_nonneg a (by decide), Int.emod_emod]
theorem map_sgn (ns : List Int) : (ns.map fun k => Int.fmod k 6).map sgn = ns.map sgn := by
  rw [List.map_map]
  exact List.map_congr_left fun a _ => sgn_mod a
theorem getD_mod (ns : List Int) (i : Nat) : 0 ≤ (ns.map fun k => Int.fmod k 6).getD i 0 ∧ (ns.map fun k => Int.fmod k 6).getD i 0 < 6 := by
  rw [List.getD_eq_getElem?_getD, List.getElem?_map]
  cases ns[i]? with
  | none => decide
  | some a =>
    show 0 ≤ Int.fmod a 6 ∧ Int.fmod a 6 < 6
    rw [Int.fmod_eq_emod_of_nonneg a (by decide)]
    omega
theorem sgn_getD (cs : List Int) (i : Nat) (h : i < cs.length) : (cs.map sgn).getD i 0 = sgn (cs.getD i 0) := by
  rw [List.getD_eq_getElem?_getD, List.getD_eq_getElem?_getD, List.getElem?_map, List.getElem?_eq_getElem h]
  rfl
noncomputable def mu (xs : List Item) (ds : List Pair) : Nat := 3 * free ds + xs.length
def FIc (cs : List Int) (xs : List Item) (ds : List Pair) : Prop := FI sb (cs.map sgn) xs ds
theorem fold_laws (ns : List Int) (h7 : ns.length < 8) : FoldLaws (ns.map fun k => Int.fmod k 6) (FIc (ns.map fun k => Int.fmod k 6)) mu := by
  have hpr : ∀ i j, i < ns.length → j < ns.length → priceF ((ns.map fun k => Int.fmod k 6).getD i 0) ((ns.map fun k => Int.fmod k 6).getD j 0) = sb (((ns.map fun k => Int.fmod k 6).map sgn).getD i 0) (((ns.map fun k => Int.fmod k 6).map sgn).getD j 0) := by
    intro i j hi hj
    rw [sgn_getD _ i (by simpa using hi), sgn_getD _ j (by simpa using hj)]
    exact price_sb _ _ (getD_mod ns i).1 (getD_mod ns i).2 (getD_mod ns j).1 (getD_mod ns j).2
  have hl : ((ns.map fun k => Int.fmod k 6).map sgn).length = ns.length := by simp
  refine ⟨?_, ?_, ?_, ?_, ?_⟩
  · intro a
    have := FI.begin (sub := sb) ((ns.map fun k => Int.fmod k 6).map sgn) a
    rw [List.length_map] at this
    exact this
  · intro xs ds I
    have h1 := FI.len sb_ok I
    have h2 := I.size
    have h3 := I.dsize
    exact ⟨h1, by omega, by omega⟩
  · intro xs ds x I h0
    obtain ⟨g1, g2, g3, _⟩ := I.good x (List.mem_of_getElem? h0)
    rw [List.length_map] at g3
    exact ⟨g1, g3⟩
  · intro ys y ds x I h0 _ hd
    refine ⟨FI.pop I h0 hd, ?_⟩
    have := (pop_heap I.heap).2.1
    unfold mu
    rw [this, List.length_append]
    simp
  · intro xs ds x a1 a2 a3 a4 I h0 hgt hn
    obtain ⟨g1, g2, g3, _⟩ := I.good x (List.mem_of_getElem? h0)
    rw [hl] at g3
    rw [hpr x.f.toNat (x.b - 1).toNat (by omega) (by omega)]
    obtain ⟨r1, r2⟩ := FI.step sb_ok (by rw [hl]; exact h7) I h0 hgt hn a1 a2 a3 a4
    refine ⟨r1, ?_⟩
    unfold mu
    rw [length_pushF, length_pushF, length_replF]
    omega
theorem law_holds : PySem.Challenge.rw_nq0070_01.Holds := by
  refine lawW (D sb) lev_laws FIc mu (fun ns _ h7 => fold_laws ns h7) ?_
  intro ns xs ds x _ _ I h0 hle
  obtain ⟨a1, a2, a3, a4, a5, a6, a7⟩ := FI.fin sb_ok I h0 hle
  rw [map_sgn] at a3 a4 a5 a6 a7
  exact ⟨a1, a2, a3, a4, a5, a6, a7⟩
end Mine
end
theorem PySem.Challenge.cw_nq0070_01_holds : PySem.Challenge.rw_nq0070_01.Holds :=
  Mine.law_holds
