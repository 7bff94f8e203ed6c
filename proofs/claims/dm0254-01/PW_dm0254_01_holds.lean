import PyProof.Rows.All
import Wide.All
import OpenK.AllK
import Wide.FinOn
import PySem.Challenge.RW_dm0254_01
open PySem PySem.W PyProof.Rows
set_option Elab.async false

section Gt
namespace Mine
open PySem.SeqAt
open AutoSeq1 (wpAny_loadPart')
open MeetsSeq MeetsSeq2 MeetsSeq3 SeqRoads2

/-- the order of two rows of numbers: is the first the greater? -/
def gtI : List Int → List Int → Bool
  | [], _ => false
  | _ :: _, [] => true
  | a :: r, b :: t => if a = b then gtI r t else decide (b < a)

theorem ints_at {vs : List Value} {ns : List Int} (h : IntsAre vs ns) {i : Nat} (hi : i < vs.length) (hi' : i < ns.length) : ∃ t, vs[i] = Value.int ns[i] t := by
  obtain ⟨n, t, e1, e2⟩ := h.at i vs[i] (List.getElem?_eq_getElem hi)
  rw [List.getElem?_eq_getElem hi'] at e2
  cases e2
  exact ⟨t, e1⟩

theorem gtI_none1 {ns ms : List Int} {i : Nat} (h : ns.length ≤ i) : gtI (ns.drop i) (ms.drop i) = false := by
  rw [List.drop_of_length_le h]; rfl
theorem gtI_none2 {ns ms : List Int} {i : Nat} (h : i < ns.length) (h' : ms.length ≤ i) : gtI (ns.drop i) (ms.drop i) = true := by
  rw [List.drop_of_length_le h', List.drop_eq_getElem_cons h]; rfl
theorem gtI_step {ns ms : List Int} {i : Nat} (h : i < ns.length) (h' : i < ms.length) : gtI (ns.drop i) (ms.drop i) = if ns[i] = ms[i] then gtI (ns.drop (i + 1)) (ms.drop (i + 1)) else decide (ms[i] < ns[i]) := by
  rw [List.drop_eq_getElem_cons h, List.drop_eq_getElem_cons h', gtI]

theorem gt_loop (l b : Addr) (xs ys : List Value) (ns ms : List Int) (hx : IntsAre xs ns) (hy : IntsAre ys ms) (n n2 : Nat) (dd dd2 : Option Addr) (sl sl2 : Array (Option Value)) (k : Nat) :
    ∀ i : Nat, xs.length - i = k → Meets (Builtin.«list.__eq__.loop» ⟨[.ref l, .ref b, rawInt i, rawInt 4], []⟩)
      (fun _ R s => s.heap.get? l = some { cls := .type "list", dict := dd, data := .seq xs.toArray n, slots := sl } ∧ s.heap.get? b = some { cls := .type "list", dict := dd2, data := .seq ys.toArray n2, slots := sl2 } ∧
        (i ≤ xs.length ∧ i ≤ ys.length) ∧
        R (.ok (.ret (.bool (gtI (ns.drop i) (ms.drop i))))) s) := by
  have l1 := hx.length
  have l2 := hy.length
  induction k with
  | zero =>
    intro i hk prog w A R s h
    obtain ⟨hp, g, d, tk, os⟩ := s; obtain ⟨hl, hb, ⟨hi, hj⟩, h⟩ := h
    wp_walk using wpAny_loadPart' hl, wpAny_loadPart' hb
    have hi1 : xs.toArray[((i : Nat) : Int).toNat]? = none := by simp; omega
    rw [hi1]
    wp_walk using wpAny_loadPart' hl, wpAny_loadPart' hb
    rw [gtI_none1 (by omega)] at h
    show R (.ok (.ret (.bool (decide (xs.toArray.size > ys.toArray.size))))) _
    have : ¬ xs.toArray.size > ys.toArray.size := by simp; omega
    rw [decide_eq_false this]
    exact h
  | succ k ih =>
    intro i hk prog w A R s h
    obtain ⟨hp, g, d, tk, os⟩ := s; obtain ⟨hl, hb, ⟨hi, hj⟩, h⟩ := h
    have hlt : i < xs.length := by omega
    have hi1 : xs.toArray[((i : Nat) : Int).toNat]? = some xs[i] := by simp [hlt]
    have hc : ((i : Int) + 1) = ((i + 1 : Nat) : Int) := by push_cast; rfl
    by_cases hlt2 : i < ys.length
    · have hi2 : ys.toArray[((i : Nat) : Int).toNat]? = some ys[i] := by simp [hlt2]
      obtain ⟨t, et⟩ := ints_at hx hlt (by omega)
      obtain ⟨u, eu⟩ := ints_at hy hlt2 (by omega)
      rw [gtI_step (by omega) (by omega)] at h
      wp_walk using wpAny_loadPart' hl, wpAny_loadPart' hb
      rw [hi1, hi2]
      refine wpAny_bind ?_
      rw [et, eu]
      refine EqGives.int _ _ _ _ prog w _ _ _ _ ?_
      by_cases hq : ns[i] = ms[i]
      · rw [if_pos hq] at h
        rw [hq, beq_self_eq_true]
        wp_walk
        rw [hc]
        exact ⟨plainId_quiet plain_eq_loop _, codeAny_builtin entry_eq_loop (by
          rw [Around.under_plainId plain_eq_loop _]
          exact ih (i + 1) (by omega) prog w A R _ ⟨hl, hb, by omega, h⟩)⟩
      · rw [if_neg hq] at h
        rw [beq_eq_false_iff_ne.mpr hq]
        wp_walk using wpAny_loadPart' hl, wpAny_loadPart' hb
        rw [hi1, hi2]
        rw [et, eu]
        show wpAny (model prog w) A.in1 (richCompare CmpOp.Gt (Value.int ns[i] t) (Value.int ms[i] u) >>= fun v => ret v) _ _ _
        refine wpAny_bind (show wpAny (model prog w) A.in1 (compareOp CmpOp.Gt (Value.int ns[i] t) (Value.int ms[i] u)) _ _ _ from PyProof.Rows.gt_int ?_)
        wp_walk
        exact h
    · have hi2 : ys.toArray[((i : Nat) : Int).toNat]? = none := by simp; omega
      wp_walk using wpAny_loadPart' hl, wpAny_loadPart' hb
      rw [hi1, hi2]
      wp_walk using wpAny_loadPart' hl, wpAny_loadPart' hb
      rw [gtI_none2 (by omega) (by omega)] at h
      show R (.ok (.ret (.bool (decide (xs.toArray.size > ys.toArray.size))))) _
      have : xs.toArray.size > ys.toArray.size := by simp; omega
      rw [decide_eq_true this]
      exact h

theorem list_gt (l b : Addr) (xs ys : List Value) (ns ms : List Int) (hx : IntsAre xs ns) (hy : IntsAre ys ms) (n n2 : Nat) (dd dd2 : Option Addr) (sl sl2 : Array (Option Value)) :
    Meets (Builtin.«list.__gt__» ⟨[.ref l, .ref b], []⟩)
      (fun _ R s => s.heap.get? l = some { cls := .type "list", dict := dd, data := .seq xs.toArray n, slots := sl } ∧ s.heap.get? b = some { cls := .type "list", dict := dd2, data := .seq ys.toArray n2, slots := sl2 } ∧
        R (.ok (.ret (.bool (gtI ns ms)))) s) := by
  intro prog w A R s h
  obtain ⟨hp, g, d, tk, os⟩ := s; obtain ⟨hl, hb, h⟩ := h
  have f3 := AutoSeq1.sub_list_list
  wp_walk using wpAny_loadPart' hl, wpAny_loadPart' hb
  exact ⟨plainId_quiet plain_eq_loop _, codeAny_builtin entry_eq_loop (by
    rw [Around.under_plainId plain_eq_loop _]
    exact gt_loop l b xs ys ns ms hx hy n n2 dd dd2 sl sl2 _ 0 rfl prog w A R _ ⟨hl, hb, ⟨Nat.zero_le _, Nat.zero_le _⟩, by simpa using h⟩)⟩

theorem tuple_gt (l b : Addr) (xs ys : List Value) (ns ms : List Int) (hx : IntsAre xs ns) (hy : IntsAre ys ms) (n n2 : Nat) (dd dd2 : Option Addr) (sl sl2 : Array (Option Value)) :
    Meets (Builtin.«tuple.__gt__» ⟨[.ref l, .ref b], []⟩)
      (fun _ R s => s.heap.get? l = some { cls := .type "tuple", dict := dd, data := .seq xs.toArray n, slots := sl } ∧ s.heap.get? b = some { cls := .type "tuple", dict := dd2, data := .seq ys.toArray n2, slots := sl2 } ∧
        R (.ok (.ret (.bool (gtI ns ms)))) s) :=
  .of_wp fun prog w A R s h => by
    obtain ⟨hp, g, d, tk, os⟩ := s; obtain ⟨hl, hb, h⟩ := h
    have f2 := AutoSeq1.sub_tuple_tuple
    have l1 := hx.length
    have l2 := hy.length
    have hZ : (xs.toArray.toList.zip ys.toArray.toList).length = min xs.length ys.length := by simp
    wp_walk using wpAny_loadPart' hl, wpAny_loadPart' hb, wpAny_forIn_list _ (fun rest b s' => b.1 = none ∧ s' = ⟨hp, g, d, tk, os⟩ ∧ ∃ i, rest = (xs.toArray.toList.zip ys.toArray.toList).drop i ∧ i ≤ xs.length ∧ i ≤ ys.length ∧
      R (.ok (.ret (.bool (gtI (ns.drop i) (ms.drop i))))) ⟨hp, g, d, tk, os⟩) _
    case turn =>
      rintro ⟨y, x⟩ rest b s' ⟨hb', rfl, i, hz, hi, hj, hR⟩
      have hlt : i < (xs.toArray.toList.zip ys.toArray.toList).length := by
        rcases Nat.lt_or_ge i (xs.toArray.toList.zip ys.toArray.toList).length with h' | h'
        · exact h'
        · rw [List.drop_of_length_le h'] at hz; cases hz
      have hm : i < min xs.length ys.length := hZ ▸ hlt
      have h1 : i < xs.length := Nat.lt_of_lt_of_le hm (Nat.min_le_left _ _)
      have h2 : i < ys.length := Nat.lt_of_lt_of_le hm (Nat.min_le_right _ _)
      rw [List.drop_eq_getElem_cons hlt] at hz
      injection hz with hyx hrest
      have e1 : y = xs[i] := by have := congrArg Prod.fst hyx; simpa using this
      have e2 : x = ys[i] := by have := congrArg Prod.snd hyx; simpa using this
      subst e1 e2
      obtain ⟨t, et⟩ := ints_at hx h1 (by omega)
      obtain ⟨u, eu⟩ := ints_at hy h2 (by omega)
      rw [gtI_step (by omega) (by omega)] at hR
      refine wpAny_bind ?_
      rw [et, eu]
      refine EqGives.int _ _ _ _ prog w _ _ _ _ ?_
      by_cases hq : ns[i] = ms[i]
      · rw [if_pos hq] at hR
        rw [hq, beq_self_eq_true]
        wp_walk
        exact ⟨rfl, rfl, i + 1, hrest, h1, h2, hR⟩
      · rw [if_neg hq] at hR
        rw [beq_eq_false_iff_ne.mpr hq]
        show wpAny (model prog w) A.in1 (rule "tuple.compare.by-the-first-pair-that-differs" >>= fun _ => richCompare CmpOp.Gt (Value.int ns[i] t) (Value.int ms[i] u) >>= fun v => ret v >>= fun f => pure (ForInStep.done (some f, ()))) _ _ _
        refine wpAny_bind (wpAny_rule ?_)
        refine wpAny_bind (show wpAny (model prog w) A.in1 (compareOp CmpOp.Gt (Value.int ns[i] t) (Value.int ms[i] u)) _ _ _ from PyProof.Rows.gt_int ?_)
        wp_walk
        exact ⟨_, rfl, hR⟩
    case fin =>
      rintro ⟨b1, b2⟩ s' ⟨hb', rfl, i, hz, hi, hj, hR⟩
      simp only at hb'
      subst hb'
      have hge : min xs.length ys.length ≤ i := by
        rcases Nat.lt_or_ge i (xs.toArray.toList.zip ys.toArray.toList).length with h' | h'
        · rw [List.drop_eq_getElem_cons h'] at hz; cases hz
        · exact hZ ▸ h'
      wp_walk
      refine ⟨_, rfl, ?_⟩
      show R (.ok (.ret (.bool (decide (xs.toArray.size > ys.toArray.size))))) _
      by_cases hlt : i < xs.length
      · rw [gtI_none2 (by omega) (by omega)] at hR
        have : xs.toArray.size > ys.toArray.size := by simp; omega
        rw [decide_eq_true this]
        exact hR
      · rw [gtI_none1 (by omega)] at hR
        have : ¬ xs.toArray.size > ys.toArray.size := by simp; omega
        rw [decide_eq_false this]
        exact hR
    case h =>
      exact ⟨rfl, rfl, 0, rfl, Nat.zero_le _, Nat.zero_le _, by simpa using h⟩

section
variable {prog : Program} {w : World} {A : Around} {E : Value → Shared → Prop} {s : Shared} {l b : Addr} {xs ys : List Value} {ns ms : List Int} {Q : Value → Shared → Prop}

theorem gt_list (hl : s.heap.IsList l xs.toArray) (hb : s.heap.IsList b ys.toArray) (hx : IntsAre xs ns) (hy : IntsAre ys ms) (hu : A.units < cLine) (h : Q (.bool (gtI ns ms)) s) :
    wpAny (model prog w) A (compareOp .Gt (.ref l) (.ref b)) Q E s := by
  obtain ⟨⟨cls, dd, data, sl⟩, ho, hc, n, hd⟩ := id hl
  obtain ⟨⟨cls2, dd2, data2, sl2⟩, ho2, hc2, n2, hd2⟩ := id hb
  simp only at hc hd hc2 hd2
  subst hc hd hc2 hd2
  exact richCompare_meets_room (op := .Gt) ⟨_, ho, rfl⟩ ⟨_, ho2, rfl⟩ F.slot_list_gt F.entry_list_gt (F.args_list_gt_2 _ _) (list_gt l b xs ys ns ms hx hy n n2 dd dd2 sl sl2)
    ⟨ho, ho2, show Value.bool (gtI ns ms) ≠ Value.notImplemented ∧ Q (.bool (gtI ns ms)) s from ⟨(fun x => nomatch x), h⟩⟩ hu

theorem gt_tuple (hl : s.heap.IsTuple l xs.toArray) (hb : s.heap.IsTuple b ys.toArray) (hx : IntsAre xs ns) (hy : IntsAre ys ms) (hu : A.units < cLine) (h : Q (.bool (gtI ns ms)) s) :
    wpAny (model prog w) A (compareOp .Gt (.ref l) (.ref b)) Q E s := by
  obtain ⟨⟨cls, dd, data, sl⟩, ho, hc, n, hd⟩ := id hl
  obtain ⟨⟨cls2, dd2, data2, sl2⟩, ho2, hc2, n2, hd2⟩ := id hb
  simp only at hc hd hc2 hd2
  subst hc hd hc2 hd2
  exact richCompare_meets_room (op := .Gt) ⟨_, ho, rfl⟩ ⟨_, ho2, rfl⟩ F.slot_tuple_gt F.entry_tuple_gt (F.args_tuple_gt_2 _ _) (tuple_gt l b xs ys ns ms hx hy n n2 dd dd2 sl sl2)
    ⟨ho, ho2, show Value.bool (gtI ns ms) ≠ Value.notImplemented ∧ Q (.bool (gtI ns ms)) s from ⟨(fun x => nomatch x), h⟩⟩ hu

theorem all_eq_iff (ns ms : List Int) : ((List.range (min ns.length ms.length)).all (fun j => ns[j]? == ms[j]?) && ns.length == ms.length) = decide (ns = ms) := by
  by_cases h : ns = ms
  · subst h; simp
  · rw [decide_eq_false h, Bool.and_eq_false_iff]
    by_cases hlen : ns.length = ms.length
    · left
      rw [List.all_eq_false]
      refine Classical.byContradiction fun hc => ?_
      apply h
      apply List.ext_getElem? 
      intro i
      by_cases hi : i < ns.length
      · have := not_exists.mp hc i
        simp only [List.mem_range, not_and, beq_iff_eq] at this
        exact Classical.byContradiction fun hn => this (by omega) hn
      · rw [List.getElem?_eq_none (by omega), List.getElem?_eq_none (by omega)]
    · right; simpa using hlen

theorem eq_tuple (hl : s.heap.IsTuple l xs.toArray) (hb : s.heap.IsTuple b ys.toArray) (hx : IntsAre xs ns) (hy : IntsAre ys ms) (hu : A.units < cLine) (h : Q (.bool (decide (ns = ms))) s) :
    wpAny (model prog w) A (compareOp .Eq (.ref l) (.ref b)) Q E s := by
  refine eq_tupleAt (e := fun j => ns[j]? == ms[j]?) hl hb hu (fun j h1 h2 => ?_) ?_
  · have h1' : j < xs.length := by simpa using h1
    have h2' : j < ys.length := by simpa using h2
    have l1 := hx.length
    have l2 := hy.length
    obtain ⟨t, et⟩ := ints_at hx h1' (by omega)
    obtain ⟨u, eu⟩ := ints_at hy h2' (by omega)
    have e1 : xs.toArray[j] = Value.int ns[j] t := by simpa using et
    have e2 : ys.toArray[j] = Value.int ms[j] u := by simpa using eu
    rw [e1, e2]
    have e3 : (ns[j]? == ms[j]?) = (ns[j] == ms[j]) := by rw [List.getElem?_eq_getElem (by omega), List.getElem?_eq_getElem (by omega)]; simp
    show EqAt _ _ _ _ (ns[j]? == ms[j]?)
    rw [e3]
    exact EqAt.int_int _ _ _ _
  · have : ((List.range (min xs.toArray.size ys.toArray.size)).all (fun j => ns[j]? == ms[j]?) && xs.toArray.size == ys.toArray.size) = decide (ns = ms) := by
      rw [List.size_toArray, List.size_toArray, hx.length, hy.length]; exact all_eq_iff ns ms
    rw [this]; exact h
end
end Mine
end Gt

section Zip
set_option maxHeartbeats 1000000
namespace Mine
open PyProof.Rows.LCg

def gapsI (ns ms : List Int) : List Int := ((ns.zip ms).filter fun p => p.1 != p.2).map fun p => p.1 - p.2

/-- the gaps of the first i places -/
def gapsTo (ns ms : List Int) (i : Nat) : List Int := (((ns.zip ms).take i).filter fun p => p.1 != p.2).map fun p => p.1 - p.2

theorem gapsTo_zero (ns ms : List Int) : gapsTo ns ms 0 = [] := by simp [gapsTo]
theorem gapsTo_all (ns ms : List Int) : gapsTo ns ms (min ns.length ms.length) = gapsI ns ms := by
  rw [gapsTo, gapsI, List.take_of_length_le (by simp)]
theorem gapsTo_succ {ns ms : List Int} {i : Nat} {a b : Int} (ha : ns[i]? = some a) (hb : ms[i]? = some b) :
    gapsTo ns ms (i + 1) = gapsTo ns ms i ++ (if a != b then [a - b] else []) := by
  have h : (ns.zip ms)[i]? = some (a, b) := by simp [List.getElem?_zip_eq_some, ha, hb]
  rw [gapsTo, gapsTo, List.take_add_one, h]
  simp only [Option.toList_some, List.filter_append, List.map_append]
  congr 1
  by_cases q : a = b <;> simp [q]

section
variable {prog : Program} {w : World} {A : Around} {E : Value → Shared → Prop} {s : Shared} {h₀ : Heap} {L : Addr} {m : Str → Option Value} {env : Env}

theorem zc_name {x : Str} {px : Pos} {scope : Scope} {cl : List (Str × Addr)} {C : Addr} {v : Value} {m' : Str → Option Value} {Q : Value → Shared → Prop} (hkind : scope.kind = .function) (hx : scope.names.lookup x = some .local) (hd : (x == ("__debug__" : Str)) = false)
    (hn : s.heap.Ns C m') (hv : m' x = some v) (h : Q v s) : wpAny (model prog w) A (eval (.Name x px) (compEnvC scope cl C env)) Q E s :=
  wpAny_Name (wpAny_loadName_local (env := compEnvC scope cl C env) hkind (lookup_relabel_local hx) hn hv h) hd

/-- what the source of the comprehension must give -/
def ZipSrc (A : Around) (h₀ : Heap) (L : Addr) (m : Str → Option Value) (g : Str) (Q : Flow → Shared → Prop) (xv : Value) (s₁ : Shared) : Prop :=
  ∃ z TI TO i1 i2 l1 l2 xs ys ns ms news, xv = .ref z ∧ A.handled = none ∧ ZipApart z TI TO i1 i2 l1 l2 ∧
    (IsZip s₁.heap z TI TO .none ∧ IsPair s₁.heap TI (.ref i1) (.ref i2) ∧ (∃ a b, IsPair s₁.heap TO a b) ∧ s₁.heap.IsListIter i1 l1 0 ∧ s₁.heap.IsListIter i2 l2 0 ∧ s₁.heap.IsList l1 xs.toArray ∧ s₁.heap.IsList l2 ys.toArray) ∧
    IntsAre xs ns ∧ IntsAre ys ms ∧ ns.length ≤ sizeLine ∧ Fr h₀ L s₁.heap m ∧ News h₀ L s₁.heap news ∧
    (∀ b ∈ [z, TO, i1, i2], L ≠ b ∧ h₀.get? b = none ∧ ∀ p ∈ news, p.1 ≠ b) ∧
    ∀ D h' tk zs, Fr h₀ L h' (fun v => if v = g then some (.ref D) else m v) → News h₀ L h' ((D, listOf zs.toArray zs.length) :: news) → IntsAre zs (gapsI ns ms) → (∀ p ∈ news, p.1 < D) → Q .next { s₁ with heap := h', toks := tk }

theorem zc_ListComp {iter : Expr} {x y g : Str} {px py pa pb p3 p4 p5 p6 tp pg : Pos} {kk : Nat} {scope : Scope} {cl : List (Str × Addr)} {pos spos : Pos} {Q : Flow → Shared → Prop} (_F₀ : Fr h₀ L s.heap m) (hLe : env.locals = L)
    (hsw : swapsWith (.ListComp (.BinOp (.Name x px) .Sub (.Name y py) p3) [⟨.Tuple [.Name x pa, .Name y pb] kk tp, iter, [.Compare (.Name x p4) [.NotEq] [.Name y p5] p6], 0⟩] scope pos) (some (.Name g pg)) spos.line env = pure true)
    (hg : env.kindOf g = some .local) (hpk : (env.scope.kind == .class || (env.scope.kind == .module && env.locals != env.globals)) = false)
    (hclos : closureFor scope env = pure cl) (hcell : ∀ y ∈ scope.names, y.2 ≠ .cell) (hkind : scope.kind = .function)
    (hnames : ∀ y ∈ scope.names, y.2 = .local → scope.names.lookup y.1 = some .local) (hxa : scope.names.lookup x = some .local) (hxb : scope.names.lookup y = some .local) (hab : ¬ x = y)
    (hd1 : (x == ("__debug__" : Str)) = false) (hd2 : (y == ("__debug__" : Str)) = false)
    (h : wpAny (model prog w) A (eval iter env) (ZipSrc A h₀ L m g Q) E s)
    (hs : ∀ x, foldedSetIterable iter env x = pure x := by intro _; rfl) :
    wpAny (model prog w) A (exec (.Assign [.Name g pg] (.ListComp (.BinOp (.Name x px) .Sub (.Name y py) p3) [⟨.Tuple [.Name x pa, .Name y pb] kk tp, iter, [.Compare (.Name x p4) [.NotEq] [.Name y p5] p6], 0⟩] scope pos) spos) env) Q E s := by
  rw [exec_Assign_Name_used _ _ _ _ hsw]
  refine wpAny_bind (wpAny_standAt (wpAny_bind ?_))
  show wpAny _ A (do let _ ← comprehension (.ListComp (.BinOp (.Name x px) .Sub (.Name y py) p3) [⟨.Tuple [.Name x pa, .Name y pb] kk tp, iter, [.Compare (.Name x p4) [.NotEq] [.Name y p5] p6], 0⟩] scope pos) scope env _ (newList []) false (eval iter env) (some (assign (.Name g pg) env))) _ _ s
  refine wpAny_bind (wpAny_mono (wpAny_comprehension_free (use := some (assign (.Name g pg) env)) (Q := fun _ s' => Q .next s') rfl hs hclos hkind hnames
    (wpAny_mono h (fun xv s₂ h₁ => ?_) fun _ _ e => e)) (fun _ s' hq => wpAny_pure (wpAny_pure hq)) fun _ _ e => e)
  obtain ⟨z, TI, TO, i1, i2, l1, l2, xs, ys, ns, ms, news, rfl, hh, D, hst, hI, hJ, hsz, F, N, off, fin⟩ := h₁
  have W := (WalksT.zip2 (prog := prog) (w := w) hh z TI TO i1 i2 l1 l2 D xs.toArray ys.toArray)
  refine W.self 0 _ _ _ hst ?_
  have hlen : min xs.toArray.size ys.toArray.size = min ns.length ms.length := by simp [hI.length, hJ.length]
  have hfp : ∀ b ∈ [z, TI, TO, i1, i2, l1, l2], b < s₂.heap.objs.size := by
    obtain ⟨hz, hTI, ⟨ta, tb, hTO⟩, ⟨o1, h1, _⟩, ⟨o2, h2, _⟩, ⟨ol1, hl1, _⟩, ⟨ol2, hl2, _⟩⟩ := hst
    intro b hb
    simp only [List.mem_cons, List.not_mem_nil, or_false] at hb
    rcases hb with rfl | rfl | rfl | rfl | rfl | rfl | rfl
    · exact Heap.lt_size hz
    · exact Heap.lt_size hTI
    · exact Heap.lt_size hTO
    · exact Heap.lt_size h1
    · exact Heap.lt_size h2
    · exact Heap.lt_size hl1
    · exact Heap.lt_size hl2
  generalize hfpE : [z, TI, TO, i1, i2, l1, l2] = fp at W hfp
  generalize hwrE : [z, TO, i1, i2] = wr at W off
  generalize hStE : (fun i h => IsZip h z TI TO .none ∧ IsPair h TI (.ref i1) (.ref i2) ∧ (∃ a b, IsPair h TO a b) ∧ h.IsListIter i1 l1 i ∧ h.IsListIter i2 l2 i ∧ h.IsList l1 xs.toArray ∧ h.IsList l2 ys.toArray) = St at W
  have hst' : St 0 s₂.heap := by rw [← hStE]; exact hst
  clear hst
  generalize hn : min xs.toArray.size ys.toArray.size = n at W hlen
  refine wpAny_newObj_type (wpAny_newFunctionEnv hcell (by intro y hy; simp at hy) (fun h₁ hns₁ hsb₁ => ?_) hkind)
  dsimp only at hns₁ hsb₁ ⊢
  generalize hH2 : s₂.heap.push { cls := .type "list", dict := none, data := .seq ([] : List Value).toArray } = H2 at hns₁ hsb₁ ⊢
  have hC : H2.objs.size = s₂.heap.objs.size + 1 := by rw [← hH2, Heap.size_push]
  have hDC : s₂.heap.objs.size ≠ H2.objs.size := by rw [hC]; exact Nat.ne_of_lt (Nat.lt_succ_self _)
  have below : ∀ b, b < s₂.heap.objs.size → b ≠ H2.objs.size ∧ b ≠ s₂.heap.objs.size := fun b hb => ⟨by rw [hC]; exact Nat.ne_of_lt (Nat.lt_succ_of_lt hb), Nat.ne_of_lt hb⟩
  have old : ∀ b o, s₂.heap.get? b = some o → h₁.get? b = some o := fun b o e => hsb₁.extBut b o (below b (Heap.lt_size e)).1 (Heap.get?_push_of_some _ (hH2 ▸ Heap.get?_push_of_some _ e))
  have hacc : h₁.get? s₂.heap.objs.size = some (lst []) := hsb₁.extBut _ _ hDC (Heap.get?_push_of_some _ (hH2 ▸ Heap.get?_push_size _ rfl))
  have fresh₀ : ∀ a, s₂.heap.objs.size ≤ a → h₀.get? a = none := fun a ha => by
    cases e : h₀.get? a with
    | none => rfl
    | some o' => exact absurd (Heap.lt_size (F.keep a o' e)) (Nat.not_lt.mpr ha)
  have hD₀ : h₀.get? s₂.heap.objs.size = none := fresh₀ _ (Nat.le_refl _)
  have hC₀ : h₀.get? H2.objs.size = none := fresh₀ _ (by rw [hC]; exact Nat.le_succ _)
  have hLlt : L < s₂.heap.objs.size := F.ns.lt
  have hDL : s₂.heap.objs.size ≠ L := Ne.symm (below L hLlt).2
  have hCL : H2.objs.size ≠ L := Ne.symm (below L hLlt).1
  have hnlt : ∀ p ∈ news, p.1 < s₂.heap.objs.size := fun p hp => Heap.lt_size (N p hp).1
  have hCf : H2.objs.size ∉ fp := fun hm => absurd rfl (below _ (hfp _ hm)).1
  have hDf : s₂.heap.objs.size ∉ fp := fun hm => absurd rfl (below _ (hfp _ hm)).2
  have hCw : H2.objs.size ∉ wr := fun hm => hCf (W.sub _ hm)
  have hDw : s₂.heap.objs.size ∉ wr := fun hm => hDf (W.sub _ hm)
  have hLw : L ∉ wr := fun hm => (off L hm).1 rfl
  generalize hCe : H2.objs.size = C at *
  generalize hDe : s₂.heap.objs.size = DD at *
  have loop : ∀ s₃ : Shared, s₃ = { s₂ with heap := h₁, toks := s₂.toks + ([] : List (Str × Value)).length } →
      codeAny (model prog w) A (.compLoop (.ListComp (.BinOp (.Name x px) .Sub (.Name y py) p3) [⟨.Tuple [.Name x pa, .Name y pb] kk tp, iter, [.Compare (.Name x p4) [.NotEq] [.Name y p5] p6], 0⟩] scope pos) 0 (.ref z) (.ref DD) (compEnvC scope cl C env))
        (compPost (model prog w) A E (some (assign (.Name g pg) env)) (fun _ s' => Q .next s') (.ref DD) C) s₃ := by
    rintro s₃ rfl
    refine kct_loop
      (fun k s' => ∃ h' tk i zs m', s' = { s₂ with heap := h', toks := tk } ∧ i ≤ n ∧ k = n + 1 - i ∧ zs.length ≤ i ∧ St i h' ∧ Fr h₀ L h' m ∧ h'.Ns C m' ∧
        News h₀ L h' ((DD, lst zs) :: news) ∧ IntsAre zs (gapsTo ns ms i)) ?_ (n + 1)
      ⟨h₁, _, 0, [], _, rfl, Nat.zero_le _, rfl, Nat.le_refl _, W.frame _ _ _ hst' (fun b _ o e => old b o e), F.keeps old, hns₁, fun p hp => ?_, by rw [gapsTo_zero]; exact .nil⟩
    · rintro k s' ⟨h', tk, i, zs, m', rfl, hi, rfl, hyl, hst', F', hn', N', hz'⟩
      have frw : ∀ {g g' : Heap}, Fr h₀ L g m → (∀ b o, b ∉ wr → g.get? b = some o → g'.get? b = some o) → Fr h₀ L g' m := fun {g g'} G hk =>
        ⟨G.ns.at' fun o e => hk _ o hLw e, fun c o e => hk c o (fun hm => by rw [(off c hm).2.1] at e; cases e) (G.keep c o e), G.above⟩
      have nww : ∀ {g g' : Heap}, News h₀ L g ((DD, lst zs) :: news) → (∀ b o, b ∉ wr → g.get? b = some o → g'.get? b = some o) → News h₀ L g' ((DD, lst zs) :: news) := fun {g g'} G hk p hp => by
        refine ⟨hk _ _ ?_ (G p hp).1, (G p hp).2⟩
        rcases List.mem_cons.mp hp with rfl | hp
        · exact hDw
        · exact fun hm => (off _ hm).2.2 p hp rfl
      by_cases hlt : i < n
      · refine W.item i _ _ _ hlt hst' fun T vals h₂ tk₂ hP hTge hT hMd hk₂ => ?_
        refine W.go _ _ _ i T _ _ _ hMd fun h₃ hst₃ hk₃ => ?_
        obtain ⟨vx, vy, hvx, hvy, rfl⟩ := hP
        obtain ⟨a, t, rfl, ha⟩ := hI.at i vx (by simpa using hvx)
        obtain ⟨b, u, rfl, hb⟩ := hJ.at i vy (by simpa using hvy)
        have hT₃ : h₃.IsTuple T #[.int a t, .int b u] := hT.at fun o e => hk₃ _ o (W.apart _ _ _ hMd) e
        have N₃ := nww (nww N' hk₂) hk₃
        have F₃ := frw (frw F' hk₂) hk₃
        refine kcp_assign (env := compEnvC scope cl C env) hh hT₃ (lookup_relabel_local hxa) (lookup_relabel_local hxb) (by simp [compEnvC, relabel, hkind]) ((hn'.at' fun o e => hk₂ _ o hCw e).at' fun o e => hk₃ _ o hCw e) fun h₄ tk₄ hn₄ hs₄ => ?_
        have F₄ : Fr h₀ L h₄ m := ⟨F₃.ns.at' fun o e => hs₄ _ o (Ne.symm hCL) e, fun c o e => hs₄ c o (fun q => by rw [q] at e; exact absurd (hC₀.symm.trans e) (by simp)) (F₃.keep c o e), F₃.above⟩
        have N₄ : News h₀ L h₄ ((DD, lst zs) :: news) := fun p hp => by
          refine ⟨hs₄ _ _ ?_ (N₃ p hp).1, (N₃ p hp).2⟩
          rcases List.mem_cons.mp hp with rfl | hp
          · exact hDC
          · exact (below _ (hnlt p hp)).1
        have st₄ : St (i + 1) h₄ := W.frame _ _ _ hst₃ fun b hb o e => hs₄ b o (fun q => hCf ((show b = C from q) ▸ hb)) e
        have hsucc := gapsTo_succ ha hb
        refine wpAny_isTrue_Compare1 (zc_name hkind hxa hd1 hn₄ (v := .int a t) (by simp [hab]) (zc_name hkind hxb hd2 hn₄ (v := .int b u) (by simp) (PyProof.Rows.ne_int (wpAny_truthy_bool ?_))))
        by_cases hq : (a != b) = true
        · rw [if_pos hq]
          rw [if_pos hq] at hsucc
          refine wpAny_BinOp (zc_name hkind hxa hd1 hn₄ (v := .int a t) (by simp [hab]) (zc_name hkind hxb hd2 hn₄ (v := .int b u) (by simp) (PyProof.Rows.sub_int ?_)))
          have zD := (N₄ (DD, lst zs) List.mem_cons_self).1
          refine append_at (hsz := by show zs.toArray.size ≤ sizeLine; rw [List.size_toArray]; omega) zD fun h₅ hs₅ hD₅ => ?_
          refine ⟨n + 1 - (i + 1), by omega, h₅, _, i + 1, zs ++ [.int (a - b) tk₄], _, rfl, hlt, rfl, by rw [List.length_append, List.length_singleton]; omega, W.frame _ _ _ st₄ fun b hb o e => hs₅.extBut b o (fun q => hDf (q ▸ hb)) e, F₄.change hs₅ hDL hD₀, hn₄.at' fun o e => hs₅.extBut _ o (Ne.symm hDC) e, fun p hp => ?_, ?_⟩
          · rcases List.mem_cons.mp hp with rfl | hp
            · exact ⟨hD₅.trans (congrArg some (lst_snoc zs _)), hDL, hD₀⟩
            · have zz := N₄ p (List.mem_cons_of_mem _ hp)
              exact ⟨hs₅.extBut _ _ (below _ (hnlt p hp)).2 zz.1, zz.2⟩
          · rw [hsucc]
            exact hz'.append (.cons _ _ .nil)
        · rw [if_neg hq]
          rw [if_neg hq, List.append_nil] at hsucc
          exact ⟨n + 1 - (i + 1), by omega, h₄, _, i + 1, zs, _, rfl, hlt, rfl, by omega, st₄, F₄, hn₄, N₄, by rw [hsucc]; exact hz'⟩
      · have hin : i = n := Nat.le_antisymm hi (Nat.not_lt.mp hlt)
        subst hin
        refine W.done _ _ _ hst' fun h₂ tk₂ hk₂ => ?_
        have F₂ := frw F' hk₂
        have N₂ := nww N' hk₂
        have hn₂ : h₂.Ns C m' := hn'.at' fun o e => hk₂ _ o hCw e
        show wpAny _ A (assign (.Name g pg) env (.ref DD)) _ _ _
        refine wpAny_assign_Name (wpAny_storeName_local hg (by rw [hLe]; exact F₂.ns) (fun h₃ hn₃ hs₃ => ?_) hpk)
        rw [hLe] at hn₃ hs₃
        have hL₀ : h₀.get? L = none := Heap.get?_none_of_le F₂.above
        have F₃ : Fr h₀ L h₃ (fun z => if z = g then some (.ref DD) else m z) := ⟨hn₃, fun b o e => hs₃.extBut b o (fun q => by rw [q, hL₀] at e; cases e) (F₂.keep b o e), F₂.above⟩
        refine ⟨m', hn₂.sameBut hs₃ hCL, fun h'' hs'' => ?_⟩
        refine fin DD h'' _ zs (F₃.change hs'' hCL hC₀) (fun p hp => ?_) (by rw [← gapsTo_all, ← hlen]; exact hz') hnlt
        have zz : h₃.get? p.1 = some p.2 := hs₃.extBut _ _ (N₂ p hp).2.1 (N₂ p hp).1
        refine ⟨hs''.extBut _ _ ?_ zz, (N₂ p hp).2⟩
        rcases List.mem_cons.mp hp with rfl | hp
        · exact hDC
        · exact (below _ (hnlt p hp)).1
    · rcases List.mem_cons.mp hp with rfl | hp
      · exact ⟨hacc, hDL, hD₀⟩
      · exact ⟨old _ _ (N p hp).1, (N p hp).2⟩
  exact codeAny_compStart_list (loop _ rfl) (W.self 0 _ _ _ (W.frame _ _ _ hst' (fun b _ o e => old b o e)) (loop _ rfl))

/-- the call of zip gives it -/
theorem zc_src {l1 l2 : Addr} {xs ys : List Value} {ns ms : List Int} {news : List (Addr × Obj)} {g : Str} {Q : Flow → Shared → Prop} (hh : A.handled = none) (F : Fr h₀ L s.heap m) (N : News h₀ L s.heap news)
    (hl1 : s.heap.IsList l1 xs.toArray) (hl2 : s.heap.IsList l2 ys.toArray) (hI : IntsAre xs ns) (hJ : IntsAre ys ms) (hsz : ns.length ≤ sizeLine)
    (h : ∀ D h' tk zs, Fr h₀ L h' (fun v => if v = g then some (.ref D) else m v) → News h₀ L h' ((D, listOf zs.toArray zs.length) :: news) → IntsAre zs (gapsI ns ms) → (∀ p ∈ news, p.1 < D) → Q .next { s with heap := h', toks := tk }) :
    wpAny (model prog w) A (call (.type "zip") [.ref l1, .ref l2]) (ZipSrc A h₀ L m g Q) E s := by
  refine zip_rows F hl1 hl2 fun h' z TI TO i1 i2 D hst F' hk kz kTO k1 k2 hL => ?_
  refine ⟨z, TI, TO, i1, i2, l1, l2, xs, ys, ns, ms, news, rfl, hh, D, hst, hI, hJ, hsz, F', fun p hp => ⟨hk _ _ (N p hp).1, (N p hp).2⟩, ?_, fun D h'' tk zs F'' N'' hz hlt => h D h'' tk zs F'' N'' hz hlt⟩
  have key : ∀ b, s.heap.objs.size ≤ b → L < b → L ≠ b ∧ h₀.get? b = none ∧ ∀ p ∈ news, p.1 ≠ b := fun b hb hLb => by
    refine ⟨Nat.ne_of_lt hLb, ?_, fun p hp => Nat.ne_of_lt (Nat.lt_of_lt_of_le (Heap.lt_size (N p hp).1) hb)⟩
    cases e : h₀.get? b with
    | none => rfl
    | some o' => exact absurd (Heap.lt_size (F.keep b o' e)) (Nat.not_lt.mpr hb)
  intro b hb
  simp only [List.mem_cons, List.not_mem_nil, or_false] at hb
  rcases hb with rfl | rfl | rfl | rfl
  · exact key _ kz hL.1
  · exact key _ kTO hL.2.1
  · exact key _ k1 hL.2.2.1
  · exact key _ k2 hL.2.2.2
end
end Mine
end Zip

section P
namespace Mine

/-- what _cmp gives for two rows of numbers, as the walk says it -/
theorem cmp_due (xs ys : List Int) : (if xs = ys then (0 : Int) else if gtI xs ys = true then 1 else if gtI xs ys = false then -1 else 0)
    = Int.sign (if gapsI xs ys = [] then (xs.length : Int) - (ys.length : Int) else (gapsI xs ys).headD 0) := by
  induction xs generalizing ys with
  | nil =>
    cases ys with
    | nil => simp [gapsI]
    | cons b t =>
      simp only [gapsI, gtI, List.zip_nil_left, List.filter_nil, List.map_nil, if_true, List.length_nil, List.length_cons]
      rw [if_neg (by simp), if_neg (by simp), Int.sign_eq_neg_one_of_neg (by omega)]
  | cons a r ih =>
    cases ys with
    | nil =>
      simp only [gapsI, gtI, List.zip_nil_right, List.filter_nil, List.map_nil, if_true, List.length_nil, List.length_cons]
      rw [if_neg (by simp), Int.sign_eq_one_of_pos (by omega)]
    | cons b t =>
      by_cases q : a = b
      · subst q
        have e1 : gapsI (a :: r) (a :: t) = gapsI r t := by simp [gapsI]
        have e2 : gtI (a :: r) (a :: t) = gtI r t := by simp [gtI]
        rw [e1, e2, List.length_cons, List.length_cons]
        have e3 : ((r.length + 1 : Nat) : Int) - ((t.length + 1 : Nat) : Int) = (r.length : Int) - (t.length : Int) := by omega
        rw [e3, ← ih t]
        by_cases h : r = t <;> simp [h]
      · have e1 : gapsI (a :: r) (b :: t) = (a - b) :: gapsI r t := by simp [gapsI, q]
        have e2 : gtI (a :: r) (b :: t) = decide (b < a) := by simp [gtI, q]
        have e3 : ¬ (a :: r) = b :: t := by simp [q]
        have e4 : ¬ (a - b) :: gapsI r t = [] := by simp
        rw [e1, e2, if_neg e3, if_neg e4]
        simp only [List.headD_cons]
        by_cases h : b < a
        · rw [if_pos (by simpa using h), Int.sign_eq_one_of_pos (by omega)]
        · rw [if_neg (by simpa using h), if_pos (by simpa using h), Int.sign_eq_neg_one_of_neg (by omega)]

theorem cmp_turn (xs ys : List Int) : (if ys = xs then (0 : Int) else if gtI ys xs = true then 1 else if gtI ys xs = false then -1 else 0)
    = -(if xs = ys then (0 : Int) else if gtI xs ys = true then 1 else if gtI xs ys = false then -1 else 0) := by
  induction xs generalizing ys with
  | nil =>
    cases ys with
    | nil => simp
    | cons b t => simp [gtI]
  | cons a r ih =>
    cases ys with
    | nil => simp [gtI]
    | cons b t =>
      by_cases q : a = b
      · subst q
        have e1 : gtI (a :: r) (a :: t) = gtI r t := by simp [gtI]
        have e2 : gtI (a :: t) (a :: r) = gtI t r := by simp [gtI]
        rw [e1, e2]
        have := ih t
        by_cases h : r = t
        · simp [h]
        · have h' : ¬ t = r := fun e => h e.symm
          simpa [h, h'] using this
      · have e1 : gtI (a :: r) (b :: t) = decide (b < a) := by simp [gtI, q]
        have e2 : gtI (b :: t) (a :: r) = decide (a < b) := by simp only [gtI]; exact if_neg fun e => q e.symm
        have e3 : ¬ (a :: r) = b :: t := by simp [q]
        have e4 : ¬ (b :: t) = a :: r := fun e => e3 e.symm
        rw [e1, e2, if_neg e3, if_neg e4]
        by_cases h : b < a
        · have h' : ¬ a < b := by omega
          simp [h, h']
        · have h' : a < b := by omega
          simp [h, h']

theorem is_nil {xs ys : List Int} (h : decide (gapsI xs ys = []) = true) :
    decide ((if xs = ys then (0 : Int) else if gtI xs ys = true then 1 else if gtI xs ys = false then -1 else 0) = Int.sign ((xs.length : Int) - (ys.length : Int))) = true :=
  decide_eq_true (by rw [cmp_due, if_pos (of_decide_eq_true h)])
theorem is_nilN {xs ys : List Int} (h : decide (gapsI xs ys = []) = true) :
    decide ((if ys = xs then (0 : Int) else if gtI ys xs = true then 1 else if gtI ys xs = false then -1 else 0) = -Int.sign ((xs.length : Int) - (ys.length : Int))) = true :=
  decide_eq_true (by rw [cmp_turn, cmp_due, if_pos (of_decide_eq_true h)])
theorem is_gap {xs ys : List Int} (h : decide (gapsI xs ys = []) = false) :
    decide ((if xs = ys then (0 : Int) else if gtI xs ys = true then 1 else if gtI xs ys = false then -1 else 0) = Int.sign ((gapsI xs ys).headD 0)) = true :=
  decide_eq_true (by rw [cmp_due, if_neg (of_decide_eq_false h)])
theorem is_gapN {xs ys : List Int} (h : decide (gapsI xs ys = []) = false) :
    decide ((if ys = xs then (0 : Int) else if gtI ys xs = true then 1 else if gtI ys xs = false then -1 else 0) = -Int.sign ((gapsI xs ys).headD 0)) = true :=
  decide_eq_true (by rw [cmp_turn, cmp_due, if_neg (of_decide_eq_false h)])

theorem gtI_more (r : List Int) (k : Int) : gtI r (r ++ [k]) = false := by
  induction r with
  | nil => rfl
  | cons a r ih => simp [gtI, ih]
theorem is_row (r : List Int) (k : Int) :
    decide ((if r = r ++ [k] then (0 : Int) else if gtI r (r ++ [k]) = true then 1 else if gtI r (r ++ [k]) = false then -1 else 0) = -1) = true :=
  decide_eq_true (by rw [if_neg (by simp), gtI_more]; simp)

theorem is_int (a b : Int) : decide ((if a = b then (0 : Int) else if b < a then 1 else -1) = Int.sign (a - b)) = true := by
  refine decide_eq_true ?_
  by_cases h : a = b
  · subst h; simp
  · rw [if_neg h]
    by_cases h' : b < a
    · rw [if_pos h', Int.sign_eq_one_of_pos (by omega)]
    · rw [if_neg h', Int.sign_eq_neg_one_of_neg (by omega)]

theorem no_gap {ys : List Int} : ¬ decide (gapsI [] ys = []) = false := by simp [gapsI]

theorem fdiv_abs {n : Int} (h : ¬ n = 0) : n.fdiv (if n < 0 then -n else n) = Int.sign n := by
  rcases Int.lt_trichotomy n 0 with h1 | h1 | h1
  · rw [if_pos h1, Int.fdiv_eq_ediv_of_nonneg _ (by omega), Int.sign_eq_neg_one_of_neg h1, Int.ediv_neg, Int.ediv_self h]
  · exact absurd h1 h
  · rw [if_neg (by omega), Int.fdiv_eq_ediv_of_nonneg _ (by omega), Int.sign_eq_one_of_pos h1, Int.ediv_self h]

theorem no_pylong (n : Int) : Builtin.divisionGoesByPylong n (if n < 0 then -n else n) = false := by
  have e : (if n < 0 then -n else n).natAbs = n.natAbs := by split <;> simp
  have e0 : ((if n < 0 then -n else n) == 0) = (n == 0) := by
    by_cases h : n = 0
    · subst h; rfl
    · have h2 : ¬ (if n < 0 then -n else n) = 0 := by split <;> omega
      rw [beq_eq_false_iff_ne.mpr h, beq_eq_false_iff_ne.mpr h2]
  show (decide ((if (if n < 0 then -n else n) == 0 then 0 else (if n < 0 then -n else n).natAbs.log2 / 30 + 1) > 300) && decide ((if n == 0 then 0 else n.natAbs.log2 / 30 + 1) > (if (if n < 0 then -n else n) == 0 then 0 else (if n < 0 then -n else n).natAbs.log2 / 30 + 1) + 150)) = false
  rw [e, e0, Bool.and_eq_false_iff]
  right
  exact decide_eq_false (by omega)

section
variable {prog : Program} {w : World} {A : Around} {E : Value → Shared → Prop} {s : Shared} {h₀ : Heap} {L : Addr} {m : Str → Option Value} {news : List (Addr × Obj)}
theorem mod_letter {a b : Int} {t u : Tok} {Q : Value → Shared → Prop} (hb : 0 < b) (h : ∀ k : Int, 0 ≤ k → k < b → Q (.int k s.toks) { s with toks := s.toks + 1 }) :
    wpAny (model prog w) A (binaryOp .Mod (.int a t) (.int b u)) Q E s :=
  mod_int' (by omega) (h _ (by rw [Int.fmod_eq_emod_of_nonneg _ (by omega)]; exact Int.emod_nonneg _ (by omega)) (by rw [Int.fmod_eq_emod_of_nonneg _ (by omega)]; exact Int.emod_lt_of_pos _ hb))

theorem sign_div {n : Int} {t u : Tok} {Q : Value → Shared → Prop} (hn : ¬ n = 0) (h : Q (.int (Int.sign n) s.toks) { s with toks := s.toks + 1 }) :
    wpAny (model prog w) A (binaryOp .FloorDiv (.int n t) (.int (if n < 0 then -n else n) u)) Q E s :=
  floordiv_int (by split <;> omega) (by rw [fdiv_abs hn]; exact h) (.inl (no_pylong n))

theorem tup_of {l : Addr} {vs : List Value} {Q : Value → Shared → Prop} (F : Fr h₀ L s.heap m) (N : News h₀ L s.heap news) (hl : s.heap.IsList l vs.toArray) (hsz : vs.length ≤ sizeLine)
    (h : ∀ D h', Fr h₀ L h' m → News h₀ L h' ((D, ({ cls := .type "tuple", data := .seq vs.toArray } : Obj)) :: news) → (∀ p ∈ news, p.1 < D) → Q (.ref D) { s with heap := h' }) :
    wpAny (model prog w) A (call (.type "tuple") [.ref l]) Q E s := by
  refine call_tuple_list hl (fun h' hk => ?_) (by rw [List.size_toArray]; exact hsz)
  have F' : Fr h₀ L h' m := F.keeps hk
  have N' : News h₀ L h' news := fun p hp => ⟨hk _ _ (N p hp).1, (N p hp).2⟩
  exact h _ _ (F'.push _) (N'.push F' _) fun p hp => Heap.lt_size (N' p hp).1

/-- the first item of a row that is not empty -/
theorem item_first {value slice : PySem.Expr} {l : Addr} {vs : List Value} {ns : List Int} {u : Tok} {Q : Value → Shared → Prop}
    (hl : s.heap.IsList l vs.toArray) (hI : IntsAre vs ns) (hn : decide (ns = []) = false) (h : ∀ t, Q (.int (ns.headD 0) t) s)
    (hs : subscripted slice false (.ref l) (.int 0 u) = operate [.ref l, .int 0 u] (getItem (.ref l) (.int 0 u)) := by with_unfolding_all rfl) :
    wpAny (model prog w) A (subscriptTail value slice (.ref l) (.int 0 u)) Q E s := by
  cases hI with
  | nil => simp at hn
  | cons n t r => exact tail_any hl.typeIs slot_list_getitem.lookup (wpAny_getItem_list (k := 0) (x := .int n t) hl (by decide) (by decide) (by simp) (h t)) hs
end

/-- of the objects made so far none is needed any more -/
theorem drop_all {h₀ h : Heap} {L : Addr} {p : Addr × Obj} {ps : List (Addr × Obj)} (_ : News h₀ L h (p :: ps)) : News h₀ L h [] := News.nil
end Mine
end P

local macro_rules | `(tactic| walk_at "binaryOp Mod int int") => `(tactic| (k_here; (refine Mine.mod_letter (by omega) ?_); intro k' hk0' hk1'))
local macro_rules | `(tactic| walk_at "binaryOp FloorDiv int int") => `(tactic| (k_here; k_dflt (refine Mine.sign_div (by first | assumption | omega | (simp_all; done)) ?_)))
local macro_rules | `(tactic| walk_at "exec Assign cons ListComp") => `(tactic| (k_here; k_dflt (refine' Mine.zc_ListComp ?F (by rfl) (by rfl) (by rfl) (by rfl) (by rfl) (by decide) (by rfl) (by decide) (by rfl) (by rfl) (by first | decide | decide +kernel) (by first | decide | decide +kernel) (by first | decide | decide +kernel) ?_; (case F => k_asm))))
local macro_rules | `(tactic| walk_at "call type:zip") => `(tactic| (k_here; k_dflt (refine' Mine.zc_src ?k0 ?k1 ?k2 ?k3 ?k4 ?k5 ?k6 ?k7 ?_; (case k0 => rfl); (case k1 => k_asm); (case k2 => k_asm); (case k3 => is_list); (case k4 => is_list); (case k5 => l_ints); (case k6 => l_ints); (case k7 => size_fits)); intro D' h' tk' zs' F' N' hI' l1; (try k_lt l1); (try k_sweep)))
local macro_rules | `(tactic| walk_at "call type:tuple") => `(tactic| (k_here; (with_reducible show wpAny _ _ (call (Value.type _) [Value.ref _]) _ _ _); k_dflt (refine' Mine.tup_of ?k1 ?k2 ?k3 ?k4 ?_; (case k1 => k_asm); (case k2 => k_asm); (case k3 => is_list); (case k4 => size_fits)); intro D' h' F' N' l1; (try k_lt l1); (try k_sweep)))
local macro_rules | `(tactic| walk_at "compareOp Gt ref ref") => `(tactic| (k_here; (with_reducible show wpAny _ _ (compareOp CmpOp.Gt (Value.ref _) (Value.ref _)) _ _ _); k_dflt (first
  | refine Mine.gt_list (by is_list) (by is_list) (by l_ints) (by l_ints) (by first | units_room | exact Nat.le_of_ble_eq_true rfl) ?_
  | refine Mine.gt_tuple (by exact News.isTup (by k_asm) (by k_mem)) (by exact News.isTup (by k_asm) (by k_mem)) (by l_ints) (by l_ints) (by first | units_room | exact Nat.le_of_ble_eq_true rfl) ?_)))
local macro_rules | `(tactic| walk_at "compareOp Eq ref ref") => `(tactic| (k_here; (with_reducible show wpAny _ _ (compareOp CmpOp.Eq (Value.ref _) (Value.ref _)) _ _ _); k_dflt (
  refine Mine.eq_tuple (by exact News.isTup (by k_asm) (by k_mem)) (by exact News.isTup (by k_asm) (by k_mem)) (by l_ints) (by l_ints) (by first | units_room | exact Nat.le_of_ble_eq_true rfl) ?_)))
local macro_rules | `(tactic| walk_at "subscriptTail Name Constant ref int") => `(tactic| (k_here; first
  | exact absurd (by assumption) Mine.no_gap
  | (k_dflt (refine' Mine.item_first ?k1 ?k2 ?k3 ?_ ?k4; (case k3 => assumption); (case k1 => is_list); (case k2 => l_ints); (case k4 => with_unfolding_all rfl)); intro t')))
local macro_rules | `(tactic| walk_at "exec For Name Subscript cons nil") => `(tactic| (k_here; (with_reducible show wpAny _ _ (exec (Stmt.For (Expr.Name (Str.ofString "x") _) _ _ _ _) _) _ _ _); (rename News _ _ _ _ => nOld'); (have nNew' := Mine.drop_all nOld'); clear nOld'))
local macro_rules | `(tactic| walk_at "eval Call Name cons nil") => `(tactic| (k_here; (first
  | (with_reducible show wpAny _ _ (eval (Expr.Call (Expr.Name (Str.ofString "_law_sign") _) _ _ _) _) _ _ _)
  | (with_reducible show wpAny _ _ (eval (Expr.Call (Expr.Name (Str.ofString "_cmp") _) [Expr.Name (Str.ofString "x") _, Expr.Name (Str.ofString "y") _] _ _) _) _ _ _)); refine Call_ ?_))
local macro_rules | `(tactic| walk_at "InvEndN") => `(tactic| ((rename Fr _ _ _ _ => fE'); (rename News _ _ _ _ => nE'); k_dflt (refine' kst_end () fE' nE' ?q1 ?q2 ?q3 True.intro (List.forall_mem_nil _) ?q5 ?q6; (case q1 => first | exact fun p hp => List.mem_append.mpr (.inl hp) | exact fun p hp => List.mem_cons_of_mem _ (List.mem_append.mpr (.inl hp)) | kst_in); (case q2 => first | exact fun p hp => List.mem_append.mpr (.inr hp) | exact fun p hp => List.mem_cons_of_mem _ (List.mem_append.mpr (.inr hp)) | (intro p hp; kst_mem)); (case q3 => rfl); (case q5 => kst_same); (case q6 => exact True.intro))))
set_option maxRecDepth 100000 in
set_option maxHeartbeats 8000000 in
theorem PySem.Challenge.cw_dm0254_01_holds : PySem.Challenge.rw_dm0254_01.Holds := by
  k_with "call ref" => (k_call_by "_law_is" (fun (a b : Int) => decide (a = b)); first | rw [Mine.is_row] | rw [Mine.is_int] | rw [Mine.is_nil (by assumption)] | rw [Mine.is_nilN (by assumption)] | rw [Mine.is_gap (by assumption)] | rw [Mine.is_gapN (by assumption)] | skip)
  k_with "call ref" => k_call_by "_law_sign" Int.sign
  k_with "call ref" => k_call_by "_cmp" (fun (a b : Int) => if a = b then (0 : Int) else if b < a then 1 else -1)
  k_with "pyIter ref" => k_search (fun _ => True)
  open_k
