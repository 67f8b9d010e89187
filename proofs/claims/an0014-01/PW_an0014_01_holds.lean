import PyProof.Rows.All
import Wide.All
import OpenK.AllK
import Wide.FinOn
import PySem.Challenge.RW_an0014_01
set_option Elab.async false
set_option maxRecDepth 100000
section
open PySem PySem.W PyProof.Rows
namespace Mine
set_option maxRecDepth 100000 in
set_option maxHeartbeats 8000000 in
open_top hd for PySem.Challenge.rw_an0014_01
end Mine

end

section
open PySem PySem.W PyProof.Rows
namespace Mine
noncomputable abbrev PG : Program := PySem.Challenge.rw_an0014_01.row.prog
noncomputable abbrev LS : List Str := looseW hd.view_39 [Str.ofString "_edit_dist_step", Str.ofString "edit_distance"]

/-- what a call of the def at f does, seen from any caller that is a def -/
def Con (w : World) (lvl : Nat) (f : Addr) (vs : List Value) (kw : List (Str × Value)) (news : List (Addr × Obj)) (post : Value → List (Addr × Obj) → Prop) : Prop :=
  ∀ (mean : ExcName → Option Value) (mg mb : Str → Option Value) (dp un : Nat) (gd : Option (List Code)) (cn : Str) (cs : Scope) (a : Addr) (ccd : Value) (cl : List (Str × Addr)) (outer : List Env) (A₀ : Around) (base h₀ : Heap) (L : Addr) (m : Str → Option Value) (s : Shared) (Q E : Value → Shared → Prop),
    Below A₀ base outer h₀ → Fr h₀ L s.heap m → (hd.heap_39 w.params).In h₀ → News h₀ L s.heap news → Top hd.view_39 LS mean mg mb h₀ → cs.kind = .function →
    dp + lvl < recursionLimit → un + 10 * lvl < cLine →
    (∀ v h' tk' news', post v news' → Fr h₀ L h' m → News h₀ L h' news' → Q v { s with heap := h', toks := tk' }) →
    wpAny (model PG w) (ktrTop dp un gd cn cs L a ccd cl outer) (call (.ref f) vs kw) Q E s

theorem Con.use {w : World} {lvl : Nat} {f : Addr} {vs : List Value} {kw : List (Str × Value)} {news : List (Addr × Obj)} {post : Value → List (Addr × Obj) → Prop}
    {mean : ExcName → Option Value} {mg mb : Str → Option Value} {dp un : Nat} {gd : Option (List Code)} {cn : Str} {cs : Scope} {a : Addr} {ccd : Value} {cl : List (Str × Addr)} {outer : List Env} {A₀ : Around} {base h₀ : Heap} {L : Addr} {m : Str → Option Value} {s : Shared} {Q E : Value → Shared → Prop}
    (C : Con w lvl f vs kw news post) (B : Below A₀ base outer h₀) (F : Fr h₀ L s.heap m) (X : (hd.heap_39 w.params).In h₀) (N : News h₀ L s.heap news) (T : Top hd.view_39 LS mean mg mb h₀) (hk : cs.kind = .function)
    (hd' : dp + lvl < recursionLimit) (hu : un + 10 * lvl < cLine)
    (ret : ∀ v h' tk' news', post v news' → Fr h₀ L h' m → News h₀ L h' news' → Q v { s with heap := h', toks := tk' }) :
    wpAny (model PG w) (ktrTop dp un gd cn cs L a ccd cl outer) (call (.ref f) vs kw) Q E s :=
  C mean mg mb dp un gd cn cs a ccd cl outer A₀ base h₀ L m s Q E B F X N T hk hd' hu ret
end Mine

end

section
open PySem PySem.W PyProof.Rows PySem.Calls
namespace Mine

/-- the ledger's addresses differ -/
def Apart (news : List (Addr × Obj)) : Prop := (news.map (·.1)).Nodup

theorem upd_of_mem {D : Addr} {o : Obj} (o' : Obj) : ∀ {news : List (Addr × Obj)}, Apart news → (D, o) ∈ news → ∃ news', Upd D o o' news news' ∧ (D, o') ∈ news' ∧ (∀ p ∈ news, p.1 ≠ D → p ∈ news') ∧ news'.map (·.1) = news.map (·.1)
  | [], _, h => nomatch h
  | q :: r, hA, h => by
    have hA' : q.1 ∉ r.map (·.1) ∧ (r.map (·.1)).Nodup := List.nodup_cons.mp hA
    rcases List.mem_cons.mp h with e | h
    · subst e
      refine ⟨(D, o') :: r, .head fun p hp e => hA'.1 (by have z := List.mem_map_of_mem (f := fun q : Addr × Obj => q.1) hp; rw [e] at z; exact z), .head _, fun p hp hne => ?_, rfl⟩
      rcases List.mem_cons.mp hp with rfl | hp
      · exact absurd rfl hne
      · exact .tail _ hp
    · obtain ⟨r', U, hm, hk, ha⟩ := upd_of_mem o' (news := r) hA'.2 h
      have hne : q.1 ≠ D := fun e => hA'.1 (e ▸ List.mem_map_of_mem (f := (·.1)) h)
      refine ⟨q :: r', .tail hne U, .tail _ hm, fun p hp hne' => ?_, by rw [List.map_cons, List.map_cons, ha]⟩
      rcases List.mem_cons.mp hp with rfl | hp
      · exact .head _
      · exact .tail _ (hk p hp hne')

/-- what stands off the rows stays -/
structure Kept (refs : List Addr) (news news' : List (Addr × Obj)) : Prop where
  keep : ∀ p ∈ news, p.1 ∉ refs → p ∈ news'
  map : news'.map (·.1) = news.map (·.1)

/-- a list of lists of ints at lv: its rows stand at refs -/
structure MatIn (news : List (Addr × Obj)) (lv : Addr) (refs : List Addr) (M : List (List Int)) : Prop where
  lev : ∃ n, (lv, listOf (refs.map Value.ref).toArray n) ∈ news
  len : refs.length = M.length
  nd : (lv :: refs).Nodup
  row : ∀ (k : Nat) (a : Addr) (ns : List Int), refs[k]? = some a → M[k]? = some ns → ∃ vs n, (a, listOf vs.toArray n) ∈ news ∧ IntsAre vs ns

def mAt (M : List (List Int)) (i j : Int) : Int := (M.getD i.toNat []).getD j.toNat 0
def mSet (M : List (List Int)) (i j v : Int) : List (List Int) := M.set i.toNat ((M.getD i.toNat []).set j.toNat v)
def Rect (M : List (List Int)) (h w : Nat) : Prop := M.length = h ∧ ∀ r ∈ M, r.length = w

theorem Rect.row {M : List (List Int)} {h w : Nat} (R : Rect M h w) {i : Nat} (hi : i < h) : (M.getD i []).length = w := by
  have hi' : i < M.length := by rw [R.1]; exact hi
  rw [List.getD_eq_getElem?_getD, List.getElem?_eq_getElem hi']
  exact R.2 _ (List.getElem_mem hi')
theorem Rect.get {M : List (List Int)} {h w : Nat} (R : Rect M h w) {i : Nat} (hi : i < h) : M[i]? = some (M.getD i []) := by
  have hi' : i < M.length := by rw [R.1]; exact hi
  rw [List.getD_eq_getElem?_getD, List.getElem?_eq_getElem hi']; rfl
theorem Rect.set {M : List (List Int)} {h w : Nat} (R : Rect M h w) {i j v : Int} (h0 : 0 ≤ i) (hi : i < h) : Rect (mSet M i j v) h w := by
  refine ⟨by unfold mSet; rw [List.length_set]; exact R.1, fun r hr => ?_⟩
  unfold mSet at hr
  rcases List.mem_or_eq_of_mem_set hr with h1 | h1
  · exact R.2 _ h1
  · rw [h1, List.length_set]
    exact R.row (by omega)

section
variable {prog : Program} {w : World} {A : Around} {E : Value → Shared → Prop} {s : Shared} {h₀ : Heap} {L : Addr} {m : Str → Option Value} {news : List (Addr × Obj)} {lv : Addr} {refs : List Addr} {M : List (List Int)} {H W : Nat}

theorem mat_row {value slice : PySem.Expr} {k : Int} {u : Tok} {Q : Value → Shared → Prop} (N : News h₀ L s.heap news) (hM : MatIn news lv refs M) (R : Rect M H W) (hH : H ≤ 10000) (h0 : 0 ≤ k) (hk : k < H)
    (h : ∀ a, refs[k.toNat]? = some a → Q (.ref a) s)
    (hs : subscripted slice false (.ref lv) (.int k u) = operate [.ref lv, .int k u] (getItem (.ref lv) (.int k u)) := by with_unfolding_all rfl) :
    wpAny (model prog w) A (subscriptTail value slice (.ref lv) (.int k u)) Q E s := by
  obtain ⟨n, hm⟩ := hM.lev
  have hl : s.heap.IsList lv (refs.map Value.ref).toArray := PySem.IsL.isList (n := n) (N _ hm).1
  have hlt : k.toNat < refs.length := by rw [hM.len, R.1]; omega
  refine tail_any hl.typeIs slot_list_getitem.lookup (wpAny_getItem_list hl h0 (by omega) (x := .ref refs[k.toNat]) ?_ (h _ (List.getElem?_eq_getElem hlt))) hs
  simp [hlt]

theorem mat_row' {k : Int} {u : Tok} {Q : Value → Shared → Prop} (N : News h₀ L s.heap news) (hM : MatIn news lv refs M) (R : Rect M H W) (hH : H ≤ 10000) (h0 : 0 ≤ k) (hk : k < H)
    (h : ∀ a, refs[k.toNat]? = some a → Q (.ref a) s) : wpAny (model prog w) A (getItem (.ref lv) (.int k u)) Q E s := by
  obtain ⟨n, hm⟩ := hM.lev
  have hl : s.heap.IsList lv (refs.map Value.ref).toArray := PySem.IsL.isList (n := n) (N _ hm).1
  have hlt : k.toNat < refs.length := by rw [hM.len, R.1]; omega
  refine wpAny_getItem_list hl h0 (by omega) (x := .ref refs[k.toNat]) ?_ (h _ (List.getElem?_eq_getElem hlt))
  simp [hlt]

theorem mat_int {value slice : PySem.Expr} {a : Addr} {i k : Int} {u : Tok} {Q : Value → Shared → Prop} (N : News h₀ L s.heap news) (hM : MatIn news lv refs M) (R : Rect M H W) (ha : refs[i.toNat]? = some a) (hH : H ≤ 10000) (hW : W ≤ 10000) (h0 : 0 ≤ k) (hk : k < W)
    (h : ∀ t, Q (.int (mAt M i k) t) s)
    (hs : subscripted slice false (.ref a) (.int k u) = operate [.ref a, .int k u] (getItem (.ref a) (.int k u)) := by with_unfolding_all rfl) :
    wpAny (model prog w) A (subscriptTail value slice (.ref a) (.int k u)) Q E s := by
  have hlt : i.toNat < H := by
    rw [← R.1, ← hM.len]
    exact (List.getElem?_eq_some_iff.mp ha).1
  obtain ⟨vs, n, hm, hI⟩ := hM.row _ _ _ ha (R.get hlt)
  exact ksa_sub N hm hI h0 (by rw [R.row hlt]; exact hk) (by omega) h hs

theorem mat_set {a : Addr} {i k x : Int} {t u : Tok} {Q : Unit → Shared → Prop} (F : Fr h₀ L s.heap m) (N : News h₀ L s.heap news) (hA : Apart news) (hM : MatIn news lv refs M) (R : Rect M H W) (ha : refs[i.toNat]? = some a) (hH : H ≤ 10000) (hW : W ≤ 10000) (h0 : 0 ≤ k) (hk : k < W)
    (h : ∀ h' news', Fr h₀ L h' m → News h₀ L h' news' → MatIn news' lv refs (mSet M i k x) → Kept refs news news' → Q () { s with heap := h' }) :
    wpAny (model prog w) A (setItem (.ref a) (.int k t) (.int x u)) Q E s := by
  have hlt : i.toNat < H := by
    rw [← R.1, ← hM.len]
    exact (List.getElem?_eq_some_iff.mp ha).1
  have har : a ∈ refs := List.mem_of_getElem? ha
  obtain ⟨vs, n, hm, hI⟩ := hM.row _ _ _ ha (R.get hlt)
  obtain ⟨news', U, hm', hkeep, hmap⟩ := upd_of_mem (listOf (vs.set k.toNat (.int x u)).toArray n) hA hm
  refine ksa_set F N U hI h0 (by rw [R.row hlt]; exact hk) (by omega) fun h' F' N' hI' _ _ => h h' news' F' N' ?_ ⟨fun p hp hne => hkeep p hp fun e => hne (e ▸ har), hmap⟩
  have hnd := List.nodup_cons.mp hM.nd
  obtain ⟨nl, hl⟩ := hM.lev
  refine ⟨⟨nl, hkeep _ hl fun e => hnd.1 ?_⟩, by unfold mSet; rw [List.length_set]; exact hM.len, hM.nd, fun q b ns hb hns => ?_⟩
  · have e' : lv = a := e
    rw [e']; exact har
  · by_cases hq : q = i.toNat
    · subst hq
      have e1 : b = a := by rw [ha] at hb; exact (Option.some.inj hb).symm
      subst e1
      have e2 : ns = (M.getD i.toNat []).set k.toNat x := by
        unfold mSet at hns
        rw [List.getElem?_set_self (by rw [R.1]; exact hlt)] at hns
        exact (Option.some.inj hns).symm
      subst e2
      exact ⟨_, n, hm', hI'⟩
    · have hns' : M[q]? = some ns := by
        unfold mSet at hns
        rwa [List.getElem?_set_ne (Ne.symm hq)] at hns
      obtain ⟨vs₁, n₁, hm₁, hI₁⟩ := hM.row _ _ _ hb hns'
      refine ⟨vs₁, n₁, hkeep _ hm₁ fun e => hq ?_, hI₁⟩
      have e' : b = a := e
      subst e'
      obtain ⟨l1, e1⟩ := List.getElem?_eq_some_iff.mp hb
      obtain ⟨l2, e2⟩ := List.getElem?_eq_some_iff.mp ha
      exact (List.getElem_inj hnd.2).mp (e1.trans e2.symm)
end

/-- the place that min's loop keeps: one of the places, and no place holds less -/
theorem least_at (f : Nat → Int) : ∀ n : Nat, argBest (fun i j => decide (f i < f j)) n ≤ n ∧ ∀ k, k ≤ n → f (argBest (fun i j => decide (f i < f j)) n) ≤ f k
  | 0 => ⟨Nat.le_refl _, fun k hk => by rw [Nat.le_zero.mp hk]; exact Int.le_refl _⟩
  | n + 1 => by
    obtain ⟨h1, h2⟩ := least_at f n
    unfold argBest
    by_cases hlt : f (n + 1) < f (argBest (fun i j => decide (f i < f j)) n)
    · rw [if_pos (decide_eq_true hlt)]
      refine ⟨Nat.le_refl _, fun k hk => ?_⟩
      rcases Nat.lt_or_ge n k with h | h
      · rw [show k = n + 1 by omega]; exact Int.le_refl _
      · exact Int.le_trans (Int.le_of_lt hlt) (h2 k h)
    · rw [if_neg (by simpa using hlt)]
      refine ⟨Nat.le_succ_of_le h1, fun k hk => ?_⟩
      rcases Nat.lt_or_ge n k with h | h
      · rw [show k = n + 1 by omega]; exact Int.not_lt.mp hlt
      · exact h2 k h

abbrev asInt (z : Int × Tok) : Value := .int z.1 z.2
abbrev tupN (vs : List Value) : Obj := { cls := .type "tuple", data := .seq vs.toArray }

/-- min of any number of ints, told by what it gives: one of them, the least -/
theorem min_more {prog : Program} {w : World} {A : Around} {E : Value → Shared → Prop} {s : Shared} {p q : Int × Tok} {r : List (Int × Tok)} {Q : Value → Shared → Prop} (hh : A.handled = none) (hr : r.length ≤ 1000)
    (ok : argsOk "min" ⟨asInt p :: asInt q :: r.map asInt, []⟩)
    (h : ∀ h' tk (z : Int × Tok), z ∈ p :: q :: r → (∀ y ∈ p :: q :: r, z.1 ≤ y.1) → (∀ d o, s.heap.get? d = some o → h'.get? d = some o) → Q (asInt z) { s with heap := h', toks := tk }) :
    wpAny (model prog w) A (call (.builtin "min") (asInt p :: asInt q :: r.map asInt)) Q E s := by
  generalize hT : s.heap.objs.size = T at *
  generalize hH : s.heap.push (tupN (asInt p :: asInt q :: r.map asInt)) = H
  have eH : H.objs.size = T + 1 := by rw [← hH, ← hT]; exact Heap.size_push ..
  have up : ∀ d o, s.heap.get? d = some o → H.get? d = some o := fun d o e => by rw [← hH]; exact Heap.get?_push_of_some _ e
  have its : H.IsTuple T (intItems (p :: q :: r).toArray) := ⟨_, by rw [← hH, ← hT]; exact Heap.get?_push_size _ rfl, rfl, 0, by simp [intItems]⟩
  have least : ∀ v, (intItems (p :: q :: r).toArray)[argBest (fun i j => decide (numAt (p :: q :: r).toArray i < numAt (p :: q :: r).toArray j)) (r.length + 1)]? = some v → ∃ z ∈ p :: q :: r, v = asInt z ∧ ∀ y ∈ p :: q :: r, z.1 ≤ y.1 := by
    intro v hv
    obtain ⟨_, low⟩ := least_at (numAt (p :: q :: r).toArray) (r.length + 1)
    generalize argBest (fun i j => decide (numAt (p :: q :: r).toArray i < numAt (p :: q :: r).toArray j)) (r.length + 1) = k at hv low
    simp only [intItems, Array.getElem?_map, Option.map_eq_some_iff, List.getElem?_toArray] at hv
    obtain ⟨z, hz, rfl⟩ := hv
    refine ⟨z, List.mem_of_getElem? hz, rfl, fun y hy => ?_⟩
    obtain ⟨i, hi, ey⟩ := List.getElem_of_mem hy
    have hi' : i ≤ r.length + 1 := by simp only [List.length_cons] at hi; omega
    have := low i hi'
    simp only [numAt, List.getElem?_toArray, hz, List.getElem?_eq_getElem hi, ey, Option.map_some, Option.getD_some] at this
    exact this
  have fits : sizeOk (.seq (asInt p :: asInt q :: r.map asInt).toArray) := by
    show (asInt p :: asInt q :: r.map asInt).toArray.size ≤ sizeLine
    rw [sizeLine_eq]; simp; omega
  refine call_function_tree F.kind_min F.plain_min F.entry_min ok ?_
  refine wpAny_bind (wpAny_of_eq (rfl : Builtin.Builtins.bindParams "min" ["key", "default"] 0 ⟨[], []⟩ = pure [none, none]) ?_)
  refine wpAny_bind (wpAny_newObj_type ?_ fits)
  rw [show s.heap.push _ = H from hH]
  rw [hT]
  refine wpAny_bind (wpAny_pyIter_tuple its ?_)
  rw [eH]
  generalize hG : H.push { cls := .type "tuple_iterator", data := .fields #[.ref T, .int 0 0] } = G
  have eG : G.objs.size = T + 2 := by rw [← hG, Heap.size_push, eH]
  have upG : ∀ d o, H.get? d = some o → G.get? d = some o := fun d o e => by rw [← hG]; exact Heap.get?_push_of_some _ e
  have hIt : G.IsTupleIter (T + 1) T 0 := ⟨_, by rw [← hG, ← eH]; exact Heap.get?_push_size _ rfl, rfl, rfl⟩
  refine wpAny_bind (wpAny_newObj_type ?_)
  generalize hK : G.push { cls := .type "list", data := .seq ([] : List Value).toArray } = K
  have upK : ∀ d o, G.get? d = some o → K.get? d = some o := fun d o e => by rw [← hK]; exact Heap.get?_push_of_some _ e
  have W := Walks.tuple (prog := prog) (w := w) (A := A.in1) hh (T + 1) T (Nat.ne_of_lt (Nat.lt_succ_self _)) (intItems (p :: q :: r).toArray)
  have hn : (intItems (p :: q :: r).toArray).size = r.length + 2 := by simp [intItems]
  refine wpAny_pure ⟨plainId_quiet F.plain_min_loop _, ?_⟩
  rw [eG]
  have itsG : G.IsTuple T (intItems (p :: q :: r).toArray) := by rw [← hG]; exact its.push _
  have st : K.IsTupleIter (T + 1) T 0 ∧ K.IsTuple T (intItems (p :: q :: r).toArray) := W.frame 0 G K ⟨hIt, itsG⟩ fun b _ o e => upK b o e
  have hK2 : K.get? (T + 2) = some { cls := .type "list", data := .seq ([] : List Value).toArray } := by rw [← hK, ← eG]; exact Heap.get?_push_size _ rfl
  refine codeAny_min_loop_first W _ (CmpOf.ints_lt (numAt _) fun _ _ => intItems_at) (T + 2) ?_ (by omega) st hK2 fun v h' tk hP hk => ?_
  · intro hm
    rcases List.mem_cons.mp hm with e | hm
    · exact absurd e (Nat.ne_of_gt (Nat.lt_succ_self (T + 1)))
    · exact absurd (List.mem_singleton.mp hm) (Nat.ne_of_gt (Nat.lt_succ_of_lt (Nat.lt_succ_self T)))
  · rw [hn] at hP
    obtain ⟨z, hz, rfl, hl⟩ := least v hP
    refine h h' tk z hz hl fun d o e => ?_
    have hd : d < T := by rw [← hT]; exact Heap.lt_size e
    exact hk d o (fun hm => absurd (List.mem_singleton.mp hm) (Nat.ne_of_lt (Nat.lt_succ_of_lt hd))) (Nat.ne_of_lt (Nat.lt_succ_of_lt (Nat.lt_succ_of_lt hd))) (upK _ _ (upG _ _ (up _ _ e)))

theorem ok_min4 (a b c d : Value) : argsOk "min" ⟨[a, b, c, d], []⟩ := by unfold argsOk; kernel_rfl
theorem min_four_N {prog : Program} {w : World} {A : Around} {E : Value → Shared → Prop} {s : Shared} {h₀ : Heap} {L : Addr} {m : Str → Option Value} {news : List (Addr × Obj)} {a b c d : Int} {t u x y : Tok} {Q : Value → Shared → Prop} (hh : A.handled = none) (F : Fr h₀ L s.heap m) (N : News h₀ L s.heap news)
    (h : ∀ h' tk tv, Fr h₀ L h' m → News h₀ L h' news → Q (.int (min (min (min a b) c) d) tv) { s with heap := h', toks := tk }) :
    wpAny (model prog w) A (call (.builtin "min") [.int a t, .int b u, .int c x, .int d y]) Q E s := by
  refine min_more (p := (a, t)) (q := (b, u)) (r := [(c, x), (d, y)]) hh (by simp) (ok_min4 _ _ _ _) fun h' tk z hz hl hk => ?_
  have ha : z.1 ≤ a := hl (a, t) (by simp)
  have hb : z.1 ≤ b := hl (b, u) (by simp)
  have hc : z.1 ≤ c := hl (c, x) (by simp)
  have hd : z.1 ≤ d := hl (d, y) (by simp)
  have e : z.1 = a ∨ z.1 = b ∨ z.1 = c ∨ z.1 = d := by
    simp only [List.mem_cons, List.not_mem_nil, or_false] at hz
    rcases hz with rfl | rfl | rfl | rfl <;> simp
  have := h h' tk z.2 (F.grownK hk) (N.grown hk)
  rw [show min (min (min a b) c) d = z.1 by omega] at this
  exact this
end Mine

end

section
open PySem PySem.W PyProof.Rows PySem.Calls
namespace Mine
/-- a goal that the walk leaves alone -/
def Halt (p : Prop) : Prop := p
theorem halt {p : Prop} (h : Halt p) : p := h
theorem halted {p : Prop} (h : p) : Halt p := h

/-- none of the ledger's entries stands at I -/
def Off (I : Addr) (nx : List (Addr × Obj)) : Prop := ∀ p ∈ nx, p.1 ≠ I
theorem Off.cons {I J : Addr} {o : Obj} {nx : List (Addr × Obj)} (h : J ≠ I) (hn : Off I nx) : Off I ((J, o) :: nx) := fun p hp => by
  rcases List.mem_cons.mp hp with rfl | hp
  · exact h
  · exact hn p hp
theorem Apart.cons {I : Addr} {o : Obj} {nx : List (Addr × Obj)} (h : Off I nx) (hn : Apart nx) : Apart ((I, o) :: nx) :=
  List.nodup_cons.mpr ⟨fun hm => by obtain ⟨p, hp, e⟩ := List.mem_map.mp hm; exact h p hp e, hn⟩
theorem Apart.off {I : Addr} {o : Obj} {nx : List (Addr × Obj)} (h : Apart ((I, o) :: nx)) : Off I nx := fun p hp e =>
  (List.nodup_cons.mp h).1 (by have z := List.mem_map_of_mem (f := fun q : Addr × Obj => q.1) hp; rw [e] at z; exact z)
theorem Apart.tail {p : Addr × Obj} {nx : List (Addr × Obj)} (h : Apart (p :: nx)) : Apart nx := (List.nodup_cons.mp h).2
theorem Off.of_lt {I : Addr} {nx : List (Addr × Obj)} (h : ∀ p ∈ nx, p.1 < I) : Off I nx := fun p hp => Nat.ne_of_lt (h p hp)
theorem Off.of_map {I : Addr} {nx nx' : List (Addr × Obj)} (h : Off I nx) (e : nx'.map (·.1) = nx.map (·.1)) : Off I nx' := fun p hp q => by
  have z := List.mem_map_of_mem (f := fun q : Addr × Obj => q.1) hp
  rw [e] at z
  obtain ⟨r, hr, er⟩ := List.mem_map.mp z
  exact h r hr (er.trans q)

theorem Kept.refl (refs : List Addr) (nx : List (Addr × Obj)) : Kept refs nx nx := ⟨fun _ h _ => h, rfl⟩
theorem Kept.trans {refs : List Addr} {a b c : List (Addr × Obj)} (x : Kept refs a b) (y : Kept refs b c) : Kept refs a c := ⟨fun p hp hn => y.keep p (x.keep p hp hn) hn, y.map.trans x.map⟩
theorem Kept.apart {refs : List Addr} {a b : List (Addr × Obj)} (x : Kept refs a b) (h : Apart a) : Apart b := by unfold Apart; rw [x.map]; exact h
theorem Kept.uncons {refs : List Addr} {I : Addr} {o : Obj} {nx news' : List (Addr × Obj)} (x : Kept refs ((I, o) :: nx) news') (hI : I ∉ refs) (hA : Apart ((I, o) :: nx)) : ∃ nx', news' = (I, o) :: nx' ∧ Kept refs nx nx' := by
  have hA' := x.apart hA
  have hm := x.keep (I, o) (.head _) hI
  cases news' with
  | nil => exact nomatch hm
  | cons q r =>
    have e := x.map
    simp only [List.map_cons, List.cons.injEq] at e
    have hq : q = (I, o) := by
      rcases List.mem_cons.mp hm with h | h
      · exact h.symm
      · exact absurd rfl (by have := Apart.off (I := q.1) (o := q.2) hA' _ h; rw [e.1] at this; exact this)
    subst hq
    refine ⟨r, rfl, ⟨fun p hp hn => ?_, e.2⟩⟩
    have := x.keep p (.tail _ hp) hn
    rcases List.mem_cons.mp this with h | h
    · exact absurd (by rw [h]) (Apart.off hA p hp)
    · exact h

/-- a ledger without doubles says the same -/
theorem News.single {h₀ h : Heap} {L : Addr} : ∀ {news : List (Addr × Obj)}, News h₀ L h news → ∃ ns, Apart ns ∧ News h₀ L h ns ∧ ∀ p ∈ news, p ∈ ns
  | [], _ => ⟨[], List.nodup_nil, News.nil, fun _ h => h⟩
  | q :: r, N => by
    obtain ⟨ns, hA, N', hs⟩ := News.single (news := r) fun p hp => N p (.tail _ hp)
    by_cases hq : q ∈ ns
    · refine ⟨ns, hA, N', fun p hp => ?_⟩
      rcases List.mem_cons.mp hp with rfl | hp
      · exact hq
      · exact hs p hp
    · refine ⟨q :: ns, Apart.cons (I := q.1) (o := q.2) (fun p hp e => hq ?_) hA, fun p hp => ?_, fun p hp => ?_⟩
      · have h1 := (N' p hp).1
        have h2 := (N q (.head _)).1
        rw [e, h2] at h1
        have : q = p := Prod.ext e.symm (Option.some.inj h1)
        rw [this]; exact hp
      · rcases List.mem_cons.mp hp with rfl | hp
        · exact N _ (.head _)
        · exact N' p hp
      · rcases List.mem_cons.mp hp with rfl | hp
        · exact .head _
        · exact .tail _ (hs p hp)

theorem MatIn.mono {a b : List (Addr × Obj)} {lv : Addr} {refs : List Addr} {M : List (List Int)} (h : MatIn a lv refs M) (k : ∀ p ∈ a, p ∈ b) : MatIn b lv refs M :=
  ⟨let ⟨n, hn⟩ := h.lev; ⟨n, k _ hn⟩, h.len, h.nd, fun q x ns hx hns => let ⟨vs, n, hm, hi⟩ := h.row q x ns hx hns; ⟨vs, n, k _ hm, hi⟩⟩
theorem MatIn.uncons {I : Addr} {o : Obj} {nx : List (Addr × Obj)} {lv : Addr} {refs : List Addr} {M : List (List Int)} (h : MatIn ((I, o) :: nx) lv refs M) (hI : I ∉ refs) (hl : I ≠ lv) : MatIn nx lv refs M := by
  refine ⟨?_, h.len, h.nd, fun q x ns hx hns => ?_⟩
  · obtain ⟨n, hn⟩ := h.lev
    refine ⟨n, ?_⟩
    rcases List.mem_cons.mp hn with e | e
    · exact absurd (congrArg Prod.fst e).symm hl
    · exact e
  · obtain ⟨vs, n, hm, hi⟩ := h.row q x ns hx hns
    refine ⟨vs, n, ?_, hi⟩
    rcases List.mem_cons.mp hm with e | e
    · exact absurd (by have e' : x = I := congrArg Prod.fst e; rw [← e']; exact List.mem_of_getElem? hx) hI
    · exact e
theorem MatIn.off {I : Addr} {nx : List (Addr × Obj)} {lv : Addr} {refs : List Addr} {M : List (List Int)} (h : MatIn nx lv refs M) (ho : Off I nx) : I ≠ lv ∧ I ∉ refs := by
  refine ⟨fun e => ?_, fun hm => ?_⟩
  · obtain ⟨n, hn⟩ := h.lev
    exact ho _ hn e.symm
  · obtain ⟨q, hq⟩ := List.mem_iff_getElem?.mp hm
    have hl : q < M.length := by rw [← h.len]; exact (List.getElem?_eq_some_iff.mp hq).1
    obtain ⟨vs, n, hmm, _⟩ := h.row q I _ hq (List.getElem?_eq_getElem hl)
    exact ho _ hmm rfl

section
variable {prog : Program} {w : World} {A : Around} {E : Value → Shared → Prop} {s : Shared} {env : Env} {h₀ : Heap} {x : Str} {body : List Stmt} {Q : Flow → Shared → Prop}

/-- the end of a turn -/
def TEnd (h₀ : Heap) (L : Addr) (J : (Str → Option Value) → List (Addr × Obj) → Prop) (I : Addr) (oI : Obj) (s₁ s₂ : Shared) : Prop :=
  ∃ h' tk m' nx, s₂ = { s₁ with heap := h', toks := tk } ∧ Fr h₀ L h' m' ∧ News h₀ L h' ((I, oI) :: nx) ∧ Off I nx ∧ J m' nx
def TPost (h₀ : Heap) (L : Addr) (J : (Str → Option Value) → List (Addr × Obj) → Prop) (I : Addr) (oI : Obj) (s₁ : Shared) (Q : Flow → Shared → Prop) (f : Flow) (s₂ : Shared) : Prop :=
  match f with
  | .ret v => Q (.ret v) s₂
  | .brk => Q .next s₂
  | _ => TEnd h₀ L J I oI s₁ s₂

theorem loop_one {I : Addr} {n : Nat} {P : Nat → Value → Prop} {St : Nat → Heap → Prop} {m₀ : Str → Option Value} {news : List (Addr × Obj)} (J : Nat → (Str → Option Value) → List (Addr × Obj) → Prop)
    (W : Walks prog w A I [I] [I] n P St) (hob : ∀ i h, St i h → ∃ o, h.get? I = some o) (hLf : env.locals ≠ I) (hI : h₀.get? I = none) (hnw : Off I news) (hst : St 0 s.heap)
    (F : Fr h₀ env.locals s.heap m₀) (N : News h₀ env.locals s.heap news) (hj : J 0 m₀ news)
    (turn : ∀ i v m₁ nx h tk oI, i < n → P i v → Off I nx → J i m₁ nx → Fr h₀ env.locals h (fun y => if y = x then some v else m₁ y) → News h₀ env.locals h ((I, oI) :: nx) →
      wpAny (model prog w) A (execs body env) (TPost h₀ env.locals (J (i + 1)) I oI { s with heap := h, toks := tk } Q) E { s with heap := h, toks := tk })
    (done : ∀ m₁ nx h tk, J n m₁ nx → Fr h₀ env.locals h m₁ → News h₀ env.locals h nx → Q .next { s with heap := h, toks := tk }) :
    LoopAtV prog w A h₀ env x body Q E (.ref I) s := by
  refine ⟨I, [I], [I], n, P, St, m₀, news, J, rfl, W, by simpa using hLf, by simpa using hI, fun p hp => by simpa using hnw p hp, hst, F, N, hj, ?_, ?_⟩
  · rintro i v m₁ news₁ s₁ own ⟨hh', tk', rfl⟩ hin hP hJ hoff hown hheap hmem hst' F₁ N₁
    obtain ⟨oI, hoI⟩ := hob _ _ hst'
    have hIown : (I, oI) ∈ own := hmem I (by simp) hI oI hoI
    have hallI : ∀ p ∈ own, p = (I, oI) := fun p hp => by
      have h1 : p.1 = I := by simpa using hown p hp
      have h2 := hheap p hp
      rw [h1, hoI] at h2
      exact Prod.ext h1 (Option.some.inj h2).symm
    have hoff' : Off I news₁ := fun p hp => by simpa using hoff p hp
    have N₂ : News h₀ env.locals hh' ((I, oI) :: news₁) := fun p hp => N₁ p (by
      rcases List.mem_cons.mp hp with rfl | hp
      · exact List.mem_append.mpr (.inl hIown)
      · exact List.mem_append.mpr (.inr hp))
    refine wpAny_mono (turn i v m₁ news₁ hh' tk' oI hin hP hoff' hJ F₁ N₂) (fun f s₂ p => ?_) fun _ _ e => e
    have fin : TEnd h₀ env.locals (J (i + 1)) I oI { s with heap := hh', toks := tk' } s₂ → LoopStepU h₀ env.locals [I] own (J (i + 1)) { s with heap := hh', toks := tk' } .next s₂ := by
      rintro ⟨h', tk, m', nx, e, F', N', ho, hm⟩
      refine ⟨rfl, h', tk, m', nx, e, F', fun p hp => N' p ?_, fun p hp => by simpa using ho p hp, hm⟩
      rcases List.mem_append.mp hp with hp | hp
      · rw [hallI p hp]; exact .head _
      · exact .tail _ hp
    cases f with
    | ret v => exact .ret p
    | brk => exact .brk p
    | next => exact .next (fin p)
    | cont => exact .cont (fin p)
  · rintro h' tk m' news' F' N' _ hJ
    exact done m' news' h' tk hJ F' N'

theorem for_range {σ : Type} (mf : (Str → Option Value) → σ → (Str → Option Value)) (P : Nat → σ → List (Addr × Obj) → Prop) (st₀ : σ)
    {r : Addr} {a₀ b₀ : Int} {t₀ u₀ v₀ : Tok} {m₀ : Str → Option Value} {news : List (Addr × Obj)}
    (hh : A.handled = none) (hr : IsRange s.heap r a₀ b₀ 1 t₀ u₀ v₀) (ha : -1000000 ≤ a₀ ∧ a₀ ≤ 1000000) (hb : -1000000 ≤ b₀ ∧ b₀ ≤ 1000000) (F : Fr h₀ env.locals s.heap m₀) (N : News h₀ env.locals s.heap news)
    (hm : m₀ = mf m₀ st₀) (hP : P 0 st₀ news)
    (turn : ∀ (i : Nat) (k : Int) (t : Tok) (st : σ) nx h tk I oI, k = a₀ + i → k < b₀ → Off I nx → P i st nx → Fr h₀ env.locals h (fun y => if y = x then some (.int k t) else mf m₀ st y) → News h₀ env.locals h ((I, oI) :: nx) →
      wpAny (model prog w) A (execs body env) (TPost h₀ env.locals (fun m nx => ∃ st', m = mf m₀ st' ∧ P (i + 1) st' nx) I oI { s with heap := h, toks := tk } Q) E { s with heap := h, toks := tk })
    (done : ∀ st nx h tk, P (b₀ - a₀).toNat st nx → Fr h₀ env.locals h (mf m₀ st) → News h₀ env.locals h nx → Q .next { s with heap := h, toks := tk }) :
    wpAny (model prog w) A (pyIter (.ref r)) (fun it s₂ => LoopAtV prog w A h₀ env x body Q E it s₂) E s := by
  have hn : Builtin.Range.rangeSize a₀ b₀ 1 = (((b₀ - a₀).toNat : Nat) : Int) := rangeSize_nat _ _
  refine wpAny_pyIter_range hr (small_one (by omega) (by omega) (by omega) (by omega)) ?_
  have W : Walks prog w A s.heap.objs.size [s.heap.objs.size] [s.heap.objs.size] (b₀ - a₀).toNat (fun i v => i < (b₀ - a₀).toNat ∧ ∃ t, v = .int (a₀ + i * 1) t)
      (fun i h => IsRangeIter h s.heap.objs.size (a₀ + (i : Nat) * 1) (((b₀ - a₀).toNat : Int) - (i : Nat)) 1) := (Walks.range hh _ a₀ 1 (b₀ - a₀).toNat).bound
  refine loop_one (fun i m nx => ∃ st, m = mf m₀ st ∧ P i st nx) W ?_ (Nat.ne_of_lt F.ns.lt) (next_is_new F) (fun p hp => Nat.ne_of_lt (Heap.lt_size (N p hp).1)) (by show IsRangeIter _ _ _ _ _; rw [hn]; simpa using Heap.get?_push_size _ rfl) (F.push _) (fun p hp => ⟨Heap.get?_push_of_some _ (N p hp).1, (N p hp).2⟩) ⟨st₀, hm, hP⟩ ?_ ?_
  · intro i h hi
    exact ⟨_, hi⟩
  · rintro i v m₁ nx h tk oI hi ⟨_, t, rfl⟩ hoff ⟨st, rfl, hp⟩ F₁ N₁
    have e1 : a₀ + (i : Int) * 1 = a₀ + (i : Int) := by omega
    rw [e1] at F₁
    exact turn i _ t st nx h tk _ oI rfl (by omega) hoff hp F₁ N₁
  · rintro m₁ nx h tk ⟨st, rfl, hp⟩ F₁ N₁
    exact done st nx h tk hp F₁ N₁

theorem t_next {J : (Str → Option Value) → List (Addr × Obj) → Prop} {L I : Addr} {oI : Obj} {nx : List (Addr × Obj)} {s₁ : Shared} {h' : Heap} {tk : Nat} {m' : Str → Option Value}
    (F : Fr h₀ L h' m') (N : News h₀ L h' ((I, oI) :: nx)) (ho : Off I nx) (hJ : J m' nx) :
    TPost h₀ L J I oI s₁ Q .next { s₁ with heap := h', toks := tk } := ⟨h', tk, m', nx, rfl, F, N, ho, hJ⟩

/-- a list of the ledger is appended to -/
theorem append_A {L D : Addr} {m : Str → Option Value} {its : Array Value} {n : Nat} {x : Value} {news : List (Addr × Obj)} {Q : Value → Shared → Prop} (F : Fr h₀ L s.heap m) (N : News h₀ L s.heap news)
    (hA : Apart news) (hm : (D, listOf its n) ∈ news) (hsz : its.size ≤ sizeLine)
    (h : ∀ h' news', Fr h₀ L h' m → News h₀ L h' news' → (D, listOf (its.push x) (n + 1)) ∈ news' → Kept [D] news news' → Q .none { s with heap := h' }) :
    wpAny (model prog w) A (call (.builtin "list.append") [.ref D, x]) Q E s := by
  obtain ⟨nx', U, hm', hk, hmap⟩ := upd_of_mem (listOf (its.push x) (n + 1)) hA hm
  exact append_K F N U (fun h' F' N' => h h' nx' F' N' hm' ⟨fun p hp hne => hk p hp (by simpa using hne), hmap⟩) hsz
end
end Mine

end

section
open PySem PySem.W PyProof.Rows PySem.Calls
namespace Mine
local macro_rules | `(tactic| cell_enter) => `(tactic| (refine' code_def ?k1 ?k2 ?k3 ?k4 ?k5 ?kA ?kF ?kK ?k6 ?k7 ?k8 ?k9 ?kB ?_ ?c2 ?c3 ?c4 ?c5; (case kA => exact rfl); (case kF => exact rfl); (case kK => assumption); (case k1 => k_asm); (case k2 => k_asm); (case k3 => k_asm); (case k4 => k_asm); (case k5 => k_asm); (case k6 => k_is); (case k7 => k_is); (case k8 => ktr_room); (case k9 => exact binds_K (by k_in) rfl (by k_is) rfl rfl rfl); (case c5 => decide); (case kB => exact locs rfl); (case c2 => exact rfl); (case c3 => exact rfl); (case c4 => exact rfl); k_whole; intro g' L' h' FG' F' N' B' X' T'; (try dsimp only); (try k_lift B'); (try k_fold)))
local macro_rules | `(tactic| walk_at "subscriptTail") => `(tactic| (k_here; (with_reducible show wpAny _ _ (subscriptTail _ _ (Value.ref _) (Value.int _ _)) _ _ _); k_dflt (first
  | (refine' mat_row ?N ?M ?R ?H ?z ?k ?_ ?s; (case N => k_asm); (case M => with_reducible assumption); (case R => with_reducible assumption); (case H => omega); (case z => omega); (case k => omega); (case s => with_unfolding_all rfl); k_whole; intro a' ha')
  | (refine' mat_int ?N ?M ?R ?a ?H ?W ?z ?k ?_ ?s; (case N => k_asm); (case M => with_reducible assumption); (case R => with_reducible assumption); (case a => with_reducible assumption); (case H => omega); (case W => omega); (case z => omega); (case k => omega); (case s => with_unfolding_all rfl); k_whole; intro t'))))
local macro_rules | `(tactic| walk_at "setItem ref int") => `(tactic| (k_here; (with_reducible show wpAny _ _ (setItem (Value.ref _) (Value.int _ _) (Value.int _ _)) _ _ _); k_dflt (
  (refine' mat_set ?F ?N ?A ?M ?R ?a ?H ?W ?z ?k ?_; (case F => k_asm); (case N => k_asm); (case A => with_reducible assumption); (case M => with_reducible assumption); (case R => with_reducible assumption); (case a => with_reducible assumption); (case H => omega); (case W => omega); (case z => omega); (case k => omega); k_whole; intro h' news' F' N' hM' hK'))))
local macro_rules | `(tactic| walk_at "call builtin:min") => `(tactic| (k_here; (with_reducible show wpAny _ _ (call (Value.builtin _) [Value.int _ _, Value.int _ _, Value.int _ _, Value.int _ _]) _ _ _); k_dflt (refine' min_four_N ?h ?F ?N ?_; (case h => exact rfl); (case F => k_asm); (case N => k_asm); k_whole; intro h' tk' tv' F' N')))

def stepVal (M : List (List Int)) (s1 s2 : Str) (i j ll lr cost : Int) (tr : Bool) : Int :=
  min (min (min (mAt M (i - 1) j + 1) (mAt M i (j - 1) + 1)) (mAt M (i - 1) (j - 1) + (if Txt.item s1 (i - 1) = Txt.item s2 (j - 1) then 0 else cost)))
    (if tr = true ∧ 0 < ll ∧ 0 < lr then mAt M (ll - 1) (lr - 1) + i - ll + j - lr - 1 else mAt M (i - 1) (j - 1) + (if Txt.item s1 (i - 1) = Txt.item s2 (j - 1) then 0 else cost) + 1)

section
variable {news' : List (Addr × Obj)} {lv : Addr} {refs : List Addr} {M : List (List Int)} {i j ll lr cost : Int} {tr b : Bool} {s1 s2 : Str} {x : Int}
theorem step_end (hM : MatIn news' lv refs (mSet M i j x)) (e : x = stepVal M s1 s2 i j ll lr cost tr) : MatIn news' lv refs (mSet M i j (stepVal M s1 s2 i j ll lr cost tr)) := e ▸ hM
theorem sv_sub (hb : (Txt.item s1 (i - 1) != Txt.item s2 (j - 1)) = b) : (if Txt.item s1 (i - 1) = Txt.item s2 (j - 1) then 0 else cost) = (cond b cost 0) := by
  cases b with
  | true => rw [if_neg (by simpa using hb)]; rfl
  | false => rw [if_pos (by simpa using hb)]; rfl
theorem sv_swap (hb : (Txt.item s1 (i - 1) != Txt.item s2 (j - 1)) = b) (ht : tr = true) (h1 : 0 < ll) (h2 : 0 < lr) :
    min (min (min (mAt M (i - 1) j + 1) (mAt M i (j - 1) + 1)) (mAt M (i - 1) (j - 1) + (cond b cost 0))) (mAt M (ll - 1) (lr - 1) + i - ll + j - lr - 1) = stepVal M s1 s2 i j ll lr cost tr := by
  unfold stepVal
  rw [sv_sub (cost := cost) hb, if_pos ⟨ht, h1, h2⟩]
theorem sv_plain (hb : (Txt.item s1 (i - 1) != Txt.item s2 (j - 1)) = b) (ht : ¬ (tr = true ∧ 0 < ll ∧ 0 < lr)) :
    min (min (min (mAt M (i - 1) j + 1) (mAt M i (j - 1) + 1)) (mAt M (i - 1) (j - 1) + (cond b cost 0))) (mAt M (i - 1) (j - 1) + (cond b cost 0) + 1) = stepVal M s1 s2 i j ll lr cost tr := by
  unfold stepVal
  rw [sv_sub (cost := cost) hb, if_neg ht]
theorem no_swap1 (h : tr = false) : ¬ (tr = true ∧ 0 < ll ∧ 0 < lr) := fun q => by rw [h] at q; cases q.1
theorem no_swap2 (h : ¬ 0 < ll) : ¬ (tr = true ∧ 0 < ll ∧ 0 < lr) := fun q => h q.2.1
theorem no_swap3 (h : ¬ 0 < lr) : ¬ (tr = true ∧ 0 < ll ∧ 0 < lr) := fun q => h q.2.2
end

set_option maxRecDepth 100000 in
set_option maxHeartbeats 8000000 in
theorem step_con (w : World) (lv : Addr) (refs : List Addr) (M : List (List Int)) (i j ll lr cost : Int) (tr : Bool) (s1 s2 : Str) (ti tj t1 t2 tl tq tc : Tok) (news : List (Addr × Obj))
    (hM : MatIn news lv refs M) (hA : Apart news) (R : Rect M (s1.length + 1) (s2.length + 1)) (hi1 : 1 ≤ i) (hi2 : i ≤ s1.length) (hj1 : 1 ≤ j) (hj2 : j ≤ s2.length) (h1 : s1.length ≤ 1000) (h2 : s2.length ≤ 1000)
    (hl1 : ll ≤ i) (hl2 : lr ≤ j) (hc1 : 0 ≤ cost) (hc2 : cost ≤ 10) :
    Con w 20 41 [.ref lv, .int i ti, .int j tj, .str s1 t1, .str s2 t2, .int ll tl, .int lr tq] [(Str.ofString "substitution_cost", .int cost tc), (Str.ofString "transpositions", .bool tr)] news
      (fun v news' => v = .none ∧ MatIn news' lv refs (mSet M i j (stepVal M s1 s2 i j ll lr cost tr)) ∧ Kept refs news news') := by
  w_top off
  unfold Con
  refine (?_ : (PySem.Challenge.rw_an0014_01 = PySem.Challenge.rw_an0014_01) → _) rfl
  k_fill
  intro _ mean mg mb dp un gd cn cs a ccd cl outer A₀ base h₀ L m s Q E B F X N T hk hd' hu' hret
  refine wpAny_call ?_
  k_dflt cell_enter
  k_steps
  all_goals (with_reducible rename MatIn _ _ _ (mSet _ _ _ _) => hMX)
  all_goals (with_reducible rename Kept _ _ _ => hKX)
  all_goals refine hret _ _ _ _ ⟨rfl, step_end hMX ?_, hKX⟩ (by k_asm) (by k_asm)
  all_goals (with_reducible rename (_ != _) = _ => hbX)
  all_goals first
    | exact sv_swap hbX (by with_reducible assumption) (by with_reducible assumption) (by with_reducible assumption)
    | exact sv_plain hbX (no_swap1 (by with_reducible assumption))
    | exact sv_plain hbX (no_swap2 (by with_reducible assumption))
    | exact sv_plain hbX (no_swap3 (by with_reducible assumption))
end Mine

end

section
open PySem PySem.W PyProof.Rows PySem.Calls
namespace Mine
set_option maxRecDepth 100000 in
set_option maxHeartbeats 8000000 in
theorem check_con (w : World) (s1 s2 x : Str) (t1 t2 tx : Tok) (news : List (Addr × Obj)) (h1 : s1.length ≤ 1000) (h2 : s2.length ≤ 1000) :
    Con w 20 21 [.str s1 t1, .str s2 t2, .str x tx] [] news (fun v news' => v = .none ∧ news' = news) := by
  w_top off
  unfold Con
  refine (?_ : (PySem.Challenge.rw_an0014_01 = PySem.Challenge.rw_an0014_01) → _) rfl
  k_fill
  intro _ mean mg mb dp un gd cn cs a ccd cl outer A₀ base h₀ L m s Q E B F X N T hk hd' hu' hret
  refine wpAny_call ?_
  k_dflt cell_enter
  k_steps
  all_goals first
   | exact hret _ _ _ _ ⟨rfl, rfl⟩ (by k_asm) (by k_asm)
end Mine

end

section
open PySem PySem.W PyProof.Rows PySem.Calls
namespace Mine
local macro_rules | `(tactic| walk_at "pyIter ref") => `(tactic| ((with_reducible show wpAny _ _ (pyIter (Value.ref _)) (fun it s₂ => LoopAtV _ _ _ _ _ _ _ _ _ it s₂) _ _); refine halt ?_))
local macro_rules | `(tactic| walk_at "call builtin:list.append") => `(tactic| ((with_reducible show wpAny _ _ (call (Value.builtin _) [Value.ref _, _]) _ _ _); refine halt ?_))

local macro_rules | `(tactic| walk_at "subscriptTail") => `(tactic| (k_here; (with_reducible show wpAny _ _ (subscriptTail _ _ (Value.ref _) (Value.int _ _)) _ _ _); k_dflt (first
  | (refine' mat_row ?N ?M ?R ?H ?z ?k ?_ ?s; (case N => k_asm); (case M => with_reducible assumption); (case R => with_reducible assumption); (case H => omega); (case z => omega); (case k => omega); (case s => with_unfolding_all rfl); k_whole; intro a' ha')
  | (refine' mat_int ?N ?M ?R ?a ?H ?W ?z ?k ?_ ?s; (case N => k_asm); (case M => with_reducible assumption); (case R => with_reducible assumption); (case a => with_reducible assumption); (case H => omega); (case W => omega); (case z => omega); (case k => omega); (case s => with_unfolding_all rfl); k_whole; intro t'))))
local macro_rules | `(tactic| walk_at "setItem ref int") => `(tactic| (k_here; (with_reducible show wpAny _ _ (setItem (Value.ref _) (Value.int _ _) (Value.int _ _)) _ _ _); k_dflt (
  (refine' mat_set ?F ?N ?A ?M ?R ?a ?H ?W ?z ?k ?_; (case F => k_asm); (case N => k_asm); (case A => with_reducible assumption); (case M => with_reducible assumption); (case R => with_reducible assumption); (case a => with_reducible assumption); (case H => omega); (case W => omega); (case z => omega); (case k => omega); k_whole; intro h' news' F' N' hM' hK'))))
/-- rows that are laid one by one -/
structure RowsAre (news : List (Addr × Obj)) (lv : Addr) (W : Nat) (refs : List Addr) (n : Nat) (nx : List (Addr × Obj)) : Prop where
  keep : ∀ p ∈ news, p ∈ nx
  off : ∀ p ∈ news, p.1 ≠ lv ∧ p.1 ∉ refs
  apart : Apart nx
  lev : (lv, listOf (refs.map Value.ref).toArray n) ∈ nx
  nd : (lv :: refs).Nodup
  inn : ∀ a ∈ refs, ∃ o, (a, o) ∈ nx
  row : ∀ a ∈ refs, ∃ vs n, (a, listOf vs.toArray n) ∈ nx ∧ IntsAre vs (List.replicate W 0)

theorem RowsAre.start {news : List (Addr × Obj)} {lv : Addr} {W : Nat} (hA : Apart news) (hlt : ∀ p ∈ news, p.1 < lv) : RowsAre news lv W [] 0 ((lv, listOf #[] 0) :: news) :=
  ⟨fun p hp => .tail _ hp, fun p hp => ⟨Nat.ne_of_lt (hlt p hp), by simp⟩, Apart.cons (Off.of_lt hlt) hA, .head _, by simp, fun a h => (nomatch h), fun a h => (nomatch h)⟩

theorem RowsAre.next {news nx nx' : List (Addr × Obj)} {lv D : Addr} {W n k : Nat} {refs : List Addr} {vs : List Value} (h : RowsAre news lv W refs n nx) (hk : Kept [lv] nx nx') (hlv : (lv, listOf ((refs.map Value.ref).toArray.push (.ref D)) (n + 1)) ∈ nx')
    (hD : ∀ p ∈ nx, p.1 < D) (hI : IntsAre vs (List.replicate W 0)) : RowsAre news lv W (refs ++ [D]) (n + 1) ((D, listOf vs.toArray k) :: nx') := by
  have nd := List.nodup_cons.mp h.nd
  have hlD : lv ≠ D := Nat.ne_of_lt (hD _ h.lev)
  have hrD : ∀ a ∈ refs, a ≠ D := fun a ha => by obtain ⟨o, ho⟩ := h.inn a ha; exact Nat.ne_of_lt (hD _ ho)
  have hrl : ∀ a ∈ refs, a ≠ lv := fun a ha e => nd.1 (e ▸ ha)
  refine ⟨fun p hp => .tail _ (hk.keep p (h.keep p hp) (by simpa using (h.off p hp).1)), fun p hp => ⟨(h.off p hp).1, ?_⟩, Apart.cons ((Off.of_lt hD).of_map hk.map) (hk.apart h.apart), .tail _ ?_, ?_, ?_, ?_⟩
  · intro hm
    rcases List.mem_append.mp hm with hm | hm
    · exact (h.off p hp).2 hm
    · exact absurd (List.mem_singleton.mp hm) (Nat.ne_of_lt (hD p (h.keep p hp)))
  · have e : (refs.map Value.ref).toArray.push (.ref D) = ((refs ++ [D]).map Value.ref).toArray := by simp
    rw [← e]; exact hlv
  · refine List.nodup_cons.mpr ⟨fun hm => ?_, ?_⟩
    · rcases List.mem_append.mp hm with hm | hm
      · exact nd.1 hm
      · exact hlD (List.mem_singleton.mp hm)
    · refine List.nodup_append.mpr ⟨nd.2, by simp, fun a ha b hb => ?_⟩
      rw [List.mem_singleton.mp hb]; exact hrD a ha
  · intro a ha
    rcases List.mem_append.mp ha with ha | ha
    · obtain ⟨o, ho⟩ := h.inn a ha
      exact ⟨o, .tail _ (hk.keep _ ho (by simpa using hrl a ha))⟩
    · rw [List.mem_singleton.mp ha]; exact ⟨_, .head _⟩
  · intro a ha
    rcases List.mem_append.mp ha with ha | ha
    · obtain ⟨vs, n, hm, hi⟩ := h.row a ha
      exact ⟨vs, n, .tail _ (hk.keep _ hm (by simpa using hrl a ha)), hi⟩
    · rw [List.mem_singleton.mp ha]; exact ⟨vs, k, .head _, hI⟩

theorem RowsAre.mat {news nx : List (Addr × Obj)} {lv : Addr} {W n : Nat} {refs : List Addr} (h : RowsAre news lv W refs n nx) : MatIn nx lv refs (List.replicate refs.length (List.replicate W 0)) := by
  refine ⟨⟨n, h.lev⟩, by simp, h.nd, fun k a ns ha hns => ?_⟩
  obtain ⟨vs, n, hm, hi⟩ := h.row a (List.mem_of_getElem? ha)
  have e : ns = List.replicate W 0 := by
    rw [List.getElem?_replicate] at hns
    split at hns
    · exact (Option.some.inj hns).symm
    · cases hns
  subst e
  exact ⟨vs, n, hm, hi⟩
theorem flat_one {α : Type} (a : α) : ∀ n, (List.replicate n [a]).flatten = List.replicate n a
  | 0 => rfl
  | n + 1 => by rw [List.replicate_succ, List.flatten_cons, flat_one a n, List.replicate_succ]; rfl

section
variable {prog : Program} {w : World} {A : Around} {E : Value → Shared → Prop} {s : Shared} {env : Env} {h₀ : Heap} {x : Str} {body : List Stmt} {Q : Flow → Shared → Prop}
theorem set_set (x : Str) (v u : Option Value) (m : Str → Option Value) : (fun y => if y = x then v else if y = x then u else m y) = fun y => if y = x then v else m y := by
  funext y
  by_cases h : y = x
  · simp [h]
  · simp [h]
theorem set_same (x : Str) (m : Str → Option Value) : m = fun y => if y = x then m x else m y := by
  funext y
  by_cases h : y = x
  · simp [h]
  · simp [h]

theorem init_for1 {r lv : Addr} {H : Int} (W : Nat) {t₀ u₀ v₀ : Tok} {m₀ : Str → Option Value} {news : List (Addr × Obj)}
    (hh : A.handled = none) (hr : IsRange s.heap r 0 H 1 t₀ u₀ v₀) (hH : 1 ≤ H ∧ H ≤ 1001) (F : Fr h₀ env.locals s.heap m₀) (N : News h₀ env.locals s.heap ((lv, listOf #[] 0) :: news)) (hA : Apart news) (hlt : ∀ p ∈ news, p.1 < lv)
    (turn : ∀ (i : Nat) (k : Int) (t : Tok) nx h tk I oI (refs : List Addr), k = 0 + (i : Int) → k < H → Off I nx → RowsAre news lv W refs i nx → refs.length = i → Fr h₀ env.locals h (fun y => if y = x then some (.int k t) else m₀ y) → News h₀ env.locals h ((I, oI) :: nx) →
      Apart ((I, oI) :: nx) → (lv, listOf (refs.map Value.ref).toArray i) ∈ ((I, oI) :: nx) →
      wpAny (model prog w) A (execs body env) (TPost h₀ env.locals (fun m nx => ∃ u : Option Value, m = (fun y => if y = x then u else m₀ y) ∧ ∃ refs : List Addr, refs.length = i + 1 ∧ RowsAre news lv W refs (i + 1) nx) I oI { s with heap := h, toks := tk } Q) E { s with heap := h, toks := tk })
    (done : ∀ (u : Option Value) nx h tk (refs : List Addr), refs.length = H.toNat → RowsAre news lv W refs H.toNat nx → Fr h₀ env.locals h (fun y => if y = x then u else m₀ y) → News h₀ env.locals h nx → Q .next { s with heap := h, toks := tk }) :
    wpAny (model prog w) A (pyIter (.ref r)) (fun it s₂ => LoopAtV prog w A h₀ env x body Q E it s₂) E s := by
  refine for_range (fun m (u : Option Value) y => if y = x then u else m y) (fun i _ nx => ∃ refs : List Addr, refs.length = i ∧ RowsAre news lv W refs i nx) (m₀ x) hh hr (by omega) (by omega) F N (set_same _ _) ⟨[], rfl, RowsAre.start hA hlt⟩ ?_ ?_
  · rintro i k t u nx h tk I oI hk hkH hoff ⟨refs, hl, hP⟩ F₁ N₁
    rw [set_set] at F₁
    exact turn i k t nx h tk I oI refs hk hkH hoff hP hl F₁ N₁ (Apart.cons hoff hP.apart) (.tail _ hP.lev)
  · rintro u nx h tk ⟨refs, hl, hP⟩ F₁ N₁
    rw [show (H - 0).toNat = H.toNat by omega] at hP hl
    exact done u nx h tk refs hl hP F₁ N₁

theorem apart3 {I l1 D : Addr} {oI o1 oD : Obj} {nx : List (Addr × Obj)} (h1 : I < l1 ∧ AllLt l1 nx) (h2 : l1 < D ∧ I < D ∧ AllLt D nx) (hA : Apart ((I, oI) :: nx)) : Apart ((D, oD) :: (l1, o1) :: (I, oI) :: nx) :=
  Apart.cons (Off.cons (Nat.ne_of_lt h2.1) (Off.cons (Nat.ne_of_lt h2.2.1) (Off.of_lt (kst_ltOf h2.2.2)))) (Apart.cons (Off.cons (Nat.ne_of_lt h1.1) (Off.of_lt (kst_ltOf h1.2))) hA)

theorem init_end1 {lv D l1 I : Addr} {oI o1 : Obj} {W i : Nat} {k : Int} {t : Tok} {vs : List Value} {refs : List Addr} {news nx news' : List (Addr × Obj)} {L : Addr} {h' : Heap} {m₀ : Str → Option Value} {s₁ : Shared} {tk : Nat}
    (F4 : Fr h₀ L h' (fun y => if y = x then some (.int k t) else m₀ y)) (N4 : News h₀ L h' news') (hk : Kept [lv] ((D, listOf vs.toArray 0) :: (l1, o1) :: (I, oI) :: nx) news') (hm : (lv, listOf ((refs.map Value.ref).toArray.push (.ref D)) (i + 1)) ∈ news')
    (h1 : I < l1 ∧ AllLt l1 nx) (h2 : l1 < D ∧ I < D ∧ AllLt D nx) (hA : Apart ((I, oI) :: nx)) (hI : IntsAre vs (List.replicate W [0]).flatten) (hP : RowsAre news lv W refs i nx) (hl : refs.length = i) :
    TPost h₀ L (fun m nx => ∃ u : Option Value, m = (fun y => if y = x then u else m₀ y) ∧ ∃ refs : List Addr, refs.length = i + 1 ∧ RowsAre news lv W refs (i + 1) nx) I oI s₁ Q .next { s₁ with heap := h', toks := tk } := by
  have hA3 : Apart ((D, listOf vs.toArray 0) :: (l1, o1) :: (I, oI) :: nx) := apart3 h1 h2 hA
  have hlv := hP.lev
  have hoff := hA.off
  have nD : D ∉ [lv] := by
    have := kst_ltOf h2.2.2 _ hlv
    simpa using Nat.ne_of_gt this
  have n1 : l1 ∉ [lv] := by
    have := kst_ltOf h1.2 _ hlv
    simpa using Nat.ne_of_gt this
  have nI : I ∉ [lv] := by
    have := hoff _ hlv
    simpa using Ne.symm this
  obtain ⟨q1, rfl, k1⟩ := hk.uncons nD hA3
  obtain ⟨q2, rfl, k2⟩ := k1.uncons n1 hA3.tail
  obtain ⟨q3, rfl, k3⟩ := k2.uncons nI hA3.tail.tail
  have hm3 : (lv, listOf ((refs.map Value.ref).toArray.push (.ref D)) (i + 1)) ∈ q3 := by
    rcases List.mem_cons.mp hm with e | hm
    · exact absurd (congrArg Prod.fst e).symm (by simpa using nD)
    rcases List.mem_cons.mp hm with e | hm
    · exact absurd (congrArg Prod.fst e).symm (by simpa using n1)
    rcases List.mem_cons.mp hm with e | hm
    · exact absurd (congrArg Prod.fst e).symm (by simpa using nI)
    exact hm
  refine t_next (nx := (D, listOf vs.toArray 0) :: q3) F4 (fun p hp => N4 p ?_) (Off.cons (Ne.symm (Nat.ne_of_lt h2.2.1)) (hoff.of_map k3.map)) ⟨_, rfl, refs ++ [D], by simp [hl], hP.next k3 hm3 (kst_ltOf h2.2.2) (flat_one (0 : Int) W ▸ hI)⟩
  rcases List.mem_cons.mp hp with rfl | hp
  · exact .tail _ (.tail _ (.head _))
  rcases List.mem_cons.mp hp with rfl | hp
  · exact .head _
  · exact .tail _ (.tail _ (.tail _ hp))

/-- a loop that turns the matrix alone -/
theorem mat_for {r lv : Addr} {a₀ b₀ : Int} (f : List (List Int) → Nat → List (List Int)) (M₀ : List (List Int)) (H W : Nat) {t₀ u₀ v₀ : Tok} {m₀ : Str → Option Value} {news : List (Addr × Obj)} {refs : List Addr}
    (hh : A.handled = none) (hr : IsRange s.heap r a₀ b₀ 1 t₀ u₀ v₀) (ha : -1000000 ≤ a₀ ∧ a₀ ≤ 1000000) (hb : -1000000 ≤ b₀ ∧ b₀ ≤ 1000000) (F : Fr h₀ env.locals s.heap m₀) (N : News h₀ env.locals s.heap news) (hA : Apart news) (hM : MatIn news lv refs M₀) (R : Rect M₀ H W)
    (hf : ∀ M i, Rect M H W → i < (b₀ - a₀).toNat → Rect (f M i) H W)
    (turn : ∀ (i : Nat) (k : Int) (t : Tok) nx h tk I oI M, k = a₀ + (i : Int) → k < b₀ → (I ≠ lv ∧ I ∉ refs) → Apart ((I, oI) :: nx) → MatIn ((I, oI) :: nx) lv refs M → Rect M H W → Kept refs news nx → Fr h₀ env.locals h (fun y => if y = x then some (.int k t) else m₀ y) → News h₀ env.locals h ((I, oI) :: nx) →
      wpAny (model prog w) A (execs body env) (TPost h₀ env.locals (fun m nx' => ∃ u : Option Value, m = (fun y => if y = x then u else m₀ y) ∧ Apart nx' ∧ MatIn nx' lv refs (f M i) ∧ Kept refs nx nx') I oI { s with heap := h, toks := tk } Q) E { s with heap := h, toks := tk })
    (done : ∀ (u : Option Value) nx h tk, Apart nx → MatIn nx lv refs ((List.range (b₀ - a₀).toNat).foldl f M₀) → Rect ((List.range (b₀ - a₀).toNat).foldl f M₀) H W → Kept refs news nx → Fr h₀ env.locals h (fun y => if y = x then u else m₀ y) → News h₀ env.locals h nx → Q .next { s with heap := h, toks := tk }) :
    wpAny (model prog w) A (pyIter (.ref r)) (fun it s₂ => LoopAtV prog w A h₀ env x body Q E it s₂) E s := by
  refine for_range (fun m (u : Option Value) y => if y = x then u else m y) (fun i _ nx => i ≤ (b₀ - a₀).toNat ∧ Apart nx ∧ MatIn nx lv refs ((List.range i).foldl f M₀) ∧ Rect ((List.range i).foldl f M₀) H W ∧ Kept refs news nx) (m₀ x) hh hr ha hb F N (set_same _ _) ⟨Nat.zero_le _, hA, hM, R, Kept.refl _ _⟩ ?_ ?_
  · rintro i k t u nx h tk I oI hk hkb hoff ⟨hi, hA', hM', R', hK'⟩ F₁ N₁
    rw [set_set] at F₁
    refine wpAny_mono (turn i k t nx h tk I oI _ hk hkb (hM'.off hoff) (Apart.cons hoff hA') (hM'.mono fun p hp => .tail _ hp) R' hK' F₁ N₁) (fun f' s' h' => ?_) fun _ _ e => e
    have fin : ∀ {s₁ s₂}, TEnd h₀ env.locals (fun m nx' => ∃ u : Option Value, m = (fun y => if y = x then u else m₀ y) ∧ Apart nx' ∧ MatIn nx' lv refs (f ((List.range i).foldl f M₀) i) ∧ Kept refs nx nx') I oI s₁ s₂ →
        TEnd h₀ env.locals (fun m nx' => ∃ u : Option Value, m = (fun y => if y = x then u else m₀ y) ∧ i + 1 ≤ (b₀ - a₀).toNat ∧ Apart nx' ∧ MatIn nx' lv refs ((List.range (i + 1)).foldl f M₀) ∧ Rect ((List.range (i + 1)).foldl f M₀) H W ∧ Kept refs news nx') I oI s₁ s₂ := by
      rintro s₁ s₂ ⟨h', tk', m', nx', e, F', N', ho, u', em, hA2, hM2, hK2⟩
      refine ⟨h', tk', m', nx', e, F', N', ho, u', em, by omega, hA2, ?_, ?_, hK'.trans hK2⟩
      · rw [List.range_succ, List.foldl_append]; exact hM2
      · rw [List.range_succ, List.foldl_append]; exact hf _ _ R' (by omega)
    cases f' with
    | ret v => exact h'
    | brk => exact h'
    | next => exact fin h'
    | cont => exact fin h'
  · rintro u nx h tk ⟨_, hA', hM', R', hK'⟩ F₁ N₁
    exact done u nx h tk hA' hM' R' hK' F₁ N₁
end

section
variable {h₀ : Heap} {x : Str} {Q : Flow → Shared → Prop}
theorem mat_end {lv I : Addr} {oI : Obj} {k : Int} {t : Tok} {refs : List Addr} {M' : List (List Int)} {nx news' : List (Addr × Obj)} {L : Addr} {h' : Heap} {m₀ : Str → Option Value} {s₁ : Shared} {tk : Nat}
    (F' : Fr h₀ L h' (fun y => if y = x then some (.int k t) else m₀ y)) (N' : News h₀ L h' news') (hM : MatIn news' lv refs M') (hK : Kept refs ((I, oI) :: nx) news') (hA : Apart ((I, oI) :: nx)) (hI : I ≠ lv ∧ I ∉ refs) :
    TPost h₀ L (fun m nx' => ∃ u : Option Value, m = (fun y => if y = x then u else m₀ y) ∧ Apart nx' ∧ MatIn nx' lv refs M' ∧ Kept refs nx nx') I oI s₁ Q .next { s₁ with heap := h', toks := tk } := by
  obtain ⟨q, rfl, hk⟩ := hK.uncons hI.2 hA
  exact t_next F' N' (hA.off.of_map hk.map) ⟨_, rfl, hk.apart hA.tail, hM.uncons hI.2 hI.1, hk⟩
end

def initM (H W : Nat) : List (List Int) := (List.range W).foldl (fun M (j : Nat) => mSet M 0 (j : Int) (j : Int)) ((List.range H).foldl (fun M (i : Nat) => mSet M (i : Int) 0 (i : Int)) (List.replicate H (List.replicate W 0)))

set_option maxHeartbeats 8000000 in
theorem init_con (w : World) (H W : Int) (t1 t2 : Tok) (news : List (Addr × Obj)) (h1 : 1 ≤ H ∧ H ≤ 1001) (h2 : 1 ≤ W ∧ W ≤ 1001) (hA : Apart news) :
    Con w 20 28 [.int H t1, .int W t2] [] news (fun v news' => ∃ lv refs, v = .ref lv ∧ (∀ p ∈ news, p ∈ news') ∧ MatIn news' lv refs (initM H.toNat W.toNat) ∧ Rect (initM H.toNat W.toNat) H.toNat W.toNat ∧ Apart news' ∧ (∀ p ∈ news, p.1 ≠ lv ∧ p.1 ∉ refs)) := by
  w_top off
  unfold Con
  refine (?_ : (PySem.Challenge.rw_an0014_01 = PySem.Challenge.rw_an0014_01) → _) rfl
  k_fill
  intro _ mean mg mb dp un gd cn cs a ccd cl outer A₀ base h₀ L m s Q E B F X N T hk hd' hu' hret
  refine wpAny_call ?_
  k_dflt cell_enter
  k_steps
  with_reducible rename Fr _ _ _ _ => F1
  with_reducible rename News _ _ _ _ => N1
  with_reducible rename IsRange _ _ _ _ _ _ _ _ => R1
  refine halted ?_
  with_unfolding_all refine init_for1 W.toNat rfl R1 h1 F1 N1 hA (by assumption) ?_ ?_
  · intro i k t nx h tk I oI refs hk0 hkH hoff hP hl F2 N2 hA2 hlv
    clear F1 N1
    k_steps
    with_reducible rename Fr _ _ _ _ => F3
    with_reducible rename News _ _ _ _ => N3
    refine halted ?_
    with_unfolding_all refine append_A F3 N3 (apart3 (by assumption) (by assumption) hA2) (List.Mem.tail _ (List.Mem.tail _ hlv)) ?_ ?_
    · rw [sizeLine_eq]; simp; omega
    · intro h' news' F4 N4 hm4 hk4
      clear F3 N3
      k_steps
      with_unfolding_all exact init_end1 F4 N4 hk4 hm4 (by assumption) (by assumption) hA2 (by assumption) hP hl
  · intro u nx h tk refs hl hP F2 N2
    clear F1 N1
    have hM := hP.mat
    have hR : Rect (List.replicate refs.length (List.replicate W.toNat 0)) H.toNat W.toNat := ⟨by simp [hl], fun r hr => by rw [List.eq_of_mem_replicate hr]; simp⟩
    rw [hl] at hM hR
    k_steps
    with_reducible rename Fr _ _ _ _ => F3
    with_reducible rename News _ _ _ _ => N3
    with_reducible rename IsRange _ _ _ _ _ _ _ _ => R3
    refine halted ?_
    with_unfolding_all refine mat_for (fun M (i : Nat) => mSet M (i : Int) 0 (i : Int)) _ H.toNat W.toNat rfl R3 (by decide) ⟨by omega, by omega⟩ F3 N3 hP.apart hM hR ?_ ?_ ?_
    · intro M i R hi
      exact R.set (by omega) (by omega)
    · intro i k t nx h tk I oI M hk0 hkH hoff hA5 hM5 R5 hK5 F5 N5
      clear F3 N3
      k_steps
      rw [Int.zero_add] at hk0
      subst hk0
      with_reducible rename Fr _ _ _ _ => F6
      with_reducible rename News _ _ _ _ => N6
      with_reducible rename MatIn _ _ _ (mSet _ _ _ _) => hM6
      with_reducible rename Kept _ _ _ => hK6
      with_unfolding_all exact mat_end F6 N6 hM6 hK6 hA5 hoff
    · intro u nx h tk hA5 hM5 R5 hK5 F5 N5
      clear F3 N3
      k_steps
      with_reducible rename Fr _ _ _ _ => F6
      with_reducible rename News _ _ _ _ => N6
      with_reducible rename IsRange _ _ _ _ _ _ _ _ => R6
      refine halted ?_
      with_unfolding_all refine mat_for (fun M (i : Nat) => mSet M 0 (i : Int) (i : Int)) _ H.toNat W.toNat rfl R6 (by decide) ⟨by omega, by omega⟩ F6 N6 hA5 hM5 R5 ?_ ?_ ?_
      · intro M i R hi
        exact R.set (by omega) (by omega)
      · intro i k t nx h tk I oI M hk0 hkH hoff hA7 hM7 R7 hK7 F7 N7
        clear F6 N6
        k_steps
        rw [Int.zero_add] at hk0
        subst hk0
        with_reducible rename Fr _ _ _ _ => F8
        with_reducible rename News _ _ _ _ => N8
        with_reducible rename MatIn _ _ _ (mSet _ _ _ _) => hM8
        with_reducible rename Kept _ _ _ => hK8
        with_unfolding_all exact mat_end F8 N8 hM8 hK8 hA7 hoff
      · intro u nx h tk hA7 hM7 R7 hK7 F7 N7
        clear F6 N6
        k_steps
        refine hret _ _ _ _ ⟨_, refs, rfl, fun p hp => ?_, ?_, ?_, hA7, hP.off⟩ (by k_asm) (by k_asm)
        · exact hK7.keep p (hK5.keep p (hP.keep p hp) (hP.off p hp).2) (hP.off p hp).2
        · simpa [initM] using hM7
        · simpa [initM] using R7
end Mine

end

section
open PySem PySem.W PyProof.Rows PySem.Calls PyProof.V
namespace Mine
local macro_rules | `(tactic| walk_at "eval DictComp") => `(tactic| (refine halt ?_))

theorem stored_zero {l : List Value} {kvs : List (Str × Value)} (h : StoredAll (fun v k => ∃ t, v = .str k t) (fun _ y => ∃ t, y = .int 0 t) l kvs) :
    (∀ p ∈ kvs, ∃ t, p.2 = .int 0 t) ∧ ∀ v ∈ l, ∀ k t, v = .str k t → (kvs.any fun p => decide (p.1 = k)) = true := by
  induction h with
  | nil => exact ⟨fun _ h => (nomatch h), fun _ h => (nomatch h)⟩
  | @snoc l kvs v k y _ hk hy ih =>
    obtain ⟨t, rfl⟩ := hy
    obtain ⟨tk, rfl⟩ := hk
    unfold stored
    by_cases hc : (kvs.any fun kv => decide (kv.1 = k)) = true
    · rw [if_pos hc]
      refine ⟨fun p hp => ?_, fun v hv k' t' e => ?_⟩
      · obtain ⟨q, hq, rfl⟩ := List.mem_map.mp hp
        by_cases hqk : q.1 = k
        · exact ⟨t, by rw [if_pos hqk]⟩
        · rw [if_neg hqk]; exact ih.1 q hq
      · have e2 : ((kvs.map fun kv => if kv.1 = k then (kv.1, Value.int 0 t) else kv).any fun p => decide (p.1 = k')) = kvs.any fun p => decide (p.1 = k') := by
          rw [List.any_map]
          congr 1
          funext q
          by_cases hqk : q.1 = k
          · simp [hqk]
          · simp [hqk]
        rw [e2]
        rcases List.mem_append.mp hv with hv | hv
        · exact ih.2 v hv k' t' e
        · have e3 := List.mem_singleton.mp hv
          rw [e] at e3
          cases e3
          exact hc
    · rw [if_neg hc]
      refine ⟨fun p hp => ?_, fun v hv k' t' e => ?_⟩
      · rcases List.mem_append.mp hp with hp | hp
        · exact ih.1 p hp
        · rw [List.mem_singleton.mp hp]; exact ⟨t, rfl⟩
      · rw [List.any_append, Bool.or_eq_true]
        rcases List.mem_append.mp hv with hv | hv
        · exact .inl (ih.2 v hv k' t' e)
        · have e3 := List.mem_singleton.mp hv
          rw [e] at e3
          cases e3
          exact .inr (by simp)

theorem flat_zero : ∀ {kvs : List (Str × Value)}, (∀ p ∈ kvs, ∃ t, p.2 = .int 0 t) → FlatPairs PyData.str kvs (kdpD (kvs.map fun p => (p.1, (0 : Int))))
  | [], _ => .nil
  | (k, v) :: r, h => by
    obtain ⟨t, e⟩ := h (k, v) (.head _)
    have e' : v = .int 0 t := e
    subst e'
    exact .cons (PyProof.V.Flat.int 0 t) (flat_zero fun p hp => h p (.tail _ hp))
theorem look_zero (k : Str) : ∀ kvs : List (Str × Value), kdpLook (kvs.map fun p => (p.1, (0 : Int))) k 0 = 0 := by
  intro kvs
  unfold kdpLook
  rw [List.find?_map]
  cases kvs.find? ((fun p : Str × Int => decide (p.1 = k)) ∘ fun p => (p.1, (0 : Int))) <;> rfl

theorem fresh_ne {h : Heap} {ob : Obj} {D b : Addr} {o : Obj} (hD : (h.push ob).get? D = none) (e : h.get? b = some o) : b ≠ D := fun q => by
  have z := Heap.get?_push_of_some ob e
  rw [q, hD] at z
  cases z
theorem News.cons_of {h₀ h : Heap} {L D : Addr} {o : Obj} {news : List (Addr × Obj)} (N : News h₀ L h news) (ho : h.get? D = some o) (hL : D ≠ L) (h0 : h₀.get? D = none) : News h₀ L h ((D, o) :: news) := fun p hp => by
  rcases List.mem_cons.mp hp with rfl | hp
  · exact ⟨ho, hL, h0⟩
  · exact N p hp

theorem led_new {h₀ h h' : Heap} {L D : Addr} {o ob : Obj} {m : Str → Option Value} {news : List (Addr × Obj)} (F : Fr h₀ L h m) (N : News h₀ L h news) (hD : (h.push ob).get? D = none) (keep : ∀ b o, h.get? b = some o → h'.get? b = some o)
    (ho : h'.get? D = some o) : Fr h₀ L h' m ∧ News h₀ L h' ((D, o) :: news) ∧ Off D news := by
  have hDn := fun b o e => fresh_ne hD (b := b) (o := o) e
  obtain ⟨oL, _, _, hoL, _⟩ := F.ns
  refine ⟨F.grownK keep, News.cons_of (N.grown keep) ho (Ne.symm (hDn _ _ hoL)) ?_, fun p hp => hDn _ _ (N p hp).1⟩
  cases e : h₀.get? D with
  | none => rfl
  | some o' => exact absurd rfl (hDn _ _ (F.keep _ _ e))

theorem view_imports : importsNone hd.view_39 = true := by decide +kernel
theorem not_modules {h₀ h : Heap} {L D : Addr} {ob : Obj} {m mg mb : Str → Option Value} {mean : ExcName → Option Value} (F : Fr h₀ L h m) (T : Top hd.view_39 LS mean mg mb h₀) (hD : (h.push ob).get? D = none) : (D == sysModules) = false := by
  obtain ⟨mm, ⟨o, _, _, ho, _⟩, _⟩ := (T.seer view_imports).mods
  have z := fresh_ne hD (F.keep _ _ ho)
  exact beq_eq_false_iff_ne.mpr (Ne.symm z)

set_option maxHeartbeats 8000000 in
theorem left_con (w : World) (x : Str) (tx : Tok) (news : List (Addr × Obj)) (h1 : x.length ≤ 2000) :
    Con w 20 33 [.str x tx] [] news (fun v news' => ∃ d o kvs c, v = .ref d ∧ news' = (d, o) :: news ∧ o.IsDictOf (strKind PG w) kvs ∧ FlatPairs PyData.str kvs (kdpD c) ∧ Off d news ∧ (d == sysModules) = false ∧ c.length ≤ 2000 ∧ (∀ k, kdpLook c k 0 = 0) ∧ ∀ a ∈ x.cps, kdpHas c ⟨#[a]⟩ = true) := by
  w_top off
  unfold Con
  refine (?_ : (PySem.Challenge.rw_an0014_01 = PySem.Challenge.rw_an0014_01) → _) rfl
  k_fill
  intro _ mean mg mb dp un gd cn cs a ccd cl outer A₀ base h₀ L m s Q E B F X N T hk hd' hu' hret
  refine wpAny_call ?_
  k_dflt cell_enter
  k_steps
  refine halted ?_
  with_unfolding_all refine wpAny_DictComp_free (strKind PG w) (fun _ => true) (fun v k => ∃ t, v = .str k t) (fun _ y => ∃ t, y = .int 0 t) rfl ?_ rfl ?_ rfl ?_
  · decide
  · decide
  · k_steps
    refine wpAny_pyIter_str fun o St hW hst => ?_
    with_reducible rename Fr _ _ _ _ => F1
    with_reducible rename News _ _ _ _ => N1
    refine ⟨_, _, _, _, _, St, rfl, hW _ rfl, ?_, hst, ?_, ⟨?_, ?_, ?_⟩, ?_⟩
    · rw [sizeLine_eq]; have : x.cps.size ≤ 2000 := h1; omega
    · intro b hb
      rw [List.mem_singleton.mp hb]
      show _ < (Heap.push _ _).objs.size
      rw [Heap.size_push]; exact Nat.lt_succ_self _
    · intro C i v s₃ m₃ E' hP hn hm hk
      exact wpAny_tests_nil ⟨rfl, ⟨_, _, rfl, fun _ _ e => e⟩⟩
    · intro C i v s₃ m₃ E' hP _ hn hm hk
      obtain ⟨ch, u, hc, rfl⟩ := hP
      exact ldVarK hn hm ⟨⟨_, strKind_is _ _ _ _, _, rfl⟩, ⟨_, _, rfl, fun _ _ e => e⟩⟩ rfl rfl (by decide)
    · intro C i v s₃ m₃ E' hP _ hn hm hk
      k_steps
      exact ⟨_, _, rfl, fun _ _ e => e⟩
    · intro D h' tk kvs vs hD hl hlen hP hS hk
      have keep := fun b o e => hk b o (fun hm => Nat.lt_irrefl _ (by have z := Heap.lt_size e; rw [List.mem_singleton.mp hm] at z; exact z)) (Heap.get?_push_of_some _ e)
      obtain ⟨o, ho, hdo⟩ := Heap.dictOf_iff.mp hl
      obtain ⟨F2, N2, hoff⟩ := led_new F1 N1 hD keep ho
      with_reducible rename Top _ _ _ _ _ _ => T1
      have hlow := not_modules F1 T1 hD
      clear F1 N1
      have hz := stored_zero hS
      k_steps
      refine hret _ _ _ _ ⟨D, o, kvs, kvs.map (fun p => (p.1, (0 : Int))), rfl, rfl, hdo, flat_zero hz.1, hoff, hlow, ?_, fun k => look_zero k kvs, fun a ha => ?_⟩ (by k_asm) (by k_asm)
      · have z := StoredAll.length_le hS
        have z2 := List.length_filter_le (fun _ => true) vs
        have z3 : x.cps.size ≤ 2000 := h1
        rw [List.length_map]
        omega
      · obtain ⟨j, hj⟩ := Array.mem_iff_getElem?.mp ha
        have hjl : j < vs.length := by rw [hlen]; exact (Array.getElem?_eq_some_iff.mp hj).1
        obtain ⟨c, u, hc, hv⟩ := hP j _ (List.getElem?_eq_getElem hjl)
        rw [hj] at hc
        cases hc
        have z := hz.2 vs[j] (List.mem_filter.mpr ⟨List.getElem_mem hjl, rfl⟩) _ _ hv
        unfold kdpHas
        rw [List.any_map]
        exact z
end Mine

end

section
open PySem PySem.W PyProof.Rows PySem.Calls PyProof.V
namespace Mine

theorem updF_of_mem {D : Addr} {o : Obj} : ∀ {news : List (Addr × Obj)}, Apart news → (D, o) ∈ news → ∃ g, UpdF D o news g ∧ ∀ o', (D, o') ∈ g o' ∧ Kept [D] news (g o')
  | [], _, h => nomatch h
  | q :: r, hA, h => by
    rcases List.mem_cons.mp h with e | h
    · subst e
      refine ⟨fun o' => (D, o') :: r, .head fun p hp => Apart.off hA p hp, fun o' => ⟨.head _, ⟨fun p hp hne => ?_, rfl⟩⟩⟩
      rcases List.mem_cons.mp hp with rfl | hp
      · exact absurd (List.mem_singleton.mpr rfl) hne
      · exact .tail _ hp
    · obtain ⟨g, U, hk⟩ := updF_of_mem (news := r) hA.tail h
      have hne : q.1 ≠ D := fun e => Apart.off (I := q.1) (o := q.2) hA _ h (by show D = q.1; exact e.symm)
      refine ⟨fun o' => q :: g o', .tail hne U, fun o' => ⟨.tail _ (hk o').1, ⟨fun p hp hn => ?_, by rw [List.map_cons, List.map_cons, (hk o').2.map]⟩⟩⟩
      rcases List.mem_cons.mp hp with rfl | hp
      · exact .head _
      · exact .tail _ ((hk o').2.keep p hp hn)

/-- a dict of texts and ints stands at d -/
structure DictIn (w : World) (news : List (Addr × Obj)) (d : Addr) (c : List (Str × Int)) : Prop where
  low : (d == sysModules) = false
  obj : ∃ o kvs, (d, o) ∈ news ∧ o.IsDictOf (strKind PG w) kvs ∧ FlatPairs PyData.str kvs (kdpD c)

theorem DictIn.mono {w : World} {a b : List (Addr × Obj)} {d : Addr} {c : List (Str × Int)} (h : DictIn w a d c) (k : ∀ p ∈ a, p.1 = d → p ∈ b) : DictIn w b d c :=
  ⟨h.low, let ⟨o, kvs, hm, r⟩ := h.obj; ⟨o, kvs, k _ hm rfl, r⟩⟩

theorem MatIn.dict {a b : List (Addr × Obj)} {lv d : Addr} {refs : List Addr} {M : List (List Int)} (h : MatIn a lv refs M) (k : Kept [d] a b) (h1 : d ≠ lv) (h2 : d ∉ refs) : MatIn b lv refs M :=
  ⟨let ⟨n, hn⟩ := h.lev; ⟨n, k.keep _ hn (by simpa using Ne.symm h1)⟩, h.len, h.nd, fun q x ns hx hns =>
    let ⟨vs, n, hm, hi⟩ := h.row q x ns hx hns
    ⟨vs, n, k.keep _ hm (fun e => h2 (by have e' : x = d := List.mem_singleton.mp e; rw [← e']; exact List.mem_of_getElem? hx)), hi⟩⟩

/-- the dict has every sign of x -/
def HasAll (c : List (Str × Int)) (x : Str) : Prop := ∀ k : Int, 0 ≤ k → k < x.length → kdpHas c (Txt.item x k) = true

section
variable {w : World} {A : Around} {E : Value → Shared → Prop} {s : Shared} {h₀ : Heap} {L d : Addr} {m : Str → Option Value} {news : List (Addr × Obj)} {c : List (Str × Int)} {k : Str} {e : Int} {tk te : Tok}
theorem dict_item {value slice : PySem.Expr} {Q : Value → Shared → Prop} (N : News h₀ L s.heap news) (D : DictIn w news d c) (hk : kdpHas c k = true) (h : ∀ t, Q (.int (kdpLook c k 0) t) { s with toks := s.toks + 1 })
    (hs : subscripted slice false (.ref d) (.str k tk) = operate [.ref d, .str k tk] (getItem (.ref d) (.str k tk)) := by with_unfolding_all rfl) (hg : ∀ r, letTemporaryGo value (.ref d) r = pure () := by intro _; with_unfolding_all rfl) :
    wpAny (model PG w) A (subscriptTail value slice (.ref d) (.str k tk)) Q E s := by
  obtain ⟨o, kvs, hm, hd, hf⟩ := D.obj
  exact kdp_item (TabAt.ofNews N hm D.low hd hf) hk h hs hg
theorem dict_set {Q : Unit → Shared → Prop} (F : Fr h₀ L s.heap m) (N : News h₀ L s.heap news) (hA : Apart news) (D : DictIn w news d c) (hc : c.length ≤ 16777216)
    (h : ∀ h' news', Fr h₀ L h' m → News h₀ L h' news' → DictIn w news' d (kdpPut c k e) → Kept [d] news news' → Q () { s with heap := h', toks := s.toks + 1 }) :
    wpAny (model PG w) A (setItem (.ref d) (.str k tk) (.int e te)) Q E s := by
  obtain ⟨o, kvs, hm, hd, hf⟩ := D.obj
  obtain ⟨g, U, hk⟩ := updF_of_mem hA hm
  exact kdp_setItem F N U hd hf hc fun h' o' kvs' F' N' hd' hf' => h h' _ F' N' ⟨D.low, o', kvs', (hk o').1, hd', hf'⟩ (hk o').2
end

local macro_rules | `(tactic| cell_enter) => `(tactic| (refine' code_def ?k1 ?k2 ?k3 ?k4 ?k5 ?kA ?kF ?kK ?k6 ?k7 ?k8 ?k9 ?kB ?_ ?c2 ?c3 ?c4 ?c5; (case kA => exact rfl); (case kF => exact rfl); (case kK => assumption); (case k1 => k_asm); (case k2 => k_asm); (case k3 => k_asm); (case k4 => k_asm); (case k5 => k_asm); (case k6 => k_is); (case k7 => k_is); (case k8 => ktr_room); (case k9 => exact binds_K (by k_in) rfl (by k_is) rfl rfl rfl); (case c5 => decide); (case kB => exact locs rfl); (case c2 => exact rfl); (case c3 => exact rfl); (case c4 => exact rfl); k_whole; intro g' L' h' FG' F' N' B' X' T'; (try dsimp only); (try k_lift B'); (try k_fold)))
local macro_rules | `(tactic| walk_at "pyIter ref") => `(tactic| ((with_reducible show wpAny _ _ (pyIter (Value.ref _)) (fun it s₂ => LoopAtV _ _ _ _ _ _ _ _ _ it s₂) _ _); refine halt ?_))
local macro_rules | `(tactic| walk_at "call ref") => `(tactic| (k_here; (with_reducible show wpAny _ _ (call (Value.ref _) _ _) _ _ _); refine halt ?_))

local macro_rules | `(tactic| walk_at "subscriptTail") => `(tactic| (k_here; (with_reducible show wpAny _ _ (subscriptTail _ _ (Value.ref _) (Value.int _ _)) _ _ _); k_dflt (first
  | (refine' mat_row ?N ?M ?R ?H ?z ?k ?_ ?s; (case N => k_asm); (case M => with_reducible assumption); (case R => with_reducible assumption); (case H => omega); (case z => omega); (case k => omega); (case s => with_unfolding_all rfl); k_whole; intro a' ha')
  | (refine' mat_int ?N ?M ?R ?a ?H ?W ?z ?k ?_ ?s; (case N => k_asm); (case M => with_reducible assumption); (case R => with_reducible assumption); (case a => with_reducible assumption); (case H => omega); (case W => omega); (case z => omega); (case k => omega); (case s => with_unfolding_all rfl); k_whole; intro t'))))
theorem HasAll.at {c : List (Str × Int)} {x : Str} {k : Int} (h : HasAll c x) (h0 : 0 ≤ k) (h1 : k < x.length) : kdpHas c (Txt.item x k) = true := h k h0 h1
local macro_rules | `(tactic| walk_at "subscriptTail") => `(tactic| (k_here; (with_reducible show wpAny _ _ (subscriptTail _ _ (Value.ref _) (Value.str _ _)) _ _ _); k_dflt (refine' dict_item ?N ?D (HasAll.at ?h ?z ?k) ?_ ?s ?g; (case N => k_asm); (case D => with_reducible assumption); (case h => with_reducible assumption); (case z => omega); (case k => omega); (case s => with_unfolding_all rfl); (case g => (intro _; with_unfolding_all rfl)); k_whole; intro t')))
local macro_rules | `(tactic| walk_at "setItem ref str") => `(tactic| (k_here; (with_reducible show wpAny _ _ (setItem (Value.ref _) (Value.str _ _) (Value.int _ _)) _ _ _); k_dflt (refine' dict_set ?F ?N ?A ?D ?c ?_; (case F => k_asm); (case N => k_asm); (case A => with_reducible assumption); (case D => with_reducible assumption); (case c => omega); k_whole; intro h' news' F' N' hD' hK')))

def inStep (s1 s2 : Str) (cost : Int) (tr : Bool) (c : List (Str × Int)) (i : Int) (st : List (List Int) × Int) (k : Nat) : List (List Int) × Int :=
  (mSet st.1 i (1 + k) (stepVal st.1 s1 s2 i (1 + k) (kdpLook c (Txt.item s2 (1 + k - 1)) 0) st.2 cost tr), if Txt.item s1 (i - 1) = Txt.item s2 (1 + k - 1) then 1 + (k : Int) else st.2)
def edIn (s1 s2 : Str) (cost : Int) (tr : Bool) (c : List (Str × Int)) (i : Int) (M : List (List Int)) (n : Nat) : List (List Int) × Int := (List.range n).foldl (inStep s1 s2 cost tr c i) (M, 0)
theorem edIn_succ (s1 s2 : Str) (cost : Int) (tr : Bool) (c : List (Str × Int)) (i : Int) (M : List (List Int)) (n : Nat) : edIn s1 s2 cost tr c i M (n + 1) = inStep s1 s2 cost tr c i (edIn s1 s2 cost tr c i M n) n := by
  unfold edIn; rw [List.range_succ, List.foldl_append]; rfl
def outStep (s1 s2 : Str) (cost : Int) (tr : Bool) (st : List (List Int) × List (Str × Int)) (k : Nat) : List (List Int) × List (Str × Int) :=
  ((edIn s1 s2 cost tr st.2 (1 + k) st.1 s2.length).1, kdpPut st.2 (Txt.item s1 (1 + k - 1)) (1 + k))
def edOut (s1 s2 : Str) (cost : Int) (tr : Bool) (c : List (Str × Int)) (n : Nat) : List (List Int) × List (Str × Int) := (List.range n).foldl (outStep s1 s2 cost tr) (initM (s1.length + 1) (s2.length + 1), c)
theorem edOut_succ (s1 s2 : Str) (cost : Int) (tr : Bool) (c : List (Str × Int)) (n : Nat) : edOut s1 s2 cost tr c (n + 1) = outStep s1 s2 cost tr (edOut s1 s2 cost tr c n) n := by
  unfold edOut; rw [List.range_succ, List.foldl_append]; rfl
def edVal (s1 s2 : Str) (cost : Int) (tr : Bool) (c : List (Str × Int)) : Int := mAt (edOut s1 s2 cost tr c s1.length).1 s1.length s2.length

def mfO (m u : Str → Option Value) (y : Str) : Option Value :=
  if y = Str.ofString "i" then u y else if y = Str.ofString "last_right_buf" then u y else if y = Str.ofString "j" then u y else if y = Str.ofString "last_left" then u y else if y = Str.ofString "last_right" then u y else m y
theorem mfO_start (m : Str → Option Value) : m = mfO m m := by
  funext y
  unfold mfO
  repeat' split
  all_goals rfl
def mfI (m : Str → Option Value) (st : Int × Tok × (Str → Option Value)) (y : Str) : Option Value :=
  if y = Str.ofString "last_right_buf" then some (.int st.1 st.2.1) else if y = Str.ofString "j" then st.2.2 y else if y = Str.ofString "last_left" then st.2.2 y else if y = Str.ofString "last_right" then st.2.2 y else m y
theorem mfI_start {m : Str → Option Value} {b : Int} {t : Tok} (h : m (Str.ofString "last_right_buf") = some (.int b t)) : m = mfI m (b, t, m) := by
  funext y
  unfold mfI
  split
  · rename_i e; rw [e]; exact h
  · repeat' split
    all_goals rfl
theorem mfO_close {m m' : Str → Option Value} (h : ∀ y, y ≠ Str.ofString "i" → y ≠ Str.ofString "last_right_buf" → y ≠ Str.ofString "j" → y ≠ Str.ofString "last_left" → y ≠ Str.ofString "last_right" → m' y = m y) : m' = mfO m m' := by
  funext y
  unfold mfO
  by_cases a : y = Str.ofString "i"
  · rw [if_pos a]
  by_cases b : y = Str.ofString "last_right_buf"
  · rw [if_neg a, if_pos b]
  by_cases c : y = Str.ofString "j"
  · rw [if_neg a, if_neg b, if_pos c]
  by_cases d : y = Str.ofString "last_left"
  · rw [if_neg a, if_neg b, if_neg c, if_pos d]
  by_cases e : y = Str.ofString "last_right"
  · rw [if_neg a, if_neg b, if_neg c, if_neg d, if_pos e]
  rw [if_neg a, if_neg b, if_neg c, if_neg d, if_neg e]
  exact h y a b c d e
theorem mfI_close {m m' : Str → Option Value} {b : Int} {t : Tok} (h1 : m' (Str.ofString "last_right_buf") = some (.int b t))
    (h : ∀ y, y ≠ Str.ofString "last_right_buf" → y ≠ Str.ofString "j" → y ≠ Str.ofString "last_left" → y ≠ Str.ofString "last_right" → m' y = m y) : m' = mfI m (b, t, m') := by
  funext y
  unfold mfI
  by_cases a : y = Str.ofString "last_right_buf"
  · rw [if_pos a, a]; exact h1
  by_cases c : y = Str.ofString "j"
  · rw [if_neg a, if_pos c]
  by_cases d : y = Str.ofString "last_left"
  · rw [if_neg a, if_neg c, if_pos d]
  by_cases e : y = Str.ofString "last_right"
  · rw [if_neg a, if_neg c, if_neg d, if_pos e]
  rw [if_neg a, if_neg c, if_neg d, if_neg e]
  exact h y a c d e

theorem kdpLook_put (c : List (Str × Int)) (k j : Str) (v : Int) : kdpLook (kdpPut c k v) j 0 = if j = k then v else kdpLook c j 0 := by
  unfold kdpLook kdpPut
  by_cases hc : (c.any fun p => decide (p.1 = k)) = true
  · rw [if_pos hc, List.find?_map]
    have e : ((fun p : Str × Int => decide (p.1 = j)) ∘ fun p => if decide (p.1 = k) = true then (p.1, v) else p) = fun p => decide (p.1 = j) := by
      funext p
      show decide ((if decide (p.1 = k) = true then (p.1, v) else p).1 = j) = decide (p.1 = j)
      by_cases hp : p.1 = k
      · rw [if_pos (decide_eq_true hp)]
      · rw [if_neg (by simp [hp])]
    rw [e]
    by_cases hj : j = k
    · subst hj
      rw [if_pos rfl]
      cases hf : c.find? fun p => decide (p.1 = j) with
      | none =>
        rw [List.find?_eq_none] at hf
        rw [List.any_eq_true] at hc
        obtain ⟨p, hp, q⟩ := hc
        exact absurd q (hf p hp)
      | some p =>
        have hp := List.find?_some hf
        show (if decide (p.1 = j) = true then (p.1, v) else p).2 = v
        rw [if_pos hp]
    · rw [if_neg hj]
      cases hf : c.find? fun p => decide (p.1 = j) with
      | none => rfl
      | some p =>
        have hp : p.1 = j := by simpa using List.find?_some hf
        show (if decide (p.1 = k) = true then (p.1, v) else p).2 = p.2
        rw [if_neg (by simp [hp, hj])]
  · rw [if_neg hc, List.find?_append]
    by_cases hj : j = k
    · subst hj
      rw [if_pos rfl]
      have hf : (c.find? fun p => decide (p.1 = j)) = none := by
        rw [List.find?_eq_none]
        intro p hp q
        exact hc (List.any_eq_true.mpr ⟨p, hp, q⟩)
      rw [hf]
      simp
    · rw [if_neg hj]
      have e : ([(k, v)].find? fun p : Str × Int => decide (p.1 = j)) = none := by
        simp [Ne.symm hj]
      rw [e, Option.or_none]
theorem HasAll.put {c : List (Str × Int)} {x k : Str} {v : Int} (h : HasAll c x) : HasAll (kdpPut c k v) x := fun i h0 h1 => by
  rw [kdpHas_put, h i h0 h1]; simp

theorem item_at {a : Str} {k : Int} (h0 : 0 ≤ k) (h1 : k < a.length) : Txt.item a k = ⟨#[a.cps.toList.getD k.toNat 0]⟩ := by
  have hk : k.toNat < a.cps.size := by have : (a.cps.size : Int) = a.length := rfl; omega
  unfold Txt.item Txt.charAt seqIndex?
  have h2 : ¬ k < 0 := by omega
  simp only [h2, if_false, h0, h1, decide_true, Bool.and_self, if_true, Option.bind_some]
  simp [List.getD_eq_getElem?_getD]
theorem getD_mem {l : List Nat} {k : Nat} (h : k < l.length) : l.getD k 0 ∈ l := by
  rw [List.getD_eq_getElem?_getD, List.getElem?_eq_getElem h]
  exact List.getElem_mem h
theorem hasAll_left {c : List (Str × Int)} {a b : Str} (h : ∀ x ∈ (a ++ b).cps, kdpHas c ⟨#[x]⟩ = true) : HasAll c a := by
  intro k h0 h1
  have hk : k.toNat < a.cps.toList.length := by have : (a.cps.toList.length : Int) = a.length := rfl; omega
  rw [item_at h0 h1]
  exact h _ (by rw [Str.cps_append]; exact Array.mem_append_left _ (Array.mem_toList_iff.mp (getD_mem hk)))
theorem hasAll_right {c : List (Str × Int)} {a b : Str} (h : ∀ x ∈ (a ++ b).cps, kdpHas c ⟨#[x]⟩ = true) : HasAll c b := by
  intro k h0 h1
  have hk : k.toNat < b.cps.toList.length := by have : (b.cps.toList.length : Int) = b.length := rfl; omega
  rw [item_at h0 h1]
  exact h _ (by rw [Str.cps_append]; exact Array.mem_append_right _ (Array.mem_toList_iff.mp (getD_mem hk)))

set_option maxHeartbeats 16000000 in
theorem ed_con (w : World) (s1 s2 : Str) (t1 t2 : Tok) (cost : Int) (tr : Bool) (kw : List (Str × Value)) (news : List (Addr × Obj)) (h1 : s1.length ≤ 1000) (h2 : s2.length ≤ 1000) (hc1 : 0 ≤ cost) (hc2 : cost ≤ 10)
    (hkw : (∃ tc, kw = [(Str.ofString "substitution_cost", .int cost tc)] ∧ tr = false) ∨ (kw = [(Str.ofString "transpositions", .bool true)] ∧ tr = true ∧ cost = 1)) :
    Con w 40 49 [.str s1 t1, .str s2 t2] kw news (fun v news' => ∃ t c, v = .int (edVal s1 s2 cost tr c) t ∧ (∀ k, kdpLook c k 0 = 0) ∧ news' = news) := by
  w_top off
  unfold Con
  refine (?_ : (PySem.Challenge.rw_an0014_01 = PySem.Challenge.rw_an0014_01) → _) rfl
  k_fill
  intro _ mean mg mb dp un gd cn cs a ccd cl outer A₀ base h₀ L m s Q E B F X N₀ T hk hd' hu' hret
  obtain ⟨ns, hAp, N, hsub⟩ := Mine.News.single N₀
  rcases hkw with ⟨tc, rfl, rfl⟩ | ⟨rfl, rfl, rfl⟩
  · refine wpAny_call ?_
    k_dflt cell_enter
    k_steps
    with_reducible rename Fr _ _ _ _ => F1
    with_reducible rename News _ _ _ _ => N1
    refine halted ?_
    k_dflt (refine Con.use (check_con w _ _ _ _ _ _ _ h1 h2) (by k_asm) F1 (by k_asm) N1 (by k_asm) (by exact rfl) (by ktr_room) (by ktr_units) ?_)
    rintro v h' tk' news' ⟨rfl, rfl⟩ F2 N2
    clear F1 N1
    k_steps
    with_reducible rename Fr _ _ _ _ => F1
    with_reducible rename News _ _ _ _ => N1
    refine halted ?_
    k_dflt (refine Con.use (init_con w _ _ _ _ _ ⟨by omega, by omega⟩ ⟨by omega, by omega⟩ hAp) (by k_asm) F1 (by k_asm) N1 (by k_asm) (by exact rfl) (by ktr_room) (by ktr_units) ?_)
    rintro v h' tk' news1 ⟨lv, refs, rfl, hkeep1, hM1, hR1, hA1, hoff1⟩ F2 N2
    clear F1 N1
    k_steps
    with_reducible rename Fr _ _ _ _ => F1
    with_reducible rename News _ _ _ _ => N1
    refine halted ?_
    k_dflt (refine Con.use (left_con w _ _ _ ?hl) (by k_asm) F1 (by k_asm) N1 (by k_asm) (by exact rfl) (by ktr_room) (by ktr_units) ?_)
    case hl => rw [Str.length_append]; omega
    rintro v h' tk' news2 ⟨d, o, kvs, c0, rfl, rfl, hdo, hfl, hoffd, hlow, hlen, hz, hhas⟩ F2 N2
    clear F1 N1
    k_steps
    with_reducible rename Fr _ _ _ _ => F1
    with_reducible rename News _ _ _ _ => N1
    with_reducible rename IsRange _ _ _ _ _ _ _ _ => R1
    have hA2 : Apart ((d, o) :: news1) := Apart.cons hoffd hA1
    have hM2 : MatIn ((d, o) :: news1) lv refs _ := hM1.mono fun p hp => .tail _ hp
    have hD2 : DictIn w ((d, o) :: news1) d c0 := ⟨hlow, o, kvs, .head _, hdo, hfl⟩
    have hdl := hM1.off hoffd
    have hkeep2 : ∀ p ∈ news, p ∈ (d, o) :: news1 := fun p hp => .tail _ (hkeep1 p (hsub p hp))
    have hfar : ∀ p ∈ news, p.1 ≠ lv ∧ p.1 ∉ refs ∧ p.1 ≠ d := fun p hp => ⟨(hoff1 p (hsub p hp)).1, (hoff1 p (hsub p hp)).2, hoffd p (hkeep1 p (hsub p hp))⟩
    have hs1 : HasAll c0 s1 := hasAll_left hhas
    have hs2 : HasAll c0 s2 := hasAll_right hhas
    refine halted ?_
    with_unfolding_all refine for_range mfO (fun k u nx => k ≤ s1.length ∧ ∃ M c, (M, c) = edOut s1 s2 cost false c0 k ∧ Apart nx ∧ MatIn nx lv refs M ∧ Rect M (s1.length + 1) (s2.length + 1) ∧ DictIn w nx d c ∧ HasAll c s1 ∧ HasAll c s2 ∧ c.length ≤ 2000 + k ∧ (∀ x, kdpLook c x 0 ≤ k) ∧ (∀ p ∈ news, p ∈ nx)) _ rfl R1 (by decide) ⟨by omega, by omega⟩ F1 N1 (mfO_start _) ⟨Nat.zero_le _, _, c0, rfl, hA2, ?_, ?_, hD2, hs1, hs2, by omega, fun x => by rw [hz x]; omega, hkeep2⟩ ?_ ?_
    · have e1 : ((s1.length : Int) + 1).toNat = s1.length + 1 := by omega
      have e2 : ((s2.length : Int) + 1).toNat = s2.length + 1 := by omega
      rw [e1, e2] at hM2
      exact hM2
    · have e1 : ((s1.length : Int) + 1).toNat = s1.length + 1 := by omega
      have e2 : ((s2.length : Int) + 1).toNat = s2.length + 1 := by omega
      rw [e1, e2] at hR1
      exact hR1
    · rintro k i ti u nx h tk I oI hi hib hoffI ⟨hk, M, c, hMc, hAn, hMn, hRn, hDn, hn1, hn2, hcl, hlk, hkn⟩ F2 N2
      clear F1 N1
      dsimp only [mfO] at F2
      have hIo := hMn.off hoffI
      k_steps
      with_reducible rename Fr _ _ _ _ => F3
      with_reducible rename News _ _ _ _ => N3
      with_reducible rename IsRange _ _ _ _ _ _ _ _ => R3
      refine halted ?_
      with_unfolding_all refine for_range mfI (fun k st nx' => k ≤ s2.length ∧ st.1 ≤ k ∧ ∃ M', (M', st.1) = edIn s1 s2 cost false c i M k ∧ Apart nx' ∧ MatIn nx' lv refs M' ∧ Rect M' (s1.length + 1) (s2.length + 1) ∧ Kept refs ((I, oI) :: nx) nx') _ rfl R3 (by decide) ⟨by omega, by omega⟩ F3 N3 (mfI_start rfl) ⟨Nat.zero_le _, Int.le_refl _, M, rfl, Apart.cons hoffI hAn, hMn.mono (fun p hp => .tail _ hp), hRn, Kept.refl _ _⟩ ?_ ?_
      · rintro k2 j tj ⟨b, tb, u2⟩ nx2 hp2 tk2 I2 oI2 hj hjb hoffI2 ⟨hk2, hb2, M', hMb, hAn2, hMn2, hRn2, hKn2⟩ F4 N4
        clear F3 N3
        dsimp only [mfI] at F4 hMb
        dsimp only at hb2
        have hI2 := hMn2.off hoffI2
        have hDc : DictIn w ((I, oI) :: nx) d c := hDn.mono fun p hp _ => .tail _ hp
        have hDc2 : DictIn w ((I2, oI2) :: nx2) d c := hDc.mono fun p hp e => .tail _ (hKn2.keep p hp (by rw [e]; exact hdl.2))
        have hMc2 : MatIn ((I2, oI2) :: nx2) lv refs M' := hMn2.mono fun p hp => .tail _ hp
        have hAc2 : Apart ((I2, oI2) :: nx2) := Apart.cons hoffI2 hAn2
        have hll := hlk (Txt.item s2 (j - 1))
        k_steps
        all_goals with_reducible rename Fr _ _ _ _ => F5
        all_goals with_reducible rename News _ _ _ _ => N5
        all_goals refine halted ?_
        all_goals k_dflt (refine Con.use (step_con w lv refs M' i j _ b cost false s1 s2 _ _ _ _ _ _ _ _ hMc2 hAc2 hRn2 (by omega) (by omega) (by omega) (by omega) h1 h2 (by omega) (by omega) hc1 hc2) (by k_asm) F5 (by k_asm) N5 (by k_asm) (by exact rfl) (by ktr_room) (by ktr_units) ?_)
        all_goals rintro v h' tk' news3 ⟨rfl, hM3, hK3⟩ F6 N6
        all_goals clear F5 N5
        all_goals obtain ⟨nx3, rfl, hk3⟩ := hK3.uncons hI2.2 hAc2
        all_goals k_steps
        all_goals with_reducible rename (_ == _) = _ => hEq
        · with_unfolding_all refine t_next F6 N6 (Off.of_map hoffI2 hk3.map) ⟨_, mfI_close rfl (fun y a b c d => by simp only [a, b, c, d, if_false]), by omega, ?_, _, ?_, hk3.apart hAn2, hM3.uncons hI2.2 hI2.1, hRn2.set (by omega) (by omega), hKn2.trans hk3⟩
          · dsimp only; omega
          · rw [edIn_succ, ← hMb]
            subst hj
            unfold inStep
            dsimp only
            rw [if_pos (by simpa using hEq)]
        · with_unfolding_all refine t_next F6 N6 (Off.of_map hoffI2 hk3.map) ⟨_, mfI_close rfl (fun y a b c d => by simp only [a, b, c, d, if_false]), by omega, ?_, _, ?_, hk3.apart hAn2, hM3.uncons hI2.2 hI2.1, hRn2.set (by omega) (by omega), hKn2.trans hk3⟩
          · dsimp only; omega
          · rw [edIn_succ, ← hMb]
            subst hj
            unfold inStep
            dsimp only
            rw [if_neg (by simpa using hEq)]
      · rintro ⟨b, tb, u2⟩ nx2 hp2 tk2 ⟨hk2, hb2, M', hMb, hAn2, hMn2, hRn2, hKn2⟩ F4 N4
        clear F3 N3
        dsimp only [mfI] at F4 hMb
        have hAc : Apart ((I, oI) :: nx) := Apart.cons hoffI hAn
        have hDc : DictIn w ((I, oI) :: nx) d c := hDn.mono fun p hp _ => .tail _ hp
        have hDc2 : DictIn w nx2 d c := hDc.mono fun p hp e => hKn2.keep p hp (by rw [e]; exact hdl.2)
        obtain ⟨nx2', rfl, hk2'⟩ := hKn2.uncons hIo.2 hAc
        have hId : I ∉ [d] := by
          obtain ⟨o', kvs', hm', _⟩ := hDn.obj
          have := hoffI _ hm'
          simpa using Ne.symm this
        k_steps
        with_reducible rename Fr _ _ _ _ => F5
        with_reducible rename News _ _ _ _ => N5
        with_reducible rename Kept [_] _ _ => hK5
        with_reducible rename DictIn _ _ _ (kdpPut _ _ _) => hD5
        have hM5 := hMn2.dict hK5 hdl.1 hdl.2
        obtain ⟨nx3, rfl, hk3⟩ := hK5.uncons hId hAn2
        have hlen2 : ((s2.length : Int) + 1 - 1).toNat = s2.length := by omega
        rw [hlen2] at hMb
        with_unfolding_all refine t_next F5 N5 (Off.of_map hoffI (hk3.map.trans hk2'.map)) ⟨_, mfO_close ?hcl, by omega, M', _, ?_, hk3.apart hAn2.tail, hM5.uncons hIo.2 hIo.1, hRn2, hD5.mono (fun p hp e => ?_), hn1.put, hn2.put, ?_, ?_, ?_⟩
        case hcl =>
          intro y a b c d e
          simp only [mfI, a, b, c, d, e, if_false]
        · rw [edOut_succ, ← hMc]
          subst hi
          unfold outStep
          dsimp only
          rw [← hMb]
        · rcases List.mem_cons.mp hp with rfl | hp
          · exact absurd (List.mem_singleton.mpr e) hId
          · exact hp
        · have := kdpPut_len c (Txt.item s1 (i - 1)) i
          omega
        · intro x
          rw [kdpLook_put]
          have := hlk x
          split <;> omega
        · intro p hp
          exact hk3.keep p (hk2'.keep p (hkn p hp) (hfar p hp).2.1) (by simpa using (hfar p hp).2.2)
    · rintro u nx h tk ⟨hk, M, c, hMc, hAn, hMn, hRn, hDn, hn1, hn2, hcl, hlk, hkn⟩ F2 N2
      clear F1 N1
      dsimp only [mfO] at F2
      k_steps
      have hlen1 : ((s1.length : Int) + 1 - 1).toNat = s1.length := by omega
      rw [hlen1] at hMc
      with_reducible rename Fr _ _ _ _ => F5
      with_reducible rename News _ _ _ _ => N5
      have hv : mAt M s1.length s2.length = edVal s1 s2 cost false c0 := by
        unfold edVal
        rw [← hMc]
      exact hret _ _ _ _ ⟨_, c0, congrArg (fun z => Value.int z _) hv, hz, rfl⟩ F5 (fun p hp => N5 p (hkn p hp))
  · refine wpAny_call ?_
    k_dflt cell_enter
    k_steps
    with_reducible rename Fr _ _ _ _ => F1
    with_reducible rename News _ _ _ _ => N1
    refine halted ?_
    k_dflt (refine Con.use (check_con w _ _ _ _ _ _ _ h1 h2) (by k_asm) F1 (by k_asm) N1 (by k_asm) (by exact rfl) (by ktr_room) (by ktr_units) ?_)
    rintro v h' tk' news' ⟨rfl, rfl⟩ F2 N2
    clear F1 N1
    k_steps
    with_reducible rename Fr _ _ _ _ => F1
    with_reducible rename News _ _ _ _ => N1
    refine halted ?_
    k_dflt (refine Con.use (init_con w _ _ _ _ _ ⟨by omega, by omega⟩ ⟨by omega, by omega⟩ hAp) (by k_asm) F1 (by k_asm) N1 (by k_asm) (by exact rfl) (by ktr_room) (by ktr_units) ?_)
    rintro v h' tk' news1 ⟨lv, refs, rfl, hkeep1, hM1, hR1, hA1, hoff1⟩ F2 N2
    clear F1 N1
    k_steps
    with_reducible rename Fr _ _ _ _ => F1
    with_reducible rename News _ _ _ _ => N1
    refine halted ?_
    k_dflt (refine Con.use (left_con w _ _ _ ?hl) (by k_asm) F1 (by k_asm) N1 (by k_asm) (by exact rfl) (by ktr_room) (by ktr_units) ?_)
    case hl => rw [Str.length_append]; omega
    rintro v h' tk' news2 ⟨d, o, kvs, c0, rfl, rfl, hdo, hfl, hoffd, hlow, hlen, hz, hhas⟩ F2 N2
    clear F1 N1
    k_steps
    with_reducible rename Fr _ _ _ _ => F1
    with_reducible rename News _ _ _ _ => N1
    with_reducible rename IsRange _ _ _ _ _ _ _ _ => R1
    have hA2 : Apart ((d, o) :: news1) := Apart.cons hoffd hA1
    have hM2 : MatIn ((d, o) :: news1) lv refs _ := hM1.mono fun p hp => .tail _ hp
    have hD2 : DictIn w ((d, o) :: news1) d c0 := ⟨hlow, o, kvs, .head _, hdo, hfl⟩
    have hdl := hM1.off hoffd
    have hkeep2 : ∀ p ∈ news, p ∈ (d, o) :: news1 := fun p hp => .tail _ (hkeep1 p (hsub p hp))
    have hfar : ∀ p ∈ news, p.1 ≠ lv ∧ p.1 ∉ refs ∧ p.1 ≠ d := fun p hp => ⟨(hoff1 p (hsub p hp)).1, (hoff1 p (hsub p hp)).2, hoffd p (hkeep1 p (hsub p hp))⟩
    have hs1 : HasAll c0 s1 := hasAll_left hhas
    have hs2 : HasAll c0 s2 := hasAll_right hhas
    refine halted ?_
    with_unfolding_all refine for_range mfO (fun k u nx => k ≤ s1.length ∧ ∃ M c, (M, c) = edOut s1 s2 1 true c0 k ∧ Apart nx ∧ MatIn nx lv refs M ∧ Rect M (s1.length + 1) (s2.length + 1) ∧ DictIn w nx d c ∧ HasAll c s1 ∧ HasAll c s2 ∧ c.length ≤ 2000 + k ∧ (∀ x, kdpLook c x 0 ≤ k) ∧ (∀ p ∈ news, p ∈ nx)) _ rfl R1 (by decide) ⟨by omega, by omega⟩ F1 N1 (mfO_start _) ⟨Nat.zero_le _, _, c0, rfl, hA2, ?_, ?_, hD2, hs1, hs2, by omega, fun x => by rw [hz x]; omega, hkeep2⟩ ?_ ?_
    · have e1 : ((s1.length : Int) + 1).toNat = s1.length + 1 := by omega
      have e2 : ((s2.length : Int) + 1).toNat = s2.length + 1 := by omega
      rw [e1, e2] at hM2
      exact hM2
    · have e1 : ((s1.length : Int) + 1).toNat = s1.length + 1 := by omega
      have e2 : ((s2.length : Int) + 1).toNat = s2.length + 1 := by omega
      rw [e1, e2] at hR1
      exact hR1
    · rintro k i ti u nx h tk I oI hi hib hoffI ⟨hk, M, c, hMc, hAn, hMn, hRn, hDn, hn1, hn2, hcl, hlk, hkn⟩ F2 N2
      clear F1 N1
      dsimp only [mfO] at F2
      have hIo := hMn.off hoffI
      k_steps
      with_reducible rename Fr _ _ _ _ => F3
      with_reducible rename News _ _ _ _ => N3
      with_reducible rename IsRange _ _ _ _ _ _ _ _ => R3
      refine halted ?_
      with_unfolding_all refine for_range mfI (fun k st nx' => k ≤ s2.length ∧ st.1 ≤ k ∧ ∃ M', (M', st.1) = edIn s1 s2 1 true c i M k ∧ Apart nx' ∧ MatIn nx' lv refs M' ∧ Rect M' (s1.length + 1) (s2.length + 1) ∧ Kept refs ((I, oI) :: nx) nx') _ rfl R3 (by decide) ⟨by omega, by omega⟩ F3 N3 (mfI_start rfl) ⟨Nat.zero_le _, Int.le_refl _, M, rfl, Apart.cons hoffI hAn, hMn.mono (fun p hp => .tail _ hp), hRn, Kept.refl _ _⟩ ?_ ?_
      · rintro k2 j tj ⟨b, tb, u2⟩ nx2 hp2 tk2 I2 oI2 hj hjb hoffI2 ⟨hk2, hb2, M', hMb, hAn2, hMn2, hRn2, hKn2⟩ F4 N4
        clear F3 N3
        dsimp only [mfI] at F4 hMb
        dsimp only at hb2
        have hI2 := hMn2.off hoffI2
        have hDc : DictIn w ((I, oI) :: nx) d c := hDn.mono fun p hp _ => .tail _ hp
        have hDc2 : DictIn w ((I2, oI2) :: nx2) d c := hDc.mono fun p hp e => .tail _ (hKn2.keep p hp (by rw [e]; exact hdl.2))
        have hMc2 : MatIn ((I2, oI2) :: nx2) lv refs M' := hMn2.mono fun p hp => .tail _ hp
        have hAc2 : Apart ((I2, oI2) :: nx2) := Apart.cons hoffI2 hAn2
        have hll := hlk (Txt.item s2 (j - 1))
        k_steps
        all_goals with_reducible rename Fr _ _ _ _ => F5
        all_goals with_reducible rename News _ _ _ _ => N5
        all_goals refine halted ?_
        all_goals k_dflt (refine Con.use (step_con w lv refs M' i j _ b 1 true s1 s2 _ _ _ _ _ _ _ _ hMc2 hAc2 hRn2 (by omega) (by omega) (by omega) (by omega) h1 h2 (by omega) (by omega) hc1 hc2) (by k_asm) F5 (by k_asm) N5 (by k_asm) (by exact rfl) (by ktr_room) (by ktr_units) ?_)
        all_goals rintro v h' tk' news3 ⟨rfl, hM3, hK3⟩ F6 N6
        all_goals clear F5 N5
        all_goals obtain ⟨nx3, rfl, hk3⟩ := hK3.uncons hI2.2 hAc2
        all_goals k_steps
        all_goals with_reducible rename (_ == _) = _ => hEq
        · with_unfolding_all refine t_next F6 N6 (Off.of_map hoffI2 hk3.map) ⟨_, mfI_close rfl (fun y a b c d => by simp only [a, b, c, d, if_false]), by omega, ?_, _, ?_, hk3.apart hAn2, hM3.uncons hI2.2 hI2.1, hRn2.set (by omega) (by omega), hKn2.trans hk3⟩
          · dsimp only; omega
          · rw [edIn_succ, ← hMb]
            subst hj
            unfold inStep
            dsimp only
            rw [if_pos (by simpa using hEq)]
        · with_unfolding_all refine t_next F6 N6 (Off.of_map hoffI2 hk3.map) ⟨_, mfI_close rfl (fun y a b c d => by simp only [a, b, c, d, if_false]), by omega, ?_, _, ?_, hk3.apart hAn2, hM3.uncons hI2.2 hI2.1, hRn2.set (by omega) (by omega), hKn2.trans hk3⟩
          · dsimp only; omega
          · rw [edIn_succ, ← hMb]
            subst hj
            unfold inStep
            dsimp only
            rw [if_neg (by simpa using hEq)]
      · rintro ⟨b, tb, u2⟩ nx2 hp2 tk2 ⟨hk2, hb2, M', hMb, hAn2, hMn2, hRn2, hKn2⟩ F4 N4
        clear F3 N3
        dsimp only [mfI] at F4 hMb
        have hAc : Apart ((I, oI) :: nx) := Apart.cons hoffI hAn
        have hDc : DictIn w ((I, oI) :: nx) d c := hDn.mono fun p hp _ => .tail _ hp
        have hDc2 : DictIn w nx2 d c := hDc.mono fun p hp e => hKn2.keep p hp (by rw [e]; exact hdl.2)
        obtain ⟨nx2', rfl, hk2'⟩ := hKn2.uncons hIo.2 hAc
        have hId : I ∉ [d] := by
          obtain ⟨o', kvs', hm', _⟩ := hDn.obj
          have := hoffI _ hm'
          simpa using Ne.symm this
        k_steps
        with_reducible rename Fr _ _ _ _ => F5
        with_reducible rename News _ _ _ _ => N5
        with_reducible rename Kept [_] _ _ => hK5
        with_reducible rename DictIn _ _ _ (kdpPut _ _ _) => hD5
        have hM5 := hMn2.dict hK5 hdl.1 hdl.2
        obtain ⟨nx3, rfl, hk3⟩ := hK5.uncons hId hAn2
        have hlen2 : ((s2.length : Int) + 1 - 1).toNat = s2.length := by omega
        rw [hlen2] at hMb
        with_unfolding_all refine t_next F5 N5 (Off.of_map hoffI (hk3.map.trans hk2'.map)) ⟨_, mfO_close ?hcl, by omega, M', _, ?_, hk3.apart hAn2.tail, hM5.uncons hIo.2 hIo.1, hRn2, hD5.mono (fun p hp e => ?_), hn1.put, hn2.put, ?_, ?_, ?_⟩
        case hcl =>
          intro y a b c d e
          simp only [mfI, a, b, c, d, e, if_false]
        · rw [edOut_succ, ← hMc]
          subst hi
          unfold outStep
          dsimp only
          rw [← hMb]
        · rcases List.mem_cons.mp hp with rfl | hp
          · exact absurd (List.mem_singleton.mpr e) hId
          · exact hp
        · have := kdpPut_len c (Txt.item s1 (i - 1)) i
          omega
        · intro x
          rw [kdpLook_put]
          have := hlk x
          split <;> omega
        · intro p hp
          exact hk3.keep p (hk2'.keep p (hkn p hp) (hfar p hp).2.1) (by simpa using (hfar p hp).2.2)
    · rintro u nx h tk ⟨hk, M, c, hMc, hAn, hMn, hRn, hDn, hn1, hn2, hcl, hlk, hkn⟩ F2 N2
      clear F1 N1
      dsimp only [mfO] at F2
      k_steps
      have hlen1 : ((s1.length : Int) + 1 - 1).toNat = s1.length := by omega
      rw [hlen1] at hMc
      with_reducible rename Fr _ _ _ _ => F5
      with_reducible rename News _ _ _ _ => N5
      have hv : mAt M s1.length s2.length = edVal s1 s2 1 true c0 := by
        unfold edVal
        rw [← hMc]
      exact hret _ _ _ _ ⟨_, c0, congrArg (fun z => Value.int z _) hv, hz, rfl⟩ F5 (fun p hp => N5 p (hkn p hp))
end Mine

end

section
open PySem PySem.W PyProof.Rows PySem.Calls PyProof.V
namespace Mine
def edN (s1 s2 : Str) (cost : Int) (tr : Bool) : Int := edVal s1 s2 cost tr []

theorem edIn_look {s1 s2 : Str} {cost : Int} {tr : Bool} {c c' : List (Str × Int)} {i : Int} {M : List (List Int)} (h : ∀ k, kdpLook c k 0 = kdpLook c' k 0) : ∀ n, edIn s1 s2 cost tr c i M n = edIn s1 s2 cost tr c' i M n
  | 0 => rfl
  | n + 1 => by
    rw [edIn_succ, edIn_succ, edIn_look h n]
    unfold inStep
    rw [h]
theorem edOut_look {s1 s2 : Str} {cost : Int} {tr : Bool} {c c' : List (Str × Int)} (h : ∀ k, kdpLook c k 0 = kdpLook c' k 0) : ∀ n, (edOut s1 s2 cost tr c n).1 = (edOut s1 s2 cost tr c' n).1 ∧ ∀ k, kdpLook (edOut s1 s2 cost tr c n).2 k 0 = kdpLook (edOut s1 s2 cost tr c' n).2 k 0
  | 0 => ⟨rfl, h⟩
  | n + 1 => by
    obtain ⟨h1, h2⟩ := edOut_look h n
    rw [edOut_succ, edOut_succ]
    unfold outStep
    refine ⟨?_, fun k => ?_⟩
    · dsimp only
      rw [h1, edIn_look h2]
    · dsimp only
      rw [kdpLook_put, kdpLook_put, h2]
theorem edVal_eq {s1 s2 : Str} {cost : Int} {tr : Bool} {c : List (Str × Int)} (h : ∀ k, kdpLook c k 0 = 0) : edVal s1 s2 cost tr c = edN s1 s2 cost tr := by
  unfold edN edVal
  rw [(edOut_look (c' := []) (fun k => by rw [h]; rfl) _).1]

theorem edN_con (w : World) (s1 s2 : Str) (t1 t2 : Tok) (cost : Int) (tr : Bool) (kw : List (Str × Value)) (news : List (Addr × Obj)) (h1 : s1.length ≤ 1000) (h2 : s2.length ≤ 1000) (hc1 : 0 ≤ cost) (hc2 : cost ≤ 10)
    (hkw : (∃ tc, kw = [(Str.ofString "substitution_cost", .int cost tc)] ∧ tr = false) ∨ (kw = [(Str.ofString "transpositions", .bool true)] ∧ tr = true ∧ cost = 1)) :
    Con w 40 49 [.str s1 t1, .str s2 t2] kw news (fun v news' => ∃ t, v = .int (edN s1 s2 cost tr) t ∧ news' = news) := by
  intro mean mg mb dp un gd cn cs a ccd cl outer A₀ base h₀ L m s Q E B F X N T hk hd' hu' hret
  refine Con.use (ed_con w s1 s2 t1 t2 cost tr kw news h1 h2 hc1 hc2 hkw) B F X N T hk hd' hu' ?_
  rintro v h' tk' news' ⟨t, c, rfl, hz, rfl⟩ F' N'
  exact hret _ _ _ _ ⟨t, by rw [edVal_eq hz], rfl⟩ F' N'
end Mine

end

section
open PySem PySem.W PyProof.Rows PySem.Calls PyProof.V
namespace Mine
local macro_rules | `(tactic| k_all) => `(tactic| assumption)
set_option maxHeartbeats 8000000 in
theorem take_con0 (w : World) (tp ca : Addr) (cells : List Value) (ns : List Int) (k most : Int) (t1 t2 : Tok) (n1 n2 : Nat) (news : List (Addr × Obj))
    (hne : @Ne Nat tp ca) (hap : ∀ p ∈ news, @Ne Nat p.1 tp) (hI : IntsAre cells ns) (hlen : 3 ≤ ns.length) (hlen2 : ns.length ≤ 100) (hk : 0 ≤ k) (hk2 : k ≤ 10000) (hm : 0 < most) (hm2 : most ≤ 10) :
    Con w 20 61 [.ref tp, .int most t2] [] ((tp, listOf #[.ref ca, .int k t1] n1) :: (ca, listOf cells.toArray n2) :: news)
      (fun v news' => ∃ r t t' , v = .int r t ∧ 0 ≤ r ∧ r < most ∧ news' = ((tp, listOf #[.ref ca, .int (k + 1) t'] n1) :: (ca, listOf cells.toArray n2) :: news)) := by
  w_top off
  unfold Con
  refine (?_ : (PySem.Challenge.rw_an0014_01 = PySem.Challenge.rw_an0014_01) → _) rfl
  k_fill
  intro _ mean mg mb dp un gd cn cs a ccd cl outer A₀ base h₀ L m s Q E B F X N T hk hd' hu' hret
  refine wpAny_call ?_
  k_dflt cell_enter
  k_steps
  refine hret _ _ _ _ ⟨_, _, _, rfl, ?_, ?_, rfl⟩ (by k_asm) (by k_asm)
  · have := Int.emod_nonneg ((ns.getD (k.fmod ↑ns.length).toNat 0 + 31 * k.fdiv ↑ns.length)) (Int.ne_of_gt hm)
    rw [Int.fmod_eq_emod_of_nonneg _ (by omega)]; exact this
  · rw [Int.fmod_eq_emod_of_nonneg _ (by omega)]
    exact Int.emod_lt_of_pos _ hm

/-- the tape stands at tp, at the place k -/
structure TapeIn (news : List (Addr × Obj)) (tp ca : Addr) (k : Int) : Prop where
  at_ : ∃ cells ns t n1 n2, (tp, listOf #[.ref ca, .int k t] n1) ∈ news ∧ (ca, listOf (cells : List Value).toArray n2) ∈ news ∧ IntsAre cells ns ∧ 3 ≤ ns.length ∧ ns.length ≤ 100 ∧ @Ne Nat tp ca
  lo : 0 ≤ k

theorem TapeIn.mono {a b : List (Addr × Obj)} {tp ca : Addr} {k : Int} (h : TapeIn a tp ca k) (s : ∀ p ∈ a, (p.1 = tp ∨ p.1 = ca) → p ∈ b) : TapeIn b tp ca k :=
  ⟨let ⟨cells, ns, t, n1, n2, h1, h2, r⟩ := h.at_; ⟨cells, ns, t, n1, n2, s _ h1 (.inl rfl), s _ h2 (.inr rfl), r⟩, h.lo⟩
theorem TapeIn.off {news : List (Addr × Obj)} {tp ca : Addr} {k : Int} (h : TapeIn news tp ca k) {P : Addr → Prop} (hp : ∀ p ∈ news, P p.1) : P tp ∧ P ca :=
  let ⟨_, _, _, _, _, h1, h2, _⟩ := h.at_; ⟨hp _ h1, hp _ h2⟩

theorem take_con (w : World) (tp ca : Addr) (k most : Int) (t2 : Tok) (news : List (Addr × Obj)) (hT : TapeIn news tp ca k) (hk2 : k ≤ 10000) (hm : 0 < most) (hm2 : most ≤ 10) :
    Con w 20 61 [.ref tp, .int most t2] [] news (fun v news' => ∃ r t, v = .int r t ∧ 0 ≤ r ∧ r < most ∧ TapeIn news' tp ca (k + 1) ∧ ∀ p ∈ news, p.1 ≠ tp → p ∈ news') := by
  obtain ⟨cells, ns, t, n1, n2, h1, h2, hI, hl1, hl2, hne⟩ := hT.at_
  intro mean mg mb dp un gd cn cs a ccd cl outer A₀ base h₀ L m s Q E B F X N T hk hd' hu' hret
  have N' : News h₀ L s.heap ((tp, listOf #[.ref ca, .int k t] n1) :: (ca, listOf cells.toArray n2) :: news.filter fun p => decide (p.1 ≠ tp)) := fun p hp => N p (by
    rcases List.mem_cons.mp hp with rfl | hp
    · exact h1
    rcases List.mem_cons.mp hp with rfl | hp
    · exact h2
    exact (List.mem_filter.mp hp).1)
  refine Con.use (take_con0 w tp ca cells ns k most t t2 n1 n2 _ hne (fun p hp => by simpa using (List.mem_filter.mp hp).2) hI hl1 hl2 hT.lo hk2 hm hm2) B F X N' T hk hd' hu' ?_
  rintro v h' tk' news' ⟨r, t', t'', rfl, hr0, hr1, rfl⟩ F' N2
  refine hret _ _ _ _ ⟨r, t', rfl, hr0, hr1, ⟨⟨cells, ns, t'', n1, n2, .head _, .tail _ (.head _), hI, hl1, hl2, hne⟩, by have := hT.lo; omega⟩, fun p hp hn => ?_⟩ F' N2
  exact .tail _ (.tail _ (List.mem_filter.mpr ⟨hp, by simpa using hn⟩))
end Mine

end

section
open PySem PySem.W PyProof.Rows PySem.Calls PyProof.Rows.LCg
namespace Mine
section
variable {prog : Program} {w : World} {A : Around} {s : Shared} {h₀ : Heap} {L : Addr} {m : Str → Option Value} {env : Env} {elt : Expr} {x : Str} {scope : Scope} {cl : List (Str × Addr)}

/-- the end of a turn of a comprehension -/
def CEnd (h₀ : Heap) (L : Addr) (m : Str → Option Value) (s₁ : Shared) (I : Addr) (oI : Obj) (C : Addr) (oC : Obj) (D : Addr) (oD : Obj) (J : Value → List (Addr × Obj) → Prop) (y : Value) (s₂ : Shared) : Prop :=
  ∃ h' tk news', s₂ = { s₁ with heap := h', toks := tk } ∧ Fr h₀ L h' m ∧ News h₀ L h' ((I, oI) :: (C, oC) :: (D, oD) :: news') ∧ Off3 I C D news' ∧ J y news'

/-- a comprehension by an invariant -/
theorem comp_inv {S : List (Addr × Obj) → Prop} {P : Nat → Value → Prop} {Fin : List Value → List (Addr × Obj) → Prop} (n : Nat) (J : Nat → List Value → List (Addr × Obj) → Prop)
    (hS : ∀ i ys news, J i ys news → S news)
    (step : ∀ i ys news v I oI C oC D m₂ h tk (E' : Value → Shared → Prop), i < n → J i ys news → P i v → NsObj oC m₂ → m₂ x = some v → Fr h₀ L h m → News h₀ L h ((I, oI) :: (C, oC) :: (D, lst ys) :: news) → Off3 I C D news → ((@Ne Nat I C) ∧ (@Ne Nat I D) ∧ (@Ne Nat C D)) →
      wpAny (model prog w) A (eval elt (compEnvC scope cl C env)) (CEnd h₀ L m { s with heap := h, toks := tk } I oI C oC D (lst ys) (fun y news' => J (i + 1) (ys ++ [y]) news')) E' { s with heap := h, toks := tk })
    (fin : ∀ ys news, J n ys news → Fin ys news) :
    ∀ (k i : Nat) (ys : List Value) (news : List (Addr × Obj)), i + k = n → J i ys news → CompRest prog w A h₀ L m env elt x scope cl s S P Fin k i ys news := by
  intro k
  induction k with
  | zero =>
    intro i ys news e hJ
    have e' : i = n := by omega
    subst e'
    exact CompRest.zero (fin ys news hJ)
  | succ k ih =>
    intro i ys news e hJ
    refine CompRest.succ fun v I oI C oC D m₂ h tk E' hP hC hx F N off ne => ?_
    refine wpAny_mono (step i ys news v I oI C oC D m₂ h tk E' (by omega) hJ hP hC hx F N off ne) (fun y s₂ h₂ => ?_) fun _ _ e => e
    obtain ⟨h', tk', news', e', F', N', off', hJ'⟩ := h₂
    exact ⟨h', tk', news', e', F', N', off', hS _ _ _ hJ', ih (i + 1) _ news' (by omega) hJ'⟩

theorem CEnd.intro {I C D : Addr} {s₁ : Shared} {oI oC oD : Obj} {J : Value → List (Addr × Obj) → Prop} {y : Value} {h' : Heap} {tk : Nat} {news' : List (Addr × Obj)}
    (F : Fr h₀ L h' m) (N : News h₀ L h' ((I, oI) :: (C, oC) :: (D, oD) :: news')) (off : Off3 I C D news') (hJ : J y news') :
    CEnd h₀ L m s₁ I oI C oC D oD J y { s₁ with heap := h', toks := tk } := ⟨h', tk, news', rfl, F, N, off, hJ⟩
/-- a comprehension with a test by an invariant -/
theorem comp_invT {ct : Expr} {S : List (Addr × Obj) → Prop} {P : Nat → Value → Prop} {Fin : List Value → List (Addr × Obj) → Prop} (n : Nat) (J : Nat → List Value → List (Addr × Obj) → Prop)
    (hS : ∀ i ys news, J i ys news → S news)
    (step : ∀ i ys news v I oI C oC D m₂ h tk (E' : Value → Shared → Prop), i < n → J i ys news → P i v → NsObj oC m₂ → m₂ x = some v → Fr h₀ L h m → News h₀ L h ((I, oI) :: (C, oC) :: (D, lst ys) :: news) → Off3 I C D news → ((@Ne Nat I C) ∧ (@Ne Nat I D) ∧ (@Ne Nat C D)) →
      wpAny (model prog w) A (isTrue ct (compEnvC scope cl C env) (eval ct (compEnvC scope cl C env))) (fun ok s' => if ok = true then
        wpAny (model prog w) A (eval elt (compEnvC scope cl C env)) (CEnd h₀ L m { s with heap := h, toks := tk } I oI C oC D (lst ys) (fun y news' => J (i + 1) (ys ++ [y]) news')) E' s'
        else CEnd h₀ L m { s with heap := h, toks := tk } I oI C oC D (lst ys) (fun _ news' => J (i + 1) ys news') Value.none s') E' { s with heap := h, toks := tk })
    (fin : ∀ ys news, J n ys news → Fin ys news) :
    ∀ (k i : Nat) (ys : List Value) (news : List (Addr × Obj)), i + k = n → J i ys news → LCt.CompRestT prog w A h₀ L m env ct elt x scope cl s S P Fin k i ys news := by
  intro k
  induction k with
  | zero =>
    intro i ys news e hJ
    have e' : i = n := by omega
    subst e'
    exact LCt.CompRestT.zero (fin ys news hJ)
  | succ k ih =>
    intro i ys news e hJ
    refine LCt.CompRestT.succ fun v I oI C oC D m₂ h tk E' hP hC hx F N off ne => ?_
    refine wpAny_mono (step i ys news v I oI C oC D m₂ h tk E' (by omega) hJ hP hC hx F N off ne) (fun ok s₂ h₂ => ?_) fun _ _ e => e
    cases ok with
    | true =>
      simp only [if_true] at h₂ ⊢
      refine wpAny_mono h₂ (fun y s₃ h₃ => ?_) fun _ _ e => e
      obtain ⟨h', tk', news', e', F', N', off', hJ'⟩ := h₃
      exact ⟨h', tk', news', e', F', N', off', hS _ _ _ hJ', ih (i + 1) _ news' (by omega) hJ'⟩
    | false =>
      simp only [Bool.false_eq_true, if_false] at h₂ ⊢
      obtain ⟨h', tk', news', e', F', N', off', hJ'⟩ := h₂
      exact ⟨h', tk', news', e', F', N', off', hS _ _ _ hJ', ih (i + 1) _ news' (by omega) hJ'⟩

/-- a captured name read in a comprehension -/
theorem block_free {M : Model} {A : Around} {E : Value → Shared → Prop} {C c : Addr} {o : Obj} {news : List (Addr × Obj)} {y : Str} {pos : Pos} {v : Value} {Q : Value → Shared → Prop} (hc : cl.lookup y = some c) (N : News h₀ L s.heap news) (hm : (c, o) ∈ news) (hd : o.data = .cell (some v)) (h : Q v s)
    (hk : (compEnvC scope cl C env).scope.kind = .function := by rfl) (hl : (compEnvC scope cl C env).kindOf y = some .cell := by rfl) (hdb : (y == ("__debug__" : Str)) = false := by decide) :
    wpAny M A (eval (.Name y pos) (compEnvC scope cl C env)) Q E s := ldCellK hc ⟨o, (N _ hm).1, hd⟩ h hk hl hdb
end

section
variable {prog : Program} {w : World} {A : Around} {E : Value → Shared → Prop} {s : Shared} {h₀ : Heap} {L : Addr} {m : Str → Option Value} {env : Env}
abbrev tupObj (its : Array Value) : Obj := { cls := .type "tuple", data := .seq its }
theorem tup_of {h : Heap} {ax : Addr} {its : Array Value} {news : List (Addr × Obj)} (N : News h₀ L h news) (hm : (ax, tupObj its) ∈ news) : h.IsTuple ax its := ⟨_, (N _ hm).1, rfl, 0, rfl⟩

def SrcT (prog : Program) (w : World) (A : Around) (h₀ : Heap) (L : Addr) (m : Str → Option Value) (env : Env) (elt : Expr) (x : Str) (scope : Scope) (cl : List (Str × Addr)) (y : Str) (Q : Flow → Shared → Prop) (xv : Value) (s₁ : Shared) : Prop :=
  ∃ ax its news, xv = .ref ax ∧ Fr h₀ L s₁.heap m ∧ News h₀ L s₁.heap news ∧ (ax, tupObj its) ∈ news ∧ its.size ≤ sizeLine ∧
      ∀ g, CompRest prog w A h₀ L m env elt x scope cl { s₁ with heap := g } (fun nw => (ax, tupObj its) ∈ nw) (fun i v => its[i]? = some v) (FinA h₀ L m { s₁ with heap := g } y Q) its.size 0 [] news
theorem SrcT.mk {A : Around} {elt : Expr} {x y : Str} {scope : Scope} {cl : List (Str × Addr)} {Q : Flow → Shared → Prop} {ax : Addr} {its : Array Value} {news : List (Addr × Obj)} {s₁ : Shared} (F : Fr h₀ L s₁.heap m) (N : News h₀ L s₁.heap news) (hm : (ax, tupObj its) ∈ news) (hsz : its.size ≤ sizeLine)
    (h : ∀ g, CompRest prog w A h₀ L m env elt x scope cl { s₁ with heap := g } (fun nw => (ax, tupObj its) ∈ nw) (fun i v => its[i]? = some v) (FinA h₀ L m { s₁ with heap := g } y Q) its.size 0 [] news) : SrcT prog w A h₀ L m env elt x scope cl y Q (.ref ax) s₁ := ⟨ax, its, news, rfl, F, N, hm, hsz, h⟩

/-- the made list gets its name, while the comprehension's own frame is let go -/
theorem name_made {M : Model} {y : Str} {py : Pos} {D C : Addr} {o : Obj} {nw : List (Addr × Obj)} {m' : Str → Option Value} {R : Shared → Prop} (hy : env.kindOf y = some .local)
    (hp : (env.scope.kind == .class || (env.scope.kind == .module && env.locals != env.globals)) = false)
    (F : Fr h₀ env.locals s.heap m) (N : News h₀ env.locals s.heap ((D, o) :: nw)) (hC : s.heap.Ns C m') (hC₀ : h₀.get? C = none) (hCL : C ≠ env.locals) (hCD : C ≠ D) (off : ∀ p ∈ nw, p.1 ≠ C)
    (next : ∀ h tk, Fr h₀ env.locals h (fun z => if z = y then some (.ref D) else m z) → News h₀ env.locals h ((D, o) :: nw) → R { s with heap := h, toks := tk }) :
    wpAny M A (assign (.Name y py) env (.ref D)) (fun _ s₂ => ∃ k, s₂.heap.Ns C k ∧ ∀ h, Heap.SameBut C s₂.heap h → R { s₂ with heap := h }) E s := by
  have away : ∀ p ∈ (D, o) :: nw, p.1 ≠ C := List.forall_mem_cons.mpr ⟨Ne.symm hCD, off⟩
  exact wpAny_assign_Name (wpAny_storeName_local hy F.ns (fun g hn hs => ⟨m', hC.sameBut hs hCL, fun h hs' => next h _ ((F.set hn hs).change hs' hCL hC₀) fun p hm =>
    ⟨(hs'.2 p.1 (away p hm)).trans (N.set hs p hm).1, (N.set hs p hm).2⟩⟩) hp)

/-- what the source of a comprehension hands on: an iterator that walks, apart from the ledger, and the turns -/
inductive Feed (prog : Program) (w : World) (A : Around) (h₀ : Heap) (L : Addr) (m : Str → Option Value) (env : Env) (elt : Expr) (x : Str) (scope : Scope) (cl : List (Str × Addr)) (Fin : List Value → List (Addr × Obj) → Prop) (s₂ : Shared) : Value → Prop
  | mk {I : Addr} {fp : List Addr} {n : Nat} {P : Nat → Value → Prop} {St : Nat → Heap → Prop} {S : List (Addr × Obj) → Prop} {news : List (Addr × Obj)} (walks : Walks prog w A I fp [I] n P St) (size : n ≤ sizeLine)
    (stands : ∀ i h, St i h → ∃ o, h.get? I = some o) (moves : ∀ i h h' o nw, St i h → h.get? I = some o → h'.get? I = some o → (∀ b o, h₀.get? b = some o → h'.get? b = some o) → News h₀ L h' nw → S nw → St i h')
    (start : St 0 s₂.heap) (low : ∀ b ∈ fp, b < s₂.heap.objs.size) (F : Fr h₀ L s₂.heap m) (N : News h₀ L s₂.heap news) (apart : L ≠ I) (fresh : h₀.get? I = none) (off : ∀ p ∈ news, p.1 ≠ I) (src : S news)
    (turns : CompRest prog w A h₀ L m env elt x scope cl s₂ S P Fin n 0 [] news) : Feed prog w A h₀ L m env elt x scope cl Fin s₂ (.ref I)

/-- a comprehension over any source that walks, bound to a name -/
theorem comp_named {elt iter : Expr} {x y : Str} {px py : Pos} {scope : Scope} {cl : List (Str × Addr)} {pos spos : Pos} {Q : Flow → Shared → Prop}
    (used : swapsWith (.ListComp elt [⟨.Name x px, iter, [], 0⟩] scope pos) (some (.Name y py)) spos.line env = pure true) (clos : closureFor scope env = pure cl) (noCell : ∀ z ∈ scope.names, z.2 ≠ .cell) (kind : scope.kind = .function)
    (locals : ∀ z ∈ scope.names, z.2 = .local → scope.names.lookup z.1 = some .local) (hx : scope.names.lookup x = some .local) (hy : env.kindOf y = some .local)
    (hp : (env.scope.kind == .class || (env.scope.kind == .module && env.locals != env.globals)) = false) (hs : ∀ z, foldedSetIterable iter env z = pure z)
    (h : wpAny (model prog w) A (eval iter env) (fun xv s₁ => wpAny (model prog w) A (pyIter xv) (fun it s₂ => Feed prog w A h₀ env.locals m env elt x scope cl (FinA h₀ env.locals m s₂ y Q) s₂ it) E s₁) E s) :
    wpAny (model prog w) A (exec (.Assign [.Name y py] (.ListComp elt [⟨.Name x px, iter, [], 0⟩] scope pos) spos) env) Q E s := by
  rw [exec_Assign_Name_used _ _ _ _ used]
  have whole := wpAny_comprehension_free (e := .ListComp elt [⟨.Name x px, iter, [], 0⟩] scope pos) (pos := firstIterPos [⟨.Name x px, iter, [], 0⟩] pos) (newAcc := newList []) (use := some (assign (.Name y py) env)) (Q := fun _ s' => Q .next s') rfl hs clos kind locals
    (wpAny_mono h (fun xv s₁ g => wpAny_mono g (fun it s₂ f => by
      cases f with
      | mk W size stands moves start low F N apart fresh off src turns =>
        exact block_U (RR := fun acc C => compPost (model prog w) A E (some (assign (.Name y py) env)) (fun _ s' => Q .next s') acc C) W size stands moves noCell kind hx start low F N apart fresh off src turns fun D C h' tk m' ys nw F' N' o1 hn hC₀ _ hCL _ hCD offC fin =>
          name_made hy hp F' N' hn hC₀ hCL hCD offC fun h tk F₂ N₂ => fin D h tk F₂ N₂ o1) fun _ _ e => e) fun _ _ e => e)
  exact wpAny_bind (wpAny_standAt (wpAny_bind (wpAny_bind (wpAny_mono whole (fun _ _ q => wpAny_pure (wpAny_pure q)) fun _ _ e => e))))

/-- a tuple of the ledger feeds -/
theorem tup_feeds {elt : Expr} {x : Str} {scope : Scope} {cl : List (Str × Addr)} {Fin : Shared → List Value → List (Addr × Obj) → Prop} {ax : Addr} {its : Array Value} {news : List (Addr × Obj)} (hh : A.handled = none) (F : Fr h₀ L s.heap m) (N : News h₀ L s.heap news)
    (hm : (ax, tupObj its) ∈ news) (hsz : its.size ≤ sizeLine)
    (turns : ∀ g, CompRest prog w A h₀ L m env elt x scope cl { s with heap := g } (fun nw => (ax, tupObj its) ∈ nw) (fun i v => its[i]? = some v) (Fin { s with heap := g }) its.size 0 [] news) :
    wpAny (model prog w) A (pyIter (.ref ax)) (fun it s₂ => Feed prog w A h₀ L m env elt x scope cl (Fin s₂) s₂ it) E s := by
  have tup := tup_of N hm
  have lt : ax < s.heap.objs.size := Heap.lt_size (N _ hm).1
  refine wpAny_pyIter_tuple tup ?_
  generalize hG : s.heap.push { cls := .type "tuple_iterator", data := .fields #[.ref ax, .int 0 0] } = G
  have size : G.objs.size = s.heap.objs.size + 1 := by rw [← hG]; exact Heap.size_push ..
  have up : ∀ b o, s.heap.get? b = some o → G.get? b = some o := fun b o e => by rw [← hG]; exact Heap.get?_push_of_some _ e
  refine .mk (Walks.tuple hh s.heap.objs.size ax (Nat.ne_of_lt lt) its) hsz (fun i h st => ?_) (fun i h h' o nw st e e' k N' S' => ⟨?_, tup_of N' S'⟩) ⟨⟨{ cls := .type "tuple_iterator", data := .fields #[.ref ax, .int 0 0] }, ?_, rfl, rfl⟩, ?_⟩ (fun b hb => ?_) (F.keeps up) (N.grown up) (Nat.ne_of_lt F.ns.lt) (next_is_new F) N.apart hm (turns G)
  · exact st.1.elim fun o q => ⟨o, q.1⟩
  · obtain ⟨o', q, r⟩ := st.1
    exact ⟨o, e', Option.some.inj (q.symm.trans e) ▸ r⟩
  · rw [← hG]; exact Heap.get?_push_size _ rfl
  · rw [← hG]; exact tup.push _
  · show b < G.objs.size
    rw [size]
    rcases List.mem_cons.mp hb with e | hb
    · exact e ▸ Nat.lt_succ_self _
    · exact List.mem_singleton.mp hb ▸ Nat.lt_succ_of_lt lt

/-- a comprehension over a made tuple, bound to a name -/
theorem Assign_ListComp_T {elt iter : Expr} {x y : Str} {px py : Pos} {scope : Scope} {cl : List (Str × Addr)} {pos spos : Pos} {Q : Flow → Shared → Prop} (_F₀ : Fr h₀ L s.heap m) (hLe : env.locals = L)
    (used : swapsWith (.ListComp elt [⟨.Name x px, iter, [], 0⟩] scope pos) (some (.Name y py)) spos.line env = pure true) (clos : closureFor scope env = pure cl) (noCell : ∀ z ∈ scope.names, z.2 ≠ .cell) (kind : scope.kind = .function)
    (locals : ∀ z ∈ scope.names, z.2 = .local → scope.names.lookup z.1 = some .local) (hx : scope.names.lookup x = some .local) (hy : env.kindOf y = some .local)
    (hp : (env.scope.kind == .class || (env.scope.kind == .module && env.locals != env.globals)) = false) (hh : A.handled = none)
    (h : wpAny (model prog w) A (eval iter env) (SrcT prog w A h₀ L m env elt x scope cl y Q) E s) (hs : ∀ z, foldedSetIterable iter env z = pure z := by intro _; rfl) :
    wpAny (model prog w) A (exec (.Assign [.Name y py] (.ListComp elt [⟨.Name x px, iter, [], 0⟩] scope pos) spos) env) Q E s := by
  subst hLe
  refine comp_named (h₀ := h₀) (m := m) used clos noCell kind locals hx hy hp hs (wpAny_mono h (fun xv s₁ g => ?_) fun _ _ e => e)
  obtain ⟨ax, its, news, rfl, F, N, hm, hsz, R⟩ := g
  exact tup_feeds (Fin := fun s₂ => FinA h₀ env.locals m s₂ y Q) hh F N hm hsz R
end
end Mine

end

section
open PySem PySem.W PyProof.Rows PySem.Calls PyProof.V
namespace Mine
local macro_rules | `(tactic| cell_enter) => `(tactic| (refine' code_defC ?k1 ?k2 ?k3 ?k4 ?k5 ?kA ?kF ?kK ?k6 ?k7 ?k8 ?k9 ?kB ?kD ?_ ?c2 ?c3 ?c4; (case kA => exact rfl); (case kF => exact rfl); (case kK => assumption); (case k1 => k_asm); (case k2 => k_asm); (case k3 => k_asm); (case k4 => k_asm); (case k5 => k_asm); (case k6 => k_is); (case k7 => k_is); (case k8 => ktr_room); (case k9 => exact BindsTo.of_eq rfl); (case kB => exact rfl); (case kD => decide +kernel); (case c2 => exact rfl); (case c3 => exact rfl); (case c4 => exact rfl); k_whole; intro g' L' h' tk' cells' FG' F' N' Y' B' X' T' l1; k_cells Y'; (try simp only [List.cons_append, List.nil_append] at N'); (try dsimp only); (try k_lift B'); (try k_fold)))
local macro_rules | `(tactic| walk_at "call ref") => `(tactic| (k_here; (with_reducible show wpAny _ _ (call (Value.ref _) _ _) _ _ _); refine halt ?_))
local macro_rules | `(tactic| walk_at "eval ListComp") => `(tactic| (refine halt ?_))
theorem cell_off {news : List (Addr × Obj)} {tp ca L : Addr} {k : Int} {o : Obj} (hT : TapeIn news tp ca k) (hl : ∀ p ∈ news, p.1 < L) : ((L + 1, o) : Addr × Obj).1 ≠ tp := by
  obtain ⟨cells, ns, t, n1, n2, h1, _⟩ := hT.at_
  have := hl _ h1
  exact fun e => by
    have h2 : tp < L := this
    rw [← (show L + 1 = tp from e)] at h2
    exact Nat.lt_irrefl L (Nat.lt_of_succ_lt h2)
theorem tape_push {h₀ h : Heap} {L c tp ca : Addr} {o : Obj} {k : Int} {news : List (Addr × Obj)} (hT : TapeIn news tp ca k) (_ : News h₀ L h ((c, o) :: news)) : TapeIn ((c, o) :: news) tp ca k := hT.mono fun p hp _ => .tail _ hp
local macro_rules | `(tactic| walk_at "CompSrc") => `(tactic| (refine halt ?_))
local macro_rules | `(tactic| walk_at "eval Name") => `(tactic| ((with_reducible show wpAny _ _ (eval (Expr.Name _ _) (compEnvC _ _ _ _)) _ _ _); k_dflt (refine' block_free ?c ?N ?m ?d ?_ ?k ?l ?b; (case c => exact rfl); (case N => k_asm); (case m => with_reducible assumption); (case d => with_reducible assumption); (case k => rfl); (case l => rfl); (case b => decide); k_whole)))
theorem turn_ledger {h₀ h : Heap} {L I C D tp ca : Addr} {oI oC oD : Obj} {k k' : Int} {nx news2 : List (Addr × Obj)} (N : News h₀ L h news2) (hk : ∀ p ∈ (I, oI) :: (C, oC) :: (D, oD) :: nx, p.1 ≠ tp → p ∈ news2)
    (off : LCg.Off3 I C D nx) (hT : TapeIn nx tp ca k) (hT' : TapeIn news2 tp ca k') :
    ∃ nx', News h₀ L h ((I, oI) :: (C, oC) :: (D, oD) :: nx') ∧ LCg.Off3 I C D nx' ∧ TapeIn nx' tp ca k' ∧ ∀ p ∈ nx, p.1 ≠ tp → p ∈ nx' := by
  have ho := hT.off (P := fun a => a ≠ I ∧ a ≠ C ∧ a ≠ D) fun p hp => LCg.Off3.mem off p hp
  refine ⟨news2.filter fun p => decide (p.1 ≠ I ∧ p.1 ≠ C ∧ p.1 ≠ D), fun p hp => N p ?_, LCg.Off3.of fun p hp => by simpa using (List.mem_filter.mp hp).2, hT'.mono fun p hp e => List.mem_filter.mpr ⟨hp, ?_⟩, fun p hp hn => List.mem_filter.mpr ⟨hk p (.tail _ (.tail _ (.tail _ hp))) hn, ?_⟩⟩
  · rcases List.mem_cons.mp hp with rfl | hp
    · exact hk _ (.head _) (Ne.symm ho.1.1)
    rcases List.mem_cons.mp hp with rfl | hp
    · exact hk _ (.tail _ (.head _)) (Ne.symm ho.1.2.1)
    rcases List.mem_cons.mp hp with rfl | hp
    · exact hk _ (.tail _ (.tail _ (.head _))) (Ne.symm ho.1.2.2)
    exact (List.mem_filter.mp hp).1
  · rcases e with e | e
    · rw [e]; simpa using ho.1
    · rw [e]; simpa using ho.2
  · simpa using LCg.Off3.mem off p hp
theorem strs_snoc {us : List Value} {ws : List Str} {x : Str} {t : Tok} (h : StrsAre us ws) : StrsAre (us ++ [.str x t]) (ws ++ [x]) := h.append' (.cons _ _ .nil)
theorem one_more {ws : List Str} {y : Str} (h : ∀ x ∈ ws, PySem.Str.length x ≤ 1) (hy : y.length ≤ 1) : ∀ x ∈ ws ++ [y], PySem.Str.length x ≤ 1 := fun x hx => by
  rcases List.mem_append.mp hx with hx | hx
  · exact h x hx
  · rw [List.mem_singleton.mp hx]; exact hy
theorem sum_le : ∀ ws : List Str, (∀ x ∈ ws, PySem.Str.length x ≤ 1) → (ws.map (·.length)).sum ≤ ws.length
  | [], _ => Nat.le_refl _
  | x :: r, h => by
    have h1 := h x (.head _)
    have h2 := sum_le r fun y hy => h y (.tail _ hy)
    rw [List.map_cons, List.sum_cons, List.length_cons]
    omega
set_option maxHeartbeats 8000000 in
theorem word_con (w : World) (tp ca : Addr) (k : Int) (news : List (Addr × Obj)) (hT : TapeIn news tp ca k) (hk2 : k ≤ 1000) :
    Con w 40 66 [.ref tp] [] news (fun v news' => ∃ x t k', v = .str x t ∧ x.length ≤ 5 ∧ k' ≤ k + 6 ∧ TapeIn news' tp ca k' ∧ ∀ p ∈ news, p.1 ≠ tp → p ∈ news') := by
  w_top off
  unfold Con
  refine (?_ : (PySem.Challenge.rw_an0014_01 = PySem.Challenge.rw_an0014_01) → _) rfl
  k_fill
  intro _ mean mg mb dp un gd cn cs a ccd cl outer A₀ base h₀ L m s Q E B F X N T hk hd' hu' hret
  refine wpAny_call ?_
  k_dflt cell_enter
  rename_i g1 L1 hp1 tk1 FG1 F0 B1 X1 T1 l1 o1 d1 N1
  have hT0 := tape_push hT N1
  k_steps
  with_reducible rename Fr _ _ _ _ => F1
  refine halted ?_
  k_dflt (refine Con.use (take_con w tp ca k 6 _ _ hT0 (by omega) (by decide) (by decide)) (by k_asm) F1 (by k_asm) N1 (by k_asm) (by exact rfl) (by ktr_room) (by ktr_units) ?_)
  rintro v h' tk' news1 ⟨r, t, rfl, hr0, hr1, hT1, hk1⟩ F2 N2
  have hc1 := hk1 _ (List.Mem.head _) (cell_off hT l1)
  clear F1 N1
  k_steps
  with_reducible rename Fr _ _ _ _ => F1
  with_reducible rename News _ _ _ _ => N1
  refine halted ?_
  with_unfolding_all refine LCg.ListComp_U F1 rfl ?_ rfl ?_ rfl ?_
  · decide
  · decide
  k_steps
  with_reducible rename Fr _ _ _ _ => F1
  with_reducible rename News _ _ _ _ => N1
  with_reducible rename IsRange _ _ _ _ _ _ _ _ => R1
  refine halted ?_
  have hsm : Builtin.Range.small 0 r 1 = true := small_one (by omega) (by omega) (by omega) (by omega)
  have hsz : Builtin.Range.rangeSize 0 r 1 = ((r.toNat : Nat) : Int) := by rw [rangeSize_nat]; simp
  have hsl : r.toNat ≤ sizeLine := by rw [sizeLine_eq]; omega
  k_dflt (refine LCg.CompSrc.range (n := r.toNat) rfl F1 N1 R1 hsm hsz hsl (fun g => comp_inv r.toNat (fun i ys nx => TapeIn nx tp ca (k + 1 + i) ∧ (L1 + 1, o1) ∈ nx ∧ (∀ p ∈ news, p.1 ≠ tp → p ∈ nx) ∧ ∃ ws, StrsAre ys ws ∧ ws.length = i ∧ ∀ x ∈ ws, PySem.Str.length x ≤ 1) (fun _ _ _ _ => trivial) ?_ ?_ r.toNat 0 [] news1 (Nat.zero_add _) ⟨?_, hc1, fun p hp hn => hk1 p (.tail _ hp) hn, [], .nil, rfl, fun x hx => (nomatch hx)⟩))
  · rintro i ys nx v I oI C oC D m₂ h tk E' hi ⟨hT2, hc2, hk2, ws, hws, hwl, hw1⟩ hP hC hx F2 N2 off ne
    clear F1 N1
    have hc3 : (L1 + 1, o1) ∈ (I, oI) :: (C, oC) :: (D, LCg.lst ys) :: nx := .tail _ (.tail _ (.tail _ hc2))
    have d3 : o1.data = .cell (some (.ref tp)) := d1
    k_steps
    with_reducible rename Fr _ _ _ _ => F3
    with_reducible rename News _ _ _ _ => N3
    refine halted ?_
    have hT4 : TapeIn ((I, oI) :: (C, oC) :: (D, LCg.lst ys) :: nx) tp ca (k + 1 + i) := hT2.mono fun p hp _ => .tail _ (.tail _ (.tail _ hp))
    k_dflt (refine Con.use (take_con w tp ca (k + 1 + i) 3 _ _ hT4 (by omega) (by decide) (by decide)) (by k_asm) F3 (by k_asm) N3 (by k_asm) (by exact rfl) (by ktr_room) (by ktr_units) ?_)
    rintro v' h' tk' news2 ⟨r2, t2, rfl, hr2, hr3, hT5, hk5⟩ F4 N4
    clear F3 N3
    k_steps
    with_reducible rename Fr _ _ _ _ => F5
    with_reducible rename News _ _ _ _ => N5
    obtain ⟨nx', N6, off6, hT6, hk6⟩ := turn_ledger N5 hk5 off hT2 hT5
    with_unfolding_all refine CEnd.intro F5 N6 off6 ⟨?_, hk6 _ hc2 (cell_off hT l1), fun p hp hn => hk6 p (hk2 p hp hn) hn, _, strs_snoc hws, ?_, one_more hw1 ?_⟩
    · rw [show k + 1 + ((i + 1 : Nat) : Int) = k + 1 + (i : Int) + 1 by omega]; exact hT6
    · rw [List.length_append, hwl]; rfl
    · omega
  · rintro ys nx ⟨hT2, hc2, hk2, ws, hws, hwl, hw1⟩
    intro D h tk F2 N2 off2
    clear F1 N1
    k_steps
    have hsum := sum_le ws hw1
    refine join_listW (News.isList N2 (.head _)) (ys := ws) (by simpa using hws) (by decide) (by omega) ?_
    intro t3 tk3
    k_steps
    refine hret _ _ _ _ ⟨_, _, k + 1 + r.toNat, rfl, ?_, by omega, hT2.mono (b := (D, LCg.lst ys) :: nx) (fun p hp _ => .tail _ hp), fun p hp hn => .tail _ (hk2 p hp hn)⟩ (by k_asm) (by k_asm)
    have e := PySem.StrLaws.join_length_le (Str.ofString "") ws
    rw [show PySem.Str.length (Str.ofString "") = 0 from by decide, ← PySem.StrLaws.glued_eq_join] at e
    have e2 : PySem.Str.length (Txt.join (Str.ofString "") ws) ≤ (ws.map (·.length)).sum + ws.length * 0 := e
    omega
  · simpa using hT1
end Mine

end

section
open PySem PySem.W PyProof.Rows PySem.Calls PyProof.V
namespace Mine
local macro_rules | `(tactic| walk_at "idle 1") => `(tactic| skip)
local macro_rules | `(tactic| cell_enter) => `(tactic| (refine' code_defC ?k1 ?k2 ?k3 ?k4 ?k5 ?kA ?kF ?kK ?k6 ?k7 ?k8 ?k9 ?kB ?kD ?_ ?c2 ?c3 ?c4; (case kA => exact rfl); (case kF => exact rfl); (case kK => assumption); (case k1 => k_asm); (case k2 => k_asm); (case k3 => k_asm); (case k4 => k_asm); (case k5 => k_asm); (case k6 => k_is); (case k7 => k_is); (case k8 => ktr_room); (case k9 => exact BindsTo.of_eq rfl); (case kB => exact rfl); (case kD => decide +kernel); (case c2 => exact rfl); (case c3 => exact rfl); (case c4 => exact rfl); k_whole; intro g' L' h' tk' cells' FG' F' N' Y' B' X' T' l1; k_cells Y'; (try simp only [List.cons_append, List.nil_append] at N'); (try dsimp only); (try k_lift B'); (try k_fold)))
local macro_rules | `(tactic| walk_at "call ref") => `(tactic| (k_here; (with_reducible show wpAny _ _ (call (Value.ref _) _ _) _ _ _); refine halt ?_))
local macro_rules | `(tactic| walk_at "exec Assign cons ListComp") => `(tactic| (refine halt ?_))
local macro_rules | `(tactic| walk_at "eval ListComp") => `(tactic| (refine halt ?_))
local macro_rules | `(tactic| walk_at "eval Name") => `(tactic| ((with_reducible show wpAny _ _ (eval (Expr.Name _ _) (compEnvC _ _ _ _)) _ _ _); k_dflt (refine' block_free ?c ?N ?m ?d ?_ ?k ?l ?b; (case c => exact rfl); (case N => k_asm); (case m => k_mem); (case d => with_reducible assumption); (case k => rfl); (case l => rfl); (case b => decide); k_whole)))
theorem tuple3 {a b c : Tok} {i : Nat} {v : Value} (h : (#[Value.int 0 a, Value.int 1 b, Value.int 2 c] : Array Value)[i]? = some v) : ∃ t, v = .int (i : Int) t := by
  have h3 : i < 3 := by
    obtain ⟨h1, _⟩ := Array.getElem?_eq_some_iff.mp h
    simpa using h1
  have h4 : i = 0 ∨ i = 1 ∨ i = 2 := by omega
  rcases h4 with rfl | rfl | rfl <;> simp at h <;> exact ⟨_, h.symm⟩
theorem told_snoc {ys : List Value} {i : Nat} {t : Tok} {s1 s2 : Str} (hi : i < 3) (h : IntsAre ys (([edN s1 s2 0 false, edN s1 s2 1 false, edN s1 s2 2 false]).take i)) :
    IntsAre (ys ++ [.int (edN s1 s2 (i : Int) false) t]) (([edN s1 s2 0 false, edN s1 s2 1 false, edN s1 s2 2 false]).take (i + 1)) := by
  have h4 : i = 0 ∨ i = 1 ∨ i = 2 := by omega
  have e : ([edN s1 s2 0 false, edN s1 s2 1 false, edN s1 s2 2 false]).take (i + 1) = ([edN s1 s2 0 false, edN s1 s2 1 false, edN s1 s2 2 false]).take i ++ [edN s1 s2 (i : Int) false] := by
    rcases h4 with rfl | rfl | rfl <;> rfl
  rw [e]
  exact h.append (.cons _ _ .nil)
def told4 (s1 s2 : Str) : List Int := [edN s1 s2 0 false, edN s1 s2 1 false, edN s1 s2 2 false, edN s1 s2 1 true]
theorem last5 {P1 P2 P3 P4 P5 : Prop} {D : Addr} {news : List (Addr × Obj)} (h : P1 ∧ P2 ∧ P3 ∧ P4 ∧ P5 ∧ AllLt D news) : AllLt D news := h.2.2.2.2.2
set_option maxHeartbeats 8000000 in
theorem told_con (w : World) (s1 s2 : Str) (t1 t2 : Tok) (news : List (Addr × Obj)) (h1 : s1.length ≤ 1000) (h2 : s2.length ≤ 1000) :
    Con w 60 81 [.str s1 t1, .str s2 t2] [] news (fun v news' => ∃ d, ∃ vs : List Value, ∃ n, v = .ref d ∧ news' = (d, listOf vs.toArray n) :: news ∧ IntsAre vs (told4 s1 s2) ∧ AllLt d news) := by
  w_top off
  unfold Con
  refine (?_ : (PySem.Challenge.rw_an0014_01 = PySem.Challenge.rw_an0014_01) → _) rfl
  k_fill
  intro _ mean mg mb dp un gd cn cs a ccd cl outer A₀ base h₀ L m s Q E B F X N T hk hd' hu' hret
  refine wpAny_call ?_
  k_dflt cell_enter
  rename_i g1 L1 hp1 tk1 FG1 F0 B1 X1 T1 l1 o1 o2 d1 d2 N1
  k_steps
  with_reducible rename Fr _ _ _ _ => F1
  refine halted ?_
  k_dflt (refine Assign_ListComp_T F1 rfl rfl rfl (by decide) rfl (by decide) rfl rfl rfl rfl ?_)
  k_steps
  with_reducible rename Fr _ _ _ _ => F1
  with_reducible rename News _ _ _ _ => N1
  k_dflt (refine SrcT.mk F1 N1 (.head _) (by rw [sizeLine_eq]; simp) (fun g => comp_inv 3 (fun i ys nx => nx = _ ∧ ∃ ns, IntsAre ys ns ∧ ns = ([edN s1 s2 0 false, edN s1 s2 1 false, edN s1 s2 2 false]).take i) (fun i ys nx h => by rw [h.1]; exact .head _) ?_ ?_ 3 0 [] _ (Nat.zero_add _) ⟨rfl, [], .nil, rfl⟩))
  · rintro i ys nx v I oI C oC D m₂ h tk E' hi ⟨rfl, ns, hns, rfl⟩ hP hC hx F2 N2 off ne
    clear F1 N1
    obtain ⟨tv, rfl⟩ := tuple3 hP
    have d3 : o1.data = .cell (some (.str s2 t2)) := d1
    have d4 : o2.data = .cell (some (.str s1 t1)) := d2
    k_steps
    with_reducible rename Fr _ _ _ _ => F3
    with_reducible rename News _ _ _ _ => N3
    refine halted ?_
    k_dflt (refine Con.use (edN_con w s1 s2 _ _ (i : Int) false _ _ h1 h2 (by omega) (by omega) (.inl ⟨_, rfl, rfl⟩)) (by k_asm) F3 (by k_asm) N3 (by k_asm) (by exact rfl) (by ktr_room) (by ktr_units) ?_)
    rintro v' h' tk' news2 ⟨t', rfl, rfl⟩ F4 N4
    clear F3 N3
    with_unfolding_all exact CEnd.intro F4 N4 off ⟨rfl, _, told_snoc hi hns, rfl⟩
  · rintro ys nx ⟨rfl, ns, hns, rfl⟩
    intro D h tk F2 N2 off2
    clear F1 N1
    have d3 : o1.data = .cell (some (.str s2 t2)) := d1
    have d4 : o2.data = .cell (some (.str s1 t1)) := d2
    k_steps
    with_reducible rename Fr _ _ _ _ => F3
    with_reducible rename News _ _ _ _ => N3
    refine halted ?_
    k_dflt (refine Con.use (edN_con w s1 s2 _ _ 1 true _ _ h1 h2 (by decide) (by decide) (.inr ⟨rfl, rfl, rfl⟩)) (by k_asm) F3 (by k_asm) N3 (by k_asm) (by exact rfl) (by ktr_room) (by ktr_units) ?_)
    rintro v' h' tk' news2 ⟨t', rfl, rfl⟩ F4 N4
    clear F3 N3
    k_steps
    with_reducible rename Fr _ _ _ _ => F5
    with_reducible rename News _ _ _ _ => N5
    with_reducible rename IntsAre _ (_ ++ _) => hI
    refine hret _ _ _ ((_, listOf _ 0) :: news) ⟨_, _, 0, rfl, rfl, hI, last5 (by assumption)⟩ F5 (fun p hp => N5 p ?_)
    rcases List.mem_cons.mp hp with rfl | hp
    · exact .head _
    · exact .tail _ (.tail _ (.tail _ (.tail _ (.tail _ (.tail _ hp)))))
end Mine

end

section
open PySem PySem.W PyProof.Rows PySem.Calls
namespace Mine
section
variable {prog : Program} {w : World} {A : Around} {E : Value → Shared → Prop} {s : Shared} {env : Env} {h₀ : Heap} {x : Str} {body : List Stmt} {Q : Flow → Shared → Prop}

theorem pyIter_text {xt : Str} {t : Tok} {Q : Value → Shared → Prop}
    (hQ : ∀ (o : Obj) (St : Nat → Heap → Prop), (∀ A' : Around, A'.handled = none → Walks prog w A' s.heap.objs.size [s.heap.objs.size] [s.heap.objs.size] xt.cps.size (SignAt xt) St) → St 0 (s.heap.push o) → (∀ i h, St i h → ∃ oI, h.get? s.heap.objs.size = some oI) →
      Q (.ref s.heap.objs.size) { s with heap := s.heap.push o }) : wpAny (model prog w) A (pyIter (.str xt t)) Q E s := by
  cases ha : xt.cps.all (· < 128)
  · exact wpAny_pyIter_wide ha (hQ _ _ (fun A' hA => Walks.strWide hA _ xt t) ⟨_, Heap.get?_push_size _ rfl, rfl, rfl⟩ fun i h st => let ⟨o, e, _⟩ := st; ⟨o, e⟩)
  · exact wpAny_pyIter_ascii ha (hQ _ _ (fun A' hA => Walks.strAscii hA _ xt t) ⟨_, Heap.get?_push_size _ rfl, rfl, rfl⟩ fun i h st => let ⟨o, e, _⟩ := st; ⟨o, e⟩)

/-- the end of a turn of a loop whose name is captured -/
def KEnd (h₀ : Heap) (L : Addr) (J : (Str → Option Value) → List (Addr × Obj) → Prop) (I : Addr) (oI : Obj) (c : Addr) (oc : Obj) (s₁ : Shared) (f : Flow) (s₂ : Shared) : Prop :=
  f = .next ∧ ∃ h' tk m' nx, s₂ = { s₁ with heap := h', toks := tk } ∧ Fr h₀ L h' m' ∧ News h₀ L h' ((I, oI) :: (c, oc) :: nx) ∧ Off I nx ∧ Off c nx ∧ J m' nx
theorem KEnd.intro {J : (Str → Option Value) → List (Addr × Obj) → Prop} {L I c : Addr} {oI oc : Obj} {s₁ : Shared} {h' : Heap} {tk : Nat} {m' : Str → Option Value} {nx : List (Addr × Obj)} (F : Fr h₀ L h' m') (N : News h₀ L h' ((I, oI) :: (c, oc) :: nx)) (h1 : Off I nx) (h2 : Off c nx) (hJ : J m' nx) :
    KEnd h₀ L J I oI c oc s₁ .next { s₁ with heap := h', toks := tk } := ⟨rfl, h', tk, m', nx, rfl, F, N, h1, h2, hJ⟩

/-- what a loop over a text wants whose name is captured -/
def SrcK (prog : Program) (w : World) (A : Around) (h₀ : Heap) (env : Env) (x : Str) (c : Addr) (body : List Stmt) (Q : Flow → Shared → Prop) (E : Value → Shared → Prop) (xv : Value) (s₁ : Shared) : Prop :=
  ∃ (xt : Str) (tx : Tok) (m : Str → Option Value) (nx : List (Addr × Obj)) (oc : Obj) (v₀ : Option Value) (J : Nat → (Str → Option Value) → List (Addr × Obj) → Prop), xv = .str xt tx ∧ Fr h₀ env.locals s₁.heap m ∧ News h₀ env.locals s₁.heap ((c, oc) :: nx) ∧ Off c nx ∧ oc.data = .cell v₀ ∧ J 0 m nx ∧
    (∀ i ch t m₁ nx h tk oc' I oI, xt.cps[i]? = some ch → J i m₁ nx → Off I nx → Off c nx → I ≠ c → oc'.data = .cell (some (.str ⟨#[ch]⟩ t)) → Fr h₀ env.locals h m₁ → News h₀ env.locals h ((I, oI) :: (c, oc') :: nx) →
      wpAny (model prog w) A (execs body env) (KEnd h₀ env.locals (J (i + 1)) I oI c oc' { s₁ with heap := h, toks := tk }) E { s₁ with heap := h, toks := tk }) ∧
    ∀ m' nx oc' v' h tk, J xt.cps.size m' nx → Off c nx → oc'.data = .cell v' → Fr h₀ env.locals h m' → News h₀ env.locals h ((c, oc') :: nx) → Q .next { s₁ with heap := h, toks := tk }

theorem For_str_cell {px pos : Pos} {iter : Expr} {c : Addr} (hk : env.scope.kind = .function) (hl : env.kindOf x = some .cell) (hc : env.cells.lookup x = some c) (hh : A.handled = none)
    (h : wpAny (model prog w) A (eval iter env) (SrcK prog w A h₀ env x c body Q E) E s)
    (hs : ∀ x, foldedSetIterable iter env x = pure x := by intro _; rfl)
    (hE : PassesOwn (model prog w) A env E := by passes_own) :
    wpAny (model prog w) A (exec (.For (.Name x px) iter body [] pos) env) Q E s := by
  refine wpAny_For (wpAny_mono h (fun xv s₁ h₁ => ?_) fun _ _ e => e) hs
  obtain ⟨xt, tx, m, nx, oc, v₀, J, rfl, F, N, hoff, hd, hJ, turn, done⟩ := h₁
  refine pyIter_text fun o St hW hst hob => ?_
  have W := hW A hh
  have hLI : env.locals ≠ s₁.heap.objs.size := Nat.ne_of_lt F.ns.lt
  have hcI : s₁.heap.objs.size ≠ c := Ne.symm (Nat.ne_of_lt (Heap.lt_size (N _ (.head _)).1))
  have hI0 := next_is_new F
  have hcL := (N (c, oc) (.head _)).2.1
  have hc0 := (N (c, oc) (.head _)).2.2
  have offI : Off s₁.heap.objs.size nx := fun p hp => Nat.ne_of_lt (Heap.lt_size (N p (.tail _ hp)).1)
  refine codeAny_forLoop (R := fun r s' => match r with | .ok f => Q f s' | .error e => cameBackBy (model prog w) A env E e s')
    (fun k s' => ∃ h' tk m' nx' oc' v' i, s' = { s₁ with heap := h', toks := tk } ∧ St i h' ∧ Fr h₀ env.locals h' m' ∧ News h₀ env.locals h' ((c, oc') :: nx') ∧ Off c nx' ∧ Off s₁.heap.objs.size nx' ∧ oc'.data = .cell v' ∧ J i m' nx' ∧ i ≤ xt.cps.size ∧ k = xt.cps.size + 1 - i) ?_ (xt.cps.size + 1)
    ⟨_, s₁.toks, m, nx, oc, v₀, 0, rfl, hst, F.push _, fun p hp => ⟨Heap.get?_push_of_some _ (N p hp).1, (N p hp).2⟩, hoff, offI, hd, hJ, Nat.zero_le _, rfl⟩
  rintro k s' ⟨h', tk, m', nx', oc', v', i, rfl, hst', F', N', hoff', offI', hd', hJ', hi, rfl⟩
  have keepN : ∀ {h₁ : Heap} {l : List (Addr × Obj)}, Off s₁.heap.objs.size l → News h₀ env.locals h' l → (∀ b o, b ∉ [s₁.heap.objs.size] → h'.get? b = some o → h₁.get? b = some o) → News h₀ env.locals h₁ l := fun ho n hk p hp => ⟨hk _ _ (by simpa using ho p hp) (n p hp).1, (n p hp).2⟩
  have keepF : ∀ {h₁ : Heap}, (∀ b o, b ∉ [s₁.heap.objs.size] → h'.get? b = some o → h₁.get? b = some o) → Fr h₀ env.locals h₁ m' := fun hk => ⟨F'.ns.at' fun o e => hk _ o (by simpa using hLI) e, fun b o e => hk b o (fun hm => by rw [List.mem_singleton.mp hm, hI0] at e; cases e) (F'.keep b o e), F'.above⟩
  by_cases hlt : i < xt.cps.size
  · refine W.item i _ _ _ hlt hst' fun v h₁ tk₁ hP hst₁ hk₁ => ?_
    obtain ⟨ch, u, hch, rfl⟩ := hP
    have F₁ := keepF hk₁
    have N₁ : News h₀ env.locals h₁ ((c, oc') :: nx') := keepN (Off.cons (Ne.symm hcI) offI') N' hk₁
    refine wpAny_assign_Name (wpAny_storeName_cell hk hl hc ⟨_, (N₁ _ (.head _)).1, hd'⟩ fun h₂ hcell hs₂ => ?_)
    obtain ⟨oc₂, hoc₂, hd₂⟩ := hcell
    have F₂ : Fr h₀ env.locals h₂ m' := F₁.change hs₂ hcL hc0
    have N₂ : News h₀ env.locals h₂ ((c, oc₂) :: nx') := fun p hp => by
      rcases List.mem_cons.mp hp with rfl | hp
      · exact ⟨hoc₂, hcL, hc0⟩
      · exact ⟨(hs₂.2 _ (hoff' p hp)).trans (N₁ p (.tail _ hp)).1, (N₁ p (.tail _ hp)).2⟩
    have hst₂ : St (i + 1) h₂ := W.frame _ _ _ hst₁ fun b hb o e => (hs₂.2 b (by rw [List.mem_singleton.mp hb]; exact hcI)).trans e
    obtain ⟨oI, hoI⟩ := hob _ _ hst₂
    have N₃ : News h₀ env.locals h₂ ((s₁.heap.objs.size, oI) :: (c, oc₂) :: nx') := fun p hp => by
      rcases List.mem_cons.mp hp with rfl | hp
      · exact ⟨hoI, Ne.symm hLI, hI0⟩
      · exact N₂ p hp
    refine wpAny_mono (wpAny_passesOwn hE (turn i ch u m' nx' h₂ tk₁ oc₂ s₁.heap.objs.size oI hch hJ' offI' hoff' hcI hd₂ F₂ N₃)) (fun f s₃ h₃ => ?_) fun _ _ e => e
    obtain ⟨rfl, h₄, tk₄, m₄, nx₄, rfl, F₄, N₄, o1, o2, hJ₄⟩ := h₃
    refine ⟨xt.cps.size + 1 - (i + 1), by omega, h₄, tk₄, m₄, nx₄, oc₂, _, i + 1, rfl, W.frame _ _ _ hst₂ fun b hb o e => ?_, F₄, fun p hp => N₄ p (.tail _ hp), o2, o1, hd₂, hJ₄, hlt, rfl⟩
    rw [List.mem_singleton.mp hb] at e ⊢
    rw [hoI] at e
    cases e
    exact (N₄ _ (.head _)).1
  · have hin : i = xt.cps.size := by omega
    subst hin
    refine W.done _ _ _ hst' fun h₁ tk₁ hk₁ => wpAny_execs_nil ?_
    exact done m' nx' oc' v' h₁ tk₁ hJ' hoff' hd' (keepF hk₁) (keepN (Off.cons (Ne.symm hcI) offI') N' hk₁)
end
end Mine

end

section
open PySem PySem.W PyProof.Rows PySem.Calls PyProof.V
namespace Mine
local macro_rules | `(tactic| walk_at "idle 2") => `(tactic| skip)
def partsOf (l : List Nat) : List Str := l.foldl (fun ps ch => ps ++ ps.map fun p => p ++ ⟨#[ch]⟩) [Str.ofString ""]
theorem partsOf_snoc (l : List Nat) (ch : Nat) : partsOf (l ++ [ch]) = partsOf l ++ (partsOf l).map fun p => p ++ ⟨#[ch]⟩ := by
  unfold partsOf; rw [List.foldl_append]; rfl
theorem partsOf_len (l : List Nat) : (partsOf l).length = 2 ^ l.length := by
  have : ∀ (l : List Nat) (ps : List Str), (l.foldl (fun ps ch => ps ++ ps.map fun p => p ++ ⟨#[ch]⟩) ps).length = ps.length * 2 ^ l.length := by
    intro l
    induction l with
    | nil => intro ps; simp
    | cons c r ih =>
      intro ps
      rw [List.foldl_cons, ih, List.length_append, List.length_map, List.length_cons, Nat.pow_succ, ← Nat.two_mul, Nat.mul_comm 2, Nat.mul_assoc, Nat.mul_comm 2]
  unfold partsOf
  rw [this]; simp
theorem partsOf_short (l : List Nat) : ∀ p ∈ partsOf l, PySem.Str.length p ≤ l.length := by
  have : ∀ (l : List Nat) (ps : List Str) (n : Nat), (∀ p ∈ ps, PySem.Str.length p ≤ n) → ∀ p ∈ l.foldl (fun ps ch => ps ++ ps.map fun p => p ++ ⟨#[ch]⟩) ps, PySem.Str.length p ≤ n + l.length := by
    intro l
    induction l with
    | nil => intro ps n h p hp; exact h p hp
    | cons c r ih =>
      intro ps n h p hp
      rw [List.foldl_cons] at hp
      have := ih _ (n + 1) (fun q hq => ?_) p hp
      · rw [List.length_cons]; omega
      · rcases List.mem_append.mp hq with hq | hq
        · have := h q hq; omega
        · obtain ⟨q', hq', rfl⟩ := List.mem_map.mp hq
          have := h q' hq'
          rw [PySem.Str.length_append]
          show _ + 1 ≤ _
          omega
  intro p hp
  have := this l [Str.ofString ""] 0 (fun q hq => by rw [List.mem_singleton.mp hq]; decide) p hp
  omega

structure PJ (x : Str) (news : List (Addr × Obj)) (i : Nat) (d : Addr) (vs : List Value) (k : Nat) (nx : List (Addr × Obj)) : Prop where
  here : (d, listOf vs.toArray k) ∈ nx
  txts : StrsAre vs (partsOf (x.cps.toList.take i))
  keep : ∀ p ∈ news, p ∈ nx
  lt : AllLt d news

section
variable {prog : Program} {w : World} {A : Around} {E : Value → Shared → Prop} {s₁ : Shared} {env : Env} {h₀ : Heap} {y₀ : Str} {body : List Stmt} {Q : Flow → Shared → Prop}
theorem parts_src {c l0 : Addr} {o1 : Obj} {xt : Str} {tx t0 : Tok} {m₀ : Str → Option Value} {v₀ : Option Value} {news : List (Addr × Obj)} (F : Fr h₀ env.locals s₁.heap (fun y => if y = Str.ofString "parts" then some (.ref l0) else m₀ y))
    (N : News h₀ env.locals s₁.heap ((l0, listOf #[.str (Str.ofString "") t0] 0) :: (c, o1) :: news)) (hlt : c < l0 ∧ AllLt l0 news) (hoff : Off c news) (hd : o1.data = .cell v₀)
    (turn : ∀ (i ch : Nat) (t : Tok) d vs k nx h tk oc I oI, i < xt.length → xt.cps[i]? = some ch → PJ xt news i d vs k nx → Off I nx → Off c nx → I ≠ c → oc.data = .cell (some (.str ⟨#[ch]⟩ t)) → Fr h₀ env.locals h (fun y => if y = Str.ofString "parts" then some (.ref d) else m₀ y) → News h₀ env.locals h ((I, oI) :: (c, oc) :: nx) →
      wpAny (model prog w) A (execs body env) (KEnd h₀ env.locals (fun m' nx' => ∃ d' vs' k', m' = (fun y => if y = Str.ofString "parts" then some (.ref d') else m₀ y) ∧ PJ xt news (i + 1) d' vs' k' nx') I oI c oc { s₁ with heap := h, toks := tk }) E { s₁ with heap := h, toks := tk })
    (done : ∀ d vs k nx oc h tk, PJ xt news xt.length d vs k nx → Fr h₀ env.locals h (fun y => if y = Str.ofString "parts" then some (.ref d) else m₀ y) → News h₀ env.locals h ((c, oc) :: nx) → Q .next { s₁ with heap := h, toks := tk }) :
    SrcK prog w A h₀ env y₀ c body Q E (.str xt tx) s₁ := by
  refine ⟨xt, tx, _, (l0, listOf #[.str (Str.ofString "") t0] 0) :: news, o1, v₀, fun i m nx => ∃ d vs k, m = (fun y => if y = Str.ofString "parts" then some (.ref d) else m₀ y) ∧ PJ xt news i d vs k nx, rfl, F, fun p hp => N p ?_, Off.cons (Ne.symm (Nat.ne_of_lt hlt.1)) hoff, hd,
    ⟨l0, [.str (Str.ofString "") t0], 0, rfl, .head _, .cons _ _ .nil, fun p hp => .tail _ hp, hlt.2⟩, ?_, ?_⟩
  · rcases List.mem_cons.mp hp with rfl | hp
    · exact .tail _ (.head _)
    rcases List.mem_cons.mp hp with rfl | hp
    · exact .head _
    · exact .tail _ (.tail _ hp)
  · rintro i ch t m₁ nx h tk oc I oI hch ⟨d, vs, k, rfl, hP⟩ h1 h2 h3 h4 F' N'
    exact turn i ch t d vs k nx h tk oc I oI (Array.getElem?_eq_some_iff.mp hch).1 hch hP h1 h2 h3 h4 F' N'
  · rintro m' nx oc v' h tk ⟨d, vs, k, rfl, hP⟩ _ _ F' N'
    exact done d vs k nx oc h tk hP F' N'
end

theorem strs_at : ∀ {vs : List Value} {ws : List Str} {i : Nat} {v : Value}, StrsAre vs ws → vs[i]? = some v → ∃ p t, ws[i]? = some p ∧ v = .str p t
  | _, _, _, _, .nil, h => by simp at h
  | _, _, 0, _, .cons p t _, h => by
    have e := Option.some.inj (by simpa using h)
    exact ⟨p, t, rfl, e.symm⟩
  | _, _, i + 1, _, .cons p t r, h => by
    obtain ⟨q, u, h1, h2⟩ := strs_at (i := i) r (by simpa using h)
    exact ⟨q, u, by simpa using h1, h2⟩
theorem take_snoc {α : Type} {l : List α} {i : Nat} {a : α} (h : l[i]? = some a) : l.take (i + 1) = l.take i ++ [a] := by
  rw [List.take_add_one, h]; rfl
theorem strs_len {vs : List Value} {ws : List Str} (h : StrsAre vs ws) : vs.length = ws.length := by
  induction h with
  | nil => rfl
  | cons _ _ _ ih => simp [ih]
theorem strs_snoc' {us : List Value} {ws : List Str} {x : Str} {t : Tok} (h : StrsAre us ws) : StrsAre (us ++ [.str x t]) (ws ++ [x]) := h.append' (.cons _ _ .nil)
local macro_rules | `(tactic| cell_enter) => `(tactic| (refine' code_defC ?k1 ?k2 ?k3 ?k4 ?k5 ?kA ?kF ?kK ?k6 ?k7 ?k8 ?k9 ?kB ?kD ?_ ?c2 ?c3 ?c4; (case kA => exact rfl); (case kF => exact rfl); (case kK => assumption); (case k1 => k_asm); (case k2 => k_asm); (case k3 => k_asm); (case k4 => k_asm); (case k5 => k_asm); (case k6 => k_is); (case k7 => k_is); (case k8 => ktr_room); (case k9 => exact BindsTo.of_eq rfl); (case kB => exact rfl); (case kD => decide +kernel); (case c2 => exact rfl); (case c3 => exact rfl); (case c4 => exact rfl); k_whole; intro g' L' h' tk' cells' FG' F' N' Y' B' X' T' l1; k_cells Y'; (try simp only [List.cons_append, List.nil_append] at N'); (try dsimp only); (try k_lift B'); (try k_fold)))
local macro_rules | `(tactic| walk_at "call ref") => `(tactic| (k_here; (with_reducible show wpAny _ _ (call (Value.ref _) _ _) _ _ _); refine halt ?_))
local macro_rules | `(tactic| walk_at "CompSrc") => `(tactic| (refine halt ?_))
local macro_rules | `(tactic| walk_at "eval ListComp") => `(tactic| (refine halt ?_))
local macro_rules | `(tactic| walk_at "exec For") => `(tactic| (refine halt ?_))
local macro_rules | `(tactic| walk_at "eval Name") => `(tactic| ((with_reducible show wpAny _ _ (eval (Expr.Name _ _) (compEnvC _ _ _ _)) _ _ _); k_dflt (refine' block_free ?c ?N ?m ?d ?_ ?k ?l ?b; (case c => exact rfl); (case N => k_asm); (case m => k_mem); (case d => with_reducible assumption); (case k => rfl); (case l => rfl); (case b => decide); k_whole)))
set_option maxHeartbeats 8000000 in
theorem parts_con (w : World) (x : Str) (tx : Tok) (news : List (Addr × Obj)) (h1 : x.length ≤ 6) :
    Con w 40 71 [.str x tx] [] news (fun v news' => ∃ d, ∃ vs : List Value, ∃ n, v = .ref d ∧ news' = (d, listOf vs.toArray n) :: news ∧ StrsAre vs (partsOf x.cps.toList) ∧ AllLt d news) := by
  w_top off
  unfold Con
  refine (?_ : (PySem.Challenge.rw_an0014_01 = PySem.Challenge.rw_an0014_01) → _) rfl
  k_fill
  intro _ mean mg mb dp un gd cn cs a ccd cl outer A₀ base h₀ L m s Q E B F X N T hk hd' hu' hret
  refine wpAny_call ?_
  k_dflt cell_enter
  rename_i g1 L1 hp1 tk1 FG1 F0 B1 X1 T1 l1 o1 d1 N1
  k_steps
  with_reducible rename Fr _ _ _ _ => F1
  with_reducible rename News _ _ _ _ => N1
  refine halted ?_
  k_dflt (refine For_str_cell (h₀ := g1) rfl rfl rfl rfl ?_)
  k_steps
  with_unfolding_all refine parts_src F1 N1 (by assumption) ?_ d1 ?_ ?_
  · intro p hp
    have h2 := l1 p hp
    exact Nat.ne_of_lt (Nat.lt_succ_of_lt h2)
  · rintro i ch t d vs k nx h tk oc I oI hi hch hP offI offc hIc hoc F2 N2
    clear F1 N1
    have hP' := hP
    obtain ⟨hd2, hs2, hk2, hl2⟩ := hP'
    have hd3 : (d, listOf vs.toArray k) ∈ (I, oI) :: (L1 + 1, oc) :: nx := .tail _ (.tail _ hd2)
    k_steps
    with_reducible rename Fr _ _ _ _ => F3
    with_reducible rename News _ _ _ _ => N3
    refine halted ?_
    k_dflt (refine LCg.ListComp_U F3 rfl (by decide) rfl (by decide) rfl ?_)
    k_steps
    refine halted ?_
    have hln := strs_len hs2
    have hpl := partsOf_len (x.cps.toList.take i)
    have hps := partsOf_short (x.cps.toList.take i)
    have hpow : 2 ^ (x.cps.toList.take i).length ≤ 2 ^ 6 := Nat.pow_le_pow_right (by decide) (by rw [List.length_take]; omega)
    have hvl : vs.length ≤ 64 := by omega
    have hsz : vs.toArray.size ≤ sizeLine := by
      rw [sizeLine_eq, List.size_toArray]; omega
    k_dflt (refine LCg.CompSrc.ledger rfl F3 N3 hd3 hsz (fun g => comp_inv vs.toArray.size (fun i2 ys nx2 => nx2 = _ ∧ ∃ ws, StrsAre ys ws ∧ ws = ((partsOf (x.cps.toList.take i)).map fun p => p ++ ⟨#[ch]⟩).take i2) (fun i ys nx h => by rw [h.1]; exact .inr ⟨_, hd3, rfl, _, rfl⟩) ?_ ?_ vs.toArray.size 0 [] _ (Nat.zero_add _) ⟨rfl, [], .nil, rfl⟩))
    · rintro i2 ys nx2 v I2 oI2 C oC D m₂ h2 tk2 E' hi2 ⟨rfl, ws, hws, rfl⟩ hPv hC hx F4 N4 off ne
      clear F3 N3
      obtain ⟨p, tp, hp, rfl⟩ := strs_at hs2 (by simpa using hPv)
      k_steps
      have hpm := hps p (List.mem_of_getElem? hp)
      have hpt : (x.cps.toList.take i).length ≤ 6 := by rw [List.length_take]; omega
      refine PyProof.Rows.add_str (fun t' tk' => ?_) (by rw [sizeLine_eq]; show _ + 1 ≤ _; omega)
      k_steps
      with_unfolding_all exact CEnd.intro F4 N4 off ⟨rfl, _, strs_snoc' hws, (take_snoc (by rw [List.getElem?_map, hp]; rfl)).symm⟩
    · rintro ys nx2 ⟨rfl, ws, hws, rfl⟩
      intro D h2 tk2 F4 N4 off2
      clear F3 N3
      k_steps
      have hw : ((partsOf (x.cps.toList.take i)).map fun p => p ++ (⟨#[ch]⟩ : Str)).take vs.toArray.size = (partsOf (x.cps.toList.take i)).map fun p => p ++ (⟨#[ch]⟩ : Str) := List.take_of_length_le (by rw [List.length_map, List.size_toArray]; omega)
      rw [hw] at hws
      have hyl := strs_len hws
      rw [List.length_map] at hyl
      refine add_lists (vs := vs) (ws := ys) F4 N4 (News.isList N4 (.tail _ hd3)) (News.isList N4 (.head _)) ?_ (by rw [sizeLine_eq]; omega)
      intro h5 F5 N5
      have hbig : ∀ p ∈ (D, LCg.lst ys) :: (I, oI) :: (L1 + 1, oc) :: nx, p.1 < _ := fun p hp => Heap.lt_size (N4 p hp).1
      clear F4 N4
      k_steps
      with_reducible rename Fr _ _ _ _ => F6
      with_reducible rename News _ _ _ _ => N6
      have hstrs : StrsAre (vs ++ ys) (partsOf (x.cps.toList.take (i + 1))) := by
        rw [take_snoc (by rw [Array.getElem?_toList]; exact hch), partsOf_snoc]
        exact hs2.append' hws
      with_unfolding_all refine KEnd.intro F6 (nx := (_, listOf (vs ++ ys).toArray 0) :: nx) (fun p hp => N6 p ?_) (Off.cons (Ne.symm (Nat.ne_of_lt (hbig _ (.tail _ (.head _))))) offI) (Off.cons (Ne.symm (Nat.ne_of_lt (hbig _ (.tail _ (.tail _ (.head _)))))) offc) ⟨_, vs ++ ys, 0, ?_, .head _, hstrs, fun p hp => .tail _ (hk2 p hp), allLt_of fun p hp => hbig p (.tail _ (.tail _ (.tail _ (hk2 p hp))))⟩
      · rcases List.mem_cons.mp hp with rfl | hp
        · exact .tail _ (.tail _ (.head _))
        rcases List.mem_cons.mp hp with rfl | hp
        · exact .tail _ (.tail _ (.tail _ (.head _)))
        rcases List.mem_cons.mp hp with rfl | hp
        · exact .head _
        · exact .tail _ (.tail _ (.tail _ (.tail _ hp)))
      · funext z
        by_cases hz : z = Str.ofString "parts"
        · simp only [hz, if_true]
        · simp only [hz, if_false]
  · rintro d vs k nx oc h tk hP F2 N2
    clear F1 N1
    k_steps
    with_reducible rename Fr _ _ _ _ => F3
    with_reducible rename News _ _ _ _ => N3
    refine hret _ _ _ ((d, listOf vs.toArray k) :: news) ⟨d, vs, k, rfl, rfl, ?_, hP.lt⟩ F3 (fun p hp => N3 p ?_)
    · have := hP.txts
      rw [List.take_of_length_le (by show x.cps.size ≤ x.cps.size; exact Nat.le_refl _)] at this
      exact this
    · rcases List.mem_cons.mp hp with rfl | hp
      · exact .tail _ hP.here
      · exact .tail _ (hP.keep _ hp)
end Mine

end

section
open PySem PySem.W PyProof.Rows PySem.Calls PyProof.V
namespace Mine
/-- the length of a longest part of both -/
def IsLcs (a b : Str) (M : Int) : Prop := (∃ p ∈ partsOf a.cps.toList, p ∈ partsOf b.cps.toList ∧ M = (p.length : Int)) ∧ ∀ p ∈ partsOf a.cps.toList, p ∈ partsOf b.cps.toList → (p.length : Int) ≤ M

theorem store_cell {M : Model} {A : Around} {E : Value → Shared → Prop} {s : Shared} {env : Env} {x : Str} {v : Value} {v₀ : Option Value} {Q : Unit → Shared → Prop} {h₀ : Heap} {L c d0 : Addr} {oc od : Obj} {m : Str → Option Value} {rest : List (Addr × Obj)}
    (hk : env.scope.kind = .function) (hl : env.kindOf x = some .cell) (hc : env.cells.lookup x = some c) (F : Fr h₀ L s.heap m) (N : News h₀ L s.heap ((d0, od) :: (c, oc) :: rest)) (hd : oc.data = .cell v₀) (h1 : d0 ≠ c) (h2 : Off c rest)
    (h : ∀ h' oc', oc'.data = .cell (some v) → Fr h₀ L h' m → News h₀ L h' ((c, oc') :: (d0, od) :: rest) → Q () { s with heap := h' }) : wpAny M A (storeName env x v) Q E s := by
  have hN := N (c, oc) (.tail _ (.head _))
  refine wpAny_storeName_cell hk hl hc ⟨_, hN.1, hd⟩ fun h' hcell hs => ?_
  obtain ⟨oc', hoc, hd'⟩ := hcell
  refine h h' oc' hd' (F.change hs hN.2.1 hN.2.2) fun p hp => ?_
  rcases List.mem_cons.mp hp with rfl | hp
  · exact ⟨hoc, hN.2.1, hN.2.2⟩
  rcases List.mem_cons.mp hp with rfl | hp
  · exact ⟨(hs.2 _ h1).trans (N _ (.head _)).1, (N _ (.head _)).2⟩
  · exact ⟨(hs.2 _ (h2 p hp)).trans (N _ (.tail _ (.tail _ hp))).1, (N _ (.tail _ (.tail _ hp))).2⟩

local macro_rules | `(tactic| cell_enter) => `(tactic| (refine' code_defC ?k1 ?k2 ?k3 ?k4 ?k5 ?kA ?kF ?kK ?k6 ?k7 ?k8 ?k9 ?kB ?kD ?_ ?c2 ?c3 ?c4; (case kA => exact rfl); (case kF => exact rfl); (case kK => assumption); (case k1 => k_asm); (case k2 => k_asm); (case k3 => k_asm); (case k4 => k_asm); (case k5 => k_asm); (case k6 => k_is); (case k7 => k_is); (case k8 => ktr_room); (case k9 => exact BindsTo.of_eq rfl); (case kB => exact rfl); (case kD => decide +kernel); (case c2 => exact rfl); (case c3 => exact rfl); (case c4 => exact rfl); k_whole; intro g' L' h' tk' cells' FG' F' N' Y' B' X' T' l1; k_cells Y'; (try simp only [List.cons_append, List.nil_append] at N'); (try dsimp only); (try k_lift B'); (try k_fold)))
local macro_rules | `(tactic| walk_at "call ref") => `(tactic| (k_here; (with_reducible show wpAny _ _ (call (Value.ref _) _ _) _ _ _); refine halt ?_))
local macro_rules | `(tactic| walk_at "CompSrcT") => `(tactic| (refine halt ?_))
local macro_rules | `(tactic| walk_at "eval ListComp") => `(tactic| (refine halt ?_))
local macro_rules | `(tactic| walk_at "eval Name") => `(tactic| ((with_reducible show wpAny _ _ (eval (Expr.Name _ _) (compEnvC _ _ _ _)) _ _ _); k_dflt (refine' block_free ?c ?N ?m ?d ?_ ?k ?l ?b; (case c => exact rfl); (case N => k_asm); (case m => k_mem); (case d => with_reducible assumption); (case k => rfl); (case l => rfl); (case b => decide); k_whole)))
local macro_rules | `(tactic| walk_at "compareOp In str ref") => `(tactic| (refine halt ?_))
def lens (a b : List Str) : List Int := (a.filter fun p => b.any (· == p)).map fun p => (p.length : Int)
theorem lens_true {a b : List Str} {i : Nat} {p : Str} (h : a[i]? = some p) (hb : b.any (· == p) = true) : lens (a.take (i + 1)) b = lens (a.take i) b ++ [(p.length : Int)] := by
  unfold lens
  rw [take_snoc h, List.filter_append, List.map_append]
  simp [hb]
theorem lens_false {a b : List Str} {i : Nat} {p : Str} (h : a[i]? = some p) (hb : b.any (· == p) = false) : lens (a.take (i + 1)) b = lens (a.take i) b := by
  unfold lens
  rw [take_snoc h, List.filter_append, List.map_append]
  simp [hb]
theorem mem_lens {a b : List Str} {n : Int} : n ∈ lens a b ↔ ∃ p ∈ a, p ∈ b ∧ n = (p.length : Int) := by
  unfold lens
  simp only [List.mem_map, List.mem_filter, List.any_eq_true, beq_iff_eq]
  constructor
  · rintro ⟨p, ⟨h1, q, h2, rfl⟩, rfl⟩
    exact ⟨q, h1, h2, rfl⟩
  · rintro ⟨p, h1, h2, rfl⟩
    exact ⟨p, ⟨h1, p, h2, rfl⟩, rfl⟩
theorem empty_part (l : List Nat) : Str.ofString "" ∈ partsOf l := by
  have : ∀ (l : List Nat) (ps : List Str), Str.ofString "" ∈ ps → Str.ofString "" ∈ l.foldl (fun ps ch => ps ++ ps.map fun p => p ++ ⟨#[ch]⟩) ps := by
    intro l
    induction l with
    | nil => intro ps h; exact h
    | cons c r ih => intro ps h; exact ih _ (List.mem_append_left _ h)
  exact this l _ (List.mem_singleton.mpr rfl)
set_option maxHeartbeats 8000000 in
theorem longest_con (w : World) (x y : Str) (tx ty : Tok) (news : List (Addr × Obj)) (h1 : x.length ≤ 6) (h2 : y.length ≤ 6) :
    Con w 60 76 [.str x tx, .str y ty] [] news (fun v news' => ∃ M t, v = .int M t ∧ news' = news ∧ IsLcs x y M) := by
  w_top off
  unfold Con
  refine (?_ : (PySem.Challenge.rw_an0014_01 = PySem.Challenge.rw_an0014_01) → _) rfl
  k_fill
  intro _ mean mg mb dp un gd cn cs a ccd cl outer A₀ base h₀ L m s Q E B F X N T hk hd' hu' hret
  refine wpAny_call ?_
  k_dflt cell_enter
  rename_i g1 L1 hp1 tk1 FG1 F0 B1 X1 T1 l1 o1 d1 N1
  k_steps
  with_reducible rename Fr _ _ _ _ => F1
  with_reducible rename News _ _ _ _ => N1
  refine halted ?_
  k_dflt (refine Con.use (parts_con w y _ _ h2) (by k_asm) F1 (by k_asm) N1 (by k_asm) (by exact rfl) (by ktr_room) (by ktr_units) ?_)
  rintro v' h' tk' news2 ⟨d, vs, n, rfl, rfl, hvs, hlt⟩ F2 N2
  clear F1 N1
  k_steps
  have hoc : Off (L1 + 1) news := fun p hp => Nat.ne_of_lt (Nat.lt_succ_of_lt (l1 p hp))
  k_dflt (refine store_cell rfl rfl rfl F2 N2 d1 (Ne.symm (Nat.ne_of_lt hlt.1)) hoc ?_)
  intro h3 oc hd3 F3 N3
  clear F2 N2
  k_steps
  with_reducible rename Fr _ _ _ _ => F4
  with_reducible rename News _ _ _ _ => N4
  refine halted ?_
  k_dflt (refine LCt.ListComp_T F4 rfl (by decide) rfl (by decide) rfl ?_)
  k_steps
  with_reducible rename Fr _ _ _ _ => F5
  with_reducible rename News _ _ _ _ => N5
  refine halted ?_
  k_dflt (refine Con.use (parts_con w x _ _ h1) (by k_asm) F5 (by k_asm) N5 (by k_asm) (by exact rfl) (by ktr_room) (by ktr_units) ?_)
  rintro v' h' tk' news2 ⟨d2, vs2, n2, rfl, rfl, hvs2, hlt2⟩ F6 N6
  clear F5 N5
  k_steps
  refine halted ?_
  have hln := strs_len hvs2
  have hpl := partsOf_len x.cps.toList
  have hps := partsOf_short x.cps.toList
  have hpow : 2 ^ x.cps.toList.length ≤ 2 ^ 6 := Nat.pow_le_pow_right (by decide) h1
  have hsz : vs2.toArray.size ≤ sizeLine := by
    rw [sizeLine_eq, List.size_toArray]; omega
  k_dflt (refine LCt.CompSrcT.ledger rfl F6 N6 (.head _) hsz (fun g => comp_invT vs2.toArray.size (fun i2 ys nx2 => nx2 = _ ∧ ∃ ns, IntsAre ys ns ∧ ns = lens ((partsOf x.cps.toList).take i2) (partsOf y.cps.toList)) (fun i ys nx h => by rw [h.1]; exact .inr ⟨_, .head _, rfl, _, rfl⟩) ?_ ?_ vs2.toArray.size 0 [] _ (Nat.zero_add _) ⟨rfl, [], .nil, rfl⟩))
  · rintro i2 ys nx2 v I2 oI2 C oC D m₂ hh2 tk2 E' hi2 ⟨rfl, ns, hns, rfl⟩ hPv hC hx F7 N7 off ne
    clear F6 N6
    obtain ⟨p, tp, hp, rfl⟩ := strs_at hvs2 (by simpa using hPv)
    have hpm := hps p (List.mem_of_getElem? hp)
    have hxl : x.cps.toList.length ≤ 6 := h1
    k_steps
    refine halted ?_
    refine in_list_strs (News.isList N7 (.tail _ (.tail _ (.tail _ (.tail _ (.tail _ (.head _))))))) hvs ?_
    cases hb : (partsOf y.cps.toList).any (· == p) with
    | true =>
      k_steps
      with_unfolding_all exact CEnd.intro F7 N7 off ⟨rfl, _, hns.append (.cons _ _ .nil), (lens_true hp hb).symm⟩
    | false =>
      k_steps
      with_unfolding_all exact CEnd.intro F7 N7 off ⟨rfl, _, hns, (lens_false hp hb).symm⟩
  · rintro ys nx2 ⟨rfl, ns, hns, rfl⟩
    intro D hh2 tk2 F7 N7 off2
    clear F6 N6
    k_steps
    have hfull : (partsOf x.cps.toList).take vs2.toArray.size = partsOf x.cps.toList := List.take_of_length_le (by rw [List.size_toArray]; omega)
    rw [hfull] at hns
    have hne : 0 < (lens (partsOf x.cps.toList) (partsOf y.cps.toList)).length := by
      have : ((Str.ofString "").length : Int) ∈ lens (partsOf x.cps.toList) (partsOf y.cps.toList) := mem_lens.mpr ⟨_, empty_part _, empty_part _, rfl⟩
      exact List.length_pos_of_mem this
    refine kso_max F7 N7 (News.isList N7 (.head _)) hns hne rfl ?_
    intro h9 M t9 tk9 F9 N9 hM hmax
    clear F7 N7
    k_steps
    refine hret _ _ _ _ ⟨M, _, rfl, rfl, ?_, fun p hp hq => hmax _ (mem_lens.mpr ⟨p, hp, hq, rfl⟩)⟩ (by k_asm) (fun p hp => ?_)
    · exact mem_lens.mp hM
    · with_reducible rename News _ _ _ _ => N10
      exact N10 p (.tail _ (.tail _ (.tail _ (.tail _ hp))))
end Mine

end

section
open PySem PySem.W PyProof.Rows PySem.Calls
namespace Mine
section
variable {prog : Program} {w : World} {A : Around} {E : Value → Shared → Prop} {s : Shared} {env : Env} {h₀ : Heap} {target : Expr} {body : List Stmt} {Q : Flow → Shared → Prop}

/-- the end of a turn that leaves the ledger as it was -/
def UEnd (h₀ : Heap) (L : Addr) (Jm : (Str → Option Value) → Prop) (led : List (Addr × Obj)) (s₁ : Shared) (f : Flow) (s₂ : Shared) : Prop :=
  f = .next ∧ ∃ h' tk m', s₂ = { s₁ with heap := h', toks := tk } ∧ Fr h₀ L h' m' ∧ News h₀ L h' led ∧ Jm m'
theorem UEnd.intro {L : Addr} {Jm : (Str → Option Value) → Prop} {led : List (Addr × Obj)} {s₁ : Shared} {h' : Heap} {tk : Nat} {m' : Str → Option Value} (F : Fr h₀ L h' m') (N : News h₀ L h' led) (hJ : Jm m') :
    UEnd h₀ L Jm led s₁ .next { s₁ with heap := h', toks := tk } := ⟨rfl, h', tk, m', rfl, F, N, hJ⟩

theorem turns_list {ax : Addr} {refs : List Addr} {n : Nat} {m₀ : Str → Option Value} {news : List (Addr × Obj)} (Jm : (Str → Option Value) → Prop) (hh : A.handled = none) (F : Fr h₀ env.locals s.heap m₀) (N : News h₀ env.locals s.heap news) (hm : (ax, listOf (refs.map Value.ref).toArray n) ∈ news) (hJ : Jm m₀)
    (turn : ∀ D m₁ h tk I oI, D ∈ refs → Jm m₁ → (∀ p ∈ news, p.1 < I) → Fr h₀ env.locals h m₁ → News h₀ env.locals h ((I, oI) :: news) →
      wpAny (model prog w) A (assign target env (.ref D)) (fun _ s₃ => wpAny (model prog w) A (execs body env) (UEnd h₀ env.locals Jm ((I, oI) :: news) { s with heap := h, toks := tk }) E s₃) E { s with heap := h, toks := tk })
    (done : ∀ m₁ h tk, Jm m₁ → Fr h₀ env.locals h m₁ → News h₀ env.locals h news → Q .next { s with heap := h, toks := tk }) :
    wpAny (model prog w) A (pyIter (.ref ax)) (fun it s₂ => TurnsAt prog w A h₀ env target body Q E it s₂) E s := by
  have hax := N _ hm
  have hl : s.heap.IsList ax (refs.map Value.ref).toArray := News.isList N hm
  have hlt : ax < s.heap.objs.size := Heap.lt_size hax.1
  have hne : ax ≠ s.heap.objs.size := Nat.ne_of_lt hlt
  have hbig : ∀ p ∈ news, p.1 < s.heap.objs.size := fun p hp => Heap.lt_size (N p hp).1
  refine wpAny_pyIter_list hl ?_
  refine ⟨s.heap.objs.size, [s.heap.objs.size, ax], [s.heap.objs.size], _, _, _, _, m₀, news, fun _ m nx => nx = news ∧ Jm m, rfl,
    KTurns.ofWalks (Walks.list hh s.heap.objs.size ax hne (refs.map Value.ref).toArray) (fun i v s Q E st q => letGo_listiter st.1 q), ?_, ?_, ?_, ⟨⟨_, Heap.get?_push_size _ rfl, rfl, rfl⟩, hl.at fun o e => Heap.get?_push_of_some _ e⟩, F.push _, (fun p hp => ⟨Heap.get?_push_of_some _ (N p hp).1, (N p hp).2⟩), ⟨rfl, hJ⟩, ?_, ?_⟩
  · intro hI
    rcases List.mem_cons.mp hI with e | hI
    · exact absurd F.ns.lt (e ▸ Nat.lt_irrefl _)
    · exact hax.2.1 (List.mem_singleton.mp hI).symm
  · intro b hb
    rw [List.mem_singleton.mp hb]; exact next_is_new F
  · intro p hp hI
    exact absurd (hbig p hp) ((List.mem_singleton.mp hI) ▸ Nat.lt_irrefl _)
  · rintro i v m₁ news₁ h₁ tk₁ own hi hP ⟨rfl, hJm⟩ hoff hown hheap hmem hst F₁ N₁
    obtain ⟨oI, hoI, _⟩ := hst.1
    have hIown : (s.heap.objs.size, oI) ∈ own := hmem _ (by simp) (next_is_new F) oI hoI
    have N₂ : News h₀ env.locals h₁ ((s.heap.objs.size, oI) :: news₁) := fun p hp => N₁ p (by
      rcases List.mem_cons.mp hp with rfl | hp
      · exact List.mem_append.mpr (.inl hIown)
      · exact List.mem_append.mpr (.inr hp))
    have hv : ∃ D ∈ refs, v = .ref D := by
      have hP' : (refs.map Value.ref).toArray[i]? = some v := hP
      rw [List.getElem?_toArray, List.getElem?_map] at hP'
      cases e : refs[i]? with
      | none => rw [e] at hP'; cases hP'
      | some D =>
        rw [e] at hP'
        exact ⟨D, List.mem_of_getElem? e, (Option.some.inj hP').symm⟩
    obtain ⟨D, hD, rfl⟩ := hv
    refine wpAny_mono (turn D m₁ h₁ tk₁ _ oI hD hJm hbig F₁ N₂) (fun _ s₃ h₃ => wpAny_mono h₃ (fun f s₄ h₄ => ?_) fun _ _ e => e) fun _ _ e => e
    obtain ⟨rfl, h', tk, m', rfl, F', N', hJ'⟩ := h₄
    refine LoopStepV.next ⟨rfl, h', tk, m', news₁, rfl, F', fun p hp => ?_, hoff, rfl, hJ'⟩
    rcases List.mem_append.mp hp with hp | hp
    · have h5 := hown p hp
      have h6 := hheap p hp
      rcases List.mem_cons.mp h5 with e | h5
      · rw [e, hoI] at h6
        have : p = (s.heap.objs.size, oI) := Prod.ext e (Option.some.inj h6).symm
        rw [this]; exact N' _ (.head _)
      · have e := List.mem_singleton.mp h5
        have h7 := (N₂ _ (.tail _ hm)).1
        rw [e] at h6
        have h8 : h₁.get? ax = some (listOf (refs.map Value.ref).toArray n) := h7
        rw [h8] at h6
        have : p = (ax, listOf (refs.map Value.ref).toArray n) := Prod.ext e (Option.some.inj h6).symm
        rw [this]; exact N' _ (.tail _ hm)
    · exact N' p (.tail _ hp)
  · rintro h' tk m' news' F' N' _ ⟨rfl, hJ'⟩
    exact done m' h' tk hJ' F' N'
end

theorem rev_slice (x : Str) (u : Tok) : Txt.sliceBy x none none (-1, u) = ⟨x.cps.reverse⟩ := by
  refine Str.ext' (Array.toList_inj.mp ?_)
  rw [step_rev_list, Array.toList_reverse]
  refine List.ext_getElem (by simp [PySem.Str.length]) fun i h1 h2 => ?_
  have h3 : i < x.cps.size := by simpa using h2
  simp only [List.getElem_map, List.getElem_range, List.getElem_reverse]
  have h4 : x.length - 1 - i < x.cps.size := by show x.cps.size - 1 - i < _; omega
  rw [Array.getD_eq_getD_getElem?, Array.getElem?_eq_getElem h4]
  simp [PySem.Str.length]
end Mine

end

section
open PySem PySem.W PyProof.Rows PySem.Calls PyProof.V
namespace Mine
theorem told_con4 (w : World) (s1 s2 : Str) (t1 t2 : Tok) (news : List (Addr × Obj)) (h1 : s1.length ≤ 1000) (h2 : s2.length ≤ 1000) :
    Con w 60 81 [.str s1 t1, .str s2 t2] [] news (fun v news' => ∃ d n u0 u1 u2 u3, v = .ref d ∧ news' = (d, listOf #[.int (edN s1 s2 0 false) u0, .int (edN s1 s2 1 false) u1, .int (edN s1 s2 2 false) u2, .int (edN s1 s2 1 true) u3] n) :: news ∧ AllLt d news) := by
  intro mean mg mb dp un gd cn cs a ccd cl outer A₀ base h₀ L m s Q E B F X N T hk hd' hu' hret
  refine Con.use (told_con w s1 s2 t1 t2 news h1 h2) B F X N T hk hd' hu' ?_
  rintro v h' tk' news' ⟨d, vs, n, rfl, rfl, hvs, hlt⟩ F' N'
  unfold told4 at hvs
  cases hvs with | cons _ u0 h => cases h with | cons _ u1 h => cases h with | cons _ u2 h => cases h with | cons _ u3 h => cases h with
  | nil => exact hret _ _ _ _ ⟨d, n, u0, u1, u2, u3, rfl, rfl, hlt⟩ F' N'
local macro_rules | `(tactic| walk_at "call ref") => `(tactic| (k_here; (with_reducible show wpAny _ _ (call (Value.ref _) _ _) _ _ _); refine halt ?_))
def rev (a : Str) : Str := ⟨a.cps.reverse⟩
/-- what is asked of a pair, in plain words -/
structure PairFacts (a b c : Str) : Prop where
  f0 : edN a b 0 false = max (a.length : Int) b.length - min (a.length : Int) b.length
  f2 : ∀ M, IsLcs a b M → edN a b 2 false = (a.length : Int) + b.length - 2 * M
  le1 : edN a b 0 false ≤ edN a b 1 false
  le2 : edN a b 1 false ≤ edN a b 2 false
  mx : edN a b 1 false ≤ max (a.length : Int) b.length
  sw1 : edN a b 1 true ≤ edN a b 1 false
  sw2 : edN a b 1 false ≤ 2 * edN a b 1 true
  zero : edN a b 1 false = 0 ↔ a = b
  sym : ∀ k : Int, k = 0 ∨ k = 1 ∨ k = 2 → edN b a k false = edN a b k false
  rv : ∀ k : Int, k = 0 ∨ k = 1 ∨ k = 2 → edN (rev a) (rev b) k false = edN a b k false
  pre : ∀ k : Int, k = 0 ∨ k = 1 ∨ k = 2 → edN (c ++ a) (c ++ b) k false = edN a b k false
  suf : ∀ k : Int, k = 0 ∨ k = 1 ∨ k = 2 → edN (a ++ c) (b ++ c) k false = edN a b k false
  symT : edN b a 1 true = edN a b 1 true
  rvT : edN (rev a) (rev b) 1 true = edN a b 1 true
theorem PairFacts.f0' {a b c : Str} (h : PairFacts a b c) : edN a b 0 false = (if (b.length : Int) > a.length then (b.length : Int) else a.length) - if (b.length : Int) < a.length then (b.length : Int) else a.length := by
  rw [h.f0]
  split <;> split <;> omega
def mfT (m u : Str → Option Value) (y : Str) : Option Value := if y = Str.ofString "one" then u y else if y = Str.ofString "other" then u y else m y
theorem mfT_start (m : Str → Option Value) : m = mfT m m := by
  funext y
  unfold mfT
  repeat' split
  all_goals rfl
theorem mfT_close {m m' : Str → Option Value} (h : ∀ y, y ≠ Str.ofString "one" → y ≠ Str.ofString "other" → m' y = m y) : m' = mfT m m' := by
  funext y
  unfold mfT
  by_cases a : y = Str.ofString "one"
  · rw [if_pos a]
  by_cases b : y = Str.ofString "other"
  · rw [if_neg a, if_pos b]
  rw [if_neg a, if_neg b]
  exact h y a b
/-- a pair whose first three distances are those of a, b -/
structure Same3 (a b x y : Str) : Prop where
  l1 : x.length ≤ 6
  l2 : y.length ≤ 6
  e : ∀ k : Int, k = 0 ∨ k = 1 ∨ k = 2 → edN x y k false = edN a b k false
section
variable {prog : Program} {w : World} {A : Around} {E : Value → Shared → Prop} {s : Shared} {env : Env} {h₀ : Heap} {target : Expr} {body : List Stmt} {Q : Flow → Shared → Prop}
theorem pair_turns {ax d : Addr} {od : Obj} {refs : List Addr} {n : Nat} {m₀ : Str → Option Value} {news rest : List (Addr × Obj)} (a b : Str) (hh : A.handled = none) (F : Fr h₀ env.locals s.heap m₀) (N : News h₀ env.locals s.heap news) (hm : (ax, listOf (refs.map Value.ref).toArray n) ∈ news)
    (hd : (d, od) ∈ news) (hT : ∀ D ∈ refs, ∃ x y tx ty, (D, tupObj #[.str x tx, .str y ty]) ∈ news ∧ Same3 a b x y) (hr : ∀ p ∈ rest, p ∈ news)
    (turn : ∀ D (m₁ : Str → Option Value) h tk I oI x y tx ty, (D, tupObj #[.str x tx, .str y ty]) ∈ (I, oI) :: news → Same3 a b x y → Fr h₀ env.locals h (mfT m₀ m₁) → News h₀ env.locals h ((I, oI) :: news) →
      wpAny (model prog w) A (assign target env (.ref D)) (fun _ s₃ => wpAny (model prog w) A (execs body env) (UEnd h₀ env.locals (fun m => ∃ u, m = mfT m₀ u) ((I, oI) :: news) { s with heap := h, toks := tk }) E s₃) E { s with heap := h, toks := tk })
    (done : ∀ m₁ h tk, Fr h₀ env.locals h (mfT m₀ m₁) → News h₀ env.locals h ((d, od) :: rest) → Q .next { s with heap := h, toks := tk }) :
    wpAny (model prog w) A (pyIter (.ref ax)) (fun it s₂ => TurnsAt prog w A h₀ env target body Q E it s₂) E s := by
  refine turns_list (fun m => ∃ u, m = mfT m₀ u) hh F N hm ⟨_, mfT_start _⟩ ?_ ?_
  · rintro D _ h tk I oI hD ⟨m₁, rfl⟩ _ F' N'
    obtain ⟨x, y, tx, ty, hx, hs⟩ := hT D hD
    exact turn D m₁ h tk I oI x y tx ty (.tail _ hx) hs F' N'
  · rintro _ h tk ⟨m₁, rfl⟩ F' N'
    refine done m₁ h tk F' fun p hp => N' p ?_
    rcases List.mem_cons.mp hp with rfl | hp
    · exact hd
    · exact hr p hp
end
local macro_rules | `(tactic| walk_at "pyIter ref") => `(tactic| (k_here; (with_reducible show wpAny _ _ (pyIter (Value.ref _)) (fun it s₂ => TurnsAt _ _ _ _ _ _ _ _ _ it s₂) _ _); refine halt ?_))
local macro_rules | `(tactic| walk_at "execs nil") => `(tactic| (k_here; refine wpAny_execs_nil ?_))
local macro_rules | `(tactic| walk_at "execs cons") => `(tactic| (k_here; refine wpAny_execs_cons ?_))
set_option maxHeartbeats 8000000 in
theorem pair_con (w : World) (a b c : Str) (ta tb tc : Tok) (news : List (Addr × Obj)) (h1 : a.length ≤ 5) (h2 : b.length ≤ 5) (h3 : c.length = 1) (PF : PairFacts a b c) :
    Con w 80 88 [.str a ta, .str b tb, .str c tc] [] news (fun v news' => v = .bool true ∧ news' = news) := by
  w_top off
  unfold Con
  refine (?_ : (PySem.Challenge.rw_an0014_01 = PySem.Challenge.rw_an0014_01) → _) rfl
  k_fill
  intro _ mean mg mb dp un gd cn cs a0 ccd cl outer A₀ base h₀ L m s Q E B F X N T hk hd' hu' hret
  refine wpAny_call ?_
  k_dflt cell_enter
  k_steps
  with_reducible rename Fr _ _ _ _ => F1
  with_reducible rename News _ _ _ _ => N1
  refine halted ?_
  k_dflt (refine Con.use (told_con4 w a b _ _ _ (by omega) (by omega)) (by k_asm) F1 (by k_asm) N1 (by k_asm) (by exact rfl) (by ktr_room) (by ktr_units) ?_)
  rintro v' h' tk' news2 ⟨d, n, u0, u1, u2, u3, rfl, rfl, hlt⟩ F2 N2
  clear F1 N1
  k_steps
  · with_reducible rename ¬ (_ = _) => hx
    exact absurd PF.f0' hx
  with_reducible rename Fr _ _ _ _ => F1
  with_reducible rename News _ _ _ _ => N1
  refine halted ?_
  k_dflt (refine Con.use (longest_con w a b _ _ _ (by omega) (by omega)) (by k_asm) F1 (by k_asm) N1 (by k_asm) (by exact rfl) (by ktr_room) (by ktr_units) ?_)
  rintro v' h' tk' news2 ⟨M, tM, rfl, rfl, hM⟩ F2 N2
  clear F1 N1
  have f2 : [edN a b 0 false, edN a b 1 false, edN a b 2 false, edN a b 1 true].getD (Int.toNat 2) 0 = (a.length : Int) + b.length - 2 * M := PF.f2 M hM
  have le1 : [edN a b 0 false, edN a b 1 false, edN a b 2 false, edN a b 1 true].getD (Int.toNat 0) 0 ≤ [edN a b 0 false, edN a b 1 false, edN a b 2 false, edN a b 1 true].getD (Int.toNat 1) 0 := PF.le1
  have le2 : [edN a b 0 false, edN a b 1 false, edN a b 2 false, edN a b 1 true].getD (Int.toNat 1) 0 ≤ [edN a b 0 false, edN a b 1 false, edN a b 2 false, edN a b 1 true].getD (Int.toNat 2) 0 := PF.le2
  have sw1 : [edN a b 0 false, edN a b 1 false, edN a b 2 false, edN a b 1 true].getD (Int.toNat 3) 0 ≤ [edN a b 0 false, edN a b 1 false, edN a b 2 false, edN a b 1 true].getD (Int.toNat 1) 0 := PF.sw1
  have sw2 : [edN a b 0 false, edN a b 1 false, edN a b 2 false, edN a b 1 true].getD (Int.toNat 1) 0 ≤ 2 * [edN a b 0 false, edN a b 1 false, edN a b 2 false, edN a b 1 true].getD (Int.toNat 3) 0 := PF.sw2
  have mx : ¬ (if (b.length : Int) > a.length then (b.length : Int) else a.length) < [edN a b 0 false, edN a b 1 false, edN a b 2 false, edN a b 1 true].getD (Int.toNat 1) 0 := by
    have := PF.mx
    show ¬ (if (b.length : Int) > a.length then (b.length : Int) else a.length) < edN a b 1 false
    split <;> omega
  have zr : (([edN a b 0 false, edN a b 1 false, edN a b 2 false, edN a b 1 true].getD (Int.toNat 1) 0 == 0) != (a == b)) = false := by
    have := PF.zero
    show ((edN a b 1 false == 0) != (a == b)) = false
    by_cases h : a = b
    · rw [this.mpr h, beq_iff_eq.mpr h]; rfl
    · rw [beq_eq_false_iff_ne.mpr h, beq_eq_false_iff_ne.mpr fun e => h (this.mp e)]; rfl
  k_steps
  · with_reducible rename _ ≠ _ => hx
    exact absurd f2 hx
  with_reducible rename Fr _ _ _ _ => F1
  with_reducible rename News _ _ _ _ => N1
  refine halted ?_
  k_dflt (refine pair_turns a b rfl F1 N1 (.head _) (refs := [_, _, _, _]) (.tail _ (.tail _ (.tail _ (.tail _ (.tail _ (.head _)))))) ?_ (fun p hp => .tail _ (.tail _ (.tail _ (.tail _ (.tail _ (.tail _ hp)))))) ?_ ?_)
  · intro D hD
    rcases List.mem_cons.mp hD with rfl | hD
    · refine ⟨_, _, _, _, (.tail _ (.tail _ (.tail _ (.tail _ (.head _))))), ⟨by omega, by omega, fun k hk => PF.sym k hk⟩⟩
    rcases List.mem_cons.mp hD with rfl | hD
    · refine ⟨_, _, _, _, (.tail _ (.tail _ (.tail _ (.head _)))), ?_⟩
      rw [rev_slice, rev_slice]
      exact ⟨by show Array.size _ ≤ 6; rw [Array.size_reverse]; show a.length ≤ 6; omega, by show Array.size _ ≤ 6; rw [Array.size_reverse]; show b.length ≤ 6; omega, fun k hk => PF.rv k hk⟩
    rcases List.mem_cons.mp hD with rfl | hD
    · refine ⟨_, _, _, _, (.tail _ (.tail _ (.head _))), ⟨by omega, by omega, fun k hk => PF.pre k hk⟩⟩
    rcases List.mem_cons.mp hD with rfl | hD
    · refine ⟨_, _, _, _, (.tail _ (.head _)), ⟨by omega, by omega, fun k hk => PF.suf k hk⟩⟩
    cases hD
  · intro D m₁ h tk I oI x y tx ty hD hS F2 N2
    clear F1 N1
    k_steps
    with_reducible rename Fr _ _ _ _ => F1
    with_reducible rename News _ _ _ _ => N1
    refine halted ?_
    have hx := hS.l1
    have hy := hS.l2
    k_dflt (refine Con.use (told_con4 w x y _ _ _ (by omega) (by omega)) (by k_asm) F1 (by k_asm) N1 (by k_asm) (by exact rfl) (by ktr_room) (by ktr_units) ?_)
    rintro v' h' tk' news2 ⟨d2, n2, v0, v1, v2, v3, rfl, rfl, hlt2⟩ F2 N2
    clear F1 N1
    k_steps
    · with_reducible rename Fr _ _ _ _ => F1
      with_reducible rename News _ _ _ _ => N1
      refine UEnd.intro F1 (fun p hp => N1 p (.tail _ (.tail _ (.tail _ hp)))) ⟨_, mfT_close fun y h1 h2 => ?_⟩
      show (if _ then _ else if _ then _ else mfT _ _ y) = _
      rw [if_neg h2, if_neg h1]
      unfold mfT
      rw [if_neg h1, if_neg h2]
    · with_reducible rename ¬ (_ = _) => hx
      refine absurd ?_ hx
      rw [hS.e 0 (.inl rfl), hS.e 1 (.inr (.inl rfl)), hS.e 2 (.inr (.inr rfl))]
  · intro m₁ h tk F2 N2
    clear F1 N1
    k_steps
    with_reducible rename Fr _ _ _ _ => F1
    with_reducible rename News _ _ _ _ => N1
    refine halted ?_
    k_dflt (refine Con.use (told_con4 w b a _ _ _ (by omega) (by omega)) (by k_asm) F1 (by k_asm) N1 (by k_asm) (by exact rfl) (by ktr_room) (by ktr_units) ?_)
    rintro v' h' tk' news2 ⟨d2, n2, v0, v1, v2, v3, rfl, rfl, hlt2⟩ F2 N2
    clear F1 N1
    have st : edN b a 1 true = [edN a b 0 false, edN a b 1 false, edN a b 2 false, edN a b 1 true].getD (Int.toNat 3) 0 := PF.symT
    k_steps
    rotate_left
    · with_reducible rename _ ≠ _ => hx
      exact absurd st hx
    with_reducible rename Fr _ _ _ _ => F1
    with_reducible rename News _ _ _ _ => N1
    refine halted ?_
    have hsl : ∀ (x : Str) u, (Txt.sliceBy x none none (-1, u)).length = x.length := fun x u => by rw [rev_slice]; exact Array.size_reverse
    k_dflt (refine Con.use (told_con4 w _ _ _ _ _ ?hl1 ?hl2) (by k_asm) F1 (by k_asm) N1 (by k_asm) (by exact rfl) (by ktr_room) (by ktr_units) ?_)
    case hl1 => rw [hsl]; omega
    case hl2 => rw [hsl]; omega
    rintro v' h' tk' news2 ⟨d3, n3, w0, w1, w2, w3, rfl, rfl, hlt3⟩ F2 N2
    clear F1 N1
    have st2 : ∀ u u', edN (Txt.sliceBy a none none (-1, u)) (Txt.sliceBy b none none (-1, u')) 1 true = [edN a b 0 false, edN a b 1 false, edN a b 2 false, edN a b 1 true].getD (Int.toNat 3) 0 := fun u u' => by
      rw [rev_slice, rev_slice]; exact PF.rvT
    k_steps
    with_reducible rename Fr _ _ _ _ => F1
    with_reducible rename News _ _ _ _ => N1
    exact hret _ _ _ _ ⟨by rw [st2]; exact congrArg _ (beq_self_eq_true _), rfl⟩ F1 (fun p hp => N1 p (.tail _ (.tail _ (.tail _ hp))))
end Mine

end

section
open PySem PySem.W PyProof.Rows PySem.Calls PyProof.V
namespace Mine
local macro_rules | `(tactic| walk_at "idle 3") => `(tactic| skip)
structure LawFacts (a b c : Str) : Prop where
  t1 : edN a c 1 false ≤ edN a b 1 false + edN b c 1 false
  t2 : edN a c 2 false ≤ edN a b 2 false + edN b c 2 false
  t3 : edN a c 1 true ≤ edN a b 1 true + edN b c 1 true
  z : ∀ k : Int, k = 0 ∨ k = 1 ∨ k = 2 → edN a a k false = 0
  zT : edN a a 1 true = 0
theorem TapeIn.start {tp ca : Addr} {ws : List Value} {ns : List Int} {t : Tok} {n1 n2 : Nat} {rest : List (Addr × Obj)} (h : IntsAre ws ns) (h3 : 3 ≤ ns.length) (h4 : ns.length ≤ 100) (lt : @LT.lt Nat _ ca tp) :
    TapeIn ((tp, listOf #[.ref ca, .int 0 t] n1) :: (ca, listOf ws.toArray n2) :: rest) tp ca 0 :=
  ⟨⟨ws, ns, t, n1, n2, .head _, .tail _ (.head _), h, h3, h4, Nat.ne_of_gt lt⟩, Int.le_refl _⟩
local macro_rules | `(tactic| walk_at "call ref") => `(tactic| (k_here; (first | (with_reducible show wpAny _ _ (call (Value.ref 66) _ _) _ _ _) | (with_reducible show wpAny _ _ (call (Value.ref 61) _ _) _ _ _) | (with_reducible show wpAny _ _ (call (Value.ref 88) _ _) _ _ _) | (with_reducible show wpAny _ _ (call (Value.ref 81) _ _) _ _ _)); refine halt ?_))
theorem law_ite1 {a b c : Str} (lf : LawFacts a b c) {p q : Prop} (hq : q) : if decide ([edN a b 0 false, edN a b 1 false, edN a b 2 false, edN a b 1 true].getD (Int.toNat 1) 0 + [edN b c 0 false, edN b c 1 false, edN b c 2 false, edN b c 1 true].getD (Int.toNat 1) 0 < [edN a c 0 false, edN a c 1 false, edN a c 2 false, edN a c 1 true].getD (Int.toNat 1) 0) = true then p else q :=
  ite_isFalse (decide_eq_false (Int.not_lt.mpr lf.t1)) hq
theorem law_ite2 {a b c : Str} (lf : LawFacts a b c) {p q : Prop} (hq : q) : if decide ([edN a b 0 false, edN a b 1 false, edN a b 2 false, edN a b 1 true].getD (Int.toNat 2) 0 + [edN b c 0 false, edN b c 1 false, edN b c 2 false, edN b c 1 true].getD (Int.toNat 2) 0 < [edN a c 0 false, edN a c 1 false, edN a c 2 false, edN a c 1 true].getD (Int.toNat 2) 0) = true then p else q :=
  ite_isFalse (decide_eq_false (Int.not_lt.mpr lf.t2)) hq
theorem law_ite3 {a b c : Str} (lf : LawFacts a b c) {p q : Prop} (hq : q) : if decide ([edN a b 0 false, edN a b 1 false, edN a b 2 false, edN a b 1 true].getD (Int.toNat 3) 0 + [edN b c 0 false, edN b c 1 false, edN b c 2 false, edN b c 1 true].getD (Int.toNat 3) 0 < [edN a c 0 false, edN a c 1 false, edN a c 2 false, edN a c 1 true].getD (Int.toNat 3) 0) = true then p else q :=
  ite_isFalse (decide_eq_false (Int.not_lt.mpr lf.t3)) hq
local macro_rules | `(tactic| walk_at "ite") => `(tactic| (k_here; (with_reducible rename LawFacts _ _ _ => hqq); (with_reducible show (if decide (_ + _ < _) = true then _ else _)); with_reducible first | refine law_ite1 hqq ?_ | refine law_ite2 hqq ?_ | refine law_ite3 hqq ?_))
local macro_rules | `(tactic| walk_at "execs nil") => `(tactic| (k_here; (with_reducible rename LawFacts _ _ _ => hqq); refine wpAny_execs_nil ?_))
local macro_rules | `(tactic| walk_at "execs cons") => `(tactic| (k_here; (with_reducible rename LawFacts _ _ _ => hqq); refine wpAny_execs_cons ?_))
set_option maxHeartbeats 8000000 in
theorem law_walk (PF : ∀ a b c : Str, a.length ≤ 5 → b.length ≤ 5 → c.length = 1 → PairFacts a b c) (LF : ∀ a b c : Str, a.length ≤ 5 → b.length ≤ 5 → c.length ≤ 5 → LawFacts a b c) :
    PySem.Challenge.rw_an0014_01.Holds := hd (by
  k_go0
  all_goals try k_fold
  k_steps
  with_reducible rename Fr _ _ _ _ => F1
  with_reducible rename News _ _ _ _ => N1
  with_reducible rename IntsAre _ (_ ++ _) => hcs
  with_reducible rename _ ∧ _ => hlts
  refine halted ?_
  k_dflt (refine Con.use (word_con _ _ _ 0 _ (TapeIn.start hcs (by simp) (by simp; omega) hlts.1) (by decide)) (by k_asm) F1 (by k_asm) N1 (by k_asm) (by exact rfl) (by ktr_room) (by ktr_units) ?_)
  rintro v' h' tk' news1 ⟨a, ta, k1, rfl, ha, hk1, hT1, hm1⟩ F2 N2
  clear F1 N1
  k_steps
  with_reducible rename Fr _ _ _ _ => F1
  with_reducible rename News _ _ _ _ => N1
  refine halted ?_
  k_dflt (refine Con.use (word_con _ _ _ k1 _ hT1 (by omega)) (by k_asm) F1 (by k_asm) N1 (by k_asm) (by exact rfl) (by ktr_room) (by ktr_units) ?_)
  rintro v' h' tk' news2 ⟨b, tb, k2, rfl, hb, hk2, hT2, hm2⟩ F2 N2
  clear F1 N1
  k_steps
  with_reducible rename Fr _ _ _ _ => F1
  with_reducible rename News _ _ _ _ => N1
  refine halted ?_
  k_dflt (refine Con.use (word_con _ _ _ k2 _ hT2 (by omega)) (by k_asm) F1 (by k_asm) N1 (by k_asm) (by exact rfl) (by ktr_room) (by ktr_units) ?_)
  rintro v' h' tk' news3 ⟨c, tc, k3, rfl, hc, hk3, hT3, hm3⟩ F2 N2
  clear F1 N1
  k_steps
  with_reducible rename Fr _ _ _ _ => F1
  with_reducible rename News _ _ _ _ => N1
  refine halted ?_
  k_dflt (refine Con.use (take_con _ _ _ k3 3 _ _ (hT3.mono fun p hp _ => .tail _ hp) (by omega) (by decide) (by decide)) (by k_asm) F1 (by k_asm) N1 (by k_asm) (by exact rfl) (by ktr_room) (by ktr_units) ?_)
  rintro v' h' tk' news4 ⟨r, tr, rfl, hr0, hr3, hT4, hm4⟩ F2 N2
  clear F1 N1
  k_steps
  with_reducible rename Str.length _ = 1 => hl1
  with_reducible rename Fr _ _ _ _ => F1
  with_reducible rename News _ _ _ _ => N1
  refine halted ?_
  k_dflt (refine Con.use (pair_con _ a b _ _ _ _ _ ha hb hl1 (PF a b _ ha hb hl1)) (by k_asm) F1 (by k_asm) N1 (by k_asm) (by exact rfl) (by ktr_room) (by ktr_units) ?_)
  rintro v' h' tk' news5 ⟨rfl, rfl⟩ F2 N2
  clear F1 N1
  k_steps
  with_reducible rename Fr _ _ _ _ => F1
  with_reducible rename News _ _ _ _ => N1
  refine halted ?_
  k_dflt (refine Con.use (told_con4 _ a b _ _ _ (by omega) (by omega)) (by k_asm) F1 (by k_asm) N1 (by k_asm) (by exact rfl) (by ktr_room) (by ktr_units) ?_)
  rintro v' h' tk' news5 ⟨d0, n0, u00, u01, u02, u03, rfl, rfl, hlt0⟩ F2 N2
  clear F1 N1
  k_steps
  with_reducible rename Fr _ _ _ _ => F1
  with_reducible rename News _ _ _ _ => N1
  refine halted ?_
  k_dflt (refine Con.use (told_con4 _ b c _ _ _ (by omega) (by omega)) (by k_asm) F1 (by k_asm) N1 (by k_asm) (by exact rfl) (by ktr_room) (by ktr_units) ?_)
  rintro v' h' tk' news5 ⟨d1, n1, u10, u11, u12, u13, rfl, rfl, hlt1⟩ F2 N2
  clear F1 N1
  k_steps
  with_reducible rename Fr _ _ _ _ => F1
  with_reducible rename News _ _ _ _ => N1
  refine halted ?_
  k_dflt (refine Con.use (told_con4 _ a c _ _ _ (by omega) (by omega)) (by k_asm) F1 (by k_asm) N1 (by k_asm) (by exact rfl) (by ktr_room) (by ktr_units) ?_)
  rintro v' h' tk' news5 ⟨d2, n2, u20, u21, u22, u23, rfl, rfl, hlt2⟩ F2 N2
  clear F1 N1
  have lf := LF a b c ha hb hc
  clear hm1 hm2 hm3 hm4 hT1 hT2 hT3 hT4 hcs hlts PF
  k_steps
  with_reducible rename Fr _ _ _ _ => F1
  with_reducible rename News _ _ _ _ => N1
  refine halted ?_
  k_dflt (refine Con.use (told_con4 _ a a _ _ _ (by omega) (by omega)) (by k_asm) F1 (by k_asm) N1 (by k_asm) (by exact rfl) (by ktr_room) (by ktr_units) ?_)
  rintro v' h' tk' news5 ⟨d3, n3, u30, u31, u32, u33, rfl, rfl, hlt3⟩ F2 N2
  clear F1 N1
  have za := LF a a a ha ha ha
  rw [za.z 0 (.inl rfl), za.z 1 (.inr (.inl rfl)), za.z 2 (.inr (.inr rfl)), za.zT] at N2
  clear za
  k_steps)
end Mine

end

section
namespace Mine

/-- the ways to turn one list into another, with what they cost -/
inductive Al (c : Nat) (tr : Bool) : List Nat → List Nat → Nat → Prop where
  | nil : Al c tr [] [] 0
  | del (x : Nat) {a b : List Nat} {k : Nat} : Al c tr a b k → Al c tr (x :: a) b (k + 1)
  | ins (y : Nat) {a b : List Nat} {k : Nat} : Al c tr a b k → Al c tr a (y :: b) (k + 1)
  | mat (x : Nat) {a b : List Nat} {k : Nat} : Al c tr a b k → Al c tr (x :: a) (x :: b) k
  | sub (x y : Nat) {a b : List Nat} {k : Nat} : Al c tr a b k → Al c tr (x :: a) (y :: b) (k + c)
  | blk (h : tr = true) (x y : Nat) (u v : List Nat) {a b : List Nat} {k : Nat} : Al c tr a b k → Al c tr (x :: (u ++ y :: a)) (y :: (v ++ x :: b)) (k + (u.length + v.length + 1))

namespace Al
variable {c : Nat} {tr : Bool} {a b d a' b' : List Nat} {k l k' : Nat}

theorem cast (h : Al c tr a b k) (e : k = k') : Al c tr a b k' := e ▸ h

theorem append (h : Al c tr a b k) (h' : Al c tr a' b' k') : Al c tr (a ++ a') (b ++ b') (k + k') := by
  induction h with
  | nil => exact h'.cast (by omega)
  | del x _ ih => exact (Al.del x ih).cast (by omega)
  | ins y _ ih => exact (Al.ins y ih).cast (by omega)
  | mat x _ ih => exact (Al.mat x ih).cast (by omega)
  | sub x y _ ih => exact (Al.sub x y ih).cast (by omega)
  | blk h x y u v _ ih =>
    have := Al.blk h x y u v ih
    simp only [List.cons_append, List.append_assoc] at this ⊢
    exact this.cast (by omega)

theorem symm (h : Al c tr a b k) : Al c tr b a k := by
  induction h with
  | nil => exact .nil
  | del x _ ih => exact .ins x ih
  | ins y _ ih => exact .del y ih
  | mat x _ ih => exact .mat x ih
  | sub x y _ ih => exact .sub y x ih
  | blk h x y u v _ ih => exact (Al.blk h y x v u ih).cast (by omega)

theorem reverse (h : Al c tr a b k) : Al c tr a.reverse b.reverse k := by
  induction h with
  | nil => exact .nil
  | del x _ ih => rw [List.reverse_cons]; simpa using ih.append (Al.del x .nil)
  | ins y _ ih => rw [List.reverse_cons]; simpa using ih.append (Al.ins y .nil)
  | mat x _ ih => rw [List.reverse_cons, List.reverse_cons]; simpa using ih.append (Al.mat x .nil)
  | sub x y _ ih => rw [List.reverse_cons, List.reverse_cons]; simpa using ih.append (Al.sub x y .nil)
  | blk h x y u v _ ih =>
    have := ih.append (Al.blk h y x u.reverse v.reverse .nil)
    simp only [List.reverse_cons, List.reverse_append, List.append_assoc, List.length_reverse, List.cons_append, List.nil_append] at this ⊢
    exact this.cast (by omega)

theorem dels : ∀ (u : List Nat), Al c tr a b k → Al c tr (u ++ a) b (k + u.length)
  | [], h => h
  | x :: u, h => Al.del x (dels u h)
theorem inss : ∀ (u : List Nat), Al c tr a b k → Al c tr a (u ++ b) (k + u.length)
  | [], h => h
  | x :: u, h => Al.ins x (inss u h)
theorem refl : ∀ (a : List Nat), Al c tr a a 0
  | [] => .nil
  | x :: a => .mat x (refl a)
theorem of_plain (h : Al c false a b k) : Al c true a b k := by
  induction h with
  | nil => exact .nil
  | del x _ ih => exact .del x ih
  | ins y _ ih => exact .ins y ih
  | mat x _ ih => exact .mat x ih
  | sub x y _ ih => exact .sub x y ih
  | blk h => cases h
theorem mono {c' : Nat} (hc : c' ≤ c) (h : Al c false a b k) : ∃ k', k' ≤ k ∧ Al c' false a b k' := by
  induction h with
  | nil => exact ⟨0, Nat.le_refl _, .nil⟩
  | del x _ ih => obtain ⟨k', h, t⟩ := ih; exact ⟨_, by omega, .del x t⟩
  | ins y _ ih => obtain ⟨k', h, t⟩ := ih; exact ⟨_, by omega, .ins y t⟩
  | mat x _ ih => obtain ⟨k', h, t⟩ := ih; exact ⟨_, by omega, .mat x t⟩
  | sub x y _ ih => obtain ⟨k', h, t⟩ := ih; exact ⟨_, by omega, .sub x y t⟩
  | blk h => cases h
/-- a plain way costs at most twice the way with swaps -/
theorem double (h : Al 1 true a b k) : ∃ k', k' ≤ 2 * k ∧ Al 1 false a b k' := by
  induction h with
  | nil => exact ⟨0, by omega, .nil⟩
  | del x _ ih => obtain ⟨k', h, t⟩ := ih; exact ⟨_, by omega, .del x t⟩
  | ins y _ ih => obtain ⟨k', h, t⟩ := ih; exact ⟨_, by omega, .ins y t⟩
  | mat x _ ih => obtain ⟨k', h, t⟩ := ih; exact ⟨_, by omega, .mat x t⟩
  | sub x y _ ih => obtain ⟨k', h, t⟩ := ih; exact ⟨_, by omega, .sub x y t⟩
  | blk _ x y u v _ ih =>
    obtain ⟨k', h, t⟩ := ih
    exact ⟨_, by omega, .sub x y (dels u (inss v (.sub y x t)))⟩
theorem zero (h : Al 1 false a b k) (e : k = 0) : a = b := by
  induction h with
  | nil => rfl
  | del x _ ih => omega
  | ins y _ ih => omega
  | mat x _ ih => rw [ih e]
  | sub x y _ ih => omega
  | blk h => cases h
theorem max_le : ∀ (a b : List Nat), ∃ k, k ≤ max a.length b.length ∧ Al 1 false a b k
  | [], b => ⟨b.length, by simp, by simpa using inss (c := 1) (tr := false) b .nil⟩
  | a, [] => ⟨a.length, by simp, by simpa using dels (c := 1) (tr := false) a .nil⟩
  | x :: a, y :: b => by
    obtain ⟨k, h, t⟩ := max_le a b
    exact ⟨_, by simp only [List.length_cons]; omega, .sub x y t⟩

/-- the head of the second list is either idle or matched -/
theorem head {w : Nat} (h : Al c tr a (w :: b) k) (hc : 1 ≤ c) : (∃ k1, k1 ≤ k ∧ Al c tr a b k1) ∨ ∃ e a2 k0, a = e ++ w :: a2 ∧ Al c tr a2 b k0 ∧ k = e.length + k0 := by
  generalize hq : w :: b = q at h
  induction h generalizing b with
  | nil => cases hq
  | del x _ ih =>
    rcases ih hq with ⟨k1, hk, t⟩ | ⟨e, a2, k0, rfl, t, rfl⟩
    · exact .inl ⟨_, by omega, .del x t⟩
    · exact .inr ⟨x :: e, a2, k0, rfl, t, by simp only [List.length_cons]; omega⟩
  | ins y t _ => cases hq; exact .inl ⟨_, by omega, t⟩
  | mat x t _ => cases hq; exact .inr ⟨[], _, _, rfl, t, by simp⟩
  | sub x y t _ => cases hq; exact .inl ⟨_, by omega, .del x t⟩
  | blk h x y u v t _ =>
    cases hq
    exact .inl ⟨_, by omega, inss v (.mat x (dels u (.del _ t)))⟩
/-- one letter less costs at most one more -/
theorem drop_head {w : Nat} (h : Al c tr a (w :: b) k) : ∃ k', k' ≤ k + 1 ∧ Al c tr a b k' := by
  generalize hq : w :: b = q at h
  induction h generalizing b with
  | nil => cases hq
  | del x _ ih => obtain ⟨k', h, t⟩ := ih hq; exact ⟨_, by omega, .del x t⟩
  | ins y t _ => cases hq; exact ⟨_, by omega, t⟩
  | mat x t _ => cases hq; exact ⟨_, by omega, .del _ t⟩
  | sub x y t _ => cases hq; exact ⟨_, by omega, .del x t⟩
  | blk h x y u v t _ =>
    cases hq
    exact ⟨_, by omega, inss v (.mat x (dels u (.del _ t)))⟩

/-- plain ways compose -/
theorem comp (h : Al c false a b k) : ∀ {d l}, Al c false b d l → ∃ m, m ≤ k + l ∧ Al c false a d m := by
  induction h with
  | nil => intro d l h; exact ⟨l, by omega, h⟩
  | del x _ ih => intro d l h; obtain ⟨m, hm, t⟩ := ih h; exact ⟨_, by omega, .del x t⟩
  | @ins y a b k _ ih =>
    intro d l h
    generalize hq : y :: b = q at h
    induction h with
    | nil => cases hq
    | del z t _ => cases hq; obtain ⟨m, hm, t⟩ := ih t; exact ⟨_, by omega, t⟩
    | ins z _ ih2 => obtain ⟨m, hm, t⟩ := ih2 hq; exact ⟨_, by omega, .ins z t⟩
    | mat z t _ => cases hq; obtain ⟨m, hm, t⟩ := ih t; exact ⟨_, by omega, .ins _ t⟩
    | sub z z' t _ =>
      cases hq; obtain ⟨m, hm, t⟩ := ih t
      exact ⟨m + 1, by omega, .ins _ t⟩
    | blk h => cases h
  | @mat y a b k _ ih =>
    intro d l h
    generalize hq : y :: b = q at h
    induction h with
    | nil => cases hq
    | del z t _ => cases hq; obtain ⟨m, hm, t⟩ := ih t; exact ⟨_, by omega, .del _ t⟩
    | ins z _ ih2 => obtain ⟨m, hm, t⟩ := ih2 hq; exact ⟨_, by omega, .ins z t⟩
    | mat z t _ => cases hq; obtain ⟨m, hm, t⟩ := ih t; exact ⟨_, by omega, .mat _ t⟩
    | sub z z' t _ => cases hq; obtain ⟨m, hm, t⟩ := ih t; exact ⟨_, by omega, .sub _ z' t⟩
    | blk h => cases h
  | @sub x y a b k _ ih =>
    intro d l h
    generalize hq : y :: b = q at h
    induction h with
    | nil => cases hq
    | del z t _ => cases hq; obtain ⟨m, hm, t⟩ := ih t; exact ⟨m + 1, by omega, .del _ t⟩
    | ins z _ ih2 => obtain ⟨m, hm, t⟩ := ih2 hq; exact ⟨_, by omega, .ins z t⟩
    | mat z t _ => cases hq; obtain ⟨m, hm, t⟩ := ih t; exact ⟨_, by omega, .sub x _ t⟩
    | sub z z' t _ => cases hq; obtain ⟨m, hm, t⟩ := ih t; exact ⟨_, by omega, .sub x z' t⟩
    | blk h => cases h
  | blk h => cases h
end Al

/-- one single edit -/
inductive Edit : List Nat → List Nat → Prop where
  | ins (z : Nat) (b : List Nat) : Edit b (z :: b)
  | del (z : Nat) (b : List Nat) : Edit (z :: b) b
  | sub (z y : Nat) (b : List Nat) : Edit (z :: b) (y :: b)
  | swp (z w : Nat) (b : List Nat) : Edit (z :: w :: b) (w :: z :: b)
  | cons (z : Nat) {b d : List Nat} : Edit b d → Edit (z :: b) (z :: d)
theorem Edit.pre {b d : List Nat} (h : Edit b d) : ∀ p : List Nat, Edit (p ++ b) (p ++ d)
  | [] => h
  | z :: p => .cons z (h.pre p)
/-- where an edit of v ++ x :: b falls -/
theorem Edit.split {x : Nat} {b q : List Nat} : ∀ {v : List Nat}, Edit (v ++ x :: b) q →
    (∃ v', v'.length ≤ v.length + 1 ∧ q = v' ++ x :: b) ∨ (∃ b', Edit b b' ∧ q = v ++ x :: b') ∨ q = v ++ b ∨ (∃ z, q = v ++ z :: b) ∨
    (∃ v0 w, v = v0 ++ [w] ∧ q = v0 ++ x :: w :: b) ∨ ∃ w b2, b = w :: b2 ∧ q = v ++ w :: x :: b2
  | [], h => by
    cases h with
    | ins z => exact .inl ⟨[z], by simp, rfl⟩
    | del => exact .inr (.inr (.inl rfl))
    | sub _ y => exact .inr (.inr (.inr (.inl ⟨y, rfl⟩)))
    | swp _ w b2 => exact .inr (.inr (.inr (.inr (.inr ⟨w, b2, rfl, rfl⟩))))
    | cons _ h => exact .inr (.inl ⟨_, h, rfl⟩)
  | s :: v, h => by
    generalize hp : s :: v ++ x :: b = p at h
    cases h with
    | ins z => subst hp; exact .inl ⟨z :: s :: v, by simp, rfl⟩
    | del => cases hp; exact .inl ⟨v, by simp only [List.length_cons]; omega, rfl⟩
    | sub _ y => cases hp; exact .inl ⟨y :: v, by simp, rfl⟩
    | swp z w b2 =>
      rw [List.cons_append] at hp
      obtain ⟨rfl, hp2⟩ := List.cons.inj hp
      clear hp
      cases v with
      | nil =>
        obtain ⟨rfl, rfl⟩ := List.cons.inj hp2
        exact .inr (.inr (.inr (.inr (.inl ⟨[], s, rfl, rfl⟩))))
      | cons w' v =>
        obtain ⟨rfl, rfl⟩ := List.cons.inj hp2
        exact .inl ⟨w' :: s :: v, by simp, rfl⟩
    | cons _ h =>
      rw [List.cons_append] at hp
      obtain ⟨rfl, rfl⟩ := List.cons.inj hp
      rcases Edit.split h with ⟨v', hv, rfl⟩ | ⟨b', hb, rfl⟩ | rfl | ⟨z, rfl⟩ | ⟨v0, w, rfl, rfl⟩ | ⟨w, b2, rfl, rfl⟩
      · exact .inl ⟨s :: v', by simp only [List.length_cons]; omega, rfl⟩
      · exact .inr (.inl ⟨b', hb, rfl⟩)
      · exact .inr (.inr (.inl rfl))
      · exact .inr (.inr (.inr (.inl ⟨z, rfl⟩)))
      · exact .inr (.inr (.inr (.inr (.inl ⟨s :: v0, w, rfl, rfl⟩))))
      · exact .inr (.inr (.inr (.inr (.inr ⟨w, b2, rfl, rfl⟩))))

/-- one edit costs at most one more -/
theorem Al.edit {a b : List Nat} {k : Nat} (h : Al 1 true a b k) : ∀ {d}, Edit b d → ∃ k', k' ≤ k + 1 ∧ Al 1 true a d k' := by
  induction h with
  | nil =>
    intro d h
    cases h with
    | ins z => exact ⟨_, Nat.le_refl _, .ins z .nil⟩
  | del x _ ih => intro d h; obtain ⟨k', hk, t⟩ := ih h; exact ⟨_, by omega, .del x t⟩
  | ins y t ih =>
    intro d h
    cases h with
    | ins z => exact ⟨_, Nat.le_refl _, .ins z (.ins y t)⟩
    | del => exact ⟨_, by omega, t⟩
    | sub _ z => exact ⟨_, by omega, .ins z t⟩
    | swp _ w b2 => obtain ⟨k', hk, t⟩ := ih (.cons w (.ins y b2)); exact ⟨_, by omega, t⟩
    | cons _ h => obtain ⟨k', hk, t⟩ := ih h; exact ⟨_, by omega, .ins y t⟩
  | mat x t ih =>
    intro d h
    cases h with
    | ins z => exact ⟨_, Nat.le_refl _, .ins z (.mat x t)⟩
    | del => exact ⟨_, by omega, .del x t⟩
    | sub _ z => exact ⟨_, by omega, .sub x z t⟩
    | swp _ w b2 =>
      rcases t.head (Nat.le_refl _) with ⟨k1, hk, t2⟩ | ⟨e, a2, k0, rfl, t2, rfl⟩
      · exact ⟨_, by omega, .ins w (.mat x t2)⟩
      · exact ⟨_, by simp only [List.length_nil]; omega, .blk rfl x w e [] t2⟩
    | cons _ h => obtain ⟨k', hk, t⟩ := ih h; exact ⟨_, by omega, .mat x t⟩
  | sub x y t ih =>
    intro d h
    cases h with
    | ins z => exact ⟨_, Nat.le_refl _, .ins z (.sub x y t)⟩
    | del => exact ⟨_, by omega, .del x t⟩
    | sub _ z => exact ⟨_, by omega, .sub x z t⟩
    | swp _ w b2 => obtain ⟨k', hk, t⟩ := ih (.sub w y b2); exact ⟨_, by omega, .sub x w t⟩
    | cons _ h => obtain ⟨k', hk, t⟩ := ih h; exact ⟨_, by omega, .sub x y t⟩
  | @blk h0 x y u v a1 b1 k t ih =>
    intro d h
    generalize hp : y :: (v ++ x :: b1) = p at h
    cases h with
    | ins z => subst hp; exact ⟨_, Nat.le_refl _, .ins z (.blk rfl x y u v t)⟩
    | del => cases hp; exact ⟨_, by omega, Al.inss v (.mat x (Al.dels u (.del y t)))⟩
    | sub _ z => cases hp; exact ⟨_, by omega, .ins z (Al.inss v (.mat x (Al.dels u (.del y t))))⟩
    | swp z w b2 =>
      obtain ⟨rfl, hp2⟩ := List.cons.inj hp
      clear hp
      cases v with
      | nil =>
        obtain ⟨rfl, rfl⟩ := List.cons.inj hp2
        exact ⟨_, by omega, .mat x (Al.dels u (.mat y t))⟩
      | cons w' v =>
        obtain ⟨rfl, rfl⟩ := List.cons.inj hp2
        exact ⟨_, by simp only [List.length_cons]; omega, .ins w' (.blk rfl x y u v t)⟩
    | cons _ h =>
      obtain ⟨rfl, rfl⟩ := List.cons.inj hp
      rcases Edit.split h with ⟨v', hv, rfl⟩ | ⟨b', hb, rfl⟩ | rfl | ⟨z, rfl⟩ | ⟨v0, w, rfl, rfl⟩ | ⟨w, b2, rfl, rfl⟩
      · exact ⟨_, by omega, .blk rfl x y u v' t⟩
      · obtain ⟨k', hk, t⟩ := ih hb; exact ⟨_, by omega, .blk rfl x y u v t⟩
      · exact ⟨_, by omega, .del x (Al.dels u (.mat y (Al.inss v t)))⟩
      · exact ⟨_, by omega, .del x (Al.dels u (.mat y (Al.inss v (.ins z t))))⟩
      · exact ⟨_, by simp only [List.length_append, List.length_cons, List.length_nil]; omega, .blk rfl x y u v0 (.ins w t)⟩
      · rcases t.head (Nat.le_refl _) with ⟨k1, hk, t2⟩ | ⟨e, a2, k0, rfl, t2, rfl⟩
        · have := Al.blk rfl x y u (v ++ [w]) t2
          rw [List.append_assoc] at this
          exact ⟨_, by simp only [List.length_append, List.length_cons, List.length_nil]; omega, this⟩
        · exact ⟨_, by omega, .del x (Al.dels u (.mat y (Al.inss v (Al.dels e (.mat w (.ins x t2))))))⟩

theorem Al.del_run {a b : List Nat} (p : List Nat) : ∀ (u : List Nat) {k : Nat}, Al 1 true a (p ++ (u ++ b)) k → ∃ k', k' ≤ k + u.length ∧ Al 1 true a (p ++ b) k'
  | [], k, h => ⟨k, by simp, h⟩
  | z :: u, k, h => by
    obtain ⟨k1, h1, t⟩ := h.edit ((Edit.del z (u ++ b)).pre p)
    obtain ⟨k2, h2, t⟩ := Al.del_run p u t
    exact ⟨k2, by simp only [List.length_cons]; omega, t⟩
theorem Al.ins_run {a b : List Nat} (p : List Nat) : ∀ (u : List Nat) {k : Nat}, Al 1 true a (p ++ b) k → ∃ k', k' ≤ k + u.length ∧ Al 1 true a (p ++ (u ++ b)) k'
  | [], k, h => ⟨k, by simp, h⟩
  | z :: u, k, h => by
    obtain ⟨k1, h1, t⟩ := Al.ins_run p u h
    obtain ⟨k2, h2, t⟩ := t.edit ((Edit.ins z (u ++ b)).pre p)
    exact ⟨k2, by simp only [List.length_cons]; omega, t⟩

theorem Al.compT {a b d : List Nat} {l : Nat} (h : Al 1 true b d l) : ∀ (p : List Nat) {k : Nat}, Al 1 true a (p ++ b) k → ∃ m, m ≤ k + l ∧ Al 1 true a (p ++ d) m := by
  induction h with
  | nil => intro p k h; exact ⟨k, by omega, h⟩
  | del x _ ih =>
    intro p k h
    obtain ⟨k1, h1, t⟩ := h.edit ((Edit.del x _).pre p)
    obtain ⟨k2, h2, t⟩ := ih p t
    exact ⟨k2, by omega, t⟩
  | ins y _ ih =>
    intro p k h
    obtain ⟨k1, h1, t⟩ := ih p h
    obtain ⟨k2, h2, t⟩ := t.edit ((Edit.ins y _).pre p)
    exact ⟨k2, by omega, t⟩
  | mat x _ ih =>
    intro p k h
    obtain ⟨k1, h1, t⟩ := ih (p ++ [x]) (by simpa using h)
    exact ⟨k1, h1, by simpa using t⟩
  | sub x y _ ih =>
    intro p k h
    obtain ⟨k1, h1, t⟩ := h.edit ((Edit.sub x y _).pre p)
    obtain ⟨k2, h2, t⟩ := ih (p ++ [y]) (by simpa using t)
    exact ⟨k2, by omega, by simpa using t⟩
  | @blk _ x y u v a1 d1 _ _ ih =>
    intro p k h
    obtain ⟨k1, h1, t⟩ := Al.del_run (p ++ [x]) u (by simpa using h)
    have t : Al 1 true a (p ++ x :: y :: a1) k1 := by simpa using t
    obtain ⟨k2, h2, t⟩ := t.edit ((Edit.swp x y _).pre p)
    obtain ⟨k3, h3, t⟩ := Al.ins_run (p ++ [y]) v (by simpa using t)
    obtain ⟨k4, h4, t⟩ := ih (p ++ y :: (v ++ [x])) (by simpa using t)
    exact ⟨k4, by omega, by simpa using t⟩

/-- the distance, by recursion on the lists -/
def ED (c : Nat) (tr : Bool) : List Nat → List Nat → Nat
  | [], b => b.length
  | _ :: a, [] => a.length + 1
  | x :: a, y :: b =>
    min (min (min (ED c tr a (y :: b) + 1) (ED c tr (x :: a) b + 1)) (ED c tr a b + if x = y then 0 else c))
      (if tr = true ∧ y ∈ a ∧ x ∈ b then ED c tr (a.drop (a.idxOf y + 1)) (b.drop (b.idxOf x + 1)) + a.idxOf y + b.idxOf x + 1 else ED c tr a b + (if x = y then 0 else c) + 1)
termination_by a b => a.length + b.length
decreasing_by
  all_goals simp only [List.length_cons, List.length_drop]
  all_goals omega

theorem ED_nil (c : Nat) (tr : Bool) (b : List Nat) : ED c tr [] b = b.length := by rw [ED]
theorem ED_nil' (c : Nat) (tr : Bool) : ∀ a : List Nat, ED c tr a [] = a.length
  | [] => by rw [ED]
  | x :: a => by rw [ED, List.length_cons]
theorem ED_cons (c : Nat) (tr : Bool) (x y : Nat) (a b : List Nat) : ED c tr (x :: a) (y :: b) =
    min (min (min (ED c tr a (y :: b) + 1) (ED c tr (x :: a) b + 1)) (ED c tr a b + if x = y then 0 else c))
      (if tr = true ∧ y ∈ a ∧ x ∈ b then ED c tr (a.drop (a.idxOf y + 1)) (b.drop (b.idxOf x + 1)) + a.idxOf y + b.idxOf x + 1 else ED c tr a b + (if x = y then 0 else c) + 1) := by rw [ED]

theorem ED_plain (c : Nat) (x y : Nat) (a b : List Nat) : ED c false (x :: a) (y :: b) = min (min (ED c false a (y :: b) + 1) (ED c false (x :: a) b + 1)) (ED c false a b + if x = y then 0 else c) := by
  have h : ¬ (false = true ∧ y ∈ a ∧ x ∈ b) := fun h => nomatch h.1
  rw [ED_cons, if_neg h]
  exact Nat.min_eq_left (Nat.le_trans (Nat.min_le_right _ _) (Nat.le_succ _))
theorem ED_sub_step (c : Nat) (tr : Bool) (x y : Nat) (a b : List Nat) : ED c tr (x :: a) (y :: b) ≤ ED c tr a b + if x = y then 0 else c := by
  rw [ED_cons]; exact Nat.le_trans (Nat.min_le_left _ _) (Nat.min_le_right _ _)
theorem ED_blk_step {c : Nat} {tr : Bool} {x y : Nat} {a b : List Nat} (h : tr = true ∧ y ∈ a ∧ x ∈ b) : ED c tr (x :: a) (y :: b) ≤ ED c tr (a.drop (a.idxOf y + 1)) (b.drop (b.idxOf x + 1)) + a.idxOf y + b.idxOf x + 1 := by
  rw [ED_cons, if_pos h]; exact Nat.min_le_right _ _
theorem idxOf_ne {z y : Nat} (e : z ≠ y) (a : List Nat) : (z :: a).idxOf y = a.idxOf y + 1 := by
  rw [List.idxOf_cons, show (z == y) = false from beq_eq_false_iff_ne.mpr e]; rfl
theorem min_ind {P : Nat → Prop} {a b : Nat} (ha : P a) (hb : P b) : P (min a b) := by rw [Nat.min_def]; split <;> assumption
theorem first_split {y : Nat} : ∀ {a : List Nat}, y ∈ a → a = a.take (a.idxOf y) ++ y :: a.drop (a.idxOf y + 1) ∧ (a.take (a.idxOf y)).length = a.idxOf y
  | z :: a, h => by
    by_cases e : z = y
    · subst e; simp
    · have h' : y ∈ a := by
        rcases List.mem_cons.mp h with h | h
        · exact absurd h.symm e
        · exact h
      obtain ⟨h1, h2⟩ := first_split h'
      rw [idxOf_ne e]
      refine ⟨?_, ?_⟩
      · rw [List.take_succ_cons, List.drop_succ_cons, List.cons_append, ← h1]
      · rw [List.take_succ_cons, List.length_cons, h2]

/-- the distance is reached -/
theorem ED_way (c : Nat) (tr : Bool) : ∀ (n : Nat) (a b : List Nat), a.length + b.length ≤ n → Al c tr a b (ED c tr a b)
  | _, [], b, _ => by rw [ED_nil]; simpa using Al.inss (c := c) (tr := tr) b .nil
  | _, x :: a, [], _ => by rw [ED_nil']; simpa using Al.dels (c := c) (tr := tr) (x :: a) .nil
  | 0, x :: a, y :: b, h => by simp at h
  | n + 1, x :: a, y :: b, h => by
    simp only [List.length_cons] at h
    have h1 := Al.del x (ED_way c tr n a (y :: b) (by simp only [List.length_cons]; omega))
    have h2 := Al.ins y (ED_way c tr n (x :: a) b (by simp only [List.length_cons]; omega))
    have h0 := ED_way c tr n a b (by omega)
    have h3 : Al c tr (x :: a) (y :: b) (ED c tr a b + if x = y then 0 else c) := by
      split
      · rename_i e; subst e; exact .mat x h0
      · exact .sub x y h0
    rw [ED_cons]
    by_cases ht : tr = true ∧ y ∈ a ∧ x ∈ b
    · rw [if_pos ht]
      obtain ⟨ht, hy, hx⟩ := ht
      obtain ⟨ea, la⟩ := first_split hy
      obtain ⟨eb, lb⟩ := first_split hx
      have h4 : Al c tr (x :: a) (y :: b) (ED c tr (a.drop (a.idxOf y + 1)) (b.drop (b.idxOf x + 1)) + a.idxOf y + b.idxOf x + 1) := by
        have := Al.blk ht x y (a.take (a.idxOf y)) (b.take (b.idxOf x)) (ED_way c tr n (a.drop (a.idxOf y + 1)) (b.drop (b.idxOf x + 1)) (by simp only [List.length_drop]; omega))
        rw [← ea, ← eb, la, lb] at this
        exact this.cast (by omega)
      exact min_ind (min_ind (min_ind h1 h2) h3) h4
    · rw [if_neg ht, Nat.min_eq_left (Nat.le_trans (Nat.min_le_right _ _) (Nat.le_succ _))]
      exact min_ind (min_ind h1 h2) h3
theorem ED_al (c : Nat) (tr : Bool) (a b : List Nat) : Al c tr a b (ED c tr a b) := ED_way c tr _ a b (Nat.le_refl _)

theorem ED_del (c : Nat) (tr : Bool) (x : Nat) (a : List Nat) : ∀ b, ED c tr (x :: a) b ≤ ED c tr a b + 1
  | [] => by rw [ED_nil', ED_nil', List.length_cons]; exact Nat.le_refl _
  | y :: b => by rw [ED_cons]; omega
theorem ED_ins (c : Nat) (tr : Bool) (y : Nat) (b : List Nat) : ∀ a, ED c tr a (y :: b) ≤ ED c tr a b + 1
  | [] => by rw [ED_nil, ED_nil, List.length_cons]; exact Nat.le_refl _
  | x :: a => by rw [ED_cons]; omega
theorem ED_dels (c : Nat) (tr : Bool) (a b : List Nat) : ∀ u, ED c tr (u ++ a) b ≤ ED c tr a b + u.length
  | [] => Nat.le_refl _
  | x :: u => by have h1 := ED_del c tr x (u ++ a) b; have := ED_dels c tr a b u; rw [List.cons_append, List.length_cons]; omega
theorem ED_inss (c : Nat) (tr : Bool) (a b : List Nat) : ∀ u, ED c tr a (u ++ b) ≤ ED c tr a b + u.length
  | [] => Nat.le_refl _
  | x :: u => by have h1 := ED_ins c tr x (u ++ b) a; have := ED_inss c tr a b u; rw [List.cons_append, List.length_cons]; omega
theorem idx_le {y : Nat} : ∀ (u a : List Nat), ∃ w, (u ++ y :: a).drop ((u ++ y :: a).idxOf y + 1) = w ++ a ∧ (u ++ y :: a).idxOf y + w.length = u.length
  | [], a => ⟨[], by simp⟩
  | z :: u, a => by
    by_cases e : z = y
    · subst e
      exact ⟨u ++ [z], by simp, by simp⟩
    · obtain ⟨w, h1, h2⟩ := idx_le (y := y) u a
      refine ⟨w, ?_, ?_⟩
      · rw [List.cons_append, idxOf_ne e, List.drop_succ_cons, h1]
      · rw [List.cons_append, idxOf_ne e, List.length_cons]; omega

/-- no way is cheaper -/
theorem ED_least {c : Nat} {tr : Bool} {a b : List Nat} {k : Nat} (h : Al c tr a b k) : ED c tr a b ≤ k := by
  induction h with
  | nil => rw [ED_nil]; exact Nat.le_refl _
  | del x _ ih => exact Nat.le_trans (ED_del c tr x _ _) (by omega)
  | ins y _ ih => exact Nat.le_trans (ED_ins c tr y _ _) (by omega)
  | mat x _ ih => refine Nat.le_trans (ED_sub_step c tr x x _ _) ?_; rw [if_pos rfl]; exact ih
  | sub x y _ ih =>
    refine Nat.le_trans (ED_sub_step c tr x y _ _) ?_
    have : (if x = y then 0 else c) ≤ c := by split <;> omega
    omega
  | @blk ht x y u v a b k _ ih =>
    refine Nat.le_trans (ED_blk_step ⟨ht, by simp, by simp⟩) ?_
    obtain ⟨w1, h1, h2⟩ := idx_le (y := y) u a
    obtain ⟨w2, h3, h4⟩ := idx_le (y := x) v b
    rw [h1, h3]
    have h5 := ED_dels c tr a (w2 ++ b) w1
    have h6 := ED_inss c tr a b w2
    omega

section
variable {c : Nat} {tr : Bool} {a b d : List Nat}
theorem ED_symm : ED c tr b a = ED c tr a b := Nat.le_antisymm (ED_least (ED_al c tr a b).symm) (ED_least (ED_al c tr b a).symm)
theorem ED_rev : ED c tr a.reverse b.reverse = ED c tr a b :=
  Nat.le_antisymm (ED_least (ED_al c tr a b).reverse) (by
    have := ED_least (ED_al c tr a.reverse b.reverse).reverse
    simpa using this)
theorem ED_self : ED c tr a a = 0 := Nat.le_zero.mp (ED_least (Al.refl a))
theorem ED_pre (x : Nat) : ED c false (x :: a) (x :: b) = ED c false a b := by
  obtain ⟨k1, h1, t1⟩ := (ED_al c false a (x :: b)).drop_head
  obtain ⟨k2, h2, t2⟩ := (ED_al c false (x :: a) b).symm.drop_head
  have h3 := ED_least t1
  have h4 := ED_least t2.symm
  rw [ED_plain, if_pos rfl]
  omega
theorem ED_suf (x : Nat) : ED c false (a ++ [x]) (b ++ [x]) = ED c false a b := by
  rw [← ED_rev, List.reverse_append, List.reverse_append]
  show ED c false (x :: a.reverse) (x :: b.reverse) = _
  rw [ED_pre, ED_rev]
theorem ED_mono {c' : Nat} (h : c' ≤ c) : ED c' false a b ≤ ED c false a b := by
  obtain ⟨k, hk, t⟩ := (ED_al c false a b).mono h
  exact Nat.le_trans (ED_least t) hk
theorem ED_max : ED 1 false a b ≤ max a.length b.length := by
  obtain ⟨k, hk, t⟩ := Al.max_le a b
  exact Nat.le_trans (ED_least t) hk
theorem ED_swap : ED c true a b ≤ ED c false a b := ED_least (ED_al c false a b).of_plain
theorem ED_double : ED 1 false a b ≤ 2 * ED 1 true a b := by
  obtain ⟨k, hk, t⟩ := (ED_al 1 true a b).double
  exact Nat.le_trans (ED_least t) hk
theorem ED_zero : ED 1 false a b = 0 ↔ a = b := ⟨fun e => (ED_al 1 false a b).zero e, fun e => e ▸ ED_self⟩
theorem ED_tri : ED c false a d ≤ ED c false a b + ED c false b d := by
  obtain ⟨m, hm, t⟩ := (ED_al c false a b).comp (ED_al c false b d)
  exact Nat.le_trans (ED_least t) hm
theorem ED_triT : ED 1 true a d ≤ ED 1 true a b + ED 1 true b d := by
  obtain ⟨m, hm, t⟩ := Al.compT (ED_al 1 true b d) [] (ED_al 1 true a b)
  exact Nat.le_trans (ED_least t) hm
end
theorem gap_eq (p q : Nat) : max p q - min p q = (p - q) + (q - p) := by omega
theorem gap_step (p q : Nat) : min (min (p - (q + 1) + (q + 1 - p) + 1) (p + 1 - q + (q - (p + 1)) + 1)) (p - q + (q - p)) = p + 1 - (q + 1) + (q + 1 - (p + 1)) := by
  rw [Nat.add_sub_add_right, Nat.add_sub_add_right]
  rcases Nat.le_total p q with h | h <;> omega
theorem ED_free (n : Nat) : ∀ (a b : List Nat), a.length + b.length ≤ n → ED 0 false a b = max a.length b.length - min a.length b.length := by
  induction n with
  | zero =>
    intro a b h
    have ha : a = [] := List.length_eq_zero_iff.mp (by omega)
    have hb : b = [] := List.length_eq_zero_iff.mp (by omega)
    subst ha hb
    rw [ED_nil]; rfl
  | succ n ih =>
    intro a b h
    cases a with
    | nil => rw [ED_nil]; simp
    | cons x a =>
      cases b with
      | nil => rw [ED_nil']; simp
      | cons y b =>
        simp only [List.length_cons] at h
        rw [ED_plain, ih a (y :: b) (by simp only [List.length_cons]; omega), ih (x :: a) b (by simp only [List.length_cons]; omega), ih a b (by omega)]
        simp only [List.length_cons, ite_self, gap_eq]
        exact gap_step _ _
theorem ED_sub_le {p a : List Nat} (h : List.Sublist p a) : ED 2 false a p + p.length ≤ a.length := by
  induction h with
  | slnil => rw [ED_nil]; simp
  | cons x _ ih => rename_i p a _; have := ED_del 2 false x a p; rw [List.length_cons]; omega
  | cons_cons x _ ih => rw [ED_pre, List.length_cons, List.length_cons]; omega
theorem Al.common' {a b : List Nat} {k : Nat} (h : Al 2 false a b k) : ∃ p : List Nat, List.Sublist p a ∧ List.Sublist p b ∧ a.length + b.length ≤ 2 * p.length + k := by
  induction h with
  | nil => exact ⟨[], .slnil, .slnil, by simp⟩
  | del x _ ih => obtain ⟨p, h1, h2, h3⟩ := ih; exact ⟨p, h1.cons x, h2, by rw [List.length_cons]; omega⟩
  | ins y _ ih => obtain ⟨p, h1, h2, h3⟩ := ih; exact ⟨p, h1, h2.cons y, by rw [List.length_cons]; omega⟩
  | mat x _ ih => obtain ⟨p, h1, h2, h3⟩ := ih; exact ⟨x :: p, h1.cons_cons x, h2.cons_cons x, by rw [List.length_cons, List.length_cons, List.length_cons]; omega⟩
  | sub x y _ ih => obtain ⟨p, h1, h2, h3⟩ := ih; exact ⟨p, h1.cons x, h2.cons y, by rw [List.length_cons, List.length_cons]; omega⟩
  | blk h => cases h
theorem ED_lcs {a b p : List Nat} (h1 : List.Sublist p a) (h2 : List.Sublist p b) (hm : ∀ q : List Nat, List.Sublist q a → List.Sublist q b → q.length ≤ p.length) : ED 2 false a b + 2 * p.length = a.length + b.length := by
  have e1 := ED_sub_le h1
  have e2 := ED_sub_le h2
  have e3 : ED 2 false a b ≤ ED 2 false a p + ED 2 false p b := ED_tri
  rw [ED_symm (a := b) (b := p)] at e3
  obtain ⟨q, q1, q2, q3⟩ := (ED_al 2 false a b).common'
  have := hm q q1 q2
  omega
end Mine

end

section
open PySem PySem.W PyProof.Rows PySem.Calls PyProof.V
namespace Mine
def ra (a : List Nat) (i : Nat) : List Nat := (a.take i).reverse
theorem ra_zero (a : List Nat) : ra a 0 = [] := by unfold ra; simp
theorem ra_len {a : List Nat} {i : Nat} (h : i ≤ a.length) : (ra a i).length = i := by unfold ra; rw [List.length_reverse, List.length_take]; omega
theorem ra_succ {a : List Nat} {i : Nat} (h : i < a.length) : ra a (i + 1) = a.getD i 0 :: ra a i := by
  unfold ra
  rw [List.take_add_one, List.getElem?_eq_getElem h, List.reverse_append, List.getD_eq_getElem?_getD, List.getElem?_eq_getElem h]
  rfl
theorem ra_drop {a : List Nat} {i : Nat} (h : i ≤ a.length) (k : Nat) : (ra a i).drop k = ra a (i - k) := by
  unfold ra
  rw [List.drop_reverse, List.take_take, List.length_take]
  congr 2
  omega
def lp (a : List Nat) (i ch : Nat) : Nat := if ch ∈ ra a i then i - (ra a i).idxOf ch else 0
theorem lp_zero (a : List Nat) (ch : Nat) : lp a 0 ch = 0 := by unfold lp; rw [ra_zero, if_neg (by simp)]
theorem idx_lt {ch : Nat} {a : List Nat} {i : Nat} (hi : i ≤ a.length) (h : ch ∈ ra a i) : (ra a i).idxOf ch < i := by
  have := List.idxOf_lt_length_iff.mpr h
  rw [ra_len hi] at this
  exact this
theorem lp_in {a : List Nat} {i ch : Nat} (h : ch ∈ ra a i) : lp a i ch = i - (ra a i).idxOf ch := if_pos h
theorem lp_pos {a : List Nat} {i ch : Nat} (hi : i ≤ a.length) : 0 < lp a i ch ↔ ch ∈ ra a i := by
  constructor
  · intro h
    unfold lp at h
    split at h
    · assumption
    · omega
  · intro h
    rw [lp_in h]
    have := idx_lt hi h
    omega
theorem lp_succ {a : List Nat} {i ch : Nat} (h : i < a.length) : lp a (i + 1) ch = if ch = a.getD i 0 then i + 1 else lp a i ch := by
  unfold lp
  rw [ra_succ h]
  by_cases e : ch = a.getD i 0
  · rw [if_pos e, if_pos (e ▸ List.mem_cons_self), ← e, List.idxOf_cons_self]; rfl
  · rw [if_neg e, idxOf_ne (fun h => e h.symm)]
    by_cases hm : ch ∈ ra a i
    · rw [if_pos (List.mem_cons_of_mem _ hm), if_pos hm]
      have := idx_lt (Nat.le_of_lt h) hm
      omega
    · rw [if_neg hm, if_neg fun h => ?_]
      rcases List.mem_cons.mp h with h | h
      · exact e h
      · exact hm h

theorem mAt_set {M : List (List Int)} {H W : Nat} (R : Rect M H W) {i j : Nat} (hi : i < H) (hj : j < W) (v : Int) (i' j' : Nat) : mAt (mSet M i j v) i' j' = if i' = i ∧ j' = j then v else mAt M i' j' := by
  have hl : i < M.length := by rw [R.1]; exact hi
  have hr := R.row hi
  show ((M.set i ((M.getD i []).set j v)).getD i' []).getD j' 0 = if i' = i ∧ j' = j then v else (M.getD i' []).getD j' 0
  by_cases e : i' = i
  · subst e
    have e2 : (M.set i' ((M.getD i' []).set j v)).getD i' [] = (M.getD i' []).set j v := by
      rw [List.getD_eq_getElem?_getD, List.getElem?_set_self hl]; rfl
    rw [e2]
    by_cases e3 : j' = j
    · subst e3
      rw [if_pos ⟨rfl, rfl⟩, List.getD_eq_getElem?_getD, List.getElem?_set_self (by rw [hr]; exact hj)]; rfl
    · rw [if_neg (fun h => e3 h.2), List.getD_eq_getElem?_getD, List.getElem?_set_ne (fun h => e3 h.symm), ← List.getD_eq_getElem?_getD]
  · rw [if_neg (fun h => e h.1)]
    have e2 : (M.set i ((M.getD i []).set j v)).getD i' [] = M.getD i' [] := by
      rw [List.getD_eq_getElem?_getD, List.getElem?_set_ne (fun h => e h.symm), ← List.getD_eq_getElem?_getD]
    rw [e2]

theorem init_col (H W : Nat) (hW : 0 < W) : ∀ n, n ≤ H → Rect ((List.range n).foldl (fun M (i : Nat) => mSet M (i : Int) 0 (i : Int)) (List.replicate H (List.replicate W 0))) H W ∧ ∀ i, i < n → mAt ((List.range n).foldl (fun M (i : Nat) => mSet M (i : Int) 0 (i : Int)) (List.replicate H (List.replicate W 0))) i 0 = i
  | 0, _ => ⟨⟨List.length_replicate, fun r hr => by rw [List.eq_of_mem_replicate hr]; exact List.length_replicate⟩, fun i hi => by omega⟩
  | n + 1, h => by
    obtain ⟨R, hc⟩ := init_col H W hW n (by omega)
    rw [List.range_succ, List.foldl_append]
    refine ⟨Rect.set R (by omega) (by omega), fun i hi => ?_⟩
    refine (mAt_set (j := 0) R (by omega) hW _ i 0).trans ?_
    by_cases e : i = n
    · rw [if_pos ⟨e, rfl⟩, e]
    · rw [if_neg (fun h => e h.1)]; exact hc i (by omega)
theorem init_row (H W : Nat) (hH : 0 < H) (hW : 0 < W) (M0 : List (List Int)) (R0 : Rect M0 H W) (h0 : ∀ i : Nat, i < H → mAt M0 i 0 = i) : ∀ n, n ≤ W → Rect ((List.range n).foldl (fun M (j : Nat) => mSet M 0 (j : Int) (j : Int)) M0) H W ∧ (∀ i : Nat, i < H → mAt ((List.range n).foldl (fun M (j : Nat) => mSet M 0 (j : Int) (j : Int)) M0) i 0 = i) ∧ ∀ j : Nat, j < n → mAt ((List.range n).foldl (fun M (j : Nat) => mSet M 0 (j : Int) (j : Int)) M0) 0 j = j
  | 0, _ => ⟨R0, h0, fun j hj => by omega⟩
  | n + 1, h => by
    obtain ⟨R, hc, hr⟩ := init_row H W hH hW M0 R0 h0 n (by omega)
    rw [List.range_succ, List.foldl_append]
    refine ⟨Rect.set R (by omega) (by omega), fun i hi => ?_, fun j hj => ?_⟩
    · refine (mAt_set (i := 0) R (by omega) (by omega) _ i 0).trans ?_
      by_cases e : i = 0 ∧ 0 = n
      · rw [if_pos e, e.1, ← e.2]
      · rw [if_neg e]; exact hc i hi
    · refine (mAt_set (i := 0) R (by omega) (by omega) _ 0 j).trans ?_
      by_cases e : j = n
      · rw [if_pos ⟨rfl, e⟩, e]
      · rw [if_neg (fun h => e h.2)]; exact hr j (by omega)
theorem init_all (H W : Nat) (hH : 0 < H) (hW : 0 < W) : Rect (initM H W) H W ∧ (∀ i : Nat, i < H → mAt (initM H W) i 0 = i) ∧ ∀ j : Nat, j < W → mAt (initM H W) 0 j = j :=
  let ⟨R, hc⟩ := init_col H W hW H (Nat.le_refl _)
  init_row H W hH hW _ R hc W (Nat.le_refl _)

theorem one_eq {x y : Nat} : (⟨#[x]⟩ : Str) = ⟨#[y]⟩ ↔ x = y := ⟨fun h => by have := congrArg (fun s : Str => s.cps.toList) h; simpa using this, fun h => h ▸ rfl⟩

section
variable (s1 s2 : Str) (c : Nat) (tr : Bool)
/-- what the cell (i, j) should hold -/
def cell (i j : Nat) : Int := (ED c tr (ra s1.cps.toList i) (ra s2.cps.toList j) : Nat)
structure Good (M : List (List Int)) (i k : Nat) : Prop where
  R : Rect M (s1.length + 1) (s2.length + 1)
  up : ∀ i' j', i' < i → j' ≤ s2.length → mAt M (i' : Nat) (j' : Nat) = cell s1 s2 c tr i' j'
  cur : ∀ j', j' ≤ k → mAt M i (j' : Nat) = cell s1 s2 c tr i j'
  col : ∀ i' : Nat, i' ≤ s1.length → mAt M i' 0 = i'
end
section
variable {s1 s2 : Str} {c : Nat} {tr : Bool}
theorem len_list (s : Str) : s.cps.toList.length = s.length := rfl
theorem cell_row (j : Nat) (h : j ≤ s2.length) : cell s1 s2 c tr 0 j = j := by
  unfold cell; rw [ra_zero, ED_nil, ra_len h]
theorem cell_col (i : Nat) (h : i ≤ s1.length) : cell s1 s2 c tr i 0 = i := by
  unfold cell; rw [ra_zero, ED_nil', ra_len h]

theorem step_cell {M : List (List Int)} {i k : Nat} (G : Good s1 s2 c tr M (i + 1) k) (hi : i < s1.length) (hk : k < s2.length) :
    stepVal M s1 s2 ((i + 1 : Nat) : Int) ((k + 1 : Nat) : Int) (lp s1.cps.toList i (s2.cps.toList.getD k 0) : Nat) (lp s2.cps.toList k (s1.cps.toList.getD i 0) : Nat) c tr = cell s1 s2 c tr (i + 1) (k + 1) := by
  have e1 : (((i + 1 : Nat) : Int) - 1) = (i : Nat) := by omega
  have e2 : (((k + 1 : Nat) : Int) - 1) = (k : Nat) := by omega
  unfold stepVal
  rw [e1, e2, item_at (by omega) (by omega), item_at (by omega) (by omega), G.up i (k + 1) (by omega) (by omega), G.cur k (Nat.le_refl _), G.up i k (by omega) (by omega)]
  simp only [Int.toNat_natCast, one_eq]
  have hx := ra_succ (a := s1.cps.toList) (i := i) hi
  have hy := ra_succ (a := s2.cps.toList) (i := k) hk
  generalize hxx : s1.cps.toList.getD i 0 = x at *
  generalize hyy : s2.cps.toList.getD k 0 = y at *
  have e3 : cell s1 s2 c tr (i + 1) (k + 1) = (ED c tr (x :: ra s1.cps.toList i) (y :: ra s2.cps.toList k) : Nat) := by unfold cell; rw [hx, hy]
  have e4 : cell s1 s2 c tr i (k + 1) = (ED c tr (ra s1.cps.toList i) (y :: ra s2.cps.toList k) : Nat) := by unfold cell; rw [hy]
  have e5 : cell s1 s2 c tr (i + 1) k = (ED c tr (x :: ra s1.cps.toList i) (ra s2.cps.toList k) : Nat) := by unfold cell; rw [hx]
  have e6 : cell s1 s2 c tr i k = (ED c tr (ra s1.cps.toList i) (ra s2.cps.toList k) : Nat) := rfl
  have hs : ((if x = y then 0 else (c : Int)) : Int) = ((if x = y then 0 else c : Nat) : Int) := by split <;> rfl
  rw [e3, e4, e5, e6, hs, ED_cons]
  generalize (if x = y then 0 else c) = sb
  by_cases ht : tr = true ∧ y ∈ ra s1.cps.toList i ∧ x ∈ ra s2.cps.toList k
  · have p1 := (lp_pos (Nat.le_of_lt hi)).mpr ht.2.1
    have p2 := (lp_pos (Nat.le_of_lt hk)).mpr ht.2.2
    have hL : tr = true ∧ 0 < ((lp s1.cps.toList i y : Nat) : Int) ∧ 0 < ((lp s2.cps.toList k x : Nat) : Int) := ⟨ht.1, by omega, by omega⟩
    rw [if_pos ht, if_pos hL]
    have q1 := idx_lt (Nat.le_of_lt hi) ht.2.1
    have q2 := idx_lt (Nat.le_of_lt hk) ht.2.2
    clear hL p1 p2
    rw [lp_in ht.2.1, lp_in ht.2.2, ra_drop (Nat.le_of_lt hi), ra_drop (Nat.le_of_lt hk)]
    generalize (ra s1.cps.toList i).idxOf y = p at *
    generalize (ra s2.cps.toList k).idxOf x = q at *
    have f1 : (((i - p : Nat) : Int) - 1) = ((i - (p + 1) : Nat) : Int) := by omega
    have f2 : (((k - q : Nat) : Int) - 1) = ((k - (q + 1) : Nat) : Int) := by omega
    rw [f1, f2, G.up _ _ (by omega) (by omega)]
    have e7 : cell s1 s2 c tr (i - (p + 1)) (k - (q + 1)) = (ED c tr (ra s1.cps.toList (i - (p + 1))) (ra s2.cps.toList (k - (q + 1))) : Nat) := rfl
    rw [e7]
    generalize ED c tr (ra s1.cps.toList (i - (p + 1))) (ra s2.cps.toList (k - (q + 1))) = z1
    generalize ED c tr (ra s1.cps.toList i) (y :: ra s2.cps.toList k) = z2
    generalize ED c tr (x :: ra s1.cps.toList i) (ra s2.cps.toList k) = z3
    generalize ED c tr (ra s1.cps.toList i) (ra s2.cps.toList k) = z4
    clear hs e3 e4 e5 e6 e7 hx hy G hxx hyy ht f1 f2 e1 e2
    have hz : (z1 : Int) + ((i + 1 : Nat) : Int) - ((i - p : Nat) : Int) + ((k + 1 : Nat) : Int) - ((k - q : Nat) : Int) - 1 = ((z1 + p + q + 1 : Nat) : Int) := by omega
    rw [hz]
    omega
  · have hL : ¬ (tr = true ∧ 0 < ((lp s1.cps.toList i y : Nat) : Int) ∧ 0 < ((lp s2.cps.toList k x : Nat) : Int)) := fun h => ht ⟨h.1, (lp_pos (Nat.le_of_lt hi)).mp (by omega), (lp_pos (Nat.le_of_lt hk)).mp (by omega)⟩
    rw [if_neg ht, if_neg hL]
    generalize ED c tr (ra s1.cps.toList i) (y :: ra s2.cps.toList k) = z2
    generalize ED c tr (x :: ra s1.cps.toList i) (ra s2.cps.toList k) = z3
    generalize ED c tr (ra s1.cps.toList i) (ra s2.cps.toList k) = z4
    clear hs e3 e4 e5 e6 hx hy G hxx hyy ht e1 e2 hL
    omega

theorem in_good {M : List (List Int)} {d : List (Str × Int)} {i : Nat} (G : Good s1 s2 c tr M (i + 1) 0) (hi : i < s1.length) (hd : ∀ ch : Nat, kdpLook d ⟨#[ch]⟩ 0 = (lp s1.cps.toList i ch : Nat)) :
    ∀ k, k ≤ s2.length → Good s1 s2 c tr (edIn s1 s2 c tr d (1 + (i : Int)) M k).1 (i + 1) k ∧ (edIn s1 s2 c tr d (1 + (i : Int)) M k).2 = (lp s2.cps.toList k (s1.cps.toList.getD i 0) : Nat)
  | 0, _ => ⟨G, by rw [lp_zero]; rfl⟩
  | k + 1, h => by
    obtain ⟨G1, h1⟩ := in_good G hi hd k (by omega)
    rw [edIn_succ]
    generalize edIn s1 s2 c tr d (1 + (i : Int)) M k = st at *
    obtain ⟨M1, lr⟩ := st
    dsimp only at h1 G1
    subst h1
    unfold inStep
    dsimp only
    have e1 : (1 + (i : Int)) = ((i + 1 : Nat) : Int) := by omega
    have e2 : (1 + (k : Int)) = ((k + 1 : Nat) : Int) := by omega
    have e3 : (((k + 1 : Nat) : Int) - 1) = (k : Nat) := by omega
    have e4 : (((i + 1 : Nat) : Int) - 1) = (i : Nat) := by omega
    have i1 : Txt.item s2 ((k : Nat) : Int) = ⟨#[s2.cps.toList.getD k 0]⟩ := by rw [item_at (by omega) (by omega)]; rfl
    have i2 : Txt.item s1 ((i : Nat) : Int) = ⟨#[s1.cps.toList.getD i 0]⟩ := by rw [item_at (by omega) (by omega)]; rfl
    rw [e1, e2, e3, e4, i1, i2, hd, step_cell G1 hi (by omega)]
    have hs := fun v i' j' => mAt_set G1.R (i := i + 1) (j := k + 1) (by omega) (by omega) v i' j'
    refine ⟨⟨Rect.set G1.R (by omega) (by omega), fun i' j' h1 h2 => ?_, fun j' hj => ?_, fun i' h1 => ?_⟩, ?_⟩
    · rw [hs, if_neg (by omega)]; exact G1.up i' j' h1 h2
    · rw [hs]
      by_cases e : j' = k + 1
      · rw [if_pos ⟨rfl, e⟩, e]
      · rw [if_neg (fun h => e h.2)]; exact G1.cur j' (by omega)
    · exact (hs _ i' 0).trans (by rw [if_neg (by omega)]; exact G1.col i' h1)
    · rw [lp_succ (by show k < s2.length; omega)]
      by_cases e : s1.cps.toList.getD i 0 = s2.cps.toList.getD k 0
      · rw [if_pos (one_eq.mpr e), if_pos e]
      · rw [if_neg (fun h => e (one_eq.mp h)), if_neg e]

theorem out_good : ∀ n, n ≤ s1.length → Rect (edOut s1 s2 c tr [] n).1 (s1.length + 1) (s2.length + 1) ∧ (∀ i j : Nat, i ≤ n → j ≤ s2.length → mAt (edOut s1 s2 c tr [] n).1 i j = cell s1 s2 c tr i j) ∧ (∀ i : Nat, i ≤ s1.length → mAt (edOut s1 s2 c tr [] n).1 i 0 = i) ∧ ∀ ch : Nat, kdpLook (edOut s1 s2 c tr [] n).2 ⟨#[ch]⟩ 0 = (lp s1.cps.toList n ch : Nat)
  | 0, _ => by
    obtain ⟨R, hc, hr⟩ := init_all (s1.length + 1) (s2.length + 1) (by omega) (by omega)
    refine ⟨R, fun i j h1 h2 => ?_, fun i hi => hc i (by omega), fun ch => by rw [lp_zero]; rfl⟩
    have : i = 0 := by omega
    subst this
    rw [cell_row j h2]
    exact hr j (by omega)
  | n + 1, h => by
    obtain ⟨R, hf, hc, hd⟩ := out_good n (by omega)
    rw [edOut_succ]
    generalize edOut s1 s2 c tr [] n = st at *
    obtain ⟨M, d⟩ := st
    dsimp only at R hf hc hd
    unfold outStep
    dsimp only
    have G0 : Good s1 s2 c tr M (n + 1) 0 := ⟨R, fun i' j' h1 h2 => hf i' j' (by omega) h2, fun j' hj => by
      have : j' = 0 := by omega
      subst this
      rw [cell_col (n + 1) (by omega)]
      exact hc (n + 1) (by omega), hc⟩
    obtain ⟨G1, _⟩ := in_good G0 (by omega) hd s2.length (Nat.le_refl _)
    refine ⟨G1.R, fun i j h1 h2 => ?_, G1.col, fun ch => ?_⟩
    · by_cases e : i = n + 1
      · subst e; exact G1.cur j h2
      · exact G1.up i j (by omega) h2
    · have e3 : (1 + (n : Int) - 1) = (n : Nat) := by omega
      rw [kdpLook_put, e3, item_at (by omega) (by omega), lp_succ (by show n < s1.length; omega)]
      simp only [Int.toNat_natCast, one_eq]
      split
      · omega
      · exact hd ch

theorem edN_eq : edN s1 s2 (c : Nat) tr = (ED c tr s1.cps.toList s2.cps.toList : Nat) := by
  obtain ⟨_, hf, _, _⟩ := out_good (s1 := s1) (s2 := s2) (c := c) (tr := tr) s1.length (Nat.le_refl _)
  have h1 : ra s1.cps.toList s1.length = s1.cps.toList.reverse := by unfold ra; rw [← len_list, List.take_length]
  have h2 : ra s2.cps.toList s2.length = s2.cps.toList.reverse := by unfold ra; rw [← len_list, List.take_length]
  refine (hf s1.length s2.length (Nat.le_refl _) (Nat.le_refl _)).trans ?_
  unfold cell
  rw [h1, h2, ED_rev]
end
end Mine

end

section
open PySem PySem.W PyProof.Rows PySem.Calls PyProof.V
namespace Mine
theorem mem_parts : ∀ (l : List Nat) (ps : List Str) (p : Str), p ∈ l.foldl (fun ps ch => ps ++ ps.map (· ++ (⟨#[ch]⟩ : Str))) ps ↔ ∃ q ∈ ps, ∃ r : List Nat, List.Sublist r l ∧ p.cps.toList = q.cps.toList ++ r
  | [], ps, p => by
    rw [List.foldl_nil]
    constructor
    · intro h; exact ⟨p, h, [], .slnil, by simp⟩
    · rintro ⟨q, hq, r, hr, e⟩
      have : r = [] := List.sublist_nil.mp hr
      subst this
      rw [List.append_nil] at e
      have : p = q := Str.ext' (Array.toList_inj.mp e)
      rw [this]; exact hq
  | ch :: l, ps, p => by
    rw [List.foldl_cons, mem_parts l]
    constructor
    · rintro ⟨q, hq, r, hr, e⟩
      rcases List.mem_append.mp hq with hq | hq
      · exact ⟨q, hq, r, hr.cons ch, e⟩
      · obtain ⟨q', hq', rfl⟩ := List.mem_map.mp hq
        refine ⟨q', hq', ch :: r, hr.cons_cons ch, ?_⟩
        rw [e]
        show (q'.cps ++ #[ch]).toList ++ r = _
        simp
    · rintro ⟨q, hq, r, hr, e⟩
      cases hr with
      | cons _ hr => exact ⟨q, List.mem_append.mpr (.inl hq), r, hr, e⟩
      | cons_cons _ hr =>
        refine ⟨q ++ ⟨#[ch]⟩, List.mem_append.mpr (.inr (List.mem_map.mpr ⟨q, hq, rfl⟩)), _, hr, ?_⟩
        rw [e]
        show _ = (q.cps ++ #[ch]).toList ++ _
        simp
theorem parts_iff (l : List Nat) (p : Str) : p ∈ partsOf l ↔ List.Sublist p.cps.toList l := by
  unfold partsOf
  rw [mem_parts]
  constructor
  · rintro ⟨q, hq, r, hr, e⟩
    rw [List.mem_singleton.mp hq] at e
    have e2 : p.cps.toList = r := e.trans (by simp; rfl)
    rw [e2]; exact hr
  · intro h
    exact ⟨_, List.mem_singleton.mpr rfl, _, h, by simp; rfl⟩

theorem rev_list (a : Str) : (rev a).cps.toList = a.cps.toList.reverse := by unfold rev; simp
theorem app_list (a b : Str) : (a ++ b).cps.toList = a.cps.toList ++ b.cps.toList := by
  show (a.cps ++ b.cps).toList = _
  simp
theorem one_list {c : Str} (h : c.length = 1) : ∃ z, c.cps.toList = [z] := List.length_eq_one_iff.mp h

theorem pair_facts (a b c : Str) (hc : c.length = 1) : PairFacts a b c := by
  obtain ⟨z, hz⟩ := one_list hc
  have la := len_list a
  have lb := len_list b
  have e0 : edN a b 0 false = (ED 0 false a.cps.toList b.cps.toList : Nat) := edN_eq (c := 0)
  have e1 : edN a b 1 false = (ED 1 false a.cps.toList b.cps.toList : Nat) := edN_eq (c := 1)
  have e2 : edN a b 2 false = (ED 2 false a.cps.toList b.cps.toList : Nat) := edN_eq (c := 2)
  have e3 : edN a b 1 true = (ED 1 true a.cps.toList b.cps.toList : Nat) := edN_eq (c := 1)
  have r3 : edN b a 1 true = (ED 1 true b.cps.toList a.cps.toList : Nat) := edN_eq (c := 1)
  have v3 : edN (rev a) (rev b) 1 true = (ED 1 true (rev a).cps.toList (rev b).cps.toList : Nat) := edN_eq (c := 1)
  refine ⟨?_, ?_, ?_, ?_, ?_, ?_, ?_, ?_, ?_, ?_, ?_, ?_, ?_, ?_⟩
  · rw [e0, ED_free _ _ _ (Nat.le_refl _), la, lb]; omega
  · rintro M ⟨⟨p, h1, h2, rfl⟩, hM⟩
    have := ED_lcs ((parts_iff _ _).mp h1) ((parts_iff _ _).mp h2) (fun q q1 q2 => by
      have := hM ⟨q.toArray⟩ ((parts_iff _ _).mpr (by simpa using q1)) ((parts_iff _ _).mpr (by simpa using q2))
      have h3 : (Str.length ⟨q.toArray⟩) = q.length := by unfold Str.length; simp
      rw [h3] at this
      rw [len_list]; omega)
    rw [la, lb, len_list] at this
    rw [e2]; omega
  · rw [e0, e1]; have := ED_mono (a := a.cps.toList) (b := b.cps.toList) (c := 1) (c' := 0) (by omega); omega
  · rw [e1, e2]; have := ED_mono (a := a.cps.toList) (b := b.cps.toList) (c := 2) (c' := 1) (by omega); omega
  · rw [e1]; have := ED_max (a := a.cps.toList) (b := b.cps.toList); rw [la, lb] at this; omega
  · rw [e1, e3]; have := ED_swap (c := 1) (a := a.cps.toList) (b := b.cps.toList); omega
  · rw [e1, e3]; have := ED_double (a := a.cps.toList) (b := b.cps.toList); omega
  · rw [e1]
    have := ED_zero (a := a.cps.toList) (b := b.cps.toList)
    constructor
    · intro h; exact Str.ext' (Array.toList_inj.mp (this.mp (by omega)))
    · intro h; rw [this.mpr (by rw [h])]; rfl
  · intro k hk
    obtain ⟨n, rfl⟩ : ∃ n : Nat, k = n := ⟨k.toNat, by omega⟩
    rw [edN_eq, edN_eq, ED_symm]
  · intro k hk
    obtain ⟨n, rfl⟩ : ∃ n : Nat, k = n := ⟨k.toNat, by omega⟩
    rw [edN_eq, edN_eq, rev_list, rev_list, ED_rev]
  · intro k hk
    obtain ⟨n, rfl⟩ : ∃ n : Nat, k = n := ⟨k.toNat, by omega⟩
    rw [edN_eq, edN_eq, app_list, app_list, hz]
    exact congrArg _ (ED_pre z)
  · intro k hk
    obtain ⟨n, rfl⟩ : ∃ n : Nat, k = n := ⟨k.toNat, by omega⟩
    rw [edN_eq, edN_eq, app_list, app_list, hz]
    exact congrArg _ (ED_suf z)
  · rw [r3, e3, ED_symm]
  · rw [v3, e3, rev_list, rev_list, ED_rev]

theorem law_facts (a b c : Str) : LawFacts a b c := by
  have h1 (k : Nat) : edN a c (k : Int) false ≤ edN a b (k : Int) false + edN b c (k : Int) false := by
    rw [edN_eq, edN_eq, edN_eq]; have := ED_tri (c := k) (a := a.cps.toList) (b := b.cps.toList) (d := c.cps.toList); omega
  refine ⟨h1 1, h1 2, ?_, ?_, ?_⟩
  · have e1 : edN a b 1 true = (ED 1 true a.cps.toList b.cps.toList : Nat) := edN_eq (c := 1)
    have e2 : edN b c 1 true = (ED 1 true b.cps.toList c.cps.toList : Nat) := edN_eq (c := 1)
    have e3 : edN a c 1 true = (ED 1 true a.cps.toList c.cps.toList : Nat) := edN_eq (c := 1)
    rw [e1, e2, e3]; have := ED_triT (a := a.cps.toList) (b := b.cps.toList) (d := c.cps.toList); omega
  · intro k hk
    obtain ⟨n, rfl⟩ : ∃ n : Nat, k = n := ⟨k.toNat, by omega⟩
    rw [edN_eq, ED_self]; rfl
  · have e1 : edN a a 1 true = (ED 1 true a.cps.toList a.cps.toList : Nat) := edN_eq (c := 1)
    rw [e1, ED_self]; rfl
end Mine
end

theorem PySem.Challenge.cw_an0014_01_holds : PySem.Challenge.rw_an0014_01.Holds := by
  exact Mine.law_walk (fun a b c _ _ h => Mine.pair_facts a b c h) (fun a b c _ _ _ => Mine.law_facts a b c)

