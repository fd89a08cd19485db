import PyProof.Rows.All
import Wide.All
import OpenK.AllK
import Wide.FinOn
import PySem.Challenge.RW_qu0035_01
set_option Elab.async false
section
open PySem PySem.W PyProof.Rows
set_option Elab.async false
set_option maxRecDepth 100000
set_option maxHeartbeats 8000000
open_top Mine.hd for PySem.Challenge.rw_qu0035_01
end
section
open PySem PySem.W PyProof.Rows
theorem Mine.freshHead1 {M : Model} {A : Around} {Q : Flow → Shared → Prop} {E : Value → Shared → Prop} {s : Shared} {env : Env} (h : wpAny M A (execs [] env) Q E s) : wpAny M A (execs [] env) Q E s := by
  w_top off
  first | (walk1; fail) | exact h
end
section
open PySem PySem.W PyProof.Rows
set_option Elab.async false
set_option maxRecDepth 100000
set_option maxHeartbeats 4000000
namespace Mine
abbrev Led := List (Addr × Obj)
abbrev tup2 (p e : Int) (t u : Tok) : Obj := { cls := .type "tuple", data := .seq #[.int p t, .int e u] }
/-- v is a reference to a pair of ints that stands in the ledger -/
def IsPr (news : Led) (v : Value) (x : Int × Int) : Prop := ∃ a t u, v = .ref a ∧ (a, tup2 x.1 x.2 t u) ∈ news
def ltP (x y : Int × Int) : Bool := decide (x.1 < y.1 ∨ (x.1 = y.1 ∧ x.2 < y.2))
theorem IsPr.mono {n n' : Led} {v : Value} {x : Int × Int} (h : IsPr n v x) (hs : ∀ p ∈ n, p ∈ n') : IsPr n' v x := by
  obtain ⟨a, t, u, rfl, hm⟩ := h
  exact ⟨a, t, u, rfl, hs _ hm⟩
section
variable {prog : Program} {w : World} {A : Around} {E : Value → Shared → Prop} {s : Shared} {h₀ : Heap} {L D : Addr} {m : PySem.Str → Option Value} {news news' : Led} {vs : List Value} {n : Nat} {k : Int} {t u : Tok}
theorem ru_item {value slice : PySem.Expr} {v : Value} {Q : Value → Shared → Prop} (N : News h₀ L s.heap news) (hm : (D, listOf vs.toArray n) ∈ news) (h0 : 0 ≤ k) (hfit : k < 2 ^ 63) (hx : vs[k.toNat]? = some v) (h : Q v s)
    (hs : subscripted slice false (.ref D) (.int k u) = operate [.ref D, .int k u] (getItem (.ref D) (.int k u)) := by with_unfolding_all rfl) :
    wpAny (model prog w) A (subscriptTail value slice (.ref D) (.int k u)) Q E s :=
  tail_any (PySem.IsL.isList (n := n) (N _ hm).1).typeIs slot_list_getitem.lookup (wpAny_getItem_list (PySem.IsL.isList (n := n) (N _ hm).1) h0 hfit (by simpa using hx) h) hs
theorem ru_set {v : Value} {rest : Led} {Q : Unit → Shared → Prop} (F : Fr h₀ L s.heap m) (N : News h₀ L s.heap ((D, listOf vs.toArray n) :: rest)) (hr : ∀ p ∈ rest, p.1 ≠ D) (h0 : 0 ≤ k) (h1 : k < vs.length) (hfit : k < 2 ^ 63)
    (h : ∀ h', Fr h₀ L h' m → News h₀ L h' ((D, listOf (vs.set k.toNat v).toArray n) :: rest) → Q () { s with heap := h' }) :
    wpAny (model prog w) A (setItem (.ref D) (.int k t) v) Q E s := by
  have z := N (D, listOf vs.toArray n) (.head _)
  have hs : vs.toArray.size = vs.length := List.size_toArray ..
  refine ki_setAt z.1 h0 hfit (by omega) (h _ (F.change (Heap.SameBut.update ..) z.2.1 z.2.2) (ki_turn (pre := []) _ N (fun _ h => nomatch h) hr ?_ ?_))
  · show vs.toArray.setIfInBounds k.toNat v = (vs.set k.toNat v).toArray
    apply Array.toList_inj.mp
    simp
  · simp
theorem ru_lt_tree {a b : Addr} {p1 e1 p2 e2 : Int} {t1 u1 t2 u2 : Tok} {P : PySem.Fin → Shared → Prop} (hx : s.heap.get? a = some (tup2 p1 e1 t1 u1)) (hy : s.heap.get? b = some (tup2 p2 e2 t2 u2))
    (h : P (.done (.ret (.bool (ltP (p1, e1) (p2, e2))))) s) :
    wpAny (model prog w) A (Builtin.«tuple.__lt__» ⟨[.ref a, .ref b], []⟩) P E s := by
  have hTb : s.TypeIs (.ref b) "tuple" := ⟨_, hy, rfl⟩
  show wpAny _ _ (isInstance (.ref b) (.type "tuple") >>= _) _ _ s
  refine wpAny_bind (wpAny_isInstance hTb isSubtype_tuple_tuple ?_)
  simp only [Bool.not_true, Bool.false_eq_true, if_false]
  refine wpAny_bind (wpAny_tupleItemsOf hx rfl ?_)
  refine wpAny_bind (wpAny_tupleItemsOf hy rfl ?_)
  refine wpAny_bind ?_
  show wpAny (model prog w) A (forIn [(Value.int p1 t1, Value.int p2 t2), (Value.int e1 u1, Value.int e2 u2)] _ _) _ _ _
  rw [List.forIn_cons]
  refine wpAny_bind (wpAny_bind (wpAny_eqBool_int ?_))
  by_cases hp : p1 = p2
  · subst hp
    simp only [beq_self_eq_true, Bool.not_true, Bool.false_eq_true, if_false]
    refine wpAny_pure ?_
    show wpAny (model prog w) A (forIn [(Value.int e1 u1, Value.int e2 u2)] _ _) _ _ _
    rw [List.forIn_cons]
    refine wpAny_bind (wpAny_bind (wpAny_eqBool_int ?_))
    by_cases he : e1 = e2
    · subst he
      simp only [beq_self_eq_true, Bool.not_true, Bool.false_eq_true, if_false]
      refine wpAny_pure ?_
      show wpAny (model prog w) A (forIn ([] : List (Value × Value)) _ _) _ _ _
      rw [List.forIn_nil]
      refine wpAny_pure (wpAny_pure ?_)
      show P (.done (.ret (.bool false))) s
      have e : ltP (p1, e1) (p1, e1) = false := by simp [ltP]
      rw [e] at h; exact h
    · have hb : (e1 == e2) = false := by simpa using he
      simp only [hb, Bool.not_false, if_true]
      have e : ltP (p1, e1) (p1, e2) = decide (e1 < e2) := by simp [ltP]
      rw [e] at h
      exact wpAny_bind (wpAny_rule (wpAny_bind (PyProof.Rows.lt_int (wpAny_bind (wpAny_pure (wpAny_pure (wpAny_pure (wpAny_pure h))))))))
  · have hb : (p1 == p2) = false := by simpa using hp
    simp only [hb, Bool.not_false, if_true]
    have e : ltP (p1, e1) (p2, e2) = decide (p1 < p2) := by simp [ltP, hp]
    rw [e] at h
    exact wpAny_bind (wpAny_rule (wpAny_bind (PyProof.Rows.lt_int (wpAny_bind (wpAny_pure (wpAny_pure (wpAny_pure (wpAny_pure h))))))))
theorem ru_lt {v1 v2 : Value} {x1 x2 : Int × Int} {Q : Value → Shared → Prop} (N : News h₀ L s.heap news) (hx : IsPr news v1 x1) (hy : IsPr news v2 x2) (hu : A.units < cLine)
    (h : Q (.bool (ltP x1 x2)) s) : wpAny (model prog w) A (compareOp .Lt v1 v2) Q E s := by
  obtain ⟨a, t1, u1, rfl, ha⟩ := hx
  obtain ⟨b, t2, u2, rfl, hb⟩ := hy
  have ga := (N _ ha).1
  have gb := (N _ hb).1
  exact cmp_ofLt (wpAny_richCompare_same_room (op := .Lt) (T := "tuple") ⟨_, ga, rfl⟩ ⟨_, gb, rfl⟩ F.slot_tuple_lt
    (wpAny_call_entry F.slot_tuple_lt ⟨_, ga, rfl⟩ F.entry_tuple_lt (ru_lt_tree ga gb ⟨_, rfl, (fun e => nomatch e), h⟩) (F.args_tuple_lt_2 _ _)) hu)
theorem ru_len {Q : Value → Shared → Prop} (N : News h₀ L s.heap news) (hm : (D, listOf vs.toArray n) ∈ news) (hl : vs.length < 2 ^ 62) (h : ∀ t tk, Q (.int (vs.length : Nat) t) { s with toks := tk }) :
    wpAny (model prog w) A (call (.builtin "len") [.ref D]) Q E s :=
  len_list (PySem.IsL.isList (n := n) (N _ hm).1) (by rw [List.size_toArray]; omega) (by rw [List.size_toArray]; exact h _ _)
theorem ru_truthy {Q : Bool → Shared → Prop} (N : News h₀ L s.heap news) (hm : (D, listOf vs.toArray n) ∈ news) (hl : vs.length < 2 ^ 62) (h : ∀ tk, Q (!vs.isEmpty) { s with toks := tk }) :
    wpAny (model prog w) A (truthy (.ref D)) Q E s :=
  wpAny_truthy_list (PySem.IsL.isList (n := n) (N _ hm).1) (by rw [List.size_toArray]; omega) (by simpa using h _)
theorem ru_append {v : Value} {rest : Led} {Q : Value → Shared → Prop} (F : Fr h₀ L s.heap m) (N : News h₀ L s.heap ((D, listOf vs.toArray n) :: rest)) (hr : ∀ p ∈ rest, p.1 ≠ D) (hl : vs.length < 1000000)
    (h : ∀ h', Fr h₀ L h' m → News h₀ L h' ((D, listOf (vs ++ [v]).toArray (n + 1)) :: rest) → Q .none { s with heap := h' }) :
    wpAny (model prog w) A (call (.builtin "list.append") [.ref D, v]) Q E s :=
  append_K F N (Upd.head hr) (by simpa using h) (by rw [List.size_toArray]; unfold sizeLine; omega)
theorem ru_pop {v : Value} {rest : Led} {Q : Value → Shared → Prop} (F : Fr h₀ L s.heap m) (N : News h₀ L s.heap ((D, listOf (vs ++ [v]).toArray n) :: rest)) (hr : ∀ p ∈ rest, p.1 ≠ D) (hl : vs.length < 1000000)
    (h : ∀ h', Fr h₀ L h' m → News h₀ L h' ((D, listOf vs.toArray (n + 1)) :: rest) → Q v { s with heap := h' }) :
    wpAny (model prog w) A (call (.builtin "list.pop") [.ref D]) Q E s :=
  kl_pop (p := vs) (y := v) F N (by simpa using kpa_last v vs) (Upd.head hr) (by simp; unfold sizeLine; omega) h
end
end Mine
end
section
open PySem PySem.W PyProof.Rows
theorem Mine.freshRu {M : Model} {A : Around} {Q : Flow → Shared → Prop} {E : Value → Shared → Prop} {s : Shared} {env : Env} (h : wpAny M A (execs [] env) Q E s) : wpAny M A (execs [] env) Q E s := by
  w_top off
  first | (walk1; fail) | exact h
end
section
open PySem PySem.W PyProof.Rows
namespace Mine
theorem sub_nil {L : Led} : ∀ q ∈ ([] : Led), q ∈ L := fun _ h => nomatch h
theorem sub_cons {a : Addr × Obj} {l L : Led} (h : a ∈ L) (hl : ∀ q ∈ l, q ∈ L) : ∀ q ∈ a :: l, q ∈ L := fun q hq => (List.mem_cons.mp hq).elim (fun e => e ▸ h) (hl q)
theorem sub_app {l l' L : Led} (h : ∀ q ∈ l, q ∈ L) (h' : ∀ q ∈ l', q ∈ L) : ∀ q ∈ l ++ l', q ∈ L := fun q hq => (List.mem_append.mp hq).elim (h q) (h' q)
end Mine
end
section
open PySem PySem.W PyProof.Rows
theorem Mine.freshSb {M : Model} {A : Around} {Q : Flow → Shared → Prop} {E : Value → Shared → Prop} {s : Shared} {env : Env} (h : wpAny M A (execs [] env) Q E s) : wpAny M A (execs [] env) Q E s := by
  w_top off
  first | (walk1; fail) | exact h
end
section
open PySem PySem.W PyProof.Rows
set_option maxRecDepth 100000
namespace Mine
theorem ltP_asymm {a b : Int × Int} (h : ltP a b = true) : ltP b a = false := by
  simp only [ltP, decide_eq_true_eq, decide_eq_false_iff_not] at *; omega
theorem ltP_negtrans {a b c : Int × Int} (h : ltP a b = false) (h' : ltP b c = false) : ltP a c = false := by
  simp only [ltP, decide_eq_false_iff_not] at *; omega
theorem ltP_mix {x p i : Int × Int} (h : ltP x p = true) (h' : ltP i p = false) : ltP i x = false := by
  simp only [ltP, decide_eq_true_eq, decide_eq_false_iff_not] at *; omega
theorem ltP_irrefl (a : Int × Int) : ltP a a = false := by
  simp only [ltP, decide_eq_false_iff_not]; omega
abbrev gt (W : List Value) (i : Nat) : Value := W.getD i Value.none
theorem gt_set (W : List Value) (k i : Nat) (v : Value) (hk : k < W.length) : gt (W.set k v) i = if i = k then v else gt W i := by
  simp only [gt, List.getD_eq_getElem?_getD, List.getElem?_set]
  by_cases h : k = i
  · subst h; simp [hk]
  · have h' : ¬ i = k := fun e => h e.symm
    simp [h, h']
theorem gt_eq {W : List Value} {i : Nat} (h : i < W.length) : gt W i = W[i] := by
  simp [gt, List.getD_eq_getElem?_getD, h]
theorem gt_some {W : List Value} {i : Nat} (h : i < W.length) : W[i]? = some (gt W i) := by
  simp [gt, List.getD_eq_getElem?_getD, h]
theorem gt_mem {W : List Value} {i : Nat} (h : i < W.length) : gt W i ∈ W := by
  rw [gt_eq h]; exact List.getElem_mem h
theorem mem_gt {W : List Value} {v : Value} (h : v ∈ W) : ∃ i, i < W.length ∧ gt W i = v := by
  obtain ⟨i, hi, e⟩ := List.mem_iff_getElem.mp h
  exact ⟨i, hi, by rw [gt_eq hi]; exact e⟩
def par (i : Nat) : Nat := (i - 1) / 2
/-- the heap's order -/
def HO (φ : Value → Int × Int) (W : List Value) : Prop := ∀ i, 0 < i → i < W.length → ltP (φ (gt W i)) (φ (gt W (par i))) = false
/-- the order but at one place -/
def SdInv (φ : Value → Int × Int) (W : List Value) (pos : Nat) : Prop :=
  (∀ i, 0 < i → i < W.length → i ≠ pos → ltP (φ (gt W i)) (φ (gt W (par i))) = false) ∧
  (∀ c, 0 < c → c < W.length → par c = pos → 0 < pos → ltP (φ (gt W c)) (φ (gt W (par pos))) = false)
theorem HO.root {φ : Value → Int × Int} {W : List Value} (h : HO φ W) : ∀ i, i < W.length → ltP (φ (gt W i)) (φ (gt W 0)) = false := by
  intro i
  induction i using Nat.strongRecOn with
  | ind i ih =>
    intro hi
    by_cases h0 : i = 0
    · subst h0; exact ltP_irrefl _
    · have hp : par i < i := by unfold par; omega
      exact ltP_negtrans (h i (by omega) hi) (ih _ hp (by omega))
abbrev swapL (W : List Value) (i j : Nat) : List Value := (W.set i (gt W j)).set j (gt W i)
theorem swapL_length (W : List Value) (i j : Nat) : (swapL W i j).length = W.length := by simp [swapL]
theorem gt_swap (W : List Value) {i j : Nat} (hi : i < W.length) (hj : j < W.length) (k : Nat) : gt (swapL W i j) k = if k = j then gt W i else if k = i then gt W j else gt W k := by
  unfold swapL
  rw [gt_set _ _ _ _ (by simpa using hj), gt_set _ _ _ _ hi]
theorem swap_perm (W : List Value) {i j : Nat} (hi : i < W.length) (hj : j < W.length) : (swapL W i j).Perm W := by
  rw [List.perm_iff_count]
  intro a
  unfold swapL
  rw [gt_eq hi, gt_eq hj]
  rw [List.count_set (by simpa using hj), List.count_set hi, List.getElem_set]
  have c1 : W[i] = a → 0 < W.count a := fun e => e ▸ List.count_pos_iff.mpr (List.getElem_mem hi)
  have c2 : W[j] = a → 0 < W.count a := fun e => e ▸ List.count_pos_iff.mpr (List.getElem_mem hj)
  by_cases hij : i = j
  · subst hij
    simp only [if_true]
    by_cases h : W[i] = a
    · have := c1 h; simp [h]; omega
    · simp [h]
  · simp only [hij, if_false]
    by_cases h : W[i] = a <;> by_cases h' : W[j] = a
    · have := c1 h; simp [h, h']; omega
    · have := c1 h; simp [h, h']; omega
    · have := c2 h'; simp [h, h']
    · simp [h, h']
theorem SdInv.step {φ : Value → Int × Int} {W : List Value} {pos : Nat} (h : SdInv φ W pos) (h0 : 0 < pos) (hl : pos < W.length) (hlt : ltP (φ (gt W pos)) (φ (gt W (par pos))) = true) :
    SdInv φ (swapL W pos (par pos)) (par pos) := by
  have hp : par pos < pos := by unfold par; omega
  have hpl : par pos < W.length := by omega
  obtain ⟨h1, h2⟩ := h
  refine ⟨fun i hi0 hi hne => ?_, fun c hc0 hc hpc hp0 => ?_⟩
  · rw [swapL_length] at hi
    rw [gt_swap _ hl hpl, gt_swap _ hl hpl]
    rw [if_neg hne]
    by_cases e1 : i = pos
    · subst e1
      simp only [if_true]
      exact ltP_asymm hlt
    · rw [if_neg e1]
      by_cases e2 : par i = par pos
      · rw [if_pos e2]
        have := h1 i hi0 hi e1
        rw [e2] at this
        exact ltP_mix hlt this
      · rw [if_neg e2]
        by_cases e3 : par i = pos
        · rw [if_pos e3]
          exact h2 i hi0 hi e3 h0
        · rw [if_neg e3]
          exact h1 i hi0 hi e1
  · rw [swapL_length] at hc
    rw [gt_swap _ hl hpl, gt_swap _ hl hpl]
    have hpp : par (par pos) < par pos := by unfold par at *; omega
    rw [if_neg (show ¬ par (par pos) = par pos by omega), if_neg (show ¬ par (par pos) = pos by omega)]
    have hok := h1 (par pos) hp0 hpl (by omega)
    have hcne : c ≠ par pos := by intro e; rw [e] at hpc; omega
    rw [if_neg hcne]
    by_cases e1 : c = pos
    · rw [if_pos e1]; exact hok
    · rw [if_neg e1]
      have := h1 c hc0 hc e1
      rw [hpc] at this
      exact ltP_negtrans this hok
theorem SdInv.done {φ : Value → Int × Int} {W : List Value} {pos : Nat} (h : SdInv φ W pos) (hd : 0 < pos → ltP (φ (gt W pos)) (φ (gt W (par pos))) = false) : HO φ W := by
  intro i hi0 hi
  by_cases e : i = pos
  · subst e; exact hd hi0
  · exact h.1 i hi0 hi e
/-- going down: all order that does not touch the hole -/
def SuInv (φ : Value → Int × Int) (W : List Value) (pos : Nat) : Prop :=
  (∀ i, 0 < i → i < W.length → i ≠ pos → par i ≠ pos → ltP (φ (gt W i)) (φ (gt W (par i))) = false) ∧
  (∀ c, 0 < c → c < W.length → par c = pos → 0 < pos → ltP (φ (gt W c)) (φ (gt W (par pos))) = false)
theorem SuInv.start {φ : Value → Int × Int} {W : List Value} {x : Value} (h : HO φ W) : SuInv φ (W.set 0 x) 0 := by
  refine ⟨fun i hi0 hi hne hp => ?_, fun c _ _ _ h0 => absurd h0 (Nat.lt_irrefl _)⟩
  rw [List.length_set] at hi
  rw [gt_set _ _ _ _ (by omega), gt_set _ _ _ _ (by omega), if_neg hne, if_neg hp]
  exact h i hi0 hi
/-- the lesser child c of the hole goes up -/
theorem SuInv.step {φ : Value → Int × Int} {W : List Value} {pos c : Nat} (h : SuInv φ W pos) (hc0 : 0 < c) (hc : c < W.length) (hpc : par c = pos)
    (hmin : ∀ d, 0 < d → d < W.length → par d = pos → ltP (φ (gt W d)) (φ (gt W c)) = false) : SuInv φ (swapL W pos c) c := by
  have hpl : pos < c := by rw [← hpc]; unfold par; omega
  have hl : pos < W.length := by omega
  obtain ⟨h1, h2⟩ := h
  refine ⟨fun i hi0 hi hne hp => ?_, fun d hd0 hd hpd _ => ?_⟩
  · rw [swapL_length] at hi
    rw [gt_swap _ hl hc, gt_swap _ hl hc, if_neg hne, if_neg hp]
    by_cases e1 : i = pos
    · subst e1
      rw [if_pos rfl]
      have : par i ≠ i := by unfold par; omega
      rw [if_neg this]
      exact h2 c hc0 hc hpc hi0
    · rw [if_neg e1]
      by_cases e2 : par i = pos
      · rw [if_pos e2]; exact hmin i hi0 hi e2
      · rw [if_neg e2]; exact h1 i hi0 hi e1 e2
  · rw [swapL_length] at hd
    have hdc : c < d := by rw [← hpd]; unfold par; omega
    rw [hpc, gt_swap _ hl hc, gt_swap _ hl hc, if_neg (by omega), if_neg (by omega), if_neg (by omega), if_pos rfl]
    have := h1 d hd0 hd (by omega) (by omega)
    rw [hpd] at this
    exact this
theorem SuInv.leaf {φ : Value → Int × Int} {W : List Value} {pos : Nat} (h : SuInv φ W pos) (hl : W.length ≤ 2 * pos + 1) : SdInv φ W pos := by
  refine ⟨fun i hi0 hi hne => h.1 i hi0 hi hne ?_, fun c hc0 hc hpc _ => ?_⟩
  · unfold par; omega
  · unfold par at hpc; omega
theorem SdInv.leaf {φ : Value → Int × Int} {W : List Value} {v : Value} (h : HO φ W) : SdInv φ (W ++ [v]) W.length := by
  have g : ∀ i, i < W.length → gt (W ++ [v]) i = gt W i := fun i hi => by
    simp [gt, List.getD_eq_getElem?_getD, List.getElem?_append_left hi]
  refine ⟨fun i hi0 hi hne => ?_, fun c hc0 hc hpc _ => ?_⟩
  · simp only [List.length_append, List.length_cons, List.length_nil] at hi
    have hi' : i < W.length := by omega
    rw [g i hi', g (par i) (by unfold par; omega)]
    exact h i hi0 hi'
  · simp only [List.length_append, List.length_cons, List.length_nil] at hc
    unfold par at hpc; omega
end Mine
end
section
open PySem PySem.W PyProof.Rows
theorem Mine.freshHp {M : Model} {A : Around} {Q : Flow → Shared → Prop} {E : Value → Shared → Prop} {s : Shared} {env : Env} (h : wpAny M A (execs [] env) Q E s) : wpAny M A (execs [] env) Q E s := by
  w_top off
  first | (walk1; fail) | exact h
end
section
open PySem PySem.W PyProof.Rows
set_option maxRecDepth 100000
namespace Mine
abbrev Nm := PySem.Str
/-- a frame's map by a list of its names -/
def mpL (l : List (Nm × Option Value)) : Nm → Option Value := fun y => (l.lookup y).join
def setL (x : Nm) (v : Option Value) : List (Nm × Option Value) → List (Nm × Option Value)
  | [] => [(x, v)]
  | (y, u) :: r => if y = x then (y, v) :: r else (y, u) :: setL x v r
theorem setL_lookup (x : Nm) (v : Option Value) (y : Nm) : ∀ l : List (Nm × Option Value), (setL x v l).lookup y = if y = x then some v else l.lookup y
  | [] => by
    by_cases h : y = x
    · subst h; simp [setL]
    · simp [setL, h, List.lookup_cons, beq_false_of_ne h]
  | (z, u) :: r => by
    unfold setL
    by_cases hz : z = x
    · subst hz
      rw [if_pos rfl]
      by_cases h : y = z
      · subst h; simp
      · simp [h, List.lookup_cons, beq_false_of_ne h]
    · rw [if_neg hz]
      rw [List.lookup_cons, List.lookup_cons, setL_lookup x v y r]
      by_cases h : y = z
      · subst h; simp [hz]
      · simp [beq_false_of_ne h]
theorem mpL_set (l : List (Nm × Option Value)) (x : Nm) (v : Value) : (fun y => if y = x then some v else mpL l y) = mpL (setL x (some v) l) := by
  funext y
  unfold mpL
  rw [setL_lookup]
  by_cases h : y = x <;> simp [h]
theorem mpL_s {f : Nm → Option Value} {l : List (Nm × Option Value)} {x : Nm} {v : Value} (h : f = mpL l) : (fun y => if y = x then some v else f y) = mpL (setL x (some v) l) := by
  subst h; exact mpL_set l x v
theorem mpL_of (l : List (Nm × Value)) : (fun y => l.lookup y) = mpL (l.map fun p => (p.1, some p.2)) := by
  funext y
  unfold mpL
  induction l with
  | nil => rfl
  | cons p r ih =>
    obtain ⟨z, v⟩ := p
    simp only [List.map_cons, List.lookup_cons]
    by_cases h : y = z
    · simp [h]
    · simp [beq_false_of_ne h, ih]
theorem mpL_pad (l : List (Nm × Option Value)) (ks : List Nm) : mpL l = mpL (l ++ ks.map fun k => (k, none)) := by
  funext y
  unfold mpL
  induction l with
  | nil =>
    rw [List.nil_append]
    induction ks with
    | nil => rfl
    | cons k r ih =>
      simp only [List.map_cons, List.lookup_cons]
      by_cases h : y = k
      · simp [h]
      · simpa [beq_false_of_ne h] using ih
  | cons p r ih =>
    obtain ⟨z, v⟩ := p
    simp only [List.cons_append, List.lookup_cons]
    by_cases h : y = z
    · simp [h]
    · simp [beq_false_of_ne h, ih]
theorem fr_eq {h₀ h : Heap} {L : Addr} {m m' : Nm → Option Value} (F : Fr h₀ L h m) (e : m = m') : Fr h₀ L h m' := e ▸ F
theorem fr_of {h₀ h : Heap} {L : Addr} {l : List (Nm × Value)} (ks : List Nm) (F : Fr h₀ L h fun y => l.lookup y) : Fr h₀ L h (mpL ((l.map fun p => (p.1, some p.2)) ++ ks.map fun k => (k, none))) :=
  fr_eq F ((mpL_of l).trans (mpL_pad _ ks))
theorem ws_cont {h₀ h' : Heap} {L : Addr} {s : Shared} {J : Nat → (Nm → Option Value) → Led → Prop} {Q : Flow → Shared → Prop} {n n' tk : Nat} {m₂ : Nm → Option Value} {news₂ : Led}
    (F : Fr h₀ L h' m₂) (N : News h₀ L h' news₂) (hn : n' < n) (hJ : J n' m₂ news₂) : WhileStep2 h₀ L s J Q n .cont { s with heap := h', toks := tk } :=
  ⟨h', tk, m₂, news₂, n', rfl, F, N, hn, hJ⟩
theorem ws_next {h₀ h' : Heap} {L : Addr} {s : Shared} {J : Nat → (Nm → Option Value) → Led → Prop} {Q : Flow → Shared → Prop} {n n' tk : Nat} {m₂ : Nm → Option Value} {news₂ : Led}
    (F : Fr h₀ L h' m₂) (N : News h₀ L h' news₂) (hn : n' < n) (hJ : J n' m₂ news₂) : WhileStep2 h₀ L s J Q n .next { s with heap := h', toks := tk } :=
  ⟨h', tk, m₂, news₂, n', rfl, F, N, hn, hJ⟩
theorem ws_brk {h₀ : Heap} {L : Addr} {s s₃ : Shared} {J : Nat → (Nm → Option Value) → Led → Prop} {Q : Flow → Shared → Prop} {n : Nat} (h : Q .next s₃) : WhileStep2 h₀ L s J Q n .brk s₃ := h
theorem ws_ret {h₀ : Heap} {L : Addr} {s s₃ : Shared} {J : Nat → (Nm → Option Value) → Led → Prop} {Q : Flow → Shared → Prop} {n : Nat} {v : Value} (h : Q (.ret v) s₃) : WhileStep2 h₀ L s J Q n (.ret v) s₃ := h
def Halt (P : Prop) : Prop := P
theorem halt {P : Prop} (h : Halt P) : P := h
section
variable {prog : Program} {w : World} {A : Around} {E : Value → Shared → Prop} {s : Shared} {h₀ : Heap} {L D : Addr} {m : Nm → Option Value} {news news' : Led} {vs : List Value} {n : Nat} {k : Int} {t u : Tok}
theorem ru_itemN {value slice : PySem.Expr} {Q : Value → Shared → Prop} (i : Nat) (N : News h₀ L s.heap news) (hm : (D, listOf vs.toArray n) ∈ news) (hk : k = (i : Int)) (hi : i < vs.length) (hl : vs.length < 2 ^ 62) (h : Q (gt vs i) s)
    (hs : subscripted slice false (.ref D) (.int k u) = operate [.ref D, .int k u] (getItem (.ref D) (.int k u)) := by with_unfolding_all rfl) :
    wpAny (model prog w) A (subscriptTail value slice (.ref D) (.int k u)) Q E s :=
  ru_item N hm (by omega) (by omega) (by subst hk; exact gt_some hi) h hs
theorem ru_setN {v : Value} {rest : Led} {Q : Unit → Shared → Prop} (i : Nat) (F : Fr h₀ L s.heap m) (N : News h₀ L s.heap ((D, listOf vs.toArray n) :: rest)) (hr : ∀ p ∈ rest, p.1 ≠ D) (hk : k = (i : Int)) (hi : i < vs.length) (hl : vs.length < 2 ^ 62)
    (h : ∀ h', Fr h₀ L h' m → News h₀ L h' ((D, listOf (vs.set i v).toArray n) :: rest) → Q () { s with heap := h' }) :
    wpAny (model prog w) A (setItem (.ref D) (.int k t) v) Q E s := by
  subst hk
  exact ru_set F N hr (by omega) (by omega) (by omega) h
theorem ru_pr0 {value slice : PySem.Expr} {v : Value} {x : Int × Int} {Q : Value → Shared → Prop} (N : News h₀ L s.heap news) (hv : IsPr news v x) (h : ∀ t, Q (.int x.1 t) s)
    (hs : ∀ a, subscripted slice false (.ref a) (.int 0 u) = operate [.ref a, .int 0 u] (getItem (.ref a) (.int 0 u)) := by intro _; with_unfolding_all rfl) :
    wpAny (model prog w) A (subscriptTail value slice v (.int 0 u)) Q E s := by
  obtain ⟨a, t1, u1, rfl, hm⟩ := hv
  have ht : IsTup s.heap a #[.int x.1 t1, .int x.2 u1] := ⟨_, (N _ hm).1, rfl, _, rfl⟩
  exact tail_any ht.typeIs slot_tuple_getitem.lookup (getItem_tuple (k := 0) (j := 0) ht (by decide) (by decide) (by show seqIndex? 0 2 = some 0; decide) rfl (h t1)) (hs a)
theorem ru_pr1 {value slice : PySem.Expr} {v : Value} {x : Int × Int} {Q : Value → Shared → Prop} (N : News h₀ L s.heap news) (hv : IsPr news v x) (h : ∀ t, Q (.int x.2 t) s)
    (hs : ∀ a, subscripted slice false (.ref a) (.int 1 u) = operate [.ref a, .int 1 u] (getItem (.ref a) (.int 1 u)) := by intro _; with_unfolding_all rfl) :
    wpAny (model prog w) A (subscriptTail value slice v (.int 1 u)) Q E s := by
  obtain ⟨a, t1, u1, rfl, hm⟩ := hv
  have ht : IsTup s.heap a #[.int x.1 t1, .int x.2 u1] := ⟨_, (N _ hm).1, rfl, _, rfl⟩
  exact tail_any ht.typeIs slot_tuple_getitem.lookup (getItem_tuple (k := 1) (j := 1) ht (by decide) (by decide) (by show seqIndex? 1 2 = some 1; decide) rfl (h u1)) (hs a)
end
end Mine
end
section
open PySem PySem.W PyProof.Rows
theorem Mine.freshMp {M : Model} {A : Around} {Q : Flow → Shared → Prop} {E : Value → Shared → Prop} {s : Shared} {env : Env} (h : wpAny M A (execs [] env) Q E s) : wpAny M A (execs [] env) Q E s := by
  w_top off
  first | (walk1; fail) | exact h
end
section
open PySem PySem.W PyProof.Rows
set_option Elab.async false
set_option maxRecDepth 100000
set_option maxHeartbeats 4000000
namespace Mine
/-- the end of a turn of a for -/
def FEnd (h₀ : Heap) (L : Addr) (J : (Nm → Option Value) → Led → Prop) (own : Led) (I : Addr) (s₁ s₂ : Shared) : Prop :=
  ∃ h' tk m₂ news₂, s₂ = { s₁ with heap := h', toks := tk } ∧ Fr h₀ L h' m₂ ∧ News h₀ L h' (own ++ news₂) ∧ (∀ p ∈ news₂, p.1 ≠ I) ∧ J m₂ news₂
def FPost (h₀ : Heap) (L : Addr) (J : (Nm → Option Value) → Led → Prop) (own : Led) (I : Addr) (s₁ : Shared) (Q : Flow → Shared → Prop) (f : Flow) (s₂ : Shared) : Prop :=
  match f with
  | .ret v => Q (.ret v) s₂
  | .brk => Q .next s₂
  | _ => FEnd h₀ L J own I s₁ s₂
section
variable {h₀ h' : Heap} {L I : Addr} {J : (Nm → Option Value) → Led → Prop} {own news₂ : Led} {s₁ s₂ : Shared} {Q : Flow → Shared → Prop} {tk : Nat} {m₂ : Nm → Option Value}
theorem fp_next (F : Fr h₀ L h' m₂) (N : News h₀ L h' (own ++ news₂)) (ha : ∀ p ∈ news₂, p.1 ≠ I) (hJ : J m₂ news₂) : FPost h₀ L J own I s₁ Q .next { s₁ with heap := h', toks := tk } :=
  ⟨h', tk, m₂, news₂, rfl, F, N, ha, hJ⟩
theorem fp_cont (F : Fr h₀ L h' m₂) (N : News h₀ L h' (own ++ news₂)) (ha : ∀ p ∈ news₂, p.1 ≠ I) (hJ : J m₂ news₂) : FPost h₀ L J own I s₁ Q .cont { s₁ with heap := h', toks := tk } :=
  ⟨h', tk, m₂, news₂, rfl, F, N, ha, hJ⟩
theorem fp_brk (h : Q .next s₂) : FPost h₀ L J own I s₁ Q .brk s₂ := h
theorem fp_ret {v : Value} (h : Q (.ret v) s₂) : FPost h₀ L J own I s₁ Q (.ret v) s₂ := h
end
theorem nsub {h₀ h : Heap} {L : Addr} {l l' : Led} (N : News h₀ L h l) (hs : ∀ p ∈ l', p ∈ l) : News h₀ L h l' := fun p hp => N p (hs p hp)
section
variable {prog : Program} {w : World} {A : Around} {E : Value → Shared → Prop} {s : Shared} {env : Env} {h₀ : Heap} {x : Nm} {body : List Stmt} {Q : Flow → Shared → Prop}
theorem iter_any {I : Addr} {fp : List Addr} {n : Nat} {P : Nat → Value → Prop} {St : Nat → Heap → Prop} {m₀ : Nm → Option Value} {news : Led} (J : Nat → (Nm → Option Value) → Led → Prop)
    (W : Walks prog w A I fp [I] n P St) (hI : I ∈ fp) (hSt : ∀ i h, St i h → ∃ o, h.get? I = some o) (hLf : env.locals ∉ fp) (hwr : h₀.get? I = none) (hnw : ∀ p ∈ news, p.1 ≠ I) (hst : St 0 s.heap) (F : Fr h₀ env.locals s.heap m₀) (N : News h₀ env.locals s.heap news) (hj : J 0 m₀ news)
    (turn : ∀ i v m₁ news₁ h tk own, i < n → P i v → (∀ p ∈ own, p.1 ∈ fp) → (∃ o, (I, o) ∈ own) → (∀ p ∈ news₁, p.1 ≠ I) → J i m₁ news₁ → Fr h₀ env.locals h (fun y => if y = x then some v else m₁ y) → News h₀ env.locals h (own ++ news₁) →
      wpAny (model prog w) A (execs body env) (FPost h₀ env.locals (J (i + 1)) own I { s with heap := h, toks := tk } Q) E { s with heap := h, toks := tk })
    (done : ∀ m₁ news₁ h tk, J n m₁ news₁ → Fr h₀ env.locals h m₁ → News h₀ env.locals h news₁ → Q .next { s with heap := h, toks := tk }) :
    LoopAtV prog w A h₀ env x body Q E (.ref I) s := by
  refine ⟨I, fp, [I], n, P, St, m₀, news, J, rfl, W, hLf, ?_, ?_, hst, F, N, hj, ?_, ?_⟩
  · intro b hb; rw [List.mem_singleton.mp hb]; exact hwr
  · intro p hp hI; exact hnw p hp (List.mem_singleton.mp hI)
  · rintro i v m₁ news₁ s₁ own ⟨hh', tk', rfl⟩ hin hP hJ hoff hown _ hall hst' F₁ N₁
    have hIo : ∃ o, (I, o) ∈ own := by
      obtain ⟨o, ho⟩ := hSt _ _ hst'
      exact ⟨o, hall I hI hwr o ho⟩
    refine wpAny_mono (turn i v m₁ news₁ hh' tk' own hin hP hown hIo (fun p hp e => hoff p hp (List.mem_singleton.mpr e)) hJ F₁ N₁) (fun f s₂ p => ?_) fun _ _ e => e
    have fin : FEnd h₀ env.locals (J (i + 1)) own I { s with heap := hh', toks := tk' } s₂ → LoopStepU h₀ env.locals [I] own (J (i + 1)) { s with heap := hh', toks := tk' } .next s₂ := by
      rintro ⟨h', tk, m', news', e, F', N', ha, hm⟩
      exact ⟨rfl, h', tk, m', news', e, F', N', fun p hp hI => ha p hp (List.mem_singleton.mp hI), hm⟩
    cases f with
    | ret v => exact .ret p
    | brk => exact .brk p
    | next => exact .next (fin p)
    | cont => exact .cont (fin p)
  · rintro h' tk m' news' F' N' _ hJ
    exact done m' news' h' tk hJ F' N'
theorem iter_rng {r : Addr} {b₀ : Int} {t₀ u₀ v₀ : Tok} {n : Nat} {m₀ : Nm → Option Value} {news : Led} (J : Nat → (Nm → Option Value) → Led → Prop)
    (hh : A.handled = none) (hr : IsRange s.heap r 0 b₀ 1 t₀ u₀ v₀) (hb : b₀ = (n : Int)) (hn : n < 1000000) (F : Fr h₀ env.locals s.heap m₀) (N : News h₀ env.locals s.heap news) (hj : J 0 m₀ news)
    (turn : ∀ i t I m₁ news₁ h tk own, i < n → (∀ p ∈ own, p.1 = I) → (∃ o, (I, o) ∈ own) → (∀ p ∈ news₁, p.1 ≠ I) → (∀ p ∈ news, p.1 < I) → J i m₁ news₁ → Fr h₀ env.locals h (fun y => if y = x then some (.int (i : Nat) t) else m₁ y) → News h₀ env.locals h (own ++ news₁) →
      wpAny (model prog w) A (execs body env) (FPost h₀ env.locals (J (i + 1)) own I { s with heap := h, toks := tk } Q) E { s with heap := h, toks := tk })
    (done : ∀ m₁ news₁ h tk, J n m₁ news₁ → Fr h₀ env.locals h m₁ → News h₀ env.locals h news₁ → Q .next { s with heap := h, toks := tk }) :
    wpAny (model prog w) A (pyIter (.ref r)) (fun it s₂ => LoopAtV prog w A h₀ env x body Q E it s₂) E s := by
  subst hb
  have hsz : Builtin.Range.rangeSize 0 (n : Int) 1 = (n : Int) := by unfold Builtin.Range.rangeSize; simp; omega
  have hsmall : Builtin.Range.small 0 (n : Int) 1 = true := by
    have f : ∀ k : Int, 0 ≤ k → k < 1000001 → Builtin.Range.rangeFitsLong k = true := fun k h0 h1 => by
      simp only [Builtin.Range.rangeFitsLong, Bool.and_eq_true, decide_eq_true_eq]; omega
    unfold Builtin.Range.small
    rw [hsz, f 0 (by omega) (by omega), f n (by omega) (by omega), f 1 (by omega) (by omega), if_pos (by decide), f _ (by omega) (by omega)]
    simp
  refine wpAny_pyIter_range hr hsmall ?_
  have W : Walks prog w A s.heap.objs.size [s.heap.objs.size] [s.heap.objs.size] n (fun i v => ∃ t, v = .int (0 + (i : Int) * 1) t)
      (fun i h => IsRangeIter h s.heap.objs.size (0 + (i : Nat) * 1) ((n : Int) - (i : Nat)) 1) := Walks.range hh _ 0 1 n
  have hlt : ∀ p ∈ news, p.1 < s.heap.objs.size := fun p hp => Heap.lt_size (N p hp).1
  refine iter_any J W (List.mem_singleton.mpr rfl) (fun _ _ h => ⟨_, h⟩) ?_ ?_ ?_ (by show IsRangeIter _ _ _ _ _; rw [hsz]; simpa using Heap.get?_push_size _ rfl) (F.push _) (fun p hp => ⟨Heap.get?_push_of_some _ (N p hp).1, (N p hp).2⟩) hj ?_ ?_
  · intro hm
    exact absurd F.ns.lt ((List.mem_singleton.mp hm) ▸ Nat.lt_irrefl _)
  · exact next_is_new F
  · intro p hp e
    exact absurd (hlt p hp) (e ▸ Nat.lt_irrefl _)
  · rintro i v m₁ news₁ h tk own hi ⟨t, rfl⟩ hown hIo hoff hJ F₁ N₁
    have e1 : (0 : Int) + (i : Int) * 1 = ((i : Nat) : Int) := by omega
    rw [e1] at F₁
    exact turn i t _ m₁ news₁ h tk own hi (fun p hp => List.mem_singleton.mp (hown p hp)) hIo hoff hlt hJ F₁ N₁
  · intro m₁ news₁ h tk hJ F₁ N₁
    exact done m₁ news₁ h tk hJ F₁ N₁
end
end Mine
end
section
open PySem PySem.W PyProof.Rows
theorem Mine.freshIt {M : Model} {A : Around} {Q : Flow → Shared → Prop} {E : Value → Shared → Prop} {s : Shared} {env : Env} (h : wpAny M A (execs [] env) Q E s) : wpAny M A (execs [] env) Q E s := by
  w_top off
  first | (walk1; fail) | exact h
end
section
open PySem PySem.W PyProof.Rows
set_option maxRecDepth 100000
namespace Mine
abbrev fsO (xs : List (Int × Int)) (e : Nat) : Int := (xs.getD e (0, 0)).1
abbrev psO (xs : List (Int × Int)) (e : Nat) : Int := (xs.getD e (0, 0)).2
def keyO (xs : List (Int × Int)) (e : Nat) : Int × Int := (psO xs e, (e : Int))
theorem keyO_inj {xs : List (Int × Int)} {e e' : Nat} (h : keyO xs e = keyO xs e') : e = e' := by
  have := congrArg Prod.snd h
  simp only [keyO] at this
  omega
/-- the heap holds the keys of just those pairs -/
def PoolIs (xs : List (Int × Int)) (φ : Value → Int × Int) (hv : List Value) (c : Nat → Prop) : Prop :=
  (hv.map φ).Nodup ∧ ∀ x, x ∈ hv.map φ ↔ ∃ e, e < xs.length ∧ x = keyO xs e ∧ c e
theorem PoolIs.congr {xs : List (Int × Int)} {φ : Value → Int × Int} {hv : List Value} {c c' : Nat → Prop} (h : PoolIs xs φ hv c) (e : ∀ e, e < xs.length → (c e ↔ c' e)) : PoolIs xs φ hv c' := by
  refine ⟨h.1, fun x => (h.2 x).trans ⟨?_, ?_⟩⟩
  · rintro ⟨i, hi, hx, hc⟩; exact ⟨i, hi, hx, (e i hi).mp hc⟩
  · rintro ⟨i, hi, hx, hc⟩; exact ⟨i, hi, hx, (e i hi).mpr hc⟩
theorem PoolIs.eqφ {xs : List (Int × Int)} {φ φ' : Value → Int × Int} {hv : List Value} {c : Nat → Prop} (h : PoolIs xs φ hv c) (e : ∀ v ∈ hv, φ v = φ' v) : PoolIs xs φ' hv c := by
  have : hv.map φ = hv.map φ' := List.map_congr_left e
  unfold PoolIs
  rw [← this]; exact h
theorem PoolIs.push {xs : List (Int × Int)} {φ : Value → Int × Int} {hv hv' : List Value} {v : Value} {c : Nat → Prop} {e₀ : Nat} (h : PoolIs xs φ hv c) (hp : hv'.Perm (v :: hv)) (hv0 : φ v = keyO xs e₀) (he : e₀ < xs.length) (hc : ¬ c e₀) :
    PoolIs xs φ hv' (fun e => c e ∨ e = e₀) := by
  have hm := hp.map φ
  have hnot : keyO xs e₀ ∉ hv.map φ := fun hx => by
    obtain ⟨e, _, he', hce⟩ := (h.2 _).mp hx
    exact hc (keyO_inj he' ▸ hce)
  refine ⟨hm.nodup_iff.mpr ?_, fun x => ?_⟩
  · rw [List.map_cons, hv0]; exact List.nodup_cons.mpr ⟨hnot, h.1⟩
  · rw [hm.mem_iff, List.map_cons, hv0, List.mem_cons, h.2 x]
    constructor
    · rintro (rfl | ⟨e, he', hx, hce⟩)
      · exact ⟨e₀, he, rfl, .inr rfl⟩
      · exact ⟨e, he', hx, .inl hce⟩
    · rintro ⟨e, he', hx, hce | rfl⟩
      · exact .inr ⟨e, he', hx, hce⟩
      · exact .inl hx
theorem PoolIs.pop {xs : List (Int × Int)} {φ : Value → Int × Int} {hv hv' : List Value} {v : Value} {c : Nat → Prop} {e₀ : Nat} (h : PoolIs xs φ hv c) (hp : (v :: hv').Perm hv) (hv0 : φ v = keyO xs e₀) :
    PoolIs xs φ hv' (fun e => c e ∧ e ≠ e₀) := by
  have hm := hp.map φ
  have hn := hm.nodup_iff.mpr h.1
  rw [List.map_cons, hv0] at hn
  obtain ⟨hn1, hn2⟩ := List.nodup_cons.mp hn
  refine ⟨hn2, fun x => ?_⟩
  constructor
  · intro hx
    have : x ∈ hv.map φ := hm.mem_iff.mp (by rw [List.map_cons]; exact .tail _ hx)
    obtain ⟨e, he, hxe, hce⟩ := (h.2 x).mp this
    exact ⟨e, he, hxe, hce, fun e1 => hn1 (by rw [← e1, ← hxe]; exact hx)⟩
  · rintro ⟨e, he, hxe, hce, hne⟩
    have : x ∈ hv.map φ := (h.2 x).mpr ⟨e, he, hxe, hce⟩
    have := hm.mem_iff.mpr this
    rw [List.map_cons, hv0] at this
    rcases List.mem_cons.mp this with h1 | h1
    · rw [hxe] at h1; exact absurd (keyO_inj h1) hne
    · exact h1
theorem PoolIs.nil (xs : List (Int × Int)) (φ : Value → Int × Int) : PoolIs xs φ [] (fun _ => False) :=
  ⟨List.nodup_nil, fun x => ⟨(fun h => by cases h), fun ⟨_, _, _, h⟩ => h.elim⟩⟩
theorem HO.eqφ {φ φ' : Value → Int × Int} {W : List Value} (h : HO φ W) (e : ∀ v ∈ W, φ v = φ' v) : HO φ' W := by
  intro i hi0 hi
  rw [← e _ (gt_mem hi), ← e _ (gt_mem (show par i < W.length by unfold par; omega))]
  exact h i hi0 hi
/-- what has been served ahead of place t -/
structure Good (xs : List (Int × Int)) (t : Nat) (S : List (Nat × Nat)) : Prop where
  places : (S.map (·.1)).Nodup
  ones : (S.map (·.2)).Nodup
  fits : ∀ q ∈ S, q.1 < t ∧ q.2 < xs.length ∧ fsO xs q.2 ≤ q.1 ∧ (q.1 : Int) < psO xs q.2
  greedy : ∀ u, u < t → ∀ e, e < xs.length → fsO xs e ≤ u → (u : Int) < psO xs e → (∀ pl, (pl, e) ∈ S → u < pl) → ∃ e', (u, e') ∈ S ∧ psO xs e' ≤ psO xs e
def inS (S : List (Nat × Nat)) (e : Nat) : Prop := ∃ pl, (pl, e) ∈ S
theorem Good.nil (xs : List (Int × Int)) : Good xs 0 [] := ⟨List.nodup_nil, List.nodup_nil, (fun _ h => by cases h), fun _ h => absurd h (Nat.not_lt_zero _)⟩
/-- the heap at the start of place t -/
def startC (xs : List (Int × Int)) (S : List (Nat × Nat)) (t : Nat) (e : Nat) : Prop := fsO xs e < t ∧ t ≤ psO xs e ∧ ¬ inS S e
/-- none to serve -/
theorem Good.idle {xs : List (Int × Int)} {t : Nat} {S : List (Nat × Nat)} (h : Good xs t S) (hno : ∀ e, e < xs.length → fsO xs e ≤ t → (t : Int) < psO xs e → inS S e) : Good xs (t + 1) S := by
  refine ⟨h.places, h.ones, fun q hq => ?_, fun u hu e he h1 h2 h3 => ?_⟩
  · obtain ⟨a, b⟩ := h.fits q hq; exact ⟨by omega, b⟩
  · by_cases hut : u = t
    · subst hut
      obtain ⟨pl, hpl⟩ := hno e he h1 h2
      have := h3 pl hpl
      have := (h.fits _ hpl).1
      omega
    · exact h.greedy u (by omega) e he h1 h2 h3
theorem Good.serve {xs : List (Int × Int)} {t : Nat} {S : List (Nat × Nat)} {e₀ : Nat} (h : Good xs t S) (he : e₀ < xs.length) (hf : fsO xs e₀ ≤ t) (hp : (t : Int) < psO xs e₀) (hn : ¬ inS S e₀)
    (hmin : ∀ e, e < xs.length → fsO xs e ≤ t → (t : Int) < psO xs e → ¬ inS S e → psO xs e₀ ≤ psO xs e) : Good xs (t + 1) (S ++ [(t, e₀)]) := by
  refine ⟨?_, ?_, fun q hq => ?_, fun u hu e he' h1 h2 h3 => ?_⟩
  · rw [List.map_append]
    refine List.nodup_append.mpr ⟨h.places, by simp, ?_⟩
    intro a ha b hb
    obtain ⟨q, hq, rfl⟩ := List.mem_map.mp ha
    simp only [List.map_cons, List.map_nil, List.mem_singleton] at hb
    subst hb
    have := (h.fits q hq).1
    omega
  · rw [List.map_append]
    refine List.nodup_append.mpr ⟨h.ones, by simp, ?_⟩
    intro a ha b hb e
    obtain ⟨q, hq, rfl⟩ := List.mem_map.mp ha
    simp only [List.map_cons, List.map_nil, List.mem_singleton] at hb
    subst hb
    exact hn ⟨q.1, by rw [← e]; exact hq⟩
  · rcases List.mem_append.mp hq with hq | hq
    · obtain ⟨a, b⟩ := h.fits q hq; exact ⟨by omega, b⟩
    · rw [List.mem_singleton.mp hq]; exact ⟨by show t < t + 1; omega, he, hf, hp⟩
  · by_cases hut : u = t
    · subst hut
      refine ⟨e₀, List.mem_append_right _ (List.mem_singleton.mpr rfl), hmin e he' h1 h2 ?_⟩
      rintro ⟨pl, hpl⟩
      have := h3 pl (List.mem_append_left _ hpl)
      have := (h.fits _ hpl).1
      omega
    · obtain ⟨e', he1, he2⟩ := h.greedy u (by omega) e he' h1 h2 (fun pl hpl => h3 pl (List.mem_append_left _ hpl))
      exact ⟨e', List.mem_append_left _ he1, he2⟩
end Mine
end
section
open PySem PySem.W PyProof.Rows
theorem Mine.freshEd {M : Model} {A : Around} {Q : Flow → Shared → Prop} {E : Value → Shared → Prop} {s : Shared} {env : Env} (h : wpAny M A (execs [] env) Q E s) : wpAny M A (execs [] env) Q E s := by
  w_top off
  first | (walk1; fail) | exact h
end
section
open PySem PySem.W PyProof.Rows
set_option Elab.async false
set_option maxRecDepth 100000
set_option maxHeartbeats 8000000
namespace Mine
local macro_rules | `(tactic| walk_at "exec While Compare cons nil") => `(tactic| refine Mine.halt ?_)
local macro_rules | `(tactic| walk_at "exec For") => `(tactic| refine Mine.halt ?_)
local macro_rules | `(tactic| walk_at "call ref") => `(tactic| refine Mine.halt ?_)
theorem sd_idx {k : Nat} (h : 0 < k) : ((k : Int) - 1).fdiv (2 ^ Int.toNat 1) = ((par k : Nat) : Int) := by
  have e : (2 : Int) ^ Int.toNat 1 = 2 := rfl
  rw [e, Int.fdiv_eq_ediv_of_nonneg _ (by decide)]
  unfold par
  omega
theorem sd {w : World} {p : Program} {loose : List PySem.Str} {mean : ExcName → Option Value} {mg mb : PySem.Str → Option Value}
  {dp un : Nat} {gd : Option (List Code)} {cn : PySem.Str} {cs : Scope} {a : Addr} {ccd : Value} {cl : List (PySem.Str × Addr)} {outer : List Env} {A₀ : Around} {base h₀ : Heap} {L : Addr} {m : PySem.Str → Option Value} {s : Shared} {Q E : Value → Shared → Prop}
  {l : Addr} {vs : List Value} {n : Nat} {rest : List (Addr × Obj)} {pos : Nat} {t0 t1 : Tok} (φ : Value → Int × Int)
  (B : Below A₀ base outer h₀) (F : Fr h₀ L s.heap m) (X : (hd.heap_39 w.params).In h₀) (N : News h₀ L s.heap ((l, listOf vs.toArray n) :: rest)) (T : Top p loose mean mg mb h₀) (hk : cs.kind = .function)
  (hdp : dp + 1 < recursionLimit) (hun : un + 8 < cLine) (hlen : vs.length < 100) (hp1 : pos < vs.length) (hr : ∀ p ∈ rest, p.1 ≠ l)
  (hφ : ∀ v ∈ vs, IsPr rest v (φ v)) (hI : SdInv φ vs pos)
  (hret : ∀ vs' h' tk', Fr h₀ L h' m → News h₀ L h' ((l, listOf vs'.toArray n) :: rest) → vs'.Perm vs → HO φ vs' → Q .none { s with heap := h', toks := tk' }) :
  wpAny (model Challenge.rw_qu0035_01.row.prog w) (ktrTop dp un gd cn cs L a ccd cl outer) (call (.ref 60) [.ref l, .int 0 t0, .int pos t1]) Q E s := by
  have hQ : Challenge.rw_qu0035_01.row.prog = Challenge.rw_qu0035_01.prog := rfl
  revert X hQ
  k_fill
  intro X hQ
  clear hQ
  refine wpAny_call ?_
  k_dflt cell_enter
  rename Fr _ _ _ _ => F1
  replace F1 : Fr _ _ _ (mpL [(Str.ofString "pos", some (.int pos t1)), (Str.ofString "startpos", some (.int 0 t0)), (Str.ofString "heap", some (.ref l)), (Str.ofString "newitem", none), (Str.ofString "parentpos", none), (Str.ofString "parent", none)]) :=
    fr_of [Str.ofString "newitem", Str.ofString "parentpos", Str.ofString "parent"] F1
  k_steps
  refine ru_item (by k_asm) (.head _) (by omega) (by omega) (gt_some (i := pos) (by simpa using hp1)) ?_ (by with_unfolding_all rfl)
  k_steps
  unfold Halt
  rename Fr _ _ _ _ => F9
  rename News _ _ _ _ => N9
  rw [mpL_set] at F9
  refine While_inv2 (n₀ := pos) (fun k m₁ news₁ => ∃ (cur : List Value) (t : Tok) (u1 u2 : Option Value), m₁ = mpL [(Str.ofString "pos", some (.int (k : Nat) t)), (Str.ofString "startpos", some (.int 0 t0)), (Str.ofString "heap", some (.ref l)), (Str.ofString "newitem", some (gt vs pos)), (Str.ofString "parentpos", u1), (Str.ofString "parent", u2)] ∧
    news₁ = (l, listOf cur.toArray n) :: rest ∧ cur.length = vs.length ∧ k < vs.length ∧ SdInv φ (cur.set k (gt vs pos)) k ∧ (cur.set k (gt vs pos)).Perm vs ∧ ∀ v ∈ cur, IsPr rest v (φ v)) F9 N9 ?J ?turn ?hE
  case J =>
    have e : vs.set pos (gt vs pos) = vs := by rw [gt_eq hp1]; exact List.set_getElem_self hp1
    exact ⟨vs, t1, none, none, rfl, rfl, rfl, hp1, by rw [e]; exact hI, by rw [e], hφ⟩
  case hE => passes_own
  case turn =>
    clear F9 N9
    rintro k m₁ news₁ h₁ tk₁ F₁ N₁ ⟨cur, t, u1, u2, rfl, rfl, hcl, hkl, hS, hP, hC⟩
    k_steps
    · have hk0 : 0 < k := by omega
      have hpk : par k < k := by unfold par; omega
      have hx0 : IsPr ((l, listOf cur.toArray n) :: rest) (gt vs pos) (φ (gt vs pos)) := (hφ _ (gt_mem hp1)).mono fun _ h => .tail _ h
      have hx1 : IsPr ((l, listOf cur.toArray n) :: rest) (gt cur (par k)) (φ (gt cur (par k))) := (hC _ (gt_mem (by omega))).mono fun _ h => .tail _ h
      rw [sd_idx hk0]
      refine ru_item (by k_asm) (.head _) (by omega) (by omega) (gt_some (i := par k) (by omega)) ?_ (by with_unfolding_all rfl)
      (try dsimp only)
      k_steps
      refine ru_lt (by k_asm) hx0 hx1 (by show un + 3 < cLine; omega) ?_
      (try dsimp only)
      k_steps
      · refine ru_set (by k_asm) (by k_asm) hr (by omega) (by omega) (by omega) ?_
        intro h' F' N'
        (try dsimp only)
        k_steps
        (try dsimp only)
        rename Fr _ _ _ _ => F8
        rename News _ _ _ _ => N8
        simp only [sd_idx hk0] at F8
        refine ws_cont (fr_eq F8 (mpL_s (mpL_s (mpL_s rfl)))) N8 hpk ⟨cur.set k (gt cur (par k)), _, _, _, rfl, rfl, by simpa using hcl, by omega, ?_⟩
        have hkc : k < cur.length := by omega
        have hset : (cur.set k (gt cur (par k))).set (par k) (gt vs pos) = swapL (cur.set k (gt vs pos)) k (par k) := by
          unfold swapL
          rw [gt_set _ _ _ _ hkc, gt_set _ _ _ _ hkc, if_pos rfl, if_neg (by omega), List.set_set]
        rw [hset]
        refine ⟨hS.step hk0 (by simpa using hkc) ?_, (swap_perm _ (by simpa using hkc) (by simp; omega)).trans hP, ?_⟩
        · rw [gt_set _ _ _ _ hkc, gt_set _ _ _ _ hkc, if_pos rfl, if_neg (by omega)]
          assumption
        · intro v hv
          rcases List.mem_or_eq_of_mem_set hv with h | h
          · exact hC v h
          · rw [h]; exact hC _ (gt_mem (by omega))
      · (try dsimp only)
        refine ws_brk ?_
        (try dsimp only)
        k_steps
        refine ru_set (by k_asm) (by k_asm) hr (by omega) (by omega) (by omega) ?_
        intro h' F' N'
        (try dsimp only)
        k_steps
        refine hret _ _ _ (by k_asm) (by k_asm) hP (hS.done fun _ => ?_)
        rw [gt_set _ _ _ _ (by omega), gt_set _ _ _ _ (by omega), if_pos rfl, if_neg (by omega)]
        assumption
    · refine ru_set (by k_asm) (by k_asm) hr (by omega) (by omega) (by omega) ?_
      intro h' F' N'
      (try dsimp only)
      k_steps
      exact hret _ _ _ (by k_asm) (by k_asm) hP (hS.done fun _ => by omega)
end Mine
end
section
open PySem PySem.W PyProof.Rows
theorem Mine.freshSd1 {M : Model} {A : Around} {Q : Flow → Shared → Prop} {E : Value → Shared → Prop} {s : Shared} {env : Env} (h : wpAny M A (execs [] env) Q E s) : wpAny M A (execs [] env) Q E s := by
  w_top off
  first | (walk1; fail) | exact h
end
section
open PySem PySem.W PyProof.Rows
set_option Elab.async false
set_option maxRecDepth 100000
set_option maxHeartbeats 8000000
namespace Mine
local macro_rules | `(tactic| walk_at "exec While Compare cons nil") => `(tactic| refine Mine.halt ?_)
local macro_rules | `(tactic| walk_at "exec For") => `(tactic| refine Mine.halt ?_)
local macro_rules | `(tactic| walk_at "call ref") => `(tactic| refine Mine.halt ?_)
theorem su_i1 (pos : Nat) : 2 * (pos : Int) + 1 = ((2 * pos + 1 : Nat) : Int) := by omega
theorem su_i2 (pos : Nat) : ((2 * pos + 1 : Nat) : Int) + 1 = ((2 * pos + 2 : Nat) : Int) := by omega
theorem su_next {φ : Value → Int × Int} {vs cur : List Value} {x : Value} {rest : Led} {pos c : Nat} (hcl : cur.length = vs.length) (hS : SuInv φ (cur.set pos x) pos) (hP : (cur.set pos x).Perm vs) (hC : ∀ v ∈ cur, IsPr rest v (φ v))
    (hc : c < vs.length) (hpc : par c = pos) (hc0 : 0 < c) (hmin : ∀ d, 0 < d → d < vs.length → par d = pos → ltP (φ (gt cur d)) (φ (gt cur c)) = false) :
    (cur.set pos (gt cur c)).length = vs.length ∧ c < vs.length ∧ SuInv φ ((cur.set pos (gt cur c)).set c x) c ∧ ((cur.set pos (gt cur c)).set c x).Perm vs ∧ ∀ v ∈ cur.set pos (gt cur c), IsPr rest v (φ v) := by
  have hpos : pos < c := by rw [← hpc]; unfold par; omega
  have hpl : pos < cur.length := by omega
  have hset : (cur.set pos (gt cur c)).set c x = swapL (cur.set pos x) pos c := by
    unfold swapL
    rw [gt_set _ _ _ _ hpl, gt_set _ _ _ _ hpl, if_pos rfl, if_neg (by omega), List.set_set]
  rw [hset]
  refine ⟨by simpa using hcl, hc, hS.step hc0 (by simpa [hcl] using hc) hpc ?_, (swap_perm _ (by simpa using hpl) (by simp; omega)).trans hP, ?_⟩
  · intro d hd0 hd hpd
    rw [List.length_set] at hd
    have hdp : pos < d := by rw [← hpd]; unfold par; omega
    rw [gt_set _ _ _ _ hpl, gt_set _ _ _ _ hpl, if_neg (by omega), if_neg (by omega)]
    exact hmin d hd0 (by omega) hpd
  · intro v hv
    rcases List.mem_or_eq_of_mem_set hv with h | h
    · exact hC v h
    · rw [h]; exact hC _ (gt_mem (by omega))
theorem su {w : World} {p : Program} {loose : List PySem.Str} {mean : ExcName → Option Value} {mg mb : PySem.Str → Option Value}
  {dp un : Nat} {gd : Option (List Code)} {cn : PySem.Str} {cs : Scope} {a : Addr} {ccd : Value} {cl : List (PySem.Str × Addr)} {outer : List Env} {A₀ : Around} {base h₀ : Heap} {L : Addr} {m : PySem.Str → Option Value} {s : Shared} {Q E : Value → Shared → Prop}
  {l : Addr} {vs : List Value} {n : Nat} {rest : List (Addr × Obj)} {t0 : Tok} (φ : Value → Int × Int)
  (B : Below A₀ base outer h₀) (F : Fr h₀ L s.heap m) (X : (hd.heap_39 w.params).In h₀) (N : News h₀ L s.heap ((l, listOf vs.toArray n) :: rest)) (T : Top p loose mean mg mb h₀) (hk : cs.kind = .function)
  (hdp : dp + 2 < recursionLimit) (hun : un + 16 < cLine) (hlen : vs.length < 100) (hp1 : 0 < vs.length) (hr : ∀ p ∈ rest, p.1 ≠ l)
  (hφ : ∀ v ∈ vs, IsPr rest v (φ v)) (hI : SuInv φ vs 0)
  (hret : ∀ vs' h' tk', Fr h₀ L h' m → News h₀ L h' ((l, listOf vs'.toArray n) :: rest) → vs'.Perm vs → HO φ vs' → Q .none { s with heap := h', toks := tk' }) :
  wpAny (model Challenge.rw_qu0035_01.row.prog w) (ktrTop dp un gd cn cs L a ccd cl outer) (call (.ref 67) [.ref l, .int 0 t0]) Q E s := by
  have hQ : Challenge.rw_qu0035_01.row.prog = Challenge.rw_qu0035_01.prog := rfl
  revert X hQ
  k_fill
  intro X hQ
  clear hQ
  refine wpAny_call ?_
  k_dflt cell_enter
  rename Fr _ _ _ _ => F1
  replace F1 : Fr _ _ _ (mpL [(Str.ofString "pos", some (.int 0 t0)), (Str.ofString "heap", some (.ref l)), (Str.ofString "endpos", none), (Str.ofString "startpos", none), (Str.ofString "newitem", none), (Str.ofString "childpos", none), (Str.ofString "rightpos", none)]) :=
    fr_of [Str.ofString "endpos", Str.ofString "startpos", Str.ofString "newitem", Str.ofString "childpos", Str.ofString "rightpos"] F1
  k_steps
  refine ru_len (by k_asm) (.head _) (by omega) ?_
  intro tL tkL
  (try dsimp only)
  k_steps
  refine ru_item (by k_asm) (.head _) (by omega) (by omega) (gt_some (i := 0) (by simpa using hp1)) ?_ (by with_unfolding_all rfl)
  (try dsimp only)
  k_steps
  unfold Halt
  rename Fr _ _ _ _ => F9
  rename News _ _ _ _ => N9
  dsimp only at F9
  refine While_inv2 (n₀ := vs.length) (fun k m₁ news₁ => ∃ (cur : List Value) (pos : Nat) (tp ts te tc : Tok) (u1 : Option Value), m₁ = mpL [(Str.ofString "pos", some (.int (pos : Nat) tp)), (Str.ofString "heap", some (.ref l)), (Str.ofString "endpos", some (.int (vs.length : Nat) te)), (Str.ofString "startpos", some (.int 0 ts)), (Str.ofString "newitem", some (gt vs 0)), (Str.ofString "childpos", some (.int (2 * (pos : Nat) + 1) tc)), (Str.ofString "rightpos", u1)] ∧
    news₁ = (l, listOf cur.toArray n) :: rest ∧ k = vs.length - pos ∧ cur.length = vs.length ∧ pos < vs.length ∧ SuInv φ (cur.set pos (gt vs 0)) pos ∧ (cur.set pos (gt vs 0)).Perm vs ∧ ∀ v ∈ cur, IsPr rest v (φ v)) (fr_eq F9 (mpL_s (mpL_s (mpL_s (mpL_s rfl))))) N9 ?J ?turn ?hE
  case J =>
    have e : vs.set 0 (gt vs 0) = vs := by rw [gt_eq hp1]; exact List.set_getElem_self hp1
    exact ⟨vs, 0, _, _, _, _, none, rfl, rfl, rfl, rfl, hp1, by rw [e]; exact hI, by rw [e], hφ⟩
  case hE => passes_own
  case turn =>
    clear F9 N9
    rintro k m₁ news₁ h₁ tk₁ F₁ N₁ ⟨cur, pos, tp, ts, te, tc, u1, rfl, rfl, hk1, hcl, hpl, hS, hP, hC⟩
    have hx : ∀ i, i < vs.length → IsPr ((l, listOf cur.toArray n) :: rest) (gt cur i) (φ (gt cur i)) := fun i hi => (hC _ (gt_mem (by omega))).mono fun _ h => .tail _ h
    k_steps
    · refine ru_itemN (2 * pos + 1) (by k_asm) (.head _) (by omega) (by omega) (by omega) ?_ (by with_unfolding_all rfl)
      (try dsimp only)
      k_steps
      refine ru_itemN (2 * pos + 2) (by k_asm) (.head _) (by omega) (by omega) (by omega) ?_ (by with_unfolding_all rfl)
      (try dsimp only)
      k_steps
      refine ru_lt (by k_asm) (hx _ (by omega)) (hx _ (by omega)) (by show un + 3 < cLine; omega) ?_
      (try dsimp only)
      k_steps
      · refine ru_itemN (2 * pos + 1) (by k_asm) (.head _) (by omega) (by omega) (by omega) ?_ (by with_unfolding_all rfl)
        (try dsimp only)
        k_steps
        refine ru_setN pos (by k_asm) (by k_asm) hr rfl (by omega) (by omega) ?_
        intro h' F' N'
        (try dsimp only)
        k_steps
        (try dsimp only)
        rename Fr _ _ _ _ => F8
        rename News _ _ _ _ => N8
        (try dsimp only at F8)
        (try simp only [su_i1, su_i2] at F8)
        refine ws_next (fr_eq F8 (mpL_s (mpL_s (mpL_s rfl)))) N8 (n' := vs.length - (2 * pos + 1)) (by omega) ⟨cur.set pos (gt cur (2 * pos + 1)), (2 * pos + 1), _, _, _, _, _, rfl, rfl, rfl, su_next hcl hS hP hC (by omega) (by unfold par; omega) (by omega) ?_⟩
        intro d hd0 hd hpd
        have : d = 2 * pos + 1 ∨ d = 2 * pos + 2 := by unfold par at hpd; omega
        rcases this with e | e
        · subst e; exact ltP_irrefl _
        · subst e; exact ltP_asymm (by assumption)
      · refine ru_itemN (2 * pos + 2) (by k_asm) (.head _) (by omega) (by omega) (by omega) ?_ (by with_unfolding_all rfl)
        (try dsimp only)
        k_steps
        refine ru_setN pos (by k_asm) (by k_asm) hr rfl (by omega) (by omega) ?_
        intro h' F' N'
        (try dsimp only)
        k_steps
        (try dsimp only)
        rename Fr _ _ _ _ => F8
        rename News _ _ _ _ => N8
        (try dsimp only at F8)
        (try simp only [su_i1, su_i2] at F8)
        refine ws_next (fr_eq F8 (mpL_s (mpL_s (mpL_s (mpL_s rfl))))) N8 (n' := vs.length - (2 * pos + 2)) (by omega) ⟨cur.set pos (gt cur (2 * pos + 2)), (2 * pos + 2), _, _, _, _, _, rfl, rfl, rfl, su_next hcl hS hP hC (by omega) (by unfold par; omega) (by omega) ?_⟩
        intro d hd0 hd hpd
        have : d = 2 * pos + 1 ∨ d = 2 * pos + 2 := by unfold par at hpd; omega
        rcases this with e | e
        · subst e; assumption
        · subst e; exact ltP_irrefl _
    · refine ru_itemN (2 * pos + 1) (by k_asm) (.head _) (by omega) (by omega) (by omega) ?_ (by with_unfolding_all rfl)
      (try dsimp only)
      k_steps
      refine ru_setN pos (by k_asm) (by k_asm) hr rfl (by omega) (by omega) ?_
      intro h' F' N'
      (try dsimp only)
      k_steps
      (try dsimp only)
      rename Fr _ _ _ _ => F8
      rename News _ _ _ _ => N8
      (try dsimp only at F8)
      (try simp only [su_i1, su_i2] at F8)
      refine ws_next (fr_eq F8 (mpL_s (mpL_s (mpL_s rfl)))) N8 (n' := vs.length - (2 * pos + 1)) (by omega) ⟨cur.set pos (gt cur (2 * pos + 1)), (2 * pos + 1), _, _, _, _, _, rfl, rfl, rfl, su_next hcl hS hP hC (by omega) (by unfold par; omega) (by omega) ?_⟩
      intro d hd0 hd hpd
      have : d = 2 * pos + 1 := by unfold par at hpd; omega
      subst this; exact ltP_irrefl _
    · refine ru_setN pos (by k_asm) (by k_asm) hr rfl (by omega) (by omega) ?_
      intro h' F' N'
      (try dsimp only)
      k_steps
      unfold Halt
      k_dflt (refine sd φ (by k_asm) (by k_asm) (by k_asm) (by k_asm) (by k_asm) rfl (by show dp + 1 + 1 < recursionLimit; omega) (by show un + 3 + 8 < cLine; omega) (by simpa [hcl] using hlen) (by simpa [hcl] using hpl) hr ?_ (hS.leaf (by simp; omega)) ?_)
      · intro v hv
        rcases List.mem_or_eq_of_mem_set hv with h | h
        · exact hC v h
        · rw [h]; exact hφ _ (gt_mem hp1)
      · intro vs' h'' tk'' F'' N'' hP' hO'
        (try dsimp only)
        k_steps
        exact hret _ _ _ (by k_asm) (by k_asm) (hP'.trans hP) hO'
end Mine
end
section
open PySem PySem.W PyProof.Rows
theorem Mine.freshSu1 {M : Model} {A : Around} {Q : Flow → Shared → Prop} {E : Value → Shared → Prop} {s : Shared} {env : Env} (h : wpAny M A (execs [] env) Q E s) : wpAny M A (execs [] env) Q E s := by
  w_top off
  first | (walk1; fail) | exact h
end
section
open PySem PySem.W PyProof.Rows
set_option Elab.async false
set_option maxRecDepth 100000
set_option maxHeartbeats 8000000
namespace Mine
local macro_rules | `(tactic| walk_at "exec While Compare cons nil") => `(tactic| refine Mine.halt ?_)
local macro_rules | `(tactic| walk_at "exec For") => `(tactic| refine Mine.halt ?_)
local macro_rules | `(tactic| walk_at "call ref") => `(tactic| refine Mine.halt ?_)
theorem hpush {w : World} {p : Program} {loose : List PySem.Str} {mean : ExcName → Option Value} {mg mb : PySem.Str → Option Value}
  {dp un : Nat} {gd : Option (List Code)} {cn : PySem.Str} {cs : Scope} {a : Addr} {ccd : Value} {cl : List (PySem.Str × Addr)} {outer : List Env} {A₀ : Around} {base h₀ : Heap} {L : Addr} {m : PySem.Str → Option Value} {s : Shared} {Q E : Value → Shared → Prop}
  {l : Addr} {vs : List Value} {n : Nat} {rest : List (Addr × Obj)} {item : Value} (φ : Value → Int × Int)
  (B : Below A₀ base outer h₀) (F : Fr h₀ L s.heap m) (X : (hd.heap_39 w.params).In h₀) (N : News h₀ L s.heap ((l, listOf vs.toArray n) :: rest)) (T : Top p loose mean mg mb h₀) (hk : cs.kind = .function)
  (hdp : dp + 2 < recursionLimit) (hun : un + 16 < cLine) (hlen : vs.length < 90) (hr : ∀ p ∈ rest, p.1 ≠ l)
  (hφ : ∀ v ∈ vs, IsPr rest v (φ v)) (hv : IsPr rest item (φ item)) (hI : HO φ vs)
  (hret : ∀ vs' n' h' tk', Fr h₀ L h' m → News h₀ L h' ((l, listOf vs'.toArray n') :: rest) → vs'.Perm (item :: vs) → HO φ vs' → Q .none { s with heap := h', toks := tk' }) :
  wpAny (model Challenge.rw_qu0035_01.row.prog w) (ktrTop dp un gd cn cs L a ccd cl outer) (call (.ref 46) [.ref l, item]) Q E s := by
  have hQ : Challenge.rw_qu0035_01.row.prog = Challenge.rw_qu0035_01.prog := rfl
  revert X hQ
  k_fill
  intro X hQ
  clear hQ
  refine wpAny_call ?_
  k_dflt cell_enter
  rename Fr _ _ _ _ => F1
  replace F1 : Fr _ _ _ (mpL [(Str.ofString "item", some item), (Str.ofString "heap", some (.ref l))]) := fr_of [] F1
  k_steps
  refine ru_append (by k_asm) (by k_asm) hr (by omega) ?_
  intro h' F' N'
  (try dsimp only)
  k_steps
  refine ru_len (by k_asm) (.head _) (by simp; omega) ?_
  intro tL tkL
  (try dsimp only)
  k_steps
  unfold Halt
  have e : (((vs ++ [item]).length : Nat) : Int) - 1 = ((vs.length : Nat) : Int) := by simp
  rw [e]
  k_dflt (refine sd φ (by k_asm) (by k_asm) (by k_asm) (by k_asm) (by k_asm) rfl (by show dp + 1 + 1 < recursionLimit; omega) (by show un + 3 + 8 < cLine; omega) (by simp; omega) (by simp) hr ?_ (SdInv.leaf hI) ?_)
  · intro v hv'
    rcases List.mem_append.mp hv' with h | h
    · exact hφ v h
    · rw [List.mem_singleton.mp h]; exact hv
  · intro vs' h'' tk'' F'' N'' hP' hO'
    (try dsimp only)
    k_steps
    exact hret _ _ _ _ (by k_asm) (by k_asm) (hP'.trans List.perm_append_comm) hO'
theorem hpop {w : World} {p : Program} {loose : List PySem.Str} {mean : ExcName → Option Value} {mg mb : PySem.Str → Option Value}
  {dp un : Nat} {gd : Option (List Code)} {cn : PySem.Str} {cs : Scope} {a : Addr} {ccd : Value} {cl : List (PySem.Str × Addr)} {outer : List Env} {A₀ : Around} {base h₀ : Heap} {L : Addr} {m : PySem.Str → Option Value} {s : Shared} {Q E : Value → Shared → Prop}
  {l : Addr} {vs : List Value} {n : Nat} {rest : List (Addr × Obj)} (φ : Value → Int × Int)
  (B : Below A₀ base outer h₀) (F : Fr h₀ L s.heap m) (X : (hd.heap_39 w.params).In h₀) (N : News h₀ L s.heap ((l, listOf vs.toArray n) :: rest)) (T : Top p loose mean mg mb h₀) (hk : cs.kind = .function)
  (hdp : dp + 3 < recursionLimit) (hun : un + 24 < cLine) (hlen : vs.length < 100) (hr : ∀ p ∈ rest, p.1 ≠ l)
  (hφ : ∀ v ∈ vs, IsPr rest v (φ v)) (hne : 0 < vs.length) (hI : HO φ vs)
  (hret : ∀ vs' n' h' tk', Fr h₀ L h' m → News h₀ L h' ((l, listOf vs'.toArray n') :: rest) → (gt vs 0 :: vs').Perm vs → HO φ vs' → Q (gt vs 0) { s with heap := h', toks := tk' }) :
  wpAny (model Challenge.rw_qu0035_01.row.prog w) (ktrTop dp un gd cn cs L a ccd cl outer) (call (.ref 53) [.ref l]) Q E s := by
  have hQ : Challenge.rw_qu0035_01.row.prog = Challenge.rw_qu0035_01.prog := rfl
  revert X hQ
  k_fill
  intro X hQ
  clear hQ
  refine wpAny_call ?_
  k_dflt cell_enter
  rename Fr _ _ _ _ => F1
  replace F1 : Fr _ _ _ (mpL [(Str.ofString "heap", some (.ref l)), (Str.ofString "lastelt", none), (Str.ofString "returnitem", none)]) := fr_of [Str.ofString "lastelt", Str.ofString "returnitem"] F1
  obtain ⟨us, lst, rfl⟩ : ∃ us lst, vs = us ++ [lst] := ⟨vs.dropLast, vs.getLast (List.ne_nil_of_length_pos hne), (List.dropLast_concat_getLast _).symm⟩
  have hul : us.length < 99 := by simp at hlen; omega
  k_steps
  refine ru_pop (by k_asm) (by k_asm) hr (by omega) ?_
  intro h' F' N'
  (try dsimp only)
  k_steps
  · have he : us = [] := by rename (us.isEmpty = true) => he; simpa using he
    subst he
    exact hret [] _ _ _ (by k_asm) (by k_asm) (List.Perm.refl _) (fun i _ hi => absurd hi (Nat.not_lt_zero _))
  · have he : 0 < us.length := by
      rename (us.isEmpty = false) => he
      cases us with
      | nil => cases he
      | cons _ _ => exact Nat.succ_pos _
    refine ru_itemN 0 (by k_asm) (.head _) rfl he (by omega) ?_ (by with_unfolding_all rfl)
    (try dsimp only)
    k_steps
    refine ru_setN 0 (by k_asm) (by k_asm) hr rfl he (by omega) ?_
    intro h2 F2 N2
    (try dsimp only)
    k_steps
    unfold Halt
    have hO : HO φ us := by
      intro i hi0 hi
      have g : ∀ i, i < us.length → gt (us ++ [lst]) i = gt us i := fun i hi => by
        simp [gt, List.getD_eq_getElem?_getD, List.getElem?_append_left hi]
      have := hI i hi0 (by simp; omega)
      rw [g i hi, g (par i) (by unfold par; omega)] at this
      exact this
    k_dflt (refine su φ (by k_asm) (by k_asm) (by k_asm) (by k_asm) (by k_asm) rfl (by show dp + 1 + 2 < recursionLimit; omega) (by show un + 3 + 16 < cLine; omega) (by simp; omega) (by simpa using he) hr ?_ (SuInv.start hO) ?_)
    · intro v hv
      rcases List.mem_or_eq_of_mem_set hv with h | h
      · exact hφ v (List.mem_append_left _ h)
      · rw [h]; exact hφ _ (List.mem_append_right _ (List.mem_singleton.mpr rfl))
    · intro vs' h'' tk'' F'' N'' hP' hO'
      (try dsimp only)
      k_steps
      cases us with
      | nil => cases he
      | cons r us =>
        refine hret vs' _ _ _ (by k_asm) (by k_asm) ?_ hO'
        show (r :: vs').Perm (r :: (us ++ [lst]))
        refine List.Perm.cons r (hP'.trans ?_)
        show (lst :: us).Perm (us ++ [lst])
        exact (List.perm_append_comm (l₁ := us) (l₂ := [lst])).symm
end Mine
end
section
open PySem PySem.W PyProof.Rows
theorem Mine.freshHq1 {M : Model} {A : Around} {Q : Flow → Shared → Prop} {E : Value → Shared → Prop} {s : Shared} {env : Env} (h : wpAny M A (execs [] env) Q E s) : wpAny M A (execs [] env) Q E s := by
  w_top off
  first | (walk1; fail) | exact h
end
section
open PySem PySem.W PyProof.Rows
set_option maxRecDepth 100000
namespace Mine
theorem nodup_le {α : Type} [DecidableEq α] : ∀ {l m : List α}, l.Nodup → (∀ x ∈ l, x ∈ m) → l.length ≤ m.length
  | [], _, _, _ => Nat.zero_le _
  | a :: l, m, hn, hs => by
    obtain ⟨h1, h2⟩ := List.nodup_cons.mp hn
    have ha : a ∈ m := hs a (.head _)
    have := nodup_le (m := m.erase a) h2 (fun x hx => (List.mem_erase_of_ne (by intro e; subst e; exact h1 hx)).mpr (hs x (.tail _ hx)))
    rw [List.length_erase_of_mem ha] at this
    have hp : 0 < m.length := List.length_pos_of_mem ha
    simp only [List.length_cons]; omega
theorem PoolIs.length {xs : List (Int × Int)} {φ : Value → Int × Int} {hv : List Value} {c : Nat → Prop} (h : PoolIs xs φ hv c) : hv.length ≤ xs.length := by
  have := nodup_le (m := (List.range xs.length).map (keyO xs)) h.1 (fun x hx => by
    obtain ⟨e, he, hxe, _⟩ := (h.2 x).mp hx
    exact List.mem_map.mpr ⟨e, List.mem_range.mpr he, hxe.symm⟩)
  simpa using this
theorem Good.length {xs : List (Int × Int)} {t : Nat} {S : List (Nat × Nat)} (h : Good xs t S) : S.length ≤ t := by
  have := nodup_le (m := List.range t) h.places (fun x hx => by
    obtain ⟨q, hq, rfl⟩ := List.mem_map.mp hx
    exact List.mem_range.mpr (h.fits q hq).1)
  simpa using this
/-- what stands between the turns -/
structure SvSt (rest₀ rest : Led) (lh ls : Addr) (hv sv : List Value) (φ : Value → Int × Int) (S : List (Nat × Nat)) : Prop where
  sub : ∀ p ∈ rest₀, p ∈ rest
  offh : ∀ p ∈ rest, p.1 ≠ lh
  offs : ∀ p ∈ rest, p.1 ≠ ls
  hl : ∀ v ∈ hv, IsPr rest v (φ v)
  ho : HO φ hv
  sl : sv.length = S.length
  si : ∀ i, i < S.length → IsPr rest (gt sv i) (((S.getD i (0, 0)).1 : Int), ((S.getD i (0, 0)).2 : Int))
/-- a new pair -/
def upφ (φ : Value → Int × Int) (a : Addr) (x : Int × Int) (v : Value) : Int × Int := if v = .ref a then x else φ v
theorem upφ_self (φ : Value → Int × Int) (a : Addr) (x : Int × Int) : upφ φ a x (.ref a) = x := by simp [upφ]
theorem upφ_ne {φ : Value → Int × Int} {a : Addr} {x : Int × Int} {v : Value} (h : v ≠ .ref a) : upφ φ a x v = φ v := by simp [upφ, h]
theorem IsPr.ne {news : Led} {v : Value} {x : Int × Int} {a : Addr} (h : IsPr news v x) (hn : ∀ p ∈ news, p.1 ≠ a) : v ≠ .ref a := by
  obtain ⟨b, _, _, rfl, hm⟩ := h
  intro e
  injection e with e
  exact hn _ hm e
/-- the inner loop's pool: place t, pairs below j looked at -/
def pushC (xs : List (Int × Int)) (S : List (Nat × Nat)) (t j e : Nat) : Prop := startC xs S t e ∨ (e < j ∧ fsO xs e = t)
theorem pushC_zero {xs : List (Int × Int)} {S : List (Nat × Nat)} {t e : Nat} : startC xs S t e ↔ pushC xs S t 0 e := by
  unfold pushC; constructor
  · exact .inl
  · rintro (h | ⟨h, _⟩)
    · exact h
    · exact absurd h (Nat.not_lt_zero _)
theorem pushC_no {xs : List (Int × Int)} {S : List (Nat × Nat)} {t j e : Nat} (h : fsO xs j ≠ t) : pushC xs S t j e ↔ pushC xs S t (j + 1) e := by
  unfold pushC; constructor
  · rintro (h | ⟨h1, h2⟩)
    · exact .inl h
    · exact .inr ⟨by omega, h2⟩
  · rintro (h' | ⟨h1, h2⟩)
    · exact .inl h'
    · by_cases e1 : e = j
      · subst e1; exact absurd h2 h
      · exact .inr ⟨by omega, h2⟩
theorem pushC_new {xs : List (Int × Int)} {S : List (Nat × Nat)} {t j : Nat} (h : fsO xs j = t) : ¬ pushC xs S t j j := by
  rintro (⟨h1, _⟩ | ⟨h1, _⟩)
  · omega
  · omega
theorem pushC_yes {xs : List (Int × Int)} {S : List (Nat × Nat)} {t j e : Nat} (h : fsO xs j = t) : (pushC xs S t j e ∨ e = j) ↔ pushC xs S t (j + 1) e := by
  unfold pushC; constructor
  · rintro ((h' | ⟨h1, h2⟩) | rfl)
    · exact .inl h'
    · exact .inr ⟨by omega, h2⟩
    · exact .inr ⟨by omega, h⟩
  · rintro (h' | ⟨h1, h2⟩)
    · exact .inl (.inl h')
    · by_cases e1 : e = j
      · exact .inr e1
      · exact .inl (.inr ⟨by omega, h2⟩)
/-- those that can be served at place t -/
def avail (xs : List (Int × Int)) (S : List (Nat × Nat)) (t e : Nat) : Prop := fsO xs e ≤ t ∧ (t : Int) < psO xs e ∧ ¬ inS S e
theorem avail_of {xs : List (Int × Int)} {S : List (Nat × Nat)} {t e : Nat} (G : Good xs t S) (he : e < xs.length) : (pushC xs S t xs.length e ∧ (t : Int) < psO xs e) ↔ avail xs S t e := by
  unfold pushC startC avail; constructor
  · rintro ⟨⟨h1, h2, h3⟩ | ⟨_, h1⟩, hp⟩
    · exact ⟨by omega, hp, h3⟩
    · refine ⟨by omega, hp, ?_⟩
      rintro ⟨pl, hpl⟩
      obtain ⟨a, b, c, d⟩ := G.fits _ hpl
      simp only at a c
      omega
  · rintro ⟨h1, h2, h3⟩
    refine ⟨?_, h2⟩
    by_cases e1 : fsO xs e = t
    · exact .inr ⟨he, e1⟩
    · exact .inl ⟨by omega, by omega, h3⟩
theorem start_of_avail {xs : List (Int × Int)} {S : List (Nat × Nat)} {t e : Nat} : avail xs S t e ↔ startC xs S (t + 1) e := by
  unfold avail startC; constructor
  · rintro ⟨h1, h2, h3⟩; exact ⟨by omega, by omega, h3⟩
  · rintro ⟨h1, h2, h3⟩; exact ⟨by omega, by omega, h3⟩
theorem start_of_served {xs : List (Int × Int)} {S : List (Nat × Nat)} {t e e₀ : Nat} : (avail xs S t e ∧ e ≠ e₀) ↔ startC xs (S ++ [(t, e₀)]) (t + 1) e := by
  unfold avail startC; constructor
  · rintro ⟨⟨h1, h2, h3⟩, h4⟩
    refine ⟨by omega, by omega, ?_⟩
    rintro ⟨pl, hpl⟩
    rcases List.mem_append.mp hpl with h | h
    · exact h3 ⟨pl, h⟩
    · exact h4 (congrArg Prod.snd (List.mem_singleton.mp h))
  · rintro ⟨h1, h2, h3⟩
    refine ⟨⟨by omega, by omega, fun ⟨pl, h⟩ => h3 ⟨pl, List.mem_append_left _ h⟩⟩, ?_⟩
    rintro rfl
    exact h3 ⟨t, List.mem_append_right _ (List.mem_singleton.mpr rfl)⟩
/-- while the root is over it is dropped -/
def DropIs (xs : List (Int × Int)) (φ : Value → Int × Int) (hv : List Value) (S : List (Nat × Nat)) (t : Nat) : Prop :=
  ∃ D : Nat → Prop, (∀ e, D e → psO xs e ≤ t) ∧ PoolIs xs φ hv (fun e => pushC xs S t xs.length e ∧ ¬ D e)
theorem DropIs.start {xs : List (Int × Int)} {φ : Value → Int × Int} {hv : List Value} {S : List (Nat × Nat)} {t : Nat} (h : PoolIs xs φ hv (pushC xs S t xs.length)) : DropIs xs φ hv S t :=
  ⟨fun _ => False, fun _ h => h.elim, h.congr fun e _ => by simp⟩
theorem PoolIs.root {xs : List (Int × Int)} {φ : Value → Int × Int} {hv : List Value} {c : Nat → Prop} (h : PoolIs xs φ hv c) (hn : 0 < hv.length) : ∃ e, e < xs.length ∧ φ (gt hv 0) = keyO xs e ∧ c e :=
  (h.2 _).mp (List.mem_map.mpr ⟨_, gt_mem hn, rfl⟩)
theorem DropIs.drop {xs : List (Int × Int)} {φ : Value → Int × Int} {hv hv' : List Value} {S : List (Nat × Nat)} {t : Nat} (h : DropIs xs φ hv S t) (hn : 0 < hv.length) (ht : (φ (gt hv 0)).1 ≤ t) (hp : (gt hv 0 :: hv').Perm hv) : DropIs xs φ hv' S t := by
  obtain ⟨D, hD, hP⟩ := h
  obtain ⟨e, he, hk, hc⟩ := hP.root hn
  refine ⟨fun i => D i ∨ i = e, ?_, (hP.pop hp hk).congr fun i _ => ?_⟩
  · rintro i (h | rfl)
    · exact hD i h
    · rw [hk] at ht; exact ht
  · constructor
    · rintro ⟨⟨h1, h2⟩, h3⟩; exact ⟨h1, by rintro (h | h); exact h2 h; exact h3 h⟩
    · rintro ⟨h1, h2⟩; exact ⟨⟨h1, fun h => h2 (.inl h)⟩, fun h => h2 (.inr h)⟩
theorem DropIs.done {xs : List (Int × Int)} {φ : Value → Int × Int} {hv : List Value} {S : List (Nat × Nat)} {t : Nat} (G : Good xs t S) (h : DropIs xs φ hv S t) (ho : HO φ hv) (hr : 0 < hv.length → (t : Int) < (φ (gt hv 0)).1) : PoolIs xs φ hv (avail xs S t) := by
  obtain ⟨D, hD, hP⟩ := h
  refine hP.congr fun e he => ?_
  rw [← avail_of G he]
  constructor
  · rintro ⟨h1, h2⟩
    refine ⟨h1, ?_⟩
    have hm : keyO xs e ∈ hv.map φ := (hP.2 _).mpr ⟨e, he, rfl, h1, h2⟩
    obtain ⟨v, hv1, hv2⟩ := List.mem_map.mp hm
    obtain ⟨i, hi, rfl⟩ := mem_gt hv1
    have h0 := hr (by omega)
    have := ho.root i hi
    rw [hv2] at this
    have := of_decide_eq_false this
    simp only [keyO] at this
    omega
  · rintro ⟨h1, h2⟩
    refine ⟨h1, fun h => ?_⟩
    have := hD e h
    omega
end Mine
end
section
open PySem PySem.W PyProof.Rows
theorem Mine.freshSv0 {M : Model} {A : Around} {Q : Flow → Shared → Prop} {E : Value → Shared → Prop} {s : Shared} {env : Env} (h : wpAny M A (execs [] env) Q E s) : wpAny M A (execs [] env) Q E s := by
  w_top off
  first | (walk1; fail) | exact h
end
section
open PySem PySem.W PyProof.Rows
set_option Elab.async false
set_option maxRecDepth 100000
set_option maxHeartbeats 8000000
namespace Mine
local macro_rules | `(tactic| walk_at "exec While BoolOp cons nil") => `(tactic| refine Mine.halt ?_)
local macro_rules | `(tactic| walk_at "exec For Name Call cons nil") => `(tactic| refine Mine.halt ?_)
local macro_rules | `(tactic| walk_at "pyIter ref") => `(tactic| refine Mine.halt ?_)
local macro_rules | `(tactic| walk_at "call ref") => `(tactic| refine Mine.halt ?_)
theorem si_snoc {rest : Led} {sv : List Value} {S : List (Nat × Nat)} {v : Value} {x : Nat × Nat} (hl : sv.length = S.length) (h : ∀ i, i < S.length → IsPr rest (gt sv i) (((S.getD i (0, 0)).1 : Int), ((S.getD i (0, 0)).2 : Int)))
    (hv : IsPr rest v ((x.1 : Int), (x.2 : Int))) : ∀ i, i < (S ++ [x]).length → IsPr rest (gt (sv ++ [v]) i) ((((S ++ [x]).getD i (0, 0)).1 : Int), (((S ++ [x]).getD i (0, 0)).2 : Int)) := by
  intro i hi
  simp only [List.length_append, List.length_cons, List.length_nil] at hi
  by_cases e : i < S.length
  · have h1 : gt (sv ++ [v]) i = gt sv i := by simp [gt, List.getD_eq_getElem?_getD, List.getElem?_append_left (show i < sv.length by omega)]
    have h2 : (S ++ [x]).getD i (0, 0) = S.getD i (0, 0) := by simp [List.getD_eq_getElem?_getD, List.getElem?_append_left e]
    rw [h1, h2]; exact h i e
  · have e2 : i = S.length := by omega
    subst e2
    have h1 : gt (sv ++ [v]) S.length = v := by simp [gt, List.getD_eq_getElem?_getD, ← hl]
    have h2 : (S ++ [x]).getD S.length (0, 0) = x := by simp [List.getD_eq_getElem?_getD]
    rw [h1, h2]; exact hv
theorem sv {w : World} {p : Program} {loose : List PySem.Str} {mean : ExcName → Option Value} {mg mb : PySem.Str → Option Value}
  {dp un : Nat} {gd : Option (List Code)} {cn : PySem.Str} {cs : Scope} {a : Addr} {ccd : Value} {cl : List (PySem.Str × Addr)} {outer : List Env} {A₀ : Around} {base h₀ : Heap} {L : Addr} {m : PySem.Str → Option Value} {s : Shared} {Q E : Value → Shared → Prop}
  {lsp : Addr} {svs : List Value} {nsp : Nat} {rest : List (Addr × Obj)} {t0 : Tok} {xs : List (Int × Int)}
  (B : Below A₀ base outer h₀) (F : Fr h₀ L s.heap m) (X : (hd.heap_39 w.params).In h₀) (N : News h₀ L s.heap rest) (T : Top p loose mean mg mb h₀) (hk : cs.kind = .function)
  (hdp : dp + 5 < recursionLimit) (hun : un + 40 < cLine) (hsp : (lsp, listOf svs.toArray nsp) ∈ rest) (hlen : svs.length = xs.length) (hl8 : xs.length < 50)
  (hx : ∀ e, e < xs.length → IsPr rest (gt svs e) (xs.getD e (0, 0))) (hnn : ∀ e, e < xs.length → 0 ≤ fsO xs e)
  (hret : ∀ (ls : Addr) (sv : List Value) (ns : Nat) (rest' : Led) (S : List (Nat × Nat)) h' tk', Fr h₀ L h' m → News h₀ L h' ((ls, listOf sv.toArray ns) :: rest') → (∀ p ∈ rest, p ∈ rest') → (∀ p ∈ rest', p.1 ≠ ls) → (∀ p ∈ rest, p.1 < ls) → sv.length = S.length →
    (∀ i, i < S.length → IsPr rest' (gt sv i) (((S.getD i (0, 0)).1 : Int), ((S.getD i (0, 0)).2 : Int))) → Good xs 6 S → Q (.ref ls) { s with heap := h', toks := tk' }) :
  wpAny (model Challenge.rw_qu0035_01.row.prog w) (ktrTop dp un gd cn cs L a ccd cl outer) (call (.ref 102) [.ref lsp, .int 6 t0]) Q E s := by
  have hQ : Challenge.rw_qu0035_01.row.prog = Challenge.rw_qu0035_01.prog := rfl
  revert X hQ
  k_fill
  intro X hQ
  clear hQ
  refine wpAny_call ?_
  k_dflt cell_enter
  rename_i gg LL hh FG F1 N1 BB XX TT
  replace F1 : Fr _ _ _ (mpL [(Str.ofString "size", some (.int 6 t0)), (Str.ofString "spans", some (.ref lsp)), (Str.ofString "heap", none), (Str.ofString "served", none), (Str.ofString "place", none), (Str.ofString "e", none)]) :=
    fr_of [Str.ofString "heap", Str.ofString "served", Str.ofString "place", Str.ofString "e"] F1
  k_steps
  unfold Halt
  rename Fr _ _ _ _ => F9
  rename News _ _ _ _ => N9
  rename_i lh hA l1a hB ls hC l1b hD
  have hlr : ∀ p ∈ rest, p.1 < ls := kst_ltOf l1b.2
  have hls : lh < ls := l1b.1
  have F9' := fr_eq F9 (mpL_s (mpL_s rfl))
  clear F9
  refine For_invVF F9' rfl rfl ?_
  k_steps
  unfold Halt
  rename IsRange _ _ _ _ _ _ _ _ => R9
  rename Fr _ _ _ _ => F8
  rename News _ _ _ _ => N8
  refine iter_rng (n := 6) (fun t m₁ news₁ => ∃ (hv sv : List Value) (nh ns : Nat) (rest' : Led) (φ : Value → Int × Int) (S : List (Nat × Nat)) (u1 u2 : Option Value),
    m₁ = mpL [(Str.ofString "size", some (.int 6 t0)), (Str.ofString "spans", some (.ref lsp)), (Str.ofString "heap", some (.ref lh)), (Str.ofString "served", some (.ref ls)), (Str.ofString "place", u1), (Str.ofString "e", u2)] ∧
    news₁ = (lh, listOf hv.toArray nh) :: (ls, listOf sv.toArray ns) :: rest' ∧ SvSt rest rest' lh ls hv sv φ S ∧ Good xs t S ∧ PoolIs xs φ hv (startC xs S t)) rfl R9 rfl (by decide) F8 (nsub N8 (l' := (lh, listOf (#[] : Array Value) 0) :: (ls, listOf (#[] : Array Value) 0) :: rest) ?hsub) ?hj ?turn ?done
  case hsub =>
    intro p hp
    rcases List.mem_cons.mp hp with rfl | hp
    · simp
    · rcases List.mem_cons.mp hp with rfl | hp
      · simp
      · simp [hp]
  case hj =>
    refine ⟨[], [], 0, 0, rest, fun _ => (0, 0), [], none, none, rfl, rfl, ⟨fun _ h => h, fun p hp => Nat.ne_of_lt (l1a p hp), fun p hp => Nat.ne_of_lt (hlr p hp), (fun _ h => by cases h), (fun i _ h => absurd h (Nat.not_lt_zero _)), rfl, (fun i h => absurd h (Nat.not_lt_zero _))⟩, Good.nil xs, (PoolIs.nil xs _).congr fun e he => ⟨fun h => h.elim, fun h => absurd h.1 (by have := hnn e he; omega)⟩⟩
  case turn =>
    clear N8 F8 R9
    rintro t tt I m₁ news₁ h₁ tk₁ own ht hown hIo hoff hI ⟨hv, sv, nh, ns, rest', φ, S, u1, u2, rfl, rfl, hS, hG, hP⟩ F₁ N₁
    replace F₁ : Fr gg LL h₁ _ := fr_eq F₁ (mpL_s rfl)
    replace N₁ : News gg LL h₁ _ := N₁
    obtain ⟨oI, hIo⟩ := hIo
    have hIh : lh ≠ I := hoff _ (.head _)
    have hIs : ls ≠ I := hoff _ (.tail _ (.head _))
    have hIr : ∀ p ∈ rest', p.1 ≠ I := fun p hp => hoff _ (.tail _ (.tail _ hp))
    k_steps
    unfold Halt
    refine For_invVF F₁ rfl rfl ?_
    k_steps
    refine ru_len (n := nsp) (by k_asm) (List.mem_append_right _ (.tail _ (.tail _ (hS.sub _ hsp)))) (by omega) ?_
    intro tL tkL
    (try dsimp only)
    k_steps
    unfold Halt
    rename IsRange _ _ _ _ _ _ _ _ => R7
    rename Fr _ _ _ _ => F7
    rename News _ _ _ _ => N7
    refine iter_rng (n := xs.length) (fun j m₁ news₁ => ∃ (hv : List Value) (nh : Nat) (restX : Led) (φ : Value → Int × Int) (u2 : Option Value),
      m₁ = mpL [(Str.ofString "size", some (.int 6 t0)), (Str.ofString "spans", some (.ref lsp)), (Str.ofString "heap", some (.ref lh)), (Str.ofString "served", some (.ref ls)), (Str.ofString "place", some (.int (t : Nat) tt)), (Str.ofString "e", u2)] ∧
      news₁ = (lh, listOf hv.toArray nh) :: (ls, listOf sv.toArray ns) :: (own ++ restX) ∧ (∀ p ∈ restX, p.1 ≠ I) ∧ SvSt rest restX lh ls hv sv φ S ∧ PoolIs xs φ hv (pushC xs S t j)) rfl R7 (by rw [hlen]) (by omega) F7
      (nsub N7 (l' := (lh, listOf hv.toArray nh) :: (ls, listOf sv.toArray ns) :: (own ++ rest')) ?hsub2) ?hj2 ?turn2 ?done2
    case hsub2 =>
      intro p hp
      simp only [List.mem_cons, List.mem_append] at hp ⊢
      rcases hp with h | h | h | h <;> simp [h]
    case hj2 => exact ⟨hv, nh, rest', φ, u2, rfl, rfl, hIr, hS, hP.congr fun e _ => pushC_zero⟩
    case turn2 =>
      clear R7 F7 N7 hP hS
      rintro j tj I2 m₁ news₁ h₂ tk₂ own2 hj hown2 hIo2 hoff2 hI2 ⟨hv, nh, restX, φ, u2, rfl, rfl, hXI, hS, hP⟩ F₂ N₂
      replace F₂ : Fr gg LL h₂ _ := fr_eq F₂ (mpL_s rfl)
      replace N₂ : News gg LL h₂ _ := N₂
      obtain ⟨oI2, hIo2⟩ := hIo2
      have hin : ∀ p ∈ restX, p ∈ own2 ++ ((lh, listOf hv.toArray nh) :: (ls, listOf sv.toArray ns) :: (own ++ restX)) := fun p hp => by simp [hp]
      have hxj : IsPr restX (gt svs j) (xs.getD j (0, 0)) := (hx j hj).mono hS.sub
      k_steps
      refine ru_itemN j (by k_asm) (hin _ (hS.sub _ hsp)) rfl (by omega) (by omega) ?_ (by with_unfolding_all rfl)
      (try dsimp only)
      k_steps
      refine ru_pr0 (by k_asm) (hxj.mono hin) ?_
      intro t3
      (try dsimp only)
      k_steps
      · have hft : fsO xs j = t := by assumption
        refine ru_itemN j (by k_asm) (hin _ (hS.sub _ hsp)) rfl (by omega) (by omega) ?_ (by with_unfolding_all rfl)
        (try dsimp only)
        k_steps
        refine ru_pr1 (by k_asm) (hxj.mono hin) ?_
        intro t4
        (try dsimp only)
        k_steps
        unfold Halt
        rename Fr _ _ _ _ => F6
        rename News _ _ _ _ => N6
        rename_i D hD l1
        have hDlt : ∀ q ∈ restX, q.1 ≠ D := fun q hq => Nat.ne_of_lt (l1 q (hin q hq))
        have hφe : ∀ v ∈ hv, φ v = upφ φ D (keyO xs j) v := fun v hv' => (upφ_ne ((hS.hl v hv').ne hDlt)).symm
        have hR : ∀ q ∈ ((D, tup2 (psO xs j) (j : Nat) t4 tj) :: (own2 ++ (ls, listOf sv.toArray ns) :: (own ++ restX))), q.1 ≠ lh := by
          intro q hq
          rcases List.mem_cons.mp hq with rfl | hq
          · exact (Nat.ne_of_lt (l1 (lh, _) (List.mem_append_right _ (.head _)))).symm
          · rcases List.mem_append.mp hq with hq | hq
            · rw [hown2 q hq]; exact (hoff2 _ (.head _)).symm
            · rcases List.mem_cons.mp hq with rfl | hq
              · exact (Nat.ne_of_lt hls).symm
              · rcases List.mem_append.mp hq with hq | hq
                · rw [hown q hq]; exact hIh.symm
                · exact hS.offh q hq
        have hXin : ∀ q ∈ restX, q ∈ ((D, tup2 (psO xs j) (j : Nat) t4 tj) :: (own2 ++ (ls, listOf sv.toArray ns) :: (own ++ restX))) := fun q hq => by simp [hq]
        k_dflt (refine hpush (upφ φ D (keyO xs j)) (n := nh) (rest := (D, tup2 (psO xs j) (j : Nat) t4 tj) :: (own2 ++ (ls, listOf sv.toArray ns) :: (own ++ restX))) (by k_asm) F6 (by k_asm) (nsub N6 ?_) (by k_asm) rfl (by show dp + 1 + 2 < recursionLimit; omega) (by show un + 3 + 16 < cLine; omega) ?_ hR ?_ ?_ (hS.ho.eqφ hφe) ?_)
        · ((repeat' (first | exact sub_nil | refine sub_cons ?_ ?_ | refine sub_app ?_ ?_)) <;> (try intro q hq) <;> (first | ((repeat (first | exact List.Mem.head _ | assumption | exact List.mem_append_left _ (by assumption) | refine List.Mem.tail _ ?_ | refine List.mem_append_right _ ?_)); done) | simp [*]))
        · have := hP.length; omega
        · intro v hv'
          rw [← hφe v hv']
          exact (hS.hl v hv').mono hXin
        · rw [upφ_self]; exact ⟨D, t4, tj, rfl, .head _⟩
        · intro vs' n' h' tk' F5 N5 hp5 ho5
          (try dsimp only)
          k_steps
          refine fp_next (news₂ := (lh, listOf vs'.toArray n') :: (ls, listOf sv.toArray ns) :: (own ++ ((D, tup2 (psO xs j) (j : Nat) t4 tj) :: restX))) F5 (nsub N5 ?_) ?_ ⟨vs', n', (D, tup2 (psO xs j) (j : Nat) t4 tj) :: restX, upφ φ D (keyO xs j), _, rfl, rfl, ?_, ?_, ?_⟩
          · ((repeat' (first | exact sub_nil | refine sub_cons ?_ ?_ | refine sub_app ?_ ?_)) <;> (try intro q hq) <;> (first | ((repeat (first | exact List.Mem.head _ | assumption | exact List.mem_append_left _ (by assumption) | refine List.Mem.tail _ ?_ | refine List.mem_append_right _ ?_)); done) | simp [*]))
          · intro q hq
            rcases List.mem_cons.mp hq with rfl | hq
            · exact hoff2 (lh, listOf hv.toArray nh) (.head _)
            · rcases List.mem_cons.mp hq with rfl | hq
              · exact hoff2 _ (.tail _ (.head _))
              · rcases List.mem_append.mp hq with hq | hq
                · exact hoff2 _ (.tail _ (.tail _ (List.mem_append_left _ hq)))
                · rcases List.mem_cons.mp hq with rfl | hq
                  · exact (Nat.ne_of_lt (l1 (I2, oI2) (List.mem_append_left _ hIo2))).symm
                  · exact hoff2 _ (.tail _ (.tail _ (List.mem_append_right _ hq)))
          · intro q hq
            rcases List.mem_cons.mp hq with rfl | hq
            · exact (Nat.ne_of_lt (l1 (I, oI) (List.mem_append_right _ (.tail _ (.tail _ (List.mem_append_left _ hIo)))))).symm
            · exact hXI q hq
          · refine ⟨fun q hq => .tail _ (hS.sub q hq), fun q hq => ?_, fun q hq => ?_, fun v hv' => ?_, ho5, hS.sl, fun i hi => (hS.si i hi).mono fun _ h => .tail _ h⟩
            · rcases List.mem_cons.mp hq with rfl | hq
              · exact hR _ (.head _)
              · exact hS.offh q hq
            · rcases List.mem_cons.mp hq with rfl | hq
              · exact (Nat.ne_of_lt (l1 (ls, _) (List.mem_append_right _ (.tail _ (.head _))))).symm
              · exact hS.offs q hq
            · rcases List.mem_cons.mp (hp5.mem_iff.mp hv') with rfl | h
              · rw [upφ_self]; exact ⟨D, t4, tj, rfl, .head _⟩
              · rw [← hφe v h]; exact (hS.hl v h).mono fun _ h => .tail _ h
          · exact ((hP.eqφ hφe).push hp5 (upφ_self ..) hj (pushC_new hft)).congr fun e _ => pushC_yes hft
      · exact fp_next F₂ N₂ hoff2 ⟨hv, nh, restX, φ, _, rfl, rfl, hXI, hS, hP.congr fun e _ => pushC_no (by assumption)⟩
    case done2 =>
      clear R7 F7 N7 hP hS
      rintro m₁ news₁ h₃ tk₃ ⟨hv, nh, restX, φ, u2, rfl, rfl, hXI, hS, hP⟩ F₃ N₃
      replace F₃ : Fr gg LL h₃ _ := F₃
      replace N₃ : News gg LL h₃ _ := N₃
      k_steps
      unfold Halt
      refine wpAny_mono (Q := fun f s' => Halt (f = .next ∧ ∃ (hv : List Value) (nh : Nat) (h₅ : Heap) (tk₅ : Nat), s' = { s with heap := h₅, toks := tk₅ } ∧
        Fr gg LL h₅ (mpL [(Str.ofString "size", some (.int 6 t0)), (Str.ofString "spans", some (.ref lsp)), (Str.ofString "heap", some (.ref lh)), (Str.ofString "served", some (.ref ls)), (Str.ofString "place", some (.int (t : Nat) tt)), (Str.ofString "e", u2)]) ∧
        News gg LL h₅ ((lh, listOf hv.toArray nh) :: (ls, listOf sv.toArray ns) :: (own ++ restX)) ∧ SvSt rest restX lh ls hv sv φ S ∧ PoolIs xs φ hv (avail xs S t))) (E := ek) ?loop3 ?cont3 (fun _ _ h => h)
      case loop3 =>
        refine While_inv2 (n₀ := hv.length) (fun k m₁ news₁ => ∃ (hv : List Value) (nh : Nat),
          m₁ = mpL [(Str.ofString "size", some (.int 6 t0)), (Str.ofString "spans", some (.ref lsp)), (Str.ofString "heap", some (.ref lh)), (Str.ofString "served", some (.ref ls)), (Str.ofString "place", some (.int (t : Nat) tt)), (Str.ofString "e", u2)] ∧
          news₁ = (lh, listOf hv.toArray nh) :: (ls, listOf sv.toArray ns) :: (own ++ restX) ∧ k = hv.length ∧ hv.length ≤ xs.length ∧ SvSt rest restX lh ls hv sv φ S ∧ DropIs xs φ hv S t) F₃ N₃ ⟨hv, nh, rfl, rfl, rfl, hP.length, hS, .start hP⟩ ?turn3 ?hE3
        case hE3 => passes_own
        case turn3 =>
          clear F₃ N₃ hP hS
          rintro k m₁ news₁ h₄ tk₄ F₄ N₄ ⟨hv, nh, rfl, rfl, rfl, hvl, hS, hP⟩
          have hR : ∀ q ∈ ((ls, listOf sv.toArray ns) :: (own ++ restX)), q.1 ≠ lh := by
            intro q hq
            rcases List.mem_cons.mp hq with rfl | hq
            · exact (Nat.ne_of_lt hls).symm
            · rcases List.mem_append.mp hq with hq | hq
              · rw [hown q hq]; exact hIh.symm
              · exact hS.offh q hq
          have hXin : ∀ q ∈ restX, q ∈ ((ls, listOf sv.toArray ns) :: (own ++ restX)) := fun q hq => by simp [hq]
          k_steps
          · have he : hv = [] := by rename (hv.isEmpty = true) => he; simpa using he
            subst he
            exact ⟨trivial, [], nh, h₄, _, rfl, F₄, N₄, hS, hP.done hG hS.ho (fun h => absurd h (Nat.lt_irrefl _))⟩
          · have he : 0 < hv.length := by
              rename (hv.isEmpty = false) => he
              cases hv with
              | nil => cases he
              | cons _ _ => exact Nat.succ_pos _
            refine ru_itemN 0 (by k_asm) (.head _) rfl he (by omega) ?_ (by with_unfolding_all rfl)
            (try dsimp only)
            k_steps
            refine ru_pr0 (by k_asm) ((hS.hl _ (gt_mem he)).mono fun _ h => .tail _ (hXin _ h)) ?_
            intro t5
            (try dsimp only)
            k_steps
            · unfold Halt
              k_dflt (refine hpop φ (n := nh) (by k_asm) (by k_asm) (by k_asm) (by k_asm) (by k_asm) rfl (by show dp + 1 + 3 < recursionLimit; omega) (by show un + 3 + 24 < cLine; omega) (by omega) hR (fun v hv' => (hS.hl v hv').mono hXin) he hS.ho ?_)
              intro vs' n' h' tk' F5 N5 hp5 ho5
              (try dsimp only)
              k_steps
              have hlen5 : vs'.length + 1 = hv.length := by simpa using hp5.length_eq
              refine ws_next F5 N5 (n' := vs'.length) (by omega) ⟨vs', n', rfl, rfl, rfl, by omega, ⟨hS.sub, hS.offh, hS.offs, fun v hv' => hS.hl v (hp5.mem_iff.mp (.tail _ hv')), ho5, hS.sl, hS.si⟩, hP.drop he (by assumption) hp5⟩
            · refine ⟨trivial, hv, nh, h₄, _, rfl, F₄, N₄, hS, hP.done hG hS.ho (fun _ => ?_)⟩
              omega
      case cont3 =>
        clear F₃ N₃ hP hS
        rintro f s' ⟨rfl, hv, nh, h₅, tk₅, rfl, F₅, N₅, hS, hP⟩
        have hvl := hP.length
        (try dsimp only)
        k_steps
        · have he : hv = [] := by rename (hv.isEmpty = true) => he; simpa using he
          subst he
          refine fp_next (news₂ := (lh, listOf ([] : List Value).toArray nh) :: (ls, listOf sv.toArray ns) :: restX) F₅ (nsub N₅ ?_) ?_ ⟨[], sv, nh, ns, restX, φ, S, _, _, rfl, rfl, hS, hG.idle ?_, hP.congr fun e _ => start_of_avail⟩
          · ((repeat' (first | exact sub_nil | refine sub_cons ?_ ?_ | refine sub_app ?_ ?_)) <;> (try intro q hq) <;> (first | ((repeat (first | exact List.Mem.head _ | assumption | exact List.mem_append_left _ (by assumption) | refine List.Mem.tail _ ?_ | refine List.mem_append_right _ ?_)); done) | simp [*]))
          · intro q hq
            rcases List.mem_cons.mp hq with rfl | hq
            · exact hIh
            · rcases List.mem_cons.mp hq with rfl | hq
              · exact hIs
              · exact hXI q hq
          · intro e he h1 h2
            refine Classical.byContradiction fun h3 => ?_
            have := (hP.2 (keyO xs e)).mpr ⟨e, he, rfl, h1, h2, h3⟩
            cases this
        · have he : 0 < hv.length := by
            rename (hv.isEmpty = false) => he
            cases hv with
            | nil => cases he
            | cons _ _ => exact Nat.succ_pos _
          have hR : ∀ q ∈ ((ls, listOf sv.toArray ns) :: (own ++ restX)), q.1 ≠ lh := by
            intro q hq
            rcases List.mem_cons.mp hq with rfl | hq
            · exact (Nat.ne_of_lt hls).symm
            · rcases List.mem_append.mp hq with hq | hq
              · rw [hown q hq]; exact hIh.symm
              · exact hS.offh q hq
          have hXin : ∀ q ∈ restX, q ∈ ((ls, listOf sv.toArray ns) :: (own ++ restX)) := fun q hq => by simp [hq]
          unfold Halt
          k_dflt (refine hpop φ (n := nh) (by k_asm) (by k_asm) (by k_asm) (by k_asm) (by k_asm) rfl (by show dp + 1 + 3 < recursionLimit; omega) (by show un + 3 + 24 < cLine; omega) (by omega) hR (fun v hv' => (hS.hl v hv').mono hXin) he hS.ho ?_)
          intro vs' n' h' tk' F5 N5 hp5 ho5
          (try dsimp only)
          obtain ⟨e₀, he0, hk0, ha1, ha2, ha3⟩ := hP.root he
          have hk1 : φ (gt hv 0) = (psO xs e₀, (e₀ : Int)) := hk0
          k_steps
          refine ru_pr1 (by k_asm) (hk1 ▸ (hS.hl _ (gt_mem he)).mono fun _ h => .tail _ (hXin _ h)) ?_
          intro t6
          (try dsimp only)
          k_steps
          rename Fr _ _ _ _ => F6
          rename News _ _ _ _ => N6
          rename_i D hD' l1
          obtain ⟨l1h, l1s, l1r⟩ := l1
          have l1r := kst_ltOf l1r
          have hsvl : sv.length ≤ 6 := by have h1 := hS.sl; have h2 := hG.length; omega
          refine ru_append (vs := sv) (n := ns) (rest := (D, tup2 (t : Nat) (e₀ : Nat) tt t6) :: (lh, listOf vs'.toArray n') :: (own ++ restX)) F6 (nsub N6 ?_) ?_ (by omega) ?_
          · ((repeat' (first | exact sub_nil | refine sub_cons ?_ ?_ | refine sub_app ?_ ?_)) <;> (try intro q hq) <;> (first | ((repeat (first | exact List.Mem.head _ | assumption | exact List.mem_append_left _ (by assumption) | refine List.Mem.tail _ ?_ | refine List.mem_append_right _ ?_)); done) | simp [*]))
          · intro q hq
            rcases List.mem_cons.mp hq with rfl | hq
            · exact (Nat.ne_of_lt l1s).symm
            · rcases List.mem_cons.mp hq with rfl | hq
              · exact Nat.ne_of_lt hls
              · rcases List.mem_append.mp hq with hq | hq
                · rw [hown q hq]; exact hIs.symm
                · exact hS.offs q hq
          · intro h7 F7 N7
            (try dsimp only)
            k_steps
            refine fp_next (news₂ := (lh, listOf vs'.toArray n') :: (ls, listOf (sv ++ [Value.ref D]).toArray (ns + 1)) :: ((D, tup2 (t : Nat) (e₀ : Nat) tt t6) :: restX)) F7 (nsub N7 ?_) ?_ ⟨vs', sv ++ [.ref D], n', ns + 1, (D, tup2 (t : Nat) (e₀ : Nat) tt t6) :: restX, φ, S ++ [(t, e₀)], _, _, rfl, rfl, ?_, hG.serve he0 ha1 ha2 ha3 ?_, (hP.pop hp5 hk0).congr fun e _ => start_of_served⟩
            · ((repeat' (first | exact sub_nil | refine sub_cons ?_ ?_ | refine sub_app ?_ ?_)) <;> (try intro q hq) <;> (first | ((repeat (first | exact List.Mem.head _ | assumption | exact List.mem_append_left _ (by assumption) | refine List.Mem.tail _ ?_ | refine List.mem_append_right _ ?_)); done) | simp [*]))
            · intro q hq
              rcases List.mem_cons.mp hq with rfl | hq
              · exact hIh
              · rcases List.mem_cons.mp hq with rfl | hq
                · exact hIs
                · rcases List.mem_cons.mp hq with rfl | hq
                  · exact (Nat.ne_of_lt (l1r (I, oI) (List.mem_append_left _ hIo))).symm
                  · exact hXI q hq
            · refine ⟨fun q hq => .tail _ (hS.sub q hq), fun q hq => ?_, fun q hq => ?_, fun v hv' => (hS.hl v (hp5.mem_iff.mp (.tail _ hv'))).mono fun _ h => .tail _ h, ho5, ?_, fun i hi => ?_⟩
              · rcases List.mem_cons.mp hq with rfl | hq
                · exact (Nat.ne_of_lt l1h).symm
                · exact hS.offh q hq
              · rcases List.mem_cons.mp hq with rfl | hq
                · exact (Nat.ne_of_lt l1s).symm
                · exact hS.offs q hq
              · simp [hS.sl]
              · exact si_snoc hS.sl (fun i hi => (hS.si i hi).mono fun _ h => .tail _ h) ⟨D, tt, t6, rfl, .head _⟩ i hi
            · intro e he' h1 h2 h3
              have hm : keyO xs e ∈ hv.map φ := (hP.2 _).mpr ⟨e, he', rfl, h1, h2, h3⟩
              obtain ⟨v, hv1, hv2⟩ := List.mem_map.mp hm
              obtain ⟨i, hi, rfl⟩ := mem_gt hv1
              have := of_decide_eq_false (hS.ho.root i hi)
              rw [hv2, hk0] at this
              simp only [keyO] at this
              omega
  case done =>
    clear N8 F8 R9
    rintro m₁ news₁ h₈ tk₈ ⟨hv, sv, nh, ns, rest', φ, S, u1, u2, rfl, rfl, hS, hG, hP⟩ F₈ N₈
    replace F₈ : Fr gg LL h₈ _ := F₈
    replace N₈ : News gg LL h₈ _ := N₈
    k_steps
    exact hret ls sv ns rest' S _ _ (by k_asm) (nsub (by k_asm) fun q hq => .tail _ hq) hS.sub hS.offs hlr hS.sl hS.si hG
end Mine
end
section
open PySem PySem.W PyProof.Rows
theorem Mine.freshSv1 {M : Model} {A : Around} {Q : Flow → Shared → Prop} {E : Value → Shared → Prop} {s : Shared} {env : Env} (h : wpAny M A (execs [] env) Q E s) : wpAny M A (execs [] env) Q E s := by
  w_top off
  first | (walk1; fail) | exact h
end
section
open PySem PySem.W PyProof.Rows PyProof.Rows.LCg PyProof.Rows.LCp
set_option Elab.async false
set_option maxRecDepth 100000
set_option maxHeartbeats 4000000
namespace Mine
/-- one value for each turn, by a word over turn, list and ledger -/
theorem rest_U {prog : Program} {w : World} {A : Around} {s : Shared} {h₀ : Heap} {L : Addr} {m : Nm → Option Value} {env : Env} {elt : PySem.Expr} {x : Nm} {scope : Scope} {cl : List (Nm × Addr)} {S : Led → Prop} {P : Nat → Value → Prop} {Fin : List Value → Led → Prop} {n : Nat}
    (J : Nat → List Value → Led → Prop)
    (turn : ∀ i ys news, i < n → J i ys news → ∀ v I oI C oC D m₂ h tk (E' : Value → Shared → Prop), P i v → NsObj oC m₂ → m₂ x = some v → Fr h₀ L h m → News h₀ L h ((I, oI) :: (C, oC) :: (D, lst ys) :: news) → Off3 I C D news → ((@Ne Nat I C) ∧ (@Ne Nat I D) ∧ (@Ne Nat C D)) →
      wpAny (model prog w) A (eval elt (compEnvC scope cl C env)) (CompEnd h₀ L m { s with heap := h, toks := tk } I oI C oC D (lst ys) S (fun y news' => J (i + 1) (ys ++ [y]) news')) E' { s with heap := h, toks := tk })
    (fin : ∀ ys news, J n ys news → Fin ys news) : ∀ k i ys news, i + k = n → J i ys news → CompRest prog w A h₀ L m env elt x scope cl s S P Fin k i ys news := by
  intro k
  induction k with
  | zero => intro i ys news e hJ; obtain rfl : i = n := by omega
            exact CompRest.zero (fin ys news hJ)
  | succ k ih =>
    intro i ys news e hJ
    refine CompRest.succ fun v I oI C oC D m₂ h tk E' hP hC hx F N o1 o2 => ?_
    refine wpAny_mono (turn i ys news (by omega) hJ v I oI C oC D m₂ h tk E' hP hC hx F N o1 o2) (fun y s₂ hs => ?_) fun _ _ e => e
    obtain ⟨h', tk', news', e1, F', N', o', hS, hJ'⟩ := hs
    exact ⟨h', tk', news', e1, F', N', o', hS, ih (i + 1) _ _ (by omega) hJ'⟩
theorem rest_P {prog : Program} {w : World} {A : Around} {s : Shared} {h₀ : Heap} {L : Addr} {m : Nm → Option Value} {env : Env} {elt : PySem.Expr} {x x₂ : Nm} {scope : Scope} {cl : List (Nm × Addr)} {S : Led → Prop} {P : Nat → Value → Prop} {Fin : List Value → Led → Prop} {n : Nat}
    (J : Nat → List Value → Led → Prop)
    (turn : ∀ i ys news, i < n → J i ys news → ∀ v, P i v → ∃ (t : Addr) (ot : Obj) (v₁ v₂ : Value) (nt : Nat), v = .ref t ∧ (t, ot) ∈ news ∧ ot.cls = .type "tuple" ∧ ot.data = .seq #[v₁, v₂] nt ∧
      ∀ I oI C oC D m₂ h tk (E' : Value → Shared → Prop), NsObj oC m₂ → m₂ x = some v₁ → m₂ x₂ = some v₂ → Fr h₀ L h m → News h₀ L h ((I, oI) :: (C, oC) :: (D, lst ys) :: news) → Off3 I C D news → ((@Ne Nat I C) ∧ (@Ne Nat I D) ∧ (@Ne Nat C D)) →
      wpAny (model prog w) A (eval elt (compEnvC scope cl C env)) (CompEnd h₀ L m { s with heap := h, toks := tk } I oI C oC D (lst ys) S (fun y news' => J (i + 1) (ys ++ [y]) news')) E' { s with heap := h, toks := tk })
    (fin : ∀ ys news, J n ys news → Fin ys news) : ∀ k i ys news, i + k = n → J i ys news → CompRestP prog w A h₀ L m env elt x x₂ scope cl s S P Fin k i ys news := by
  intro k
  induction k with
  | zero => intro i ys news e hJ; obtain rfl : i = n := by omega
            exact CompRestP.zero (fin ys news hJ)
  | succ k ih =>
    intro i ys news e hJ
    refine CompRestP.succ fun v hP => ?_
    obtain ⟨t, ot, v₁, v₂, nt, e1, e2, e3, e4, T⟩ := turn i ys news (by omega) hJ v hP
    refine ⟨t, ot, v₁, v₂, nt, e1, e2, e3, e4, fun I oI C oC D m₂ h tk E' hC hx hx₂ F N o1 o2 => ?_⟩
    refine wpAny_mono (T I oI C oC D m₂ h tk E' hC hx hx₂ F N o1 o2) (fun y s₂ hs => ?_) fun _ _ e => e
    obtain ⟨h', tk', news', e1, F', N', o', hS, hJ'⟩ := hs
    exact ⟨h', tk', news', e1, F', N', o', hS, ih (i + 1) _ _ (by omega) hJ'⟩
/-- pairs with one test, out of a list of the ledger's -/
def SrcPT (prog : Program) (w : World) (A : Around) (h₀ : Heap) (L : Addr) (m : Nm → Option Value) (env : Env) (c elt : PySem.Expr) (x x₂ : Nm) (scope : Scope) (cl : List (Nm × Addr)) (Fin : Shared → List Value → Led → Prop) (xv : Value) (s₁ : Shared) : Prop :=
  ∃ (ax : Addr) (its : Array Value) (kk : Nat) (news : Led) (J : Nat → List Value → Led → Prop), xv = .ref ax ∧ A.handled = none ∧ Fr h₀ L s₁.heap m ∧ News h₀ L s₁.heap news ∧ its.size ≤ sizeLine ∧ J 0 [] news ∧
    (∀ i ys nw, J i ys nw → (ax, listOf its kk) ∈ nw) ∧
    (∀ s₂ : Shared, (∃ h, s₂ = { s₁ with heap := h }) → ∀ ys nw, J its.size ys nw → Fin s₂ ys nw) ∧
    ∀ s₂ : Shared, (∃ h, s₂ = { s₁ with heap := h }) → ∀ i ys nw v, its[i]? = some v → J i ys nw → ∃ (t : Addr) (ot : Obj) (v₁ v₂ : Value) (nt : Nat), v = .ref t ∧ (t, ot) ∈ nw ∧ ot.cls = .type "tuple" ∧ ot.data = .seq #[v₁, v₂] nt ∧
      ∀ I oI C oC D m₂ h tk (E' : Value → Shared → Prop), NsObj oC m₂ → m₂ x = some v₁ → m₂ x₂ = some v₂ → Fr h₀ L h m → News h₀ L h ((I, oI) :: (C, oC) :: (D, lst ys) :: nw) → Off3 I C D nw → ((@Ne Nat I C) ∧ (@Ne Nat I D) ∧ (@Ne Nat C D)) →
      wpAny (model prog w) A (isTrue c (compEnvC scope cl C env) (eval c (compEnvC scope cl C env))) (fun okb s₃ => if okb = true then
        wpAny (model prog w) A (eval elt (compEnvC scope cl C env)) (CompEnd h₀ L m { s₂ with heap := h, toks := tk } I oI C oC D (lst ys) (fun _ => True) (fun y nw' => J (i + 1) (ys ++ [y]) nw')) E' s₃
        else CompEnd h₀ L m { s₂ with heap := h, toks := tk } I oI C oC D (lst ys) (fun _ => True) (fun _ nw' => J (i + 1) ys nw') .none s₃) E' { s₂ with heap := h, toks := tk }
section
variable {prog : Program} {w : World} {A : Around} {E : Value → Shared → Prop} {s : Shared} {h₀ : Heap} {L : Addr} {m : Nm → Option Value} {env : Env}
theorem block_PT {c elt iter : PySem.Expr} {x x₂ : Nm} {px px₂ tp : Pos} {tk} {scope : Scope} {cl : List (Nm × Addr)} {pos : Pos} {s₂ : Shared} {I ax : Addr} {its : Array Value} {kk : Nat} {news : Led} {J : Nat → List Value → Led → Prop}
    {Fin : List Value → Led → Prop} {RR : Value → Addr → Result → Shared → Prop}
    (hh : A.handled = none) (hax : ax ≠ I) (hsz : its.size ≤ sizeLine) (hJD : ∀ i ys nw, J i ys nw → (ax, listOf its kk) ∈ nw)
    (hcell : ∀ y ∈ scope.names, y.2 ≠ .cell) (hkind : scope.kind = .function) (hx : scope.names.lookup x = some .local) (hx₂ : scope.names.lookup x₂ = some .local) (hxx : x ≠ x₂)
    (hit : s₂.heap.IsListIter I ax 0) (F : Fr h₀ L s₂.heap m) (N : News h₀ L s₂.heap news) (hIL : L ≠ I) (hI₀ : h₀.get? I = none) (off : ∀ p ∈ news, p.1 ≠ I) (hJ0 : J 0 [] news)
    (fin : ∀ ys nw, J its.size ys nw → Fin ys nw)
    (turn : ∀ i ys nw v, its[i]? = some v → J i ys nw → ∃ (t : Addr) (ot : Obj) (v₁ v₂ : Value) (nt : Nat), v = .ref t ∧ (t, ot) ∈ nw ∧ ot.cls = .type "tuple" ∧ ot.data = .seq #[v₁, v₂] nt ∧
      ∀ I oI C oC D m₂ h tk (E' : Value → Shared → Prop), NsObj oC m₂ → m₂ x = some v₁ → m₂ x₂ = some v₂ → Fr h₀ L h m → News h₀ L h ((I, oI) :: (C, oC) :: (D, lst ys) :: nw) → Off3 I C D nw → ((@Ne Nat I C) ∧ (@Ne Nat I D) ∧ (@Ne Nat C D)) →
      wpAny (model prog w) A (isTrue c (compEnvC scope cl C env) (eval c (compEnvC scope cl C env))) (fun okb s₃ => if okb = true then
        wpAny (model prog w) A (eval elt (compEnvC scope cl C env)) (CompEnd h₀ L m { s₂ with heap := h, toks := tk } I oI C oC D (lst ys) (fun _ => True) (fun y nw' => J (i + 1) (ys ++ [y]) nw')) E' s₃
        else CompEnd h₀ L m { s₂ with heap := h, toks := tk } I oI C oC D (lst ys) (fun _ => True) (fun _ nw' => J (i + 1) ys nw') .none s₃) E' { s₂ with heap := h, toks := tk })
    (hRR : ∀ D C h tk m' ys news', Fr h₀ L h m → News h₀ L h ((D, lst ys) :: news') → Off1 D news' → h.Ns C m' → h₀.get? C = none → h₀.get? D = none → C ≠ L → D ≠ L → C ≠ D → (∀ p ∈ news', p.1 ≠ C) → Fin ys news' → RR (.ref D) C (.ok .next) { s₂ with heap := h, toks := tk }) :
    wpAny (model prog w) A (newList []) (fun acc s₃ => wpAny (model prog w) A (newFunctionEnv scope env.globals cl [] env.qual none .none (some env)) (fun cenv s₄ =>
      codeAny (model prog w) A (.compStart (.ListComp elt [⟨.Tuple [.Name x px, .Name x₂ px₂] tk tp, iter, [c], 0⟩] scope pos) 0 (.ref I) acc { cenv with scope := relabel scope env }) (RR acc cenv.locals) s₄) E s₃) E s₂ := by
  have W := Walks.list (prog := prog) (w := w) hh I ax hax its
  have hl : s₂.heap.IsList ax its := PySem.IsL.isList (n := kk) (N _ (hJD _ _ _ hJ0)).1
  have hIlt : I < s₂.heap.objs.size := by obtain ⟨_, e, _⟩ := hit; exact Heap.lt_size e
  refine wpAny_newObj_type (wpAny_newFunctionEnv hcell (by intro y hy; simp at hy) (fun h₁ hns₁ hsb₁ => ?_) hkind)
  dsimp only at hns₁ hsb₁ ⊢
  generalize hH2 : s₂.heap.push { cls := .type "list", dict := none, data := .seq ([] : List Value).toArray } = H2 at hns₁ hsb₁ ⊢
  have hC : H2.objs.size = s₂.heap.objs.size + 1 := by rw [← hH2, Heap.size_push]
  generalize hDD : s₂.heap.objs.size = D at hC hIlt ⊢
  generalize hCC : H2.objs.size = C at hC hns₁ hsb₁ ⊢
  have below : ∀ b : Nat, b < D → b ≠ C ∧ b ≠ D := fun b hb => ⟨by omega, by omega⟩
  have hDC : D ≠ C := Nat.ne_of_lt (by rw [hC]; exact Nat.lt_succ_self _)
  have hsz2 : ∀ b o, s₂.heap.get? b = some o → b < D := fun b o e => hDD ▸ Heap.lt_size e
  have old : ∀ b o, s₂.heap.get? b = some o → h₁.get? b = some o := fun b o e =>
    hsb₁.extBut b o (below b (hsz2 b o e)).1 (Heap.get?_push_of_some _ (hH2 ▸ Heap.get?_push_of_some _ e))
  have hacc : h₁.get? D = some (lst []) := hsb₁.extBut _ _ hDC (Heap.get?_push_of_some _ (hH2 ▸ hDD ▸ Heap.get?_push_size _ rfl))
  have fresh₀ : ∀ a : Nat, D ≤ a → h₀.get? a = none := fun a ha => by
    cases e : h₀.get? a with
    | none => rfl
    | some o' => exact absurd (hsz2 a o' (F.keep a o' e)) (Nat.not_lt.mpr ha)
  have hD₀ := fresh₀ D (Nat.le_refl _)
  have hC₀ := fresh₀ C (by rw [hC]; exact Nat.le_succ _)
  have hLlt : L < D := hDD ▸ F.ns.lt
  have hDL : D ≠ L := Ne.symm (below L hLlt).2
  have hCL : C ≠ L := Ne.symm (below L hLlt).1
  have hCI : I ≠ C := (below I (hDD ▸ hIlt)).1
  have hDI : I ≠ D := (below I (hDD ▸ hIlt)).2
  have hlt : ∀ p ∈ news, p.1 < D := fun p hp => hsz2 _ _ (N p hp).1
  have off₀ : Off3 I C D news := Off3.of fun p hp => ⟨off p hp, (below _ (hlt p hp)).1, (below _ (hlt p hp)).2⟩
  have hit₁ : h₁.IsListIter I ax 0 := hit.at fun o e => old _ o e
  have loop : ∀ s₃ : Shared, s₃ = { s₂ with heap := h₁, toks := s₂.toks + ([] : List (Nm × Value)).length } →
      codeAny (model prog w) A (.compLoop (.ListComp elt [⟨.Tuple [.Name x px, .Name x₂ px₂] tk tp, iter, [c], 0⟩] scope pos) 0 (.ref I) (.ref D) (compEnvC scope cl C env)) (RR (.ref D) C) s₃ := by
    rintro s₃ rfl
    refine kct_loop
      (fun k s' => ∃ h' tk i ys m' nw, s' = { s₂ with heap := h', toks := tk } ∧ i ≤ its.size ∧ k = its.size + 1 - i ∧ ys.length ≤ i ∧ h'.IsListIter I ax i ∧ Fr h₀ L h' m ∧ h'.Ns C m' ∧
        News h₀ L h' ((D, lst ys) :: nw) ∧ Off3 I C D nw ∧ J i ys nw) ?_ (its.size + 1)
      ⟨h₁, _, 0, [], _, news, rfl, Nat.zero_le _, rfl, Nat.le_refl _, hit₁, F.keeps old, hns₁, fun p hp => ?_, off₀, hJ0⟩
    · rintro k s' ⟨h', tk, i, ys, m', nw, rfl, hi, rfl, hyl, hit', F', hn', N', off', hJ⟩
      have off3 := off'.mem
      have hl' : h'.IsList ax its := PySem.IsL.isList (n := kk) (N' _ (.tail _ (hJD _ _ _ hJ))).1
      by_cases hlt : i < its.size
      · refine W.item i _ _ _ hlt ⟨hit', hl'⟩ fun v h₂ tk₂ hPv hst₂ hk₂ => ?_
        obtain ⟨t, ot, v₁, v₂, nt, rfl, hmt, hct, hdt, T⟩ := turn i ys nw v hPv hJ
        have N₂ : News h₀ L h₂ ((D, lst ys) :: nw) := news_but N' hk₂ fun p hp => by
          rcases List.mem_cons.mp hp with rfl | hp
          · exact Ne.symm hDI
          · exact (off3 p hp).1
        have ht : IsTup h₂ t #[v₁, v₂] := ⟨ot, (N₂ _ (.tail _ hmt)).1, hct, nt, hdt⟩
        refine wpAny_letOwnedTupleGo_listiter hst₂.1 ?_
        refine assign_Tuple_tuple hh ht rfl rfl fun h₅ he => ?_
        have he' : ∀ b o, h₂.get? b = some o → h₅.get? b = some o := fun b o e => he b o (Nat.ne_of_lt (Heap.lt_size e)) e
        refine assignInOrder_cons (wpAny_assign_Name (wpAny_storeName_local (lookup_relabel_local hx) ((hn'.at' fun o e => hk₂ _ o (by simpa using Ne.symm hCI) e).at' fun o e => he' _ o e) (fun h₆ hn₆ hs₆ => ?_) (by simp [compEnvC, relabel, hkind])))
        refine assignInOrder_cons (wpAny_assign_Name (wpAny_storeName_local (lookup_relabel_local hx₂) hn₆ (fun h₃ hn₃ hs₃ => ?_) (by simp [compEnvC, relabel, hkind])))
        refine assignInOrder_nil ?_
        have old3 : ∀ b o, b ≠ C → h₂.get? b = some o → h₃.get? b = some o := fun b o hb e => hs₃.extBut b o hb (hs₆.extBut b o hb (he' b o e))
        have hit₃ : h₃.IsListIter I ax (i + 1) := hst₂.1.at fun o e => old3 _ o hCI e
        obtain ⟨oI, heI, hoI⟩ := id hit₃
        obtain ⟨oC, heC, hoC⟩ := ns_obj hn₃
        have F₃ : Fr h₀ L h₃ m := (((fr_but F' hk₂ hIL hI₀).keeps he').change hs₆ hCL hC₀).change hs₃ hCL hC₀
        have N₃ : News h₀ L h₃ ((I, oI) :: (C, oC) :: (D, lst ys) :: nw) := fun p hp => by
          rcases List.mem_cons.mp hp with rfl | hp
          · exact ⟨heI, Ne.symm hIL, hI₀⟩
          · rcases List.mem_cons.mp hp with rfl | hp
            · exact ⟨heC, hCL, hC₀⟩
            · have z := N₂ p hp
              refine ⟨old3 _ _ ?_ z.1, z.2⟩
              rcases List.mem_cons.mp hp with rfl | hp
              · exact hDC
              · exact (off3 p hp).2.1
        have goOn : ∀ (ys' : List Value) (h₇ : Heap) (tk₇ : Nat) (nw₇ : Led), ys'.length ≤ i + 1 → Fr h₀ L h₇ m → News h₀ L h₇ ((I, oI) :: (C, oC) :: (D, lst ys') :: nw₇) → Off3 I C D nw₇ → J (i + 1) ys' nw₇ →
            ∃ q, q < its.size + 1 - i ∧ ∃ h' tk j ys m' nw, ({ s₂ with heap := h₇, toks := tk₇ } : Shared) = { s₂ with heap := h', toks := tk } ∧ j ≤ its.size ∧ q = its.size + 1 - j ∧ ys.length ≤ j ∧ h'.IsListIter I ax j ∧ Fr h₀ L h' m ∧ h'.Ns C m' ∧
              News h₀ L h' ((D, lst ys) :: nw) ∧ Off3 I C D nw ∧ J j ys nw := by
          intro ys' h₇ tk₇ nw₇ hl₇ F₇ N₇ off₇ hJ₇
          have zI := (N₇ (I, oI) (.head _)).1
          have zC := (N₇ (C, oC) (.tail _ (.head _))).1
          exact ⟨its.size + 1 - (i + 1), by omega, h₇, tk₇, i + 1, ys', _, nw₇, rfl, hlt, rfl, hl₇, ⟨oI, zI, hoI⟩, F₇, hoC.ns zC, fun q hq => N₇ q (.tail _ (.tail _ hq)), off₇, hJ₇⟩
        refine wpAny_mono (T I oI C oC D _ h₃ _ _ hoC (by simp [hxx]) (by simp) F₃ N₃ off' ⟨hCI, hDI, Ne.symm hDC⟩) (fun okb s₅ h₅ => ?_) fun _ _ e => e
        cases okb with
        | false =>
          simp only [Bool.false_eq_true, if_false] at h₅ ⊢
          obtain ⟨h₅, tk₅, nw₅, rfl, F₅, N₅, off₅, _, hJ₅⟩ := h₅
          exact goOn ys h₅ tk₅ nw₅ (Nat.le_succ_of_le hyl) F₅ N₅ off₅ hJ₅
        | true =>
          simp only [if_true] at h₅ ⊢
          refine wpAny_mono h₅ (fun y s₆ h₆ => ?_) fun _ _ e => e
          obtain ⟨h₅, tk₅, nw₅, rfl, F₅, N₅, off₅, _, hJ₅⟩ := h₆
          have zI := (N₅ (I, oI) (.head _)).1
          have zC := (N₅ (C, oC) (.tail _ (.head _))).1
          have zD := (N₅ (D, lst ys) (.tail _ (.tail _ (.head _)))).1
          refine append_at (hsz := by show ys.toArray.size ≤ sizeLine; rw [List.size_toArray]; exact Nat.le_trans hyl (Nat.le_trans hi hsz)) zD fun h₈ hs₈ hD₈ => ?_
          have off5 := off₅.mem
          refine goOn (ys ++ [y]) h₈ _ nw₅ (by rw [List.length_append, List.length_singleton]; exact Nat.succ_le_succ hyl) (F₅.change hs₈ hDL hD₀) (fun q hq => ?_) off₅ hJ₅
          rcases List.mem_cons.mp hq with rfl | hq
          · exact ⟨hs₈.extBut I oI hDI zI, Ne.symm hIL, hI₀⟩
          rcases List.mem_cons.mp hq with rfl | hq
          · exact ⟨hs₈.extBut _ oC (Ne.symm hDC) zC, hCL, hC₀⟩
          rcases List.mem_cons.mp hq with rfl | hq
          · exact ⟨hD₈.trans (congrArg some (lst_snoc ys y)), hDL, hD₀⟩
          · have z := N₅ q (.tail _ (.tail _ (.tail _ hq)))
            exact ⟨hs₈.extBut _ _ (off5 q hq).2.2 z.1, z.2⟩
      · obtain rfl : i = its.size := Nat.le_antisymm hi (Nat.not_lt.mp hlt)
        refine W.done _ _ _ ⟨hit', hl'⟩ fun h₂ tk₂ hk₂ => ?_
        exact hRR _ _ h₂ tk₂ _ ys nw (fr_but F' hk₂ hIL hI₀) (news_but N' hk₂ fun p hp => by
          rcases List.mem_cons.mp hp with rfl | hp
          · exact Ne.symm hDI
          · exact (off3 p hp).1) off'.one (hn'.at' fun o e => hk₂ _ o (by simpa using Ne.symm hCI) e) hC₀ hD₀ hCL hDL (Ne.symm hDC) (fun p hp => (off3 p hp).2.1) (fin _ _ hJ)
    · rcases List.mem_cons.mp hp with rfl | hp
      · exact ⟨hacc, hDL, hD₀⟩
      · exact ⟨old _ _ (N p hp).1, (N p hp).2⟩
  exact codeAny_compStart_list (loop _ rfl) (W.self 0 _ _ _ ⟨hit₁, hl.at fun o e => old _ o e⟩ (loop _ rfl))
theorem ListComp_PT {c elt iter : PySem.Expr} {x x₂ : Nm} {px px₂ tp : Pos} {tk} {scope : Scope} {cl : List (Nm × Addr)} {pos : Pos} {Q : Value → Shared → Prop} (_F₀ : Fr h₀ L s.heap m)
    (hclos : closureFor scope env = pure cl) (hcell : ∀ y ∈ scope.names, y.2 ≠ .cell) (hkind : scope.kind = .function)
    (hnames : ∀ y ∈ scope.names, y.2 = .local → scope.names.lookup y.1 = some .local) (hx : scope.names.lookup x = some .local) (hx₂ : scope.names.lookup x₂ = some .local) (hxx : x ≠ x₂)
    (h : wpAny (model prog w) A (eval iter env) (SrcPT prog w A h₀ L m env c elt x x₂ scope cl (fun s₂ => FinE h₀ L m s₂ Q)) E s)
    (hs : ∀ x, foldedSetIterable iter env x = pure x := by intro _; rfl) :
    wpAny (model prog w) A (eval (.ListComp elt [⟨.Tuple [.Name x px, .Name x₂ px₂] tk tp, iter, [c], 0⟩] scope pos) env) Q E s := by
  rw [eval_ListComp]
  refine wpAny_comprehension_free (use := none) rfl hs hclos hkind hnames (wpAny_mono h (fun xv s₁ h₁ => ?_) fun _ _ e => e)
  obtain ⟨ax, its, kk, news, J, rfl, hh, F, N, hsz, hJ0, hJD, fin, turn⟩ := h₁
  have hl : s₁.heap.IsList ax its := PySem.IsL.isList (n := kk) (N _ (hJD _ _ _ hJ0)).1
  have hlt : ax < s₁.heap.objs.size := by obtain ⟨_, e, _⟩ := hl; exact Heap.lt_size e
  refine wpAny_pyIter_list hl ?_
  have up : ∀ b o, s₁.heap.get? b = some o → (s₁.heap.push { cls := .type "list_iterator", data := .fields #[.ref ax, .int 0 0] }).get? b = some o := fun b o e => Heap.get?_push_of_some _ e
  refine block_PT hh (Nat.ne_of_lt hlt) hsz hJD hcell hkind hx hx₂ hxx ⟨_, Heap.get?_push_size _ rfl, rfl, rfl⟩ (F.keeps up) (N.grown up) (Nat.ne_of_lt F.ns.lt) (next_is_new F) (fun p hp => Nat.ne_of_lt (Heap.lt_size (N p hp).1)) hJ0 (fin { s₁ with heap := s₁.heap.push { cls := .type "list_iterator", data := .fields #[.ref ax, .int 0 0] } } ⟨_, rfl⟩) (turn _ ⟨_, rfl⟩) ?_
  intro D C h tk m' ys news' F' N' o1 hn hC₀ hD₀ hCL hDL hCD offC fin
  refine ⟨m', hn, fun h'' hs'' => fin D h'' tk (F'.change hs'' hCL hC₀) (fun p hp => ?_) o1⟩
  refine ⟨hs''.extBut _ _ ?_ (N' p hp).1, (N' p hp).2⟩
  rcases List.mem_cons.mp hp with rfl | hp
  · exact Ne.symm hCD
  · exact offC p hp
end
end Mine
end
section
open PySem PySem.W PyProof.Rows
theorem Mine.freshLc {M : Model} {A : Around} {Q : Flow → Shared → Prop} {E : Value → Shared → Prop} {s : Shared} {env : Env} (h : wpAny M A (execs [] env) Q E s) : wpAny M A (execs [] env) Q E s := by
  w_top off
  first | (walk1; fail) | exact h
end
section
open PySem PySem.W PyProof.Rows PyProof.Rows.LCg PyProof.Rows.LCp
set_option Elab.async false
set_option maxRecDepth 100000
set_option maxHeartbeats 4000000
namespace Mine
section
variable {prog : Program} {w : World} {A : Around} {E : Value → Shared → Prop} {s : Shared} {h₀ : Heap} {L : Addr} {m : Nm → Option Value} {env : Env}
theorem Assign_ListComp_PT {c elt iter : PySem.Expr} {x x₂ y : Nm} {px px₂ tp py : Pos} {tk} {scope : Scope} {cl : List (Nm × Addr)} {pos spos : Pos} {Q : Flow → Shared → Prop} (_F₀ : Fr h₀ L s.heap m) (hLe : env.locals = L)
    (hsw : swapsWith (.ListComp elt [⟨.Tuple [.Name x px, .Name x₂ px₂] tk tp, iter, [c], 0⟩] scope pos) (some (.Name y py)) spos.line env = pure true)
    (hclos : closureFor scope env = pure cl) (hcell : ∀ z ∈ scope.names, z.2 ≠ .cell) (hkind : scope.kind = .function)
    (hnames : ∀ z ∈ scope.names, z.2 = .local → scope.names.lookup z.1 = some .local) (hx : scope.names.lookup x = some .local) (hx₂ : scope.names.lookup x₂ = some .local) (hxx : x ≠ x₂)
    (hy : env.kindOf y = some .local) (hp : (env.scope.kind == .class || (env.scope.kind == .module && env.locals != env.globals)) = false)
    (h : wpAny (model prog w) A (eval iter env) (SrcPT prog w A h₀ L m env c elt x x₂ scope cl (fun s₂ => FinA h₀ L m s₂ y Q)) E s)
    (hs : ∀ x, foldedSetIterable iter env x = pure x := by intro _; rfl) :
    wpAny (model prog w) A (exec (.Assign [.Name y py] (.ListComp elt [⟨.Tuple [.Name x px, .Name x₂ px₂] tk tp, iter, [c], 0⟩] scope pos) spos) env) Q E s := by
  subst hLe
  rw [exec_Assign_Name_used _ _ _ _ hsw]
  refine wpAny_bind (wpAny_standAt (wpAny_bind ?_))
  show wpAny _ A (do let _ ← comprehension (.ListComp elt [⟨.Tuple [.Name x px, .Name x₂ px₂] tk tp, iter, [c], 0⟩] scope pos) scope env _ (newList []) false (eval iter env) (some (assign (.Name y py) env))) _ _ s
  refine wpAny_bind (wpAny_mono (wpAny_comprehension_free (use := some (assign (.Name y py) env)) (Q := fun _ s' => Q .next s') rfl hs hclos hkind hnames
    (wpAny_mono h (fun xv s₁ h₁ => ?_) fun _ _ e => e)) (fun _ s' hq => wpAny_pure (wpAny_pure hq)) fun _ _ e => e)
  obtain ⟨ax, its, kk, news, J, rfl, hh, F, N, hsz, hJ0, hJD, fin, turn⟩ := h₁
  have hl : s₁.heap.IsList ax its := PySem.IsL.isList (n := kk) (N _ (hJD _ _ _ hJ0)).1
  have hlt : ax < s₁.heap.objs.size := by obtain ⟨_, e, _⟩ := hl; exact Heap.lt_size e
  refine wpAny_pyIter_list hl ?_
  have up : ∀ b o, s₁.heap.get? b = some o → (s₁.heap.push { cls := .type "list_iterator", data := .fields #[.ref ax, .int 0 0] }).get? b = some o := fun b o e => Heap.get?_push_of_some _ e
  refine block_PT hh (Nat.ne_of_lt hlt) hsz hJD hcell hkind hx hx₂ hxx ⟨_, Heap.get?_push_size _ rfl, rfl, rfl⟩ (F.keeps up) (N.grown up) (Nat.ne_of_lt F.ns.lt) (next_is_new F) (fun p hp => Nat.ne_of_lt (Heap.lt_size (N p hp).1)) hJ0 (fin { s₁ with heap := s₁.heap.push { cls := .type "list_iterator", data := .fields #[.ref ax, .int 0 0] } } ⟨_, rfl⟩) (turn _ ⟨_, rfl⟩) ?_
  intro D C h' tk m' ys news' F' N' o1 hn hC₀ hD₀ hCL hDL hCD offC fin
  show wpAny _ A (assign (.Name y py) env (.ref D)) _ _ _
  refine wpAny_assign_Name (wpAny_storeName_local hy F'.ns (fun h₂ hn₂ hs₂ => ?_) hp)
  have hL₀ : h₀.get? env.locals = none := Heap.get?_none_of_le F'.above
  have F₂ : Fr h₀ env.locals h₂ (fun z => if z = y then some (.ref D) else m z) := ⟨hn₂, fun b o e => hs₂.extBut b o (fun q => by rw [q, hL₀] at e; cases e) (F'.keep b o e), F'.above⟩
  refine ⟨m', hn.sameBut hs₂ hCL, fun h'' hs'' => fin D h'' _ (F₂.change hs'' hCL hC₀) (fun p hp => ?_) o1⟩
  have z : h₂.get? p.1 = some p.2 := hs₂.extBut _ _ (N' p hp).2.1 (N' p hp).1
  refine ⟨hs''.extBut _ _ ?_ z, (N' p hp).2⟩
  rcases List.mem_cons.mp hp with rfl | hp
  · exact Ne.symm hCD
  · exact offC p hp
end
/-- a list that a comprehension has made -/
theorem lst_of (ys : List Value) : lst ys = listOf ys.toArray ys.length := rfl
theorem off1_of {D : Addr} : ∀ {l : Led}, Off1 D l → ∀ p ∈ l, p.1 ≠ D
  | [], _, _, h => nomatch h
  | _ :: _, x, p, h => by
    rcases List.mem_cons.mp h with rfl | h
    · exact x.1
    · exact off1_of x.2 p h
end Mine
end
section
open PySem PySem.W PyProof.Rows
theorem Mine.freshLc2 {M : Model} {A : Around} {Q : Flow → Shared → Prop} {E : Value → Shared → Prop} {s : Shared} {env : Env} (h : wpAny M A (execs [] env) Q E s) : wpAny M A (execs [] env) Q E s := by
  w_top off
  first | (walk1; fail) | exact h
end
section
open PySem PySem.W PyProof.Rows PyProof.Rows.LCg PyProof.Rows.LCp
set_option Elab.async false
set_option maxRecDepth 100000
set_option maxHeartbeats 4000000
namespace Mine
section
variable {prog : Program} {w : World} {A : Around} {E : Value → Shared → Prop} {s : Shared} {env : Env} {h₀ : Heap} {body : List Stmt} {Q : Flow → Shared → Prop} {L : Addr}
/-- a for over any source and any target -/
theorem for_gen {target : PySem.Expr} {I : Addr} {fp : List Addr} {n : Nat} {P : Nat → Value → Prop} {St : Nat → Heap → Prop} {m₀ : Nm → Option Value} {news : Led} (J : Nat → (Nm → Option Value) → Led → Prop)
    (W : Walks prog w A I fp [I] n P St) (hSt : ∀ i h, St i h → ∃ o, h.get? I = some o)
    (hStk : ∀ i h h' o nw m, St i h → h.get? I = some o → h'.get? I = some o → News h₀ L h' nw → J i m nw → St i h')
    (hgo : ∀ i v s' (R : Unit → Shared → Prop) E', P i v → St (i + 1) s'.heap → R () s' → wpAny (model prog w) A (letOwnedTupleGo target (.ref I) v) R E' s')
    (hLI : L ≠ I) (hI₀ : h₀.get? I = none) (hnw : ∀ p ∈ news, p.1 ≠ I) (hst : St 0 s.heap) (F : Fr h₀ L s.heap m₀) (N : News h₀ L s.heap news) (hj : J 0 m₀ news)
    (turn : ∀ i v m₁ news₁ h tk oI, i < n → P i v → (∀ p ∈ news₁, p.1 ≠ I) → J i m₁ news₁ → Fr h₀ L h m₁ → News h₀ L h ((I, oI) :: news₁) →
      wpAny (model prog w) A (assign target env v) (fun _ s₂ => wpAny (model prog w) A (execs body env) (FPost h₀ L (J (i + 1)) [(I, oI)] I { s with heap := h, toks := tk } Q) E s₂) E { s with heap := h, toks := tk })
    (done : ∀ m₁ news₁ h tk, J n m₁ news₁ → Fr h₀ L h m₁ → News h₀ L h news₁ → Q .next { s with heap := h, toks := tk })
    (hE : PassesOwn (model prog w) A env E) :
    codeAny (model prog w) A (.forLoop target (.ref I) body [] env) (fun r s' => match r with | .ok f => Q f s' | .error e => cameBackBy (model prog w) A env E e s') s := by
  refine codeAny_forLoop_any
    (fun k s' => ∃ h' tk m' nw i, s' = { s with heap := h', toks := tk } ∧ St i h' ∧ Fr h₀ L h' m' ∧ News h₀ L h' nw ∧ (∀ p ∈ nw, p.1 ≠ I) ∧ J i m' nw ∧ i ≤ n ∧ k = n + 1 - i) ?_ (n + 1)
    ⟨s.heap, s.toks, m₀, news, 0, rfl, hst, F, N, hnw, hj, Nat.zero_le _, rfl⟩
  rintro k s' ⟨h', tk, m', nw, i, rfl, hst', F', N', hnw', hJ, hi, rfl⟩
  have next : ∀ h₁ : Heap, (∀ b o, b ∉ [I] → h'.get? b = some o → h₁.get? b = some o) → Fr h₀ L h₁ m' ∧ News h₀ L h₁ nw := fun h₁ hk₁ =>
    ⟨fr_but F' hk₁ hLI hI₀, news_but N' hk₁ hnw'⟩
  by_cases hlt : i < n
  · refine W.item i _ _ _ hlt hst' fun v h₁ tk₁ hP hst₁ hk₁ => ?_
    obtain ⟨F₁, N₁⟩ := next h₁ hk₁
    obtain ⟨oI, hoI⟩ := hSt _ _ hst₁
    refine hgo i v _ _ _ hP hst₁ ?_
    have N₂ : News h₀ L h₁ ((I, oI) :: nw) := fun p hp => by
      rcases List.mem_cons.mp hp with rfl | hp
      · exact ⟨hoI, Ne.symm hLI, hI₀⟩
      · exact N₁ p hp
    refine wpAny_passesOwn hE (wpAny_mono (turn i v m' nw h₁ tk₁ oI hlt hP hnw' hJ F₁ N₂) (fun _ s₂ h₂ => wpAny_passesOwn hE (wpAny_mono h₂ (fun f s₃ h₃ => ?_) fun _ _ e => e)) fun _ _ e => e)
    have fin : FEnd h₀ L (J (i + 1)) [(I, oI)] I { s with heap := h₁, toks := tk₁ } s₃ → ∃ q, q < n + 1 - i ∧ ∃ h' tk m' nw j, s₃ = { s with heap := h', toks := tk } ∧ St j h' ∧ Fr h₀ L h' m' ∧ News h₀ L h' nw ∧ (∀ p ∈ nw, p.1 ≠ I) ∧ J j m' nw ∧ j ≤ n ∧ q = n + 1 - j := by
      rintro ⟨h₄, tk₄, m₄, nw₄, rfl, F₄, N₄, ha, hJ₄⟩
      have N₅ : News h₀ L h₄ nw₄ := fun p hp => N₄ p (.tail _ hp)
      exact ⟨n + 1 - (i + 1), by omega, h₄, tk₄, m₄, nw₄, i + 1, rfl, hStk _ _ _ _ _ _ hst₁ hoI (N₄ _ (.head _)).1 N₅ hJ₄, F₄, N₅, ha, hJ₄, hlt, rfl⟩
    cases f with
    | ret v => exact h₃
    | brk => exact h₃
    | next => exact fin h₃
    | cont => exact fin h₃
  · have hin : i = n := by omega
    subst hin
    refine W.done _ _ _ hst' fun h₁ tk₁ hk₁ => wpAny_execs_nil ?_
    obtain ⟨F₁, N₁⟩ := next h₁ hk₁
    exact done m' nw h₁ tk₁ hJ F₁ N₁
/-- a range from a₀ on -/
theorem for_rng {target : PySem.Expr} {r : Addr} {a₀ b₀ : Int} {t₀ u₀ v₀ : Tok} {n : Nat} {m₀ : Nm → Option Value} {news : Led} (J : Nat → (Nm → Option Value) → Led → Prop)
    (hh : A.handled = none) (hr : IsRange s.heap r a₀ b₀ 1 t₀ u₀ v₀) (ha : 0 ≤ a₀ ∧ a₀ < 1000000) (hb : b₀ = a₀ + (n : Int)) (hn : n < 1000000) (F : Fr h₀ L s.heap m₀) (N : News h₀ L s.heap news) (hj : J 0 m₀ news)
    (ht : ∀ v, letOwnedTupleGo target (.ref s.heap.objs.size) v = pure ())
    (turn : ∀ i t I m₁ news₁ h tk oI, i < n → (∀ p ∈ news, p.1 < I) → (∀ p ∈ news₁, p.1 ≠ I) → J i m₁ news₁ → Fr h₀ L h m₁ → News h₀ L h ((I, oI) :: news₁) →
      wpAny (model prog w) A (assign target env (.int (a₀ + (i : Nat)) t)) (fun _ s₂ => wpAny (model prog w) A (execs body env) (FPost h₀ L (J (i + 1)) [(I, oI)] I { s with heap := h, toks := tk } Q) E s₂) E { s with heap := h, toks := tk })
    (done : ∀ m₁ news₁ h tk, J n m₁ news₁ → Fr h₀ L h m₁ → News h₀ L h news₁ → Q .next { s with heap := h, toks := tk })
    (hE : PassesOwn (model prog w) A env E) :
    wpAny (model prog w) A (pyIter (.ref r)) (fun it s₂ => codeAny (model prog w) A (.forLoop target it body [] env) (fun r s' => match r with | .ok f => Q f s' | .error e => cameBackBy (model prog w) A env E e s') s₂) E s := by
  subst hb
  have hsz : Builtin.Range.rangeSize a₀ (a₀ + (n : Int)) 1 = (n : Int) := by unfold Builtin.Range.rangeSize; simp; omega
  refine wpAny_pyIter_range hr (small_one (by omega) (by omega) (by omega) (by omega)) ?_
  have W := range_walks (prog := prog) (w := w) (I := s.heap.objs.size) hh a₀ n
  have hlt : ∀ p ∈ news, p.1 < s.heap.objs.size := fun p hp => Heap.lt_size (N p hp).1
  refine for_gen J W (fun _ _ h => ⟨_, h⟩) (fun i h h' o nw _ st e e' _ _ => range_st (h₀ := h₀) (L := L) i h h' o [] st e e' |> fun k => ?_) (fun i v s' R E' _ _ hR => ?_) ?_ (next_is_new F) ?_ (by show IsRangeIter _ _ _ _ _; rw [hsz]; simpa using Heap.get?_push_size _ rfl) (F.push _) (fun p hp => ⟨Heap.get?_push_of_some _ (N p hp).1, (N p hp).2⟩) hj ?_ ?_ hE
  · have st' : h.get? s.heap.objs.size = some _ := st
    show h'.get? s.heap.objs.size = some _
    rw [e', ← e]; exact st'
  · rw [ht v]; exact wpAny_pure hR
  · exact Nat.ne_of_lt F.ns.lt
  · intro p hp; exact Nat.ne_of_lt (hlt p hp)
  · rintro i v m₁ news₁ h tk oI hi ⟨t, rfl⟩ hoff hJ F₁ N₁
    exact turn i t _ m₁ news₁ h tk oI hi hlt hoff hJ F₁ N₁
  · intro m₁ news₁ h tk hJ F₁ N₁
    exact done m₁ news₁ h tk hJ F₁ N₁
/-- a list of the ledger's -/
theorem for_lst {elts : List PySem.Expr} {x1 : Nat} {tp : Pos} {ax : Addr} {vs : List Value} {kk : Nat} {m₀ : Nm → Option Value} {news : Led} (J : Nat → (Nm → Option Value) → Led → Prop)
    (hh : A.handled = none) (hJD : ∀ i m nw, J i m nw → (ax, listOf vs.toArray kk) ∈ nw) (hrefs : ∀ v ∈ vs, ∃ a, v = .ref a) (F : Fr h₀ L s.heap m₀) (N : News h₀ L s.heap news) (hj : J 0 m₀ news)
    (turn : ∀ i I m₁ news₁ h tk oI, i < vs.length → (∀ p ∈ news, p.1 < I) → (∀ p ∈ news₁, p.1 ≠ I) → J i m₁ news₁ → Fr h₀ L h m₁ → News h₀ L h ((I, oI) :: news₁) →
      wpAny (model prog w) A (assign (.Tuple elts x1 tp) env (gt vs i)) (fun _ s₂ => wpAny (model prog w) A (execs body env) (FPost h₀ L (J (i + 1)) [(I, oI)] I { s with heap := h, toks := tk } Q) E s₂) E { s with heap := h, toks := tk })
    (done : ∀ m₁ news₁ h tk, J vs.length m₁ news₁ → Fr h₀ L h m₁ → News h₀ L h news₁ → Q .next { s with heap := h, toks := tk })
    (hE : PassesOwn (model prog w) A env E) :
    wpAny (model prog w) A (pyIter (.ref ax)) (fun it s₂ => codeAny (model prog w) A (.forLoop (.Tuple elts x1 tp) it body [] env) (fun r s' => match r with | .ok f => Q f s' | .error e => cameBackBy (model prog w) A env E e s') s₂) E s := by
  have hl : s.heap.IsList ax vs.toArray := PySem.IsL.isList (n := kk) (N _ (hJD _ _ _ hj)).1
  have hlt : ∀ p ∈ news, p.1 < s.heap.objs.size := fun p hp => Heap.lt_size (N p hp).1
  have hax : ax < s.heap.objs.size := hlt _ (hJD _ _ _ hj)
  refine wpAny_pyIter_list hl ?_
  have W := Walks.list (prog := prog) (w := w) hh s.heap.objs.size ax (Nat.ne_of_lt hax) vs.toArray
  have hsz : vs.toArray.size = vs.length := List.size_toArray ..
  rw [hsz] at W
  refine for_gen J W (fun i h st => by obtain ⟨o, e, _⟩ := st.1; exact ⟨o, e⟩) (fun i h h' o nw _ st e e' N' hJ => ⟨?_, PySem.IsL.isList (n := kk) (N' _ (hJD _ _ _ hJ)).1⟩) (fun i v s' R E' hP st hR => ?_) ?_ (next_is_new F) ?_
    ⟨⟨_, Heap.get?_push_size _ rfl, rfl, rfl⟩, hl.push _⟩ (F.push _) (fun p hp => ⟨Heap.get?_push_of_some _ (N p hp).1, (N p hp).2⟩) hj ?_ ?_ hE
  · obtain ⟨o', q, r⟩ := st.1
    rw [e] at q; cases q
    exact ⟨o, e', r⟩
  · have hv : v ∈ vs := by
      have : vs[i]? = some v := by simpa using hP
      exact List.mem_of_getElem? this
    obtain ⟨a, rfl⟩ := hrefs v hv
    exact wpAny_letOwnedTupleGo_listiter st.1 hR
  · exact Nat.ne_of_lt F.ns.lt
  · intro p hp; exact Nat.ne_of_lt (hlt p hp)
  · rintro i v m₁ news₁ h tk oI hi hP hoff hJ F₁ N₁
    have : vs[i]? = some v := by simpa using hP
    have e : v = gt vs i := by rw [gt_some hi] at this; exact (Option.some.inj this).symm
    subst e
    exact turn i _ m₁ news₁ h tk oI hi hlt hoff hJ F₁ N₁
  · intro m₁ news₁ h tk hJ F₁ N₁
    exact done m₁ news₁ h tk hJ F₁ N₁
end
end Mine
end
section
open PySem PySem.W PyProof.Rows
theorem Mine.freshFo {M : Model} {A : Around} {Q : Flow → Shared → Prop} {E : Value → Shared → Prop} {s : Shared} {env : Env} (h : wpAny M A (execs [] env) Q E s) : wpAny M A (execs [] env) Q E s := by
  w_top off
  first | (walk1; fail) | exact h
end
section
open PySem PySem.W PyProof.Rows
set_option maxRecDepth 100000
namespace Mine
theorem ru_cell {M : Model} {A : Around} {E : Value → Shared → Prop} {s : Shared} {h₀ : Heap} {L c : Addr} {m : Nm → Option Value} {rest : Led} {o : Obj} {v₀ : Option Value} {v : Value} {env : Env} {x : Nm} {Q : Unit → Shared → Prop}
    (F : Fr h₀ L s.heap m) (N : News h₀ L s.heap ((c, o) :: rest)) (hr : ∀ p ∈ rest, p.1 ≠ c) (hd : o.data = .cell v₀)
    (h : ∀ h' o', Fr h₀ L h' m → News h₀ L h' ((c, o') :: rest) → o'.data = .cell (some v) → Q () { s with heap := h' })
    (hk : env.scope.kind = .function) (hx : env.kindOf x = some .cell) (hc : env.cells.lookup x = some c) : wpAny M A (storeName env x v) Q E s := by
  have z := N (c, o) (.head _)
  refine wpAny_storeName_cell hk hx hc ⟨o, z.1, hd⟩ fun h' hv hs => ?_
  obtain ⟨o', ho', hd'⟩ := hv
  refine h h' o' (F.change hs z.2.1 z.2.2) (fun p hp => ?_) hd'
  rcases List.mem_cons.mp hp with rfl | hp
  · exact ⟨ho', z.2⟩
  · have y := N p (.tail _ hp)
    exact ⟨(hs.2 _ (hr p hp)).trans y.1, y.2⟩
end Mine
end
section
open PySem PySem.W PyProof.Rows
theorem Mine.freshRu3 {M : Model} {A : Around} {Q : Flow → Shared → Prop} {E : Value → Shared → Prop} {s : Shared} {env : Env} (h : wpAny M A (execs [] env) Q E s) : wpAny M A (execs [] env) Q E s := by
  w_top off
  first | (walk1; fail) | exact h
end
section
open PySem PySem.W PyProof.Rows
set_option maxRecDepth 100000
namespace Mine
/-- a list of pairs of ints, each in the ledger -/
def ArePr (nw : Led) (ys : List Value) (l : List (Int × Int)) : Prop := ys.length = l.length ∧ ∀ k, k < l.length → IsPr nw (gt ys k) (l.getD k (0, 0))
theorem ArePr.nil (nw : Led) : ArePr nw [] [] := ⟨rfl, fun _ h => absurd h (Nat.not_lt_zero _)⟩
theorem ArePr.mono {nw nw' : Led} {ys : List Value} {l : List (Int × Int)} (h : ArePr nw ys l) (hs : ∀ p ∈ nw, p ∈ nw') : ArePr nw' ys l := ⟨h.1, fun k hk => (h.2 k hk).mono hs⟩
theorem ArePr.snoc {nw : Led} {ys : List Value} {l : List (Int × Int)} {v : Value} {x : Int × Int} (h : ArePr nw ys l) (hv : IsPr nw v x) : ArePr nw (ys ++ [v]) (l ++ [x]) := by
  refine ⟨by simp [h.1], fun i hi => ?_⟩
  simp only [List.length_append, List.length_cons, List.length_nil] at hi
  by_cases e : i < l.length
  · have h1 : gt (ys ++ [v]) i = gt ys i := by simp [gt, List.getD_eq_getElem?_getD, List.getElem?_append_left (show i < ys.length by rw [h.1]; exact e)]
    have h2 : (l ++ [x]).getD i (0, 0) = l.getD i (0, 0) := by simp [List.getD_eq_getElem?_getD, List.getElem?_append_left e]
    rw [h1, h2]; exact h.2 i e
  · have e2 : i = l.length := by omega
    subst e2
    have h1 : gt (ys ++ [v]) l.length = v := by simp [gt, List.getD_eq_getElem?_getD, ← h.1]
    have h2 : (l ++ [x]).getD l.length (0, 0) = x := by simp [List.getD_eq_getElem?_getD]
    rw [h1, h2]; exact hv
theorem take_snoc {α : Type} {l : List α} {i : Nat} {d : α} (h : i < l.length) : l.take (i + 1) = l.take i ++ [l.getD i d] := by
  rw [List.take_add_one]
  simp [List.getD_eq_getElem?_getD, h]
/-- the pairs that the places below z could serve, cut at z -/
def cutP (xs : List (Int × Int)) (z : Int) : List (Int × Int) := (xs.filter fun x => decide (x.1 < min x.2 z)).map fun x => (x.1, min x.2 z)
theorem cutP_nil (z : Int) : cutP [] z = [] := rfl
theorem cutP_yes {l : List (Int × Int)} {x : Int × Int} {z : Int} (h : x.1 < min x.2 z) : cutP (l ++ [x]) z = cutP l z ++ [(x.1, min x.2 z)] := by
  unfold cutP; simp [List.filter_append, h]
theorem cutP_no {l : List (Int × Int)} {x : Int × Int} {z : Int} (h : ¬ x.1 < min x.2 z) : cutP (l ++ [x]) z = cutP l z := by
  unfold cutP; simp only [List.filter_append, List.filter_cons, h, decide_false, List.filter_nil]; simp
theorem cutP_len (xs : List (Int × Int)) (z : Int) : (cutP xs z).length ≤ xs.length := by
  unfold cutP; rw [List.length_map]; exact List.length_filter_le ..
def insideP (cut : List (Int × Int)) (q r : Int) : Nat := (cut.filter fun x => decide (q ≤ x.1) && decide (x.2 ≤ r)).length
theorem insideP_yes {l : List (Int × Int)} {x : Int × Int} {q r : Int} (h1 : q ≤ x.1) (h2 : x.2 ≤ r) : insideP (l ++ [x]) q r = insideP l q r + 1 := by
  unfold insideP; simp [List.filter_append, h1, h2]
theorem insideP_no {l : List (Int × Int)} {x : Int × Int} {q r : Int} (h : ¬ (q ≤ x.1 ∧ x.2 ≤ r)) : insideP (l ++ [x]) q r = insideP l q r := by
  unfold insideP
  have : (decide (q ≤ x.1) && decide (x.2 ≤ r)) = false := by simpa using h
  rw [List.filter_append, List.filter_cons, this]; simp
theorem insideP_len (l : List (Int × Int)) (q r : Int) : insideP l q r ≤ l.length := List.length_filter_le ..
/-- the best up to q of stretches that end at r -/
def bestP (cut : List (Int × Int)) (most : List Int) (r : Nat) : Nat → Int
  | 0 => most.getD (r - 1) 0
  | q + 1 => max (bestP cut most r q) (most.getD q 0 + insideP cut q r - ((r : Int) - (q : Int)))
def mostP (cut : List (Int × Int)) : Nat → List Int
  | 0 => [0]
  | r + 1 => mostP cut r ++ [bestP cut (mostP cut r) (r + 1) (r + 1)]
theorem mostP_len (cut : List (Int × Int)) : ∀ r, (mostP cut r).length = r + 1
  | 0 => rfl
  | r + 1 => by simp [mostP, mostP_len cut r]
def dueP (xs : List (Int × Int)) (z : Nat) : Int := ((cutP xs z).length : Int) - (mostP (cutP xs z) z).getD z 0
end Mine
end
section
open PySem PySem.W PyProof.Rows
theorem Mine.freshDp {M : Model} {A : Around} {Q : Flow → Shared → Prop} {E : Value → Shared → Prop} {s : Shared} {env : Env} (h : wpAny M A (execs [] env) Q E s) : wpAny M A (execs [] env) Q E s := by
  w_top off
  first | (walk1; fail) | exact h
end
section
open PySem PySem.W PyProof.Rows PyProof.Rows.LCg PyProof.Rows.LCp
set_option Elab.async false
set_option maxRecDepth 100000
set_option maxHeartbeats 8000000
namespace Mine
local macro_rules | `(tactic| walk_at "exec For Name Call cons nil") => `(tactic| refine Mine.halt ?_)
local macro_rules | `(tactic| walk_at "exec Assign cons ListComp") => `(tactic| refine Mine.halt ?_)
local macro_rules | `(tactic| walk_at "eval ListComp") => `(tactic| refine Mine.halt ?_)
local macro_rules | `(tactic| walk_at "pyIter ref") => `(tactic| refine Mine.halt ?_)
local macro_rules | `(tactic| walk_at "call ref") => `(tactic| refine Mine.halt ?_)
local macro_rules | `(tactic| walk_at "eval Name") => `(tactic| ((with_reducible show wpAny _ _ (eval (Expr.Name _ _) (compEnvC _ _ _ _)) _ _ _); refine kcf_cell (by assumption) (by rfl) (by assumption) (by assumption) ?_))
local macro_rules | `(tactic| walk_at "eval Name") => `(tactic| ((with_reducible show wpAny _ _ (eval (Expr.Name _ _) (envOfC _ _ _ _ _)) _ _ _); refine nameX_C (by assumption) (by rfl) (by assumption) (by assumption) ?_))
theorem ints_snoc {vs : List Value} {ns : List Int} (h : IntsAre vs ns) {x : Int} {t : Tok} : IntsAre (vs ++ [.int x t]) (ns ++ [x]) := by
  induction h with
  | nil => exact .cons x t .nil
  | cons i u _ ih => exact .cons i u ih
theorem maxI (b x : Int) : (if x > b then x else b) = max b x := by
  rw [Int.max_def]; split <;> split <;> omega
theorem minI (a z : Int) : (if z < a then z else a) = min a z := by
  rw [Int.min_def]; split <;> split <;> omega
theorem off3_mono {I C D : Addr} {l l' : Led} (h : Off3 I C D l) (hs : ∀ p ∈ l', p ∈ l ∨ (p.1 ≠ I ∧ p.1 ≠ C ∧ p.1 ≠ D)) : Off3 I C D l' :=
  Off3.of fun p hp => (hs p hp).elim (h.mem p) id
set_option maxHeartbeats 1000000 in
theorem due {w : World} {p : Program} {loose : List PySem.Str} {mean : ExcName → Option Value} {mg mb : PySem.Str → Option Value}
  {dp un : Nat} {gd : Option (List Code)} {cn : PySem.Str} {cs : Scope} {a : Addr} {ccd : Value} {cl : List (PySem.Str × Addr)} {outer : List Env} {A₀ : Around} {base h₀ : Heap} {L : Addr} {m : PySem.Str → Option Value} {s : Shared} {Q E : Value → Shared → Prop}
  {lsp : Addr} {svs : List Value} {nsp : Nat} {rest : List (Addr × Obj)} {t0 : Tok} {xs : List (Int × Int)} {z : Nat}
  (B : Below A₀ base outer h₀) (F : Fr h₀ L s.heap m) (X : (hd.heap_39 w.params).In h₀) (N : News h₀ L s.heap rest) (T : Top p loose mean mg mb h₀) (hk : cs.kind = .function)
  (hdp : dp + 5 < recursionLimit) (hun : un + 40 < cLine) (hsp : (lsp, listOf svs.toArray nsp) ∈ rest) (hlen : svs.length = xs.length) (hl8 : xs.length < 50) (hz : z < 50)
  (hx : ∀ e, e < xs.length → IsPr rest (gt svs e) (xs.getD e (0, 0)))
  (hret : ∀ t h' tk', Fr h₀ L h' m → News h₀ L h' rest → Q (.int (dueP xs z) t) { s with heap := h', toks := tk' }) :
  wpAny (model Challenge.rw_qu0035_01.row.prog w) (ktrTop dp un gd cn cs L a ccd cl outer) (call (.ref 107) [.ref lsp, .int (z : Nat) t0]) Q E s := by
  have hQ : Challenge.rw_qu0035_01.row.prog = Challenge.rw_qu0035_01.prog := rfl
  revert X hQ
  k_fill
  intro X hQ
  clear hQ
  refine wpAny_call ?_
  k_dflt (refine' code_defC ?k1 ?k2 ?k3 ?k4 ?k5 ?kA ?kF ?kK ?k6 ?k7 ?k8 ?k9 ?kB ?kD ?_ ?c2 ?c3 ?c4; (case kA => exact rfl); (case kF => exact rfl); (case kK => assumption); (case k1 => k_asm); (case k2 => k_asm); (case k3 => k_asm); (case k4 => k_asm); (case k5 => k_asm); (case k6 => k_is); (case k7 => k_is); (case k8 => ktr_room); (case k9 => exact BindsTo.of_eq rfl); (case kB => exact rfl); (case kD => decide +kernel); (case c2 => exact rfl); (case c3 => exact rfl); (case c4 => exact rfl); k_whole; intro gg LL hh tk' cells' FG F1 N1 Y1 BB XX TT l1; k_cells Y1; (try simp only [List.cons_append, List.nil_append] at N1); (try dsimp only); (try k_fold))
  rename_i oq orr os d1 d2 d3
  replace d1 : oq.data = .cell none := d1
  replace d2 : orr.data = .cell none := d2
  replace d3 : os.data = .cell (some (.int (z : Nat) t0)) := d3
  replace F1 : Fr gg LL hh (mpL [(Str.ofString "spans", some (.ref lsp)), (Str.ofString "cut", none), (Str.ofString "most", none), (Str.ofString "best", none), (Str.ofString "inside", none)]) :=
    fr_eq F1 ((mpL_s (f := fun _ => none) (l := []) rfl).trans (mpL_pad _ [Str.ofString "cut", Str.ofString "most", Str.ofString "best", Str.ofString "inside"]))
  k_steps
  unfold Halt
  refine Assign_ListComp_PT F1 rfl rfl rfl (by decide) rfl (by decide) rfl rfl (by decide) rfl rfl ?_
  k_steps
  refine ⟨lsp, svs.toArray, nsp, _, fun i ys nw => ∃ tups : Led, nw = tups ++ ((LL + 1 + 1 + 1, oq) :: (LL + 1 + 1, orr) :: (LL + 1, os) :: rest) ∧ (∀ q ∈ tups, LL + 1 + 1 + 1 < q.1) ∧ ArePr tups ys (cutP (xs.take i) z), rfl, rfl, F1, N1, ?_, ⟨[], rfl, (fun _ h => by cases h), .nil _⟩, ?_, ?_, ?_⟩
  · rw [List.size_toArray, hlen]; unfold sizeLine; omega
  · rintro i ys nw ⟨tups, rfl, _, _⟩
    exact List.mem_append_right _ (.tail _ (.tail _ (.tail _ hsp)))
  · rintro s₂ ⟨g, rfl⟩ ys nw ⟨tups, rfl, htl, hA⟩ D h tk F2 N2 hoff
    rw [List.size_toArray, hlen, List.take_length] at hA
    have hoff' := off1_of hoff
    replace F2 : Fr gg LL h _ := fr_eq F2 (mpL_s rfl)
    replace N2 : News gg LL h _ := N2
    clear N1 F1
    k_steps
    unfold Halt
    rename Fr _ _ _ _ => F3
    rename News _ _ _ _ => N3
    rename_i lm _ lml _
    obtain ⟨lmD, lmR⟩ := lml
    have lmR := kst_ltOf lmR
    replace F3 := fr_eq F3 (mpL_s rfl)
    have hq3 : ∀ q ∈ ((LL + 1, os) :: (D, lst ys) :: (tups ++ rest)), q.1 ≠ LL + 1 + 1 + 1 ∧ q.1 ≠ LL + 1 + 1 ∧ q.1 ≠ lm := by
      intro q hq
      rcases List.mem_cons.mp hq with rfl | hq
      · exact ⟨Nat.ne_of_lt (Nat.lt_succ_of_lt (Nat.lt_succ_self _)), Nat.ne_of_lt (Nat.lt_succ_self _), Nat.ne_of_lt (lmR (LL + 1, os) (List.mem_append_right _ (.tail _ (.tail _ (.head _)))))⟩
      · rcases List.mem_cons.mp hq with rfl | hq
        · exact ⟨(hoff' (LL + 1 + 1 + 1, oq) (List.mem_append_right _ (.head _))).symm, (hoff' (LL + 1 + 1, orr) (List.mem_append_right _ (.tail _ (.head _)))).symm, Nat.ne_of_lt lmD⟩
        · rcases List.mem_append.mp hq with h | h
          · have h3 := htl q h
            exact ⟨(Nat.ne_of_lt h3).symm, (Nat.ne_of_lt (Nat.lt_of_succ_lt h3)).symm, Nat.ne_of_lt (lmR q (List.mem_append_left _ h))⟩
          · have h3 := l1 q h
            exact ⟨Nat.ne_of_lt (Nat.lt_succ_of_lt (Nat.lt_succ_of_lt (Nat.lt_succ_of_lt h3))), Nat.ne_of_lt (Nat.lt_succ_of_lt (Nat.lt_succ_of_lt h3)), Nat.ne_of_lt (lmR q (List.mem_append_right _ (.tail _ (.tail _ (.tail _ h)))))⟩
    have hcut : (D, lst ys) ∈ ((LL + 1, os) :: (D, lst ys) :: (tups ++ rest)) := .tail _ (.head _)
    have hos : (LL + 1, os) ∈ ((LL + 1, os) :: (D, lst ys) :: (tups ++ rest)) := .head _
    have hAf : ArePr ((LL + 1, os) :: (D, lst ys) :: (tups ++ rest)) ys (cutP xs z) := hA.mono fun q h => .tail _ (.tail _ (List.mem_append_left _ h))
    have hlq : LL + 1 + 1 + 1 ≠ lm := Nat.ne_of_lt (lmR (LL + 1 + 1 + 1, oq) (List.mem_append_right _ (.head _)))
    have hlr : LL + 1 + 1 ≠ lm := Nat.ne_of_lt (lmR (LL + 1 + 1, orr) (List.mem_append_right _ (.tail _ (.head _))))
    obtain ⟨mv0, hI0, N4⟩ : ∃ mv : List Value, IntsAre mv [0] ∧ News gg LL _ ((lm, listOf mv.toArray 0) :: (LL + 1 + 1 + 1, oq) :: (LL + 1 + 1, orr) :: ((LL + 1, os) :: (D, lst ys) :: (tups ++ rest))) := by
      refine' ⟨[Value.int 0 ?tok], .cons _ _ .nil, nsub N3 ?mem⟩
      case mem =>
        intro q hq
        rcases List.mem_cons.mp hq with rfl | hq
        · exact .head _
        · simp only [List.mem_cons, List.mem_append] at hq ⊢
          rcases hq with h | h | h | h | h | h <;> simp [h]
    clear N3
    have hcl : (cutP xs z).length < 50 := Nat.lt_of_le_of_lt (cutP_len xs z) hl8
    have hrf : ∀ q ∈ rest, q ∈ ((LL + 1, os) :: (D, lst ys) :: (tups ++ rest)) := fun q hq => .tail _ (.tail _ (List.mem_append_right _ hq))
    generalize hce : cutP xs z = cut at hA hAf hcl
    generalize hfix : ((LL + 1, os) :: (D, lst ys) :: (tups ++ rest)) = fix at N4 hq3 hcut hos hAf hrf
    clear hA htl hoff hoff' lmR lmD hx hsp
    have hms : (LL + 1, os) ∈ ((lm, listOf mv0.toArray 0) :: (LL + 1 + 1 + 1, oq) :: (LL + 1 + 1, orr) :: fix) := .tail _ (.tail _ (.tail _ hos))
    refine wpAny_For ?_
    k_steps
    unfold Halt
    rename IsRange _ _ _ _ _ _ _ _ => R5
    rename Fr _ _ _ _ => F5
    rename News _ _ _ _ => N5
    refine for_rng (n := z) (fun i m₁ nw => ∃ (mv : List Value) (nm : Nat) (oq orr : Obj) (u1 u2 : Option Value),
      m₁ = mpL [(Str.ofString "spans", some (.ref lsp)), (Str.ofString "cut", some (.ref D)), (Str.ofString "most", some (.ref lm)), (Str.ofString "best", u1), (Str.ofString "inside", u2)] ∧
      nw = (lm, listOf mv.toArray nm) :: (LL + 1 + 1 + 1, oq) :: (LL + 1 + 1, orr) :: fix ∧ (∃ u, oq.data = .cell u) ∧ (∃ u, orr.data = .cell u) ∧ IntsAre mv (mostP cut i)) rfl R5 ⟨by decide, by decide⟩ (by omega) (by omega) F5 N5
      ⟨mv0, 0, oq, orr, none, none, rfl, rfl, ⟨_, d1⟩, ⟨_, d2⟩, hI0⟩ (fun _ => rfl) ?turn ?done (by passes_own)
    case turn =>
      clear R5 F5 N5 hI0 d1 d2
      rintro i t I m₁ nw h₅ tk₅ oI hi hIlt hoff ⟨mv, nm, oq, orr, u1, u2, rfl, rfl, ⟨uq, hq⟩, ⟨ur, hr⟩, hI⟩ F6 N6
      have hIl : lm ≠ I := hoff _ (.head _)
      have hIq : LL + 1 + 1 + 1 ≠ I := hoff _ (.tail _ (.head _))
      have hIr : LL + 1 + 1 ≠ I := hoff _ (.tail _ (.tail _ (.head _)))
      have hIf : ∀ q ∈ fix, q.1 ≠ I := fun q hq => hoff _ (.tail _ (.tail _ (.tail _ hq)))
      refine wpAny_assign_Name (ru_cell (c := LL + 1 + 1) (rest := (I, oI) :: (lm, listOf mv.toArray nm) :: (LL + 1 + 1 + 1, oq) :: fix) F6 (nsub N6 ?_) ?_ hr ?_ rfl rfl rfl)
      · ((repeat' (first | exact sub_nil | refine sub_cons ?_ ?_ | refine sub_app ?_ ?_)) <;> (try intro q hq) <;> (first | ((repeat (first | exact List.Mem.head _ | assumption | exact List.mem_append_left _ (by assumption) | refine List.Mem.tail _ ?_ | refine List.mem_append_right _ ?_)); done) | simp [*]))
      · intro q hq
        rcases List.mem_cons.mp hq with rfl | hq
        · exact hIr.symm
        rcases List.mem_cons.mp hq with rfl | hq
        · exact hlr.symm
        rcases List.mem_cons.mp hq with rfl | hq
        · exact (Nat.ne_of_lt (Nat.lt_succ_self _)).symm
        · exact (hq3 q hq).2.1
      · intro h₇ orr' F7 N7 hr'
        have hmr : (LL + 1 + 1, orr') ∈ ((LL + 1 + 1, orr') :: (I, oI) :: (lm, listOf mv.toArray nm) :: (LL + 1 + 1 + 1, oq) :: fix) := .head _
        have hml : (mostP cut i).length = i + 1 := mostP_len cut i
        have hmvl : mv.length = i + 1 := by rw [hI.length, hml]
        (try dsimp only)
        k_steps
        unfold Halt
        rename Fr _ _ _ _ => F8
        rename News _ _ _ _ => N8
        have ei : (1 + (i : Int) - 1).toNat = i := by omega
        rw [ei] at F8
        replace F8 := fr_eq F8 (mpL_s rfl)
        refine wpAny_For ?_
        k_steps
        unfold Halt
        rename IsRange _ _ _ _ _ _ _ _ => R9
        rename Fr _ _ _ _ => F9
        rename News _ _ _ _ => N9
        refine for_rng (n := i + 1) (fun j m₁ nw => ∃ (oq : Obj) (tb : Tok) (u2 : Option Value),
          m₁ = mpL [(Str.ofString "spans", some (.ref lsp)), (Str.ofString "cut", some (.ref D)), (Str.ofString "most", some (.ref lm)), (Str.ofString "best", some (.int (bestP cut (mostP cut i) (i + 1) j) tb)), (Str.ofString "inside", u2)] ∧
          nw = (LL + 1 + 1, orr') :: (I, oI) :: (lm, listOf mv.toArray nm) :: (LL + 1 + 1 + 1, oq) :: fix ∧ ∃ u, oq.data = .cell u) rfl R9 ⟨by decide, by decide⟩ (by omega) (by omega) F9 N9
          ⟨oq, _, u2, rfl, rfl, _, hq⟩ (fun _ => rfl) ?turn2 ?done2 (by passes_own)
        case turn2 =>
          clear R9 F9 N9 hq
          rintro j tj I2 m₁ nw h₈ tk₈ oI2 hj hI2lt hoff2 ⟨oq, tb, u2, rfl, rfl, uq, hq⟩ F9 N9
          have hI2r : LL + 1 + 1 ≠ I2 := hoff2 _ (.head _)
          have hI2I : I ≠ I2 := hoff2 _ (.tail _ (.head _))
          have hI2l : lm ≠ I2 := hoff2 _ (.tail _ (.tail _ (.head _)))
          have hI2q : LL + 1 + 1 + 1 ≠ I2 := hoff2 _ (.tail _ (.tail _ (.tail _ (.head _))))
          have hI2f : ∀ q ∈ fix, q.1 ≠ I2 := fun q hq => hoff2 _ (.tail _ (.tail _ (.tail _ (.tail _ hq))))
          refine wpAny_assign_Name (ru_cell (c := LL + 1 + 1 + 1) (rest := (I2, oI2) :: (LL + 1 + 1, orr') :: (I, oI) :: (lm, listOf mv.toArray nm) :: fix) F9 (nsub N9 ?_) ?_ hq ?_ rfl rfl rfl)
          · ((repeat' (first | exact sub_nil | refine sub_cons ?_ ?_ | refine sub_app ?_ ?_)) <;> (try intro q hq) <;> (first | ((repeat (first | exact List.Mem.head _ | assumption | exact List.mem_append_left _ (by assumption) | refine List.Mem.tail _ ?_ | refine List.mem_append_right _ ?_)); done) | simp [*]))
          · intro q hq
            rcases List.mem_cons.mp hq with rfl | hq
            · exact hI2q.symm
            rcases List.mem_cons.mp hq with rfl | hq
            · exact Nat.ne_of_lt (Nat.lt_succ_self _)
            rcases List.mem_cons.mp hq with rfl | hq
            · exact hIq.symm
            rcases List.mem_cons.mp hq with rfl | hq
            · exact hlq.symm
            · exact (hq3 q hq).1
          · intro h₉ oq' F10 N10 hq'
            have e0 : (0 : Int) + ((j : Nat) : Int) = ((j : Nat) : Int) := by omega
            rw [e0] at hq'
            have hmq : (LL + 1 + 1 + 1, oq') ∈ ((LL + 1 + 1 + 1, oq') :: (I2, oI2) :: (LL + 1 + 1, orr') :: (I, oI) :: (lm, listOf mv.toArray nm) :: fix) := .head _
            have hmr : (LL + 1 + 1, orr') ∈ ((LL + 1 + 1 + 1, oq') :: (I2, oI2) :: (LL + 1 + 1, orr') :: (I, oI) :: (lm, listOf mv.toArray nm) :: fix) := .tail _ (.tail _ (.head _))
            (try dsimp only)
            k_steps
            unfold Halt
            refine ListComp_PT F10 rfl (by decide) rfl (by decide) rfl rfl (by decide) ?_
            k_steps
            refine ⟨D, ys.toArray, ys.length, _, fun k zs nw => nw = ((LL + 1 + 1 + 1, oq') :: (I2, oI2) :: (LL + 1 + 1, orr') :: (I, oI) :: (lm, listOf mv.toArray nm) :: fix) ∧ zs.length = insideP (cut.take k) (j : Nat) (1 + (i : Nat)), rfl, rfl, F10, N10, ?_, ⟨rfl, rfl⟩, ?_, ?_, ?_⟩
            · rw [List.size_toArray, hAf.1]; unfold sizeLine; omega
            · rintro k zs nw ⟨rfl, _⟩
              exact .tail _ (.tail _ (.tail _ (.tail _ (.tail _ hcut))))
            · rintro s₂ ⟨g2, rfl⟩ zs nw ⟨rfl, hzs⟩ D2 h₁₁ tk₁₁ F11 N11 hoff11
              rw [List.size_toArray, hAf.1, List.take_length] at hzs
              replace F11 : Fr gg LL h₁₁ _ := F11
              replace N11 : News gg LL h₁₁ _ := N11
              have hil := insideP_len cut (j : Nat) (1 + (i : Nat))
              (try dsimp only)
              k_steps
              refine ru_len N11 (.head _) (by omega) ?_
              intro tL tkL
              rw [hzs]
              have hmq3 : (LL + 1 + 1 + 1, oq') ∈ ((D2, lst zs) :: ((LL + 1 + 1 + 1, oq') :: (I2, oI2) :: (LL + 1 + 1, orr') :: (I, oI) :: (lm, listOf mv.toArray nm) :: fix)) := by simp
              have hmr3 : (LL + 1 + 1, orr') ∈ ((D2, lst zs) :: ((LL + 1 + 1 + 1, oq') :: (I2, oI2) :: (LL + 1 + 1, orr') :: (I, oI) :: (lm, listOf mv.toArray nm) :: fix)) := by simp
              (try dsimp only)
              k_steps
              rename Fr _ _ _ _ => F12
              rename News _ _ _ _ => N12
              have e1 : (1 : Int) + ((i : Nat) : Int) = ((i + 1 : Nat) : Int) := by omega
              simp only [maxI, Int.toNat_natCast, e1] at F12
              refine fp_next (news₂ := (LL + 1 + 1, orr') :: (I, oI) :: (lm, listOf mv.toArray nm) :: (LL + 1 + 1 + 1, oq') :: fix) (fr_eq F12 (mpL_s (mpL_s rfl))) (nsub N12 ?_) ?_ ⟨oq', _, _, rfl, rfl, _, hq'⟩
              · ((repeat' (first | exact sub_nil | refine sub_cons ?_ ?_ | refine sub_app ?_ ?_)) <;> (try intro q hq) <;> (first | ((repeat (first | exact List.Mem.head _ | assumption | exact List.mem_append_left _ (by assumption) | refine List.Mem.tail _ ?_ | refine List.mem_append_right _ ?_)); done) | simp [*]))
              · intro q hq
                rcases List.mem_cons.mp hq with rfl | hq
                · exact hI2r
                rcases List.mem_cons.mp hq with rfl | hq
                · exact hI2I
                rcases List.mem_cons.mp hq with rfl | hq
                · exact hI2l
                rcases List.mem_cons.mp hq with rfl | hq
                · exact hI2q
                · exact hI2f q hq
            · rintro s₂ ⟨g2, rfl⟩ k zs nw v hv ⟨rfl, hzs⟩
              have hk : k < cut.length := by
                rw [← hAf.1]
                have : ys[k]? = some v := by simpa using hv
                exact (List.getElem?_eq_some_iff.mp this).1
              obtain ⟨b, t1, u1, hb, hm⟩ := hAf.2 k hk
              have hvb : v = .ref b := by
                have : ys[k]? = some v := by simpa using hv
                rw [gt_some (by rw [hAf.1]; exact hk)] at this
                rw [← hb]; exact (Option.some.inj this).symm
              refine ⟨b, _, _, _, _, hvb, .tail _ (.tail _ (.tail _ (.tail _ (.tail _ hm)))), rfl, rfl, ?_⟩
              intro I3 oI3 C oC D2 m₂ h₁₁ tk₁₁ E' hoC hx1 hx2 F11 N11 o3 o4
              have hmq2 : (LL + 1 + 1 + 1, oq') ∈ ((I3, oI3) :: (C, oC) :: (D2, lst zs) :: ((LL + 1 + 1 + 1, oq') :: (I2, oI2) :: (LL + 1 + 1, orr') :: (I, oI) :: (lm, listOf mv.toArray nm) :: fix)) := by simp
              have hmr2 : (LL + 1 + 1, orr') ∈ ((I3, oI3) :: (C, oC) :: (D2, lst zs) :: ((LL + 1 + 1 + 1, oq') :: (I2, oI2) :: (LL + 1 + 1, orr') :: (I, oI) :: (lm, listOf mv.toArray nm) :: fix)) := by simp
              k_steps
              · refine CompEnd.intro F11 N11 _ (fun _ h => h) o3 trivial ⟨rfl, ?_⟩
                rw [take_snoc hk, insideP_yes (by assumption) (by assumption), List.length_append, hzs]; rfl
              · refine CompEnd.intro F11 N11 _ (fun _ h => h) o3 trivial ⟨rfl, ?_⟩
                rw [take_snoc hk, insideP_no (by rintro ⟨h1, h2⟩; contradiction), hzs]
              · refine CompEnd.intro F11 N11 _ (fun _ h => h) o3 trivial ⟨rfl, ?_⟩
                rw [take_snoc hk, insideP_no (by rintro ⟨h1, h2⟩; contradiction), hzs]
        case done2 =>
          clear R9 F9 N9 hq
          rintro m₁ nw h₈ tk₈ ⟨oq, tb, u2, rfl, rfl, uq, hq⟩ F9 N9
          k_steps
          refine ru_append (vs := mv) (n := nm) (rest := (LL + 1 + 1, orr') :: (I, oI) :: (LL + 1 + 1 + 1, oq) :: fix) F9 (nsub N9 ?_) ?_ (by omega) ?_
          · ((repeat' (first | exact sub_nil | refine sub_cons ?_ ?_ | refine sub_app ?_ ?_)) <;> (try intro q hq) <;> (first | ((repeat (first | exact List.Mem.head _ | assumption | exact List.mem_append_left _ (by assumption) | refine List.Mem.tail _ ?_ | refine List.mem_append_right _ ?_)); done) | simp [*]))
          · intro q hq
            rcases List.mem_cons.mp hq with rfl | hq
            · exact hlr
            rcases List.mem_cons.mp hq with rfl | hq
            · exact hIl.symm
            rcases List.mem_cons.mp hq with rfl | hq
            · exact hlq
            · exact (hq3 q hq).2.2
          · intro h₉ F10 N10
            (try dsimp only)
            k_steps
            refine fp_next (news₂ := (lm, listOf (mv ++ [Value.int (bestP cut (mostP cut i) (i + 1) (i + 1)) tb]).toArray (nm + 1)) :: (LL + 1 + 1 + 1, oq) :: (LL + 1 + 1, orr') :: fix) F10 (nsub N10 ?_) ?_ ⟨_, _, _, _, _, _, rfl, rfl, ⟨_, hq⟩, ⟨_, hr'⟩, ?_⟩
            · ((repeat' (first | exact sub_nil | refine sub_cons ?_ ?_ | refine sub_app ?_ ?_)) <;> (try intro q hq) <;> (first | ((repeat (first | exact List.Mem.head _ | assumption | exact List.mem_append_left _ (by assumption) | refine List.Mem.tail _ ?_ | refine List.mem_append_right _ ?_)); done) | simp [*]))
            · intro q hq
              rcases List.mem_cons.mp hq with rfl | hq
              · exact hIl
              rcases List.mem_cons.mp hq with rfl | hq
              · exact hIq
              rcases List.mem_cons.mp hq with rfl | hq
              · exact hIr
              · exact hIf q hq
            · exact ints_snoc hI
    case done =>
      clear R5 F5 N5 hI0 d1 d2
      rintro m₁ nw h₅ tk₅ ⟨mv, nm, oq, orr, u1, u2, rfl, rfl, ⟨uq, hq⟩, ⟨ur, hr⟩, hI⟩ F6 N6
      have hml : (mostP cut z).length = z + 1 := mostP_len cut z
      have hmvl : mv.length = z + 1 := by rw [hI.length, hml]
      have hms : (LL + 1, os) ∈ ((lm, listOf mv.toArray nm) :: (LL + 1 + 1 + 1, oq) :: (LL + 1 + 1, orr) :: fix) := .tail _ (.tail _ (.tail _ hos))
      k_steps
      refine ru_len (vs := ys) (n := ys.length) N6 (.tail _ (.tail _ (.tail _ hcut))) (by rw [hAf.1]; omega) ?_
      intro tL tkL
      rw [hAf.1]
      (try dsimp only)
      k_steps
      rw [← hce, Int.toNat_natCast]
      exact hret _ _ _ (by k_asm) (nsub (by k_asm) fun q hq => .tail _ (.tail _ (.tail _ (hrf q hq))))
  · rintro s₂ ⟨g, rfl⟩ i ys nw v hv ⟨tups, rfl, htl, hA⟩
    have hi : i < xs.length := by
      rw [← hlen]
      have : svs[i]? = some v := by simpa using hv
      exact (List.getElem?_eq_some_iff.mp this).1
    obtain ⟨b, t1, u1, hb, hm⟩ := hx i hi
    have hvb : v = .ref b := by
      have : svs[i]? = some v := by simpa using hv
      rw [gt_some (by omega)] at this
      rw [← hb]; exact (Option.some.inj this).symm
    refine ⟨b, _, _, _, _, hvb, List.mem_append_right _ (.tail _ (.tail _ (.tail _ hm))), rfl, rfl, ?_⟩
    intro I oI C oC D m₂ h tk E' hoC hx1 hx2 F2 N2 o3 o4
    have hms : (LL + 1, os) ∈ ((I, oI) :: (C, oC) :: (D, lst ys) :: (tups ++ ((LL + 1 + 1 + 1, oq) :: (LL + 1 + 1, orr) :: (LL + 1, os) :: rest))) := by simp
    k_steps
    · rename Fr _ _ _ _ => F3
      rename News _ _ _ _ => N3
      rename_i hc _ _ D2 _ lD
      simp only [minI] at hc N3
      generalize (if ((z : Nat) : Int) < (xs.getD i (0, 0)).2 then t0 else u1) = uu at N3
      obtain ⟨lI, lC, lDD, lR⟩ := lD
      have lR := kst_ltOf lR
      refine CompEnd.intro F3 N3 ((D2, tup2 (xs.getD i (0, 0)).1 (min (xs.getD i (0, 0)).2 z) t1 uu) :: (tups ++ ((LL + 1 + 1 + 1, oq) :: (LL + 1 + 1, orr) :: (LL + 1, os) :: rest))) ?_ (off3_mono o3 ?_) trivial ⟨(D2, tup2 (xs.getD i (0, 0)).1 (min (xs.getD i (0, 0)).2 z) t1 uu) :: tups, rfl, ?_, ?_⟩
      · ((repeat' (first | exact sub_nil | refine sub_cons ?_ ?_ | refine sub_app ?_ ?_)) <;> (try intro q hq) <;> (first | ((repeat (first | exact List.Mem.head _ | assumption | exact List.mem_append_left _ (by assumption) | refine List.Mem.tail _ ?_ | refine List.mem_append_right _ ?_)); done) | simp [*]))
      · intro q hq
        rcases List.mem_cons.mp hq with rfl | hq
        · exact .inr ⟨(Nat.ne_of_lt lI).symm, (Nat.ne_of_lt lC).symm, (Nat.ne_of_lt lDD).symm⟩
        · exact .inl hq
      · intro q hq
        rcases List.mem_cons.mp hq with rfl | hq
        · exact lR (LL + 1 + 1 + 1, oq) (List.mem_append_right _ (.head _))
        · exact htl q hq
      · rw [take_snoc hi, cutP_yes hc]
        exact (hA.mono fun _ h => .tail _ h).snoc ⟨D2, t1, uu, rfl, .head _⟩
    · rename Fr _ _ _ _ => F3
      rename News _ _ _ _ => N3
      rename_i hc
      simp only [minI] at hc
      refine CompEnd.intro F3 N3 _ (fun _ h => h) o3 trivial ⟨tups, rfl, htl, ?_⟩
      rw [take_snoc hi, cutP_no hc]
      exact hA
end Mine
end
section
open PySem PySem.W PyProof.Rows
theorem Mine.freshDu1 {M : Model} {A : Around} {Q : Flow → Shared → Prop} {E : Value → Shared → Prop} {s : Shared} {env : Env} (h : wpAny M A (execs [] env) Q E s) : wpAny M A (execs [] env) Q E s := by
  w_top off
  first | (walk1; fail) | exact h
end
section
open PySem PySem.W PyProof.Rows PyProof.Rows.LCg PyProof.Rows.LCp
set_option Elab.async false
set_option maxRecDepth 100000
set_option maxHeartbeats 4000000
namespace Mine
section
variable {prog : Program} {w : World} {A : Around} {E : Value → Shared → Prop} {s : Shared} {env : Env} {h₀ : Heap} {body : List Stmt} {Q : Flow → Shared → Prop} {L : Addr}
/-- a list of the ledger's, a plain target -/
theorem for_lstN {target : PySem.Expr} {ax : Addr} {vs : List Value} {kk : Nat} {m₀ : Nm → Option Value} {news : Led} (J : Nat → (Nm → Option Value) → Led → Prop)
    (hh : A.handled = none) (hJD : ∀ i m nw, J i m nw → (ax, listOf vs.toArray kk) ∈ nw) (ht : ∀ I v, letOwnedTupleGo target (.ref I) v = pure ()) (F : Fr h₀ L s.heap m₀) (N : News h₀ L s.heap news) (hj : J 0 m₀ news)
    (turn : ∀ i I m₁ news₁ h tk oI, i < vs.length → (∀ p ∈ news, p.1 < I) → (∀ p ∈ news₁, p.1 ≠ I) → J i m₁ news₁ → Fr h₀ L h m₁ → News h₀ L h ((I, oI) :: news₁) →
      wpAny (model prog w) A (assign target env (gt vs i)) (fun _ s₂ => wpAny (model prog w) A (execs body env) (FPost h₀ L (J (i + 1)) [(I, oI)] I { s with heap := h, toks := tk } Q) E s₂) E { s with heap := h, toks := tk })
    (done : ∀ m₁ news₁ h tk, J vs.length m₁ news₁ → Fr h₀ L h m₁ → News h₀ L h news₁ → Q .next { s with heap := h, toks := tk })
    (hE : PassesOwn (model prog w) A env E) :
    wpAny (model prog w) A (pyIter (.ref ax)) (fun it s₂ => codeAny (model prog w) A (.forLoop target it body [] env) (fun r s' => match r with | .ok f => Q f s' | .error e => cameBackBy (model prog w) A env E e s') s₂) E s := by
  have hl : s.heap.IsList ax vs.toArray := PySem.IsL.isList (n := kk) (N _ (hJD _ _ _ hj)).1
  have hlt : ∀ p ∈ news, p.1 < s.heap.objs.size := fun p hp => Heap.lt_size (N p hp).1
  have hax : ax < s.heap.objs.size := hlt _ (hJD _ _ _ hj)
  refine wpAny_pyIter_list hl ?_
  have W := Walks.list (prog := prog) (w := w) hh s.heap.objs.size ax (Nat.ne_of_lt hax) vs.toArray
  have hsz : vs.toArray.size = vs.length := List.size_toArray ..
  rw [hsz] at W
  refine for_gen J W (fun i h st => by obtain ⟨o, e, _⟩ := st.1; exact ⟨o, e⟩) (fun i h h' o nw _ st e e' N' hJ => ⟨?_, PySem.IsL.isList (n := kk) (N' _ (hJD _ _ _ hJ)).1⟩) (fun i v s' R E' hP st hR => ?_) ?_ (next_is_new F) ?_
    ⟨⟨_, Heap.get?_push_size _ rfl, rfl, rfl⟩, hl.push _⟩ (F.push _) (fun p hp => ⟨Heap.get?_push_of_some _ (N p hp).1, (N p hp).2⟩) hj ?_ ?_ hE
  · obtain ⟨o', q, r⟩ := st.1
    rw [e] at q; cases q
    exact ⟨o, e', r⟩
  · rw [ht]; exact wpAny_pure hR
  · exact Nat.ne_of_lt F.ns.lt
  · intro p hp; exact Nat.ne_of_lt (hlt p hp)
  · rintro i v m₁ news₁ h tk oI hi hP hoff hJ F₁ N₁
    have : vs[i]? = some v := by simpa using hP
    have e : v = gt vs i := by rw [gt_some hi] at this; exact (Option.some.inj this).symm
    subst e
    exact turn i _ m₁ news₁ h tk oI hi hlt hoff hJ F₁ N₁
  · intro m₁ news₁ h tk hJ F₁ N₁
    exact done m₁ news₁ h tk hJ F₁ N₁
end
end Mine
end
section
open PySem PySem.W PyProof.Rows
theorem Mine.freshFo2 {M : Model} {A : Around} {Q : Flow → Shared → Prop} {E : Value → Shared → Prop} {s : Shared} {env : Env} (h : wpAny M A (execs [] env) Q E s) : wpAny M A (execs [] env) Q E s := by
  w_top off
  first | (walk1; fail) | exact h
end
section
open PySem PySem.W PyProof.Rows PyProof.Rows.LCg PyProof.Rows.LCp
set_option Elab.async false
set_option maxRecDepth 100000
set_option maxHeartbeats 4000000
namespace Mine
section
variable {prog : Program} {w : World} {A : Around} {E : Value → Shared → Prop} {s : Shared} {env : Env} {h₀ : Heap} {body : List Stmt} {Q : Flow → Shared → Prop} {L : Addr}
/-- a text of plain signs, a plain target -/
theorem for_strN {target : PySem.Expr} {x : PySem.Str} {tx : Tok} {m₀ : Nm → Option Value} {news : Led} (J : Nat → (Nm → Option Value) → Led → Prop)
    (hh : A.handled = none) (hax : x.cps.all (· < 128) = true) (ht : ∀ I v, letOwnedTupleGo target (.ref I) v = pure ()) (F : Fr h₀ L s.heap m₀) (N : News h₀ L s.heap news) (hj : J 0 m₀ news)
    (turn : ∀ i c u I m₁ news₁ h tk oI, i < x.length → x.cps[i]? = some c → (∀ p ∈ news, p.1 < I) → (∀ p ∈ news₁, p.1 ≠ I) → J i m₁ news₁ → Fr h₀ L h m₁ → News h₀ L h ((I, oI) :: news₁) →
      wpAny (model prog w) A (assign target env (.str ⟨#[c]⟩ u)) (fun _ s₂ => wpAny (model prog w) A (execs body env) (FPost h₀ L (J (i + 1)) [(I, oI)] I { s with heap := h, toks := tk } Q) E s₂) E { s with heap := h, toks := tk })
    (done : ∀ m₁ news₁ h tk, J x.length m₁ news₁ → Fr h₀ L h m₁ → News h₀ L h news₁ → Q .next { s with heap := h, toks := tk })
    (hE : PassesOwn (model prog w) A env E) :
    wpAny (model prog w) A (pyIter (.str x tx)) (fun it s₂ => codeAny (model prog w) A (.forLoop target it body [] env) (fun r s' => match r with | .ok f => Q f s' | .error e => cameBackBy (model prog w) A env E e s') s₂) E s := by
  have hlt : ∀ p ∈ news, p.1 < s.heap.objs.size := fun p hp => Heap.lt_size (N p hp).1
  refine wpAny_pyIter_ascii hax ?_
  have W := Walks.strAscii (prog := prog) (w := w) hh s.heap.objs.size x tx
  refine for_gen J W (fun i h st => by obtain ⟨o, e, _⟩ := st; exact ⟨o, e⟩) (fun i h h' o nw _ st e e' N' hJ => ?_) (fun i v s' R E' hP st hR => ?_) ?_ (next_is_new F) ?_
    ⟨_, Heap.get?_push_size _ rfl, rfl, rfl⟩ (F.push _) (fun p hp => ⟨Heap.get?_push_of_some _ (N p hp).1, (N p hp).2⟩) hj ?_ ?_ hE
  · obtain ⟨o', q, r⟩ := st
    rw [e] at q; cases q
    exact ⟨o, e', r⟩
  · rw [ht]; exact wpAny_pure hR
  · exact Nat.ne_of_lt F.ns.lt
  · intro p hp; exact Nat.ne_of_lt (hlt p hp)
  · rintro i v m₁ news₁ h tk oI hi ⟨c, u, hc, rfl⟩ hoff hJ F₁ N₁
    exact turn i c u _ m₁ news₁ h tk oI hi hc hlt hoff hJ F₁ N₁
  · intro m₁ news₁ h tk hJ F₁ N₁
    exact done m₁ news₁ h tk hJ F₁ N₁
end
end Mine
end
section
open PySem PySem.W PyProof.Rows
theorem Mine.freshFo3 {M : Model} {A : Around} {Q : Flow → Shared → Prop} {E : Value → Shared → Prop} {s : Shared} {env : Env} (h : wpAny M A (execs [] env) Q E s) : wpAny M A (execs [] env) Q E s := by
  w_top off
  first | (walk1; fail) | exact h
end
section
open PySem PySem.W PyProof.Rows PySem.Builtin PySem.Builtin.Str
set_option maxRecDepth 100000
namespace Mine
/-- find from a place to the end -/
def foundAt (x y : PySem.Str) (a : Nat) : Int := match Builtin.Str.occurrences x y a x.length 1 with | k :: _ => (k : Int) | [] => -1
theorem gives_find4 (x y : PySem.Str) (a : Nat) (t u v v' : Tok) : Gives (Builtin.«str.find» ⟨[.str x t, .str y u, .int (a : Nat) v, .int (x.length : Nat) v'], []⟩) (.int (foundAt x y a)) := by
  have e1 : (max 0 (if ((a : Nat) : Int) < 0 then ((a : Nat) : Int) + x.length else ((a : Nat) : Int))).toNat = a := by rw [if_neg (by omega)]; omega
  have e2 : min (max 0 (if ((x.length : Nat) : Int) < 0 then ((x.length : Nat) : Int) + x.length else ((x.length : Nat) : Int))).toNat x.length = x.length := by rw [if_neg (by omega)]; omega
  show Gives (match Builtin.Str.occurrences x y (max 0 (if ((a : Nat) : Int) < 0 then ((a : Nat) : Int) + x.length else ((a : Nat) : Int))).toNat (min (max 0 (if ((x.length : Nat) : Int) < 0 then ((x.length : Nat) : Int) + x.length else ((x.length : Nat) : Int))).toNat x.length) 1 with | k :: _ => retInt k | [] => (do rule "str.find.not-found"; retInt (-1))) _
  rw [e1, e2]
  unfold foundAt
  cases Builtin.Str.occurrences x y a x.length 1 with
  | nil => exact .rule (.of_eq rfl)
  | cons k _ => exact .of_eq rfl
theorem ru_find {prog : Program} {w : World} {A : Around} {E : Value → Shared → Prop} {s : Shared} {x y : PySem.Str} {t u v v' : Tok} {i j : Int} {Q : Value → Shared → Prop} (a : Nat) (hi : i = (a : Int)) (hj : j = (x.length : Int))
    (hq : Q (.int (foundAt x y a) s.toks) { s with toks := s.toks + 1 }) : wpAny (model prog w) A (call (.builtin "str.find") [.str x t, .str y u, .int i v, .int j v']) Q E s := by
  subst hi; subst hj
  exact call_gives F.slot_str_find (typeIs_str _ _ _) F.entry_str_find (F.args_str_find_4 _ _ _ _) (gives_find4 x y a t u v v') hq
theorem foundAt_bound {x y : PySem.Str} {a : Nat} (h : ¬ foundAt x y a < 0) : 0 ≤ foundAt x y a ∧ foundAt x y a + (y.length : Nat) ≤ (x.length : Nat) := by
  unfold foundAt at h ⊢
  cases e : Builtin.Str.occurrences x y a x.length 1 with
  | nil => rw [e] at h; exact absurd (show (-1 : Int) < 0 by decide) h
  | cons k r =>
    have := (StrLaws.occ_spec x y a x.length 1 k (by rw [e]; exact .head _)).1
    simp only
    omega
/-- the loop over the pieces -/
def emGo (G : PySem.Str) : List PySem.Str → Nat → Bool
  | [], _ => true
  | w :: r, st => if foundAt G w st < 0 then false else emGo G r ((foundAt G w st).toNat + w.length)
end Mine
end
section
open PySem PySem.W PyProof.Rows
theorem Mine.freshSf {M : Model} {A : Around} {Q : Flow → Shared → Prop} {E : Value → Shared → Prop} {s : Shared} {env : Env} (h : wpAny M A (execs [] env) Q E s) : wpAny M A (execs [] env) Q E s := by
  w_top off
  first | (walk1; fail) | exact h
end
section
open PySem PySem.W PyProof.Rows PyProof.Rows.LCg PyProof.Rows.LCp
set_option Elab.async false
set_option maxRecDepth 100000
set_option maxHeartbeats 2000000
namespace Mine
local macro_rules | `(tactic| walk_at "exec For Name Name cons nil") => `(tactic| refine Mine.halt ?_)
local macro_rules | `(tactic| walk_at "pyIter ref") => `(tactic| refine Mine.halt ?_)
local macro_rules | `(tactic| walk_at "call ref") => `(tactic| refine Mine.halt ?_)
local macro_rules | `(tactic| walk_at "call builtin:str.split") => `(tactic| refine Mine.halt ?_)
local macro_rules | `(tactic| walk_at "subscriptTail Name Constant ref int") => `(tactic| refine Mine.halt ?_)
local macro_rules | `(tactic| walk_at "subscriptTail Name UnaryOp ref int") => `(tactic| refine Mine.halt ?_)
theorem ru_last {prog : Program} {w : World} {A : Around} {E : Value → Shared → Prop} {s : Shared} {h₀ : Heap} {L D : Addr} {news : Led} {vs : List Value} {n : Nat} {u : Tok} {value slice : PySem.Expr} {Q : Value → Shared → Prop} (N : News h₀ L s.heap news) (hm : (D, listOf vs.toArray n) ∈ news) (hi : 0 < vs.length) (hl : vs.length < 2 ^ 62) (h : Q (gt vs (vs.length - 1)) s)
    (hs : subscripted slice false (.ref D) (.int (-1) u) = operate [.ref D, .int (-1) u] (getItem (.ref D) (.int (-1) u)) := by with_unfolding_all rfl) :
    wpAny (model prog w) A (subscriptTail value slice (.ref D) (.int (-1) u)) Q E s := by
  have hL := PySem.IsL.isList (n := n) (N _ hm).1
  refine tail_any hL.typeIs slot_list_getitem.lookup (wpAny_getItem_list_neg hL (by decide) ?_ (by decide) ?_ h) hs
  · rw [List.size_toArray]; omega
  · have e : (-1 + ((vs.toArray.size : Nat) : Int)).toNat = vs.length - 1 := by rw [List.size_toArray]; omega
    rw [e, List.getElem?_toArray]; exact gt_some (by omega)
theorem strs_at {vs : List Value} {xs : List PySem.Str} (h : StrsAre vs xs) : ∀ (i : Nat) (d : PySem.Str), i < xs.length → ∃ t, gt vs i = .str (xs.getD i d) t := by
  induction h with
  | nil => intro i d hi; exact absurd hi (Nat.not_lt_zero _)
  | cons x t _ ih =>
    intro i d hi
    cases i with
    | zero => exact ⟨t, rfl⟩
    | succ i =>
      obtain ⟨u, e⟩ := ih i d (Nat.lt_of_succ_lt_succ hi)
      exact ⟨u, by simpa [gt] using e⟩
theorem em {w : World} {p : Program} {loose : List PySem.Str} {mean : ExcName → Option Value} {mg mb : PySem.Str → Option Value}
  {dp un : Nat} {gd : Option (List Code)} {cn : PySem.Str} {cs : Scope} {a : Addr} {ccd : Value} {cl : List (PySem.Str × Addr)} {outer : List Env} {A₀ : Around} {base h₀ : Heap} {L : Addr} {m : PySem.Str → Option Value} {s : Shared} {Q E : Value → Shared → Prop}
  {rest : List (Addr × Obj)} {W G : PySem.Str} {t0 t1 : Tok}
  (B : Below A₀ base outer h₀) (F : Fr h₀ L s.heap m) (X : (hd.heap_39 w.params).In h₀) (N : News h₀ L s.heap rest) (T : Top p loose mean mg mb h₀) (hk : cs.kind = .function)
  (hdp : dp + 5 < recursionLimit) (hun : un + 40 < cLine) (hW : W.length ≤ 1000) (hG : G.length ≤ 1000) (hin : (Builtin.Str.occurrences W (Str.ofString "...") 0 W.length 1).isEmpty = false) {pcs : List PySem.Str} (hsp : Txt.split W (Str.ofString "...") = pcs) (hp2 : 2 ≤ pcs.length) (hp3 : pcs.length ≤ 1000) (hpf : pcs.getD 0 (Str.ofString "x") = Str.ofString "") (hpl : pcs.getD (pcs.length - 1) (Str.ofString "x") = Str.ofString "")
  (hret : ∀ h' tk', Fr h₀ L h' m → News h₀ L h' rest → Q (.bool (emGo G pcs 0)) { s with heap := h', toks := tk' }) :
  wpAny (model Challenge.rw_qu0035_01.row.prog w) (ktrTop dp un gd cn cs L a ccd cl outer) (call (.ref 39) [.str W t0, .str G t1]) Q E s := by
  have hQ : Challenge.rw_qu0035_01.row.prog = Challenge.rw_qu0035_01.prog := rfl
  revert X hQ
  k_fill
  intro X hQ
  clear hQ
  refine wpAny_call ?_
  k_dflt cell_enter
  rename_i gg LL hh FG F1 N1 BB XX TT
  replace F1 : Fr gg LL hh (mpL [(Str.ofString "got", some (.str G t1)), (Str.ofString "want", some (.str W t0)), (Str.ofString "ws", none), (Str.ofString "startpos", none), (Str.ofString "endpos", none), (Str.ofString "w", none)]) :=
    fr_of [Str.ofString "ws", Str.ofString "startpos", Str.ofString "endpos", Str.ofString "w"] F1
  k_steps
  unfold Halt
  refine KSpl.split1 (by k_asm) (by k_asm) (by decide) ?_ (by unfold sizeLine; omega)
  intro D l h' k' e' a' F2 N2 l1
  rw [e', hsp] at a'
  have hvl : (strValues l).length = pcs.length := a'.length
  generalize strValues l = vs at a' N2 hvl
  clear e' l1
  have ha : Halt (StrsAre vs pcs) := a'
  clear a'
  (try dsimp only)
  k_steps
  refine ru_len (by k_asm) (.head _) (by omega) ?_
  intro tL tkL
  rw [hvl]
  (try dsimp only)
  k_steps
  unfold Halt
  refine ru_itemN 0 (by k_asm) (.tail _ (.head _)) rfl (by omega) (by omega) ?_ (by with_unfolding_all rfl)
  obtain ⟨tw, etw⟩ := strs_at (show StrsAre vs pcs from ha) 0 (Str.ofString "x") (by omega)
  rw [etw, hpf]
  (try dsimp only)
  k_steps
  unfold Halt
  refine ru_last (by k_asm) (.tail _ (.head _)) (by omega) (by omega) ?_ (by with_unfolding_all rfl)
  obtain ⟨tw2, etw2⟩ := strs_at (show StrsAre vs pcs from ha) (vs.length - 1) (Str.ofString "x") (by omega)
  rw [etw2, hvl, hpl]
  (try dsimp only)
  k_steps
  unfold Halt
  rename Fr _ _ _ _ => F5
  rename News _ _ _ _ => N5
  replace F5 := fr_eq F5 (mpL_s (mpL_s (mpL_s (mpL_s (mpL_s rfl)))))
  refine wpAny_For ?_
  k_steps
  unfold Halt
  refine for_lstN (vs := vs) (kk := 0) (fun i m₁ nw => ∃ (st : Nat) (ts te : Tok) (u1 : Option Value), m₁ = mpL [(Str.ofString "got", some (.str G t1)), (Str.ofString "want", some (.str W t0)), (Str.ofString "ws", some (.ref D)), (Str.ofString "startpos", some (.int (st : Nat) ts)), (Str.ofString "endpos", some (.int (G.length : Nat) te)), (Str.ofString "w", u1)] ∧
    nw = (D, listOf vs.toArray 0) :: rest ∧ st ≤ G.length ∧ emGo G pcs 0 = emGo G (pcs.drop i) st) rfl ?hJD (fun _ _ => rfl) F5 (nsub N5 (l' := (D, listOf vs.toArray 0) :: rest) fun q hq => .tail _ hq) ⟨0, _, _, _, rfl, rfl, by omega, rfl⟩ ?turn ?done (by passes_own)
  case hJD =>
    rintro i m nw ⟨st, ts, te, u1, rfl, rfl, _⟩
    exact .head _
  case turn =>
    clear F5 N5
    rintro i I m₁ nw h₆ tk₆ oI hi hIlt hoff ⟨st, ts, te, u1, rfl, rfl, h2, hgo⟩ F6 N6
    obtain ⟨tv, etv⟩ := strs_at (show StrsAre vs pcs from ha) i (Str.ofString "x") (by omega)
    have hip : i < pcs.length := by omega
    have hdrop : pcs.drop i = pcs.getD i (Str.ofString "x") :: pcs.drop (i + 1) := by
      rw [List.drop_eq_getElem_cons hip]; simp [List.getD_eq_getElem?_getD, hip]
    rw [hdrop] at hgo
    generalize pcs.getD i (Str.ofString "x") = wv at etv hgo
    rw [etv]
    refine wpAny_assign_Name (stN F6 N6 ?_ rfl rfl)
    intro h₇ F7 N7
    (try dsimp only)
    k_steps
    refine ru_find st rfl rfl ?_
    (try dsimp only)
    have hwl : ¬ foundAt G wv st < 0 → wv.length ≤ 1000 := fun h => by have := (foundAt_bound h).2; have := (foundAt_bound h).1; omega
    k_steps
    · (try dsimp only)
      refine fp_ret ?_
      (try dsimp only)
      k_steps
      have hf : emGo G pcs 0 = false := by rw [hgo]; exact if_pos (by assumption)
      rw [← hf]
      exact hret _ _ (by k_asm) (nsub (by k_asm) fun q hq => .tail _ (.tail _ hq))
    · rename Fr _ _ _ _ => F8
      rename News _ _ _ _ => N8
      have hn : ¬ foundAt G wv st < 0 := by omega
      have hb := foundAt_bound hn
      have ef : foundAt G wv st + ((wv.length : Nat) : Int) = (((foundAt G wv st).toNat + wv.length : Nat) : Int) := by omega
      dsimp only at F8
      rw [ef] at F8
      refine fp_next (news₂ := (D, listOf vs.toArray 0) :: rest) (fr_eq F8 (mpL_s (mpL_s (mpL_s rfl)))) N8 hoff ⟨(foundAt G wv st).toNat + wv.length, _, _, _, rfl, rfl, by omega, ?_⟩
      rw [hgo]
      exact if_neg hn
  case done =>
    clear F5 N5
    rintro m₁ nw h₆ tk₆ ⟨st, ts, te, u1, rfl, rfl, h2, hgo⟩ F6 N6
    rw [hvl, List.drop_length] at hgo
    k_steps
    have hgo' : emGo G pcs 0 = true := hgo
    rw [← hgo']
    exact hret _ _ (by k_asm) (nsub (by k_asm) fun q hq => .tail _ hq)
end Mine
end
section
open PySem PySem.W PyProof.Rows
theorem Mine.freshEm1 {M : Model} {A : Around} {Q : Flow → Shared → Prop} {E : Value → Shared → Prop} {s : Shared} {env : Env} (h : wpAny M A (execs [] env) Q E s) : wpAny M A (execs [] env) Q E s := by
  w_top off
  first | (walk1; fail) | exact h
end
section
open PySem PySem.W PyProof.Rows PyProof.Rows.LCg PyProof.Rows.LCp
set_option Elab.async false
set_option maxRecDepth 100000
set_option maxHeartbeats 2000000
namespace Mine
local macro_rules | `(tactic| walk_at "binaryOp Add ref ref") => `(tactic| refine Mine.halt ?_)
def dotted (W : PySem.Str) : PySem.Str := Txt.join (Str.ofString "...") ([Str.ofString ""] ++ signs W ++ [Str.ofString ""])
theorem carried_strs {vs : List Value} {l : List PySem.Str} (h : CarriedAll vs (l.map PyData.str)) (t u : Tok) (x y : PySem.Str) : CarriedAll (Value.str x t :: (vs ++ [Value.str y u])) ((([x] ++ l ++ [y]).map fun a => PyData.str a)) := by
  have h1 := CarriedAll.appendLM (CarriedAll.appendLM (CarriedAll.cons (Carried.str x t) .nil) h) (CarriedAll.cons (Carried.str y u) .nil)
  simpa using h1
theorem dots {w : World} {p : Program} {loose : List PySem.Str} {mean : ExcName → Option Value} {mg mb : PySem.Str → Option Value}
  {dp un : Nat} {gd : Option (List Code)} {cn : PySem.Str} {cs : Scope} {a : Addr} {ccd : Value} {cl : List (PySem.Str × Addr)} {outer : List Env} {A₀ : Around} {base h₀ : Heap} {L : Addr} {m : PySem.Str → Option Value} {s : Shared} {Q E : Value → Shared → Prop}
  {rest : List (Addr × Obj)} {W : PySem.Str} {t0 : Tok}
  (B : Below A₀ base outer h₀) (F : Fr h₀ L s.heap m) (X : (hd.heap_39 w.params).In h₀) (N : News h₀ L s.heap rest) (T : Top p loose mean mg mb h₀) (hk : cs.kind = .function)
  (hdp : dp + 5 < recursionLimit) (hun : un + 40 < cLine) (hW : W.length ≤ 1000) 
  (hret : ∀ t h' tk', Fr h₀ L h' m → News h₀ L h' rest → Q (.str (dotted W) t) { s with heap := h', toks := tk' }) :
  wpAny (model Challenge.rw_qu0035_01.row.prog w) (ktrTop dp un gd cn cs L a ccd cl outer) (call (.ref 74) [.str W t0]) Q E s := by
  have hQ : Challenge.rw_qu0035_01.row.prog = Challenge.rw_qu0035_01.prog := rfl
  revert X hQ
  k_fill
  intro X hQ
  clear hQ
  refine wpAny_call ?_
  k_dflt cell_enter
  rename_i gg LL hh FG F1 N1 BB XX TT
  replace F1 : Fr gg LL hh (mpL [(Str.ofString "word", some (.str W t0))]) :=
    fr_of [] F1
  k_steps
  rename CarriedAll _ _ => hC
  rename List Value => ys
  rename Heap.IsList _ _ _ => hL1
  rename Fr _ _ _ _ => F2
  rename News _ _ _ _ => N2
  unfold Halt
  refine kmk_add_lit (zs := Value.str (Str.ofString "") _ :: ys) F2 N2 (PySem.IsL.isList (N2 _ (.head _)).1) hL1 rfl ?_ ?_
  rotate_left
  · have h1 := hC.length_eq
    have h2 : (signs W).length = W.length := by simp [signs, PySem.Str.length]
    rw [List.length_map, h2] at h1
    simp only [List.size_toArray, List.length_cons, List.length_nil, Array.length_toList]
    unfold sizeLine
    omega
  intro D h3 F3 N3 l3
  clear N2 F2
  have hlv := hC.length_eq
  have hC2 : Halt (CarriedAll ys (List.map PyData.str (signs W))) := hC
  clear hC
  rw [List.length_map, show (signs W).length = W.length by simp [signs, PySem.Str.length]] at hlv
  (try dsimp only)
  k_steps
  rename Fr _ _ _ _ => F4
  rename News _ _ _ _ => N4
  unfold Halt
  refine kmk_add_lit (zs := Value.str (Str.ofString "") _ :: (ys ++ [Value.str (Str.ofString "") _])) F4 N4 (PySem.IsL.isList (N4 _ (.tail _ (.head _))).1) (PySem.IsL.isList (N4 _ (.head _)).1) rfl ?_ ?_
  rotate_left
  · simp only [List.size_toArray, List.length_cons, List.length_nil, Array.length_toList, List.length_append]
    unfold sizeLine
    omega
  intro D2 h5 F5 N5 l5
  clear N4 F4
  (try dsimp only)
  k_steps
  refine KT.join_B (x := Str.ofString "...") (l := [Str.ofString ""] ++ signs W ++ [Str.ofString ""]) (g := fun x => x) 1 (PySem.IsL.isList (n := 0) (N5 _ (.head _)).1) (carried_strs (show CarriedAll ys (List.map PyData.str (signs W)) from hC2) _ _ _ _) ?_ ?_ (by decide) ?_
  · intro x hx
    simp [signs] at hx
    rcases hx with h | ⟨c, _, h⟩ | h
    · subst h; decide
    · subst h; exact Nat.le_refl 1
    · subst h; decide
  · simp [signs]
    have : W.cps.size ≤ 1000 := hW
    omega
  intro t' k'
  (try dsimp only)
  k_steps
  rw [List.map_id']
  exact hret _ _ _ (by k_asm) (nsub (by k_asm) fun q hq => .tail _ (.tail _ (.tail _ (.tail _ hq))))
end Mine
end
section
open PySem PySem.W PyProof.Rows
theorem Mine.freshDt1 {M : Model} {A : Around} {Q : Flow → Shared → Prop} {E : Value → Shared → Prop} {s : Shared} {env : Env} (h : wpAny M A (execs [] env) Q E s) : wpAny M A (execs [] env) Q E s := by
  w_top off
  first | (walk1; fail) | exact h
end
section
open PySem PySem.W PyProof.Rows PyProof.Rows.LCg PyProof.Rows.LCp
set_option Elab.async false
set_option maxRecDepth 100000
set_option maxHeartbeats 2000000
namespace Mine
local macro_rules | `(tactic| walk_at "call ref") => `(tactic| refine Mine.halt ?_)
theorem says {w : World} {p : Program} {loose : List PySem.Str} {mean : ExcName → Option Value} {mg mb : PySem.Str → Option Value}
  {dp un : Nat} {gd : Option (List Code)} {cn : PySem.Str} {cs : Scope} {a : Addr} {ccd : Value} {cl : List (PySem.Str × Addr)} {outer : List Env} {A₀ : Around} {base h₀ : Heap} {L : Addr} {m : PySem.Str → Option Value} {s : Shared} {Q E : Value → Shared → Prop}
  {rest : List (Addr × Obj)} {W G : PySem.Str} {t0 t1 : Tok}
  (B : Below A₀ base outer h₀) (F : Fr h₀ L s.heap m) (X : (hd.heap_39 w.params).In h₀) (N : News h₀ L s.heap rest) (T : Top p loose mean mg mb h₀) (hk : cs.kind = .function)
  (hdp : dp + 7 < recursionLimit) (hun : un + 50 < cLine) (hW : W.length ≤ 1000) (hG : G.length ≤ 1000) (hin : (Builtin.Str.occurrences W (Str.ofString "...") 0 W.length 1).isEmpty = false) {pcs : List PySem.Str} (hsp : Txt.split W (Str.ofString "...") = pcs) (hp2 : 2 ≤ pcs.length) (hp3 : pcs.length ≤ 1000) (hpf : pcs.getD 0 (Str.ofString "x") = Str.ofString "") (hpl : pcs.getD (pcs.length - 1) (Str.ofString "x") = Str.ofString "")
  (hret : ∀ t h' tk', Fr h₀ L h' m → News h₀ L h' rest → Q (.int (if emGo G pcs 0 then 1 else 0) t) { s with heap := h', toks := tk' }) :
  wpAny (model Challenge.rw_qu0035_01.row.prog w) (ktrTop dp un gd cn cs L a ccd cl outer) (call (.ref 81) [.str W t0, .str G t1]) Q E s := by
  have hQ : Challenge.rw_qu0035_01.row.prog = Challenge.rw_qu0035_01.prog := rfl
  revert X hQ
  k_fill
  intro X hQ
  clear hQ
  refine wpAny_call ?_
  k_dflt cell_enter
  rename_i gg LL hh FG F1 N1 BB XX TT
  replace F1 : Fr gg LL hh (mpL [(Str.ofString "bar", some (.str G t1)), (Str.ofString "pattern", some (.str W t0))]) :=
    fr_of [] F1
  k_steps
  unfold Halt
  k_dflt (refine em (by k_asm) (by k_asm) (by k_asm) (by k_asm) (by k_asm) rfl (by show dp + 1 + 5 < recursionLimit; omega) (by show un + 3 + 40 < cLine; omega) hW hG hin hsp hp2 hp3 hpf hpl ?_)
  intro h3 tk3 F3 N3
  generalize emGo G pcs 0 = b at hret ⊢
  cases b
  · (try dsimp only)
    k_steps
    exact hret _ _ _ (by k_asm) (by k_asm)
  · (try dsimp only)
    k_steps
    exact hret _ _ _ (by k_asm) (by k_asm)
end Mine
end
section
open PySem PySem.W PyProof.Rows
theorem Mine.freshSy1 {M : Model} {A : Around} {Q : Flow → Shared → Prop} {E : Value → Shared → Prop} {s : Shared} {env : Env} (h : wpAny M A (execs [] env) Q E s) : wpAny M A (execs [] env) Q E s := by
  w_top off
  first | (walk1; fail) | exact h
end
section
open PySem PySem.W PyProof.Rows PyProof.Rows.LCg PyProof.Rows.LCp
set_option Elab.async false
set_option maxRecDepth 100000
set_option maxHeartbeats 2000000
namespace Mine
local macro_rules | `(tactic| walk_at "exec While BoolOp cons nil") => `(tactic| refine Mine.halt ?_)
local macro_rules | `(tactic| walk_at "exec For Name Name cons nil") => `(tactic| refine Mine.halt ?_)
local macro_rules | `(tactic| walk_at "pyIter ref") => `(tactic| refine Mine.halt ?_)
local macro_rules | `(tactic| walk_at "pyIter str") => `(tactic| refine Mine.halt ?_)
/-- the place of the first c from k on, or the end -/
def skipP (t : List Nat) (c k : Nat) : Nat := k + (t.drop k).findIdx (· == c)
def wkP (t : List Nat) : List Nat → Nat → Nat
  | [], k => k
  | c :: r, k => wkP t r (skipP t c k + 1)
def walkedP (x t : List Nat) : Nat := min (wkP t x 0) (t.length + 1)
theorem skipP_stop {t : List Nat} {c k : Nat} (h : t.length ≤ k) : skipP t c k = k := by
  unfold skipP; rw [List.drop_of_length_le h]; rfl
theorem skipP_hit {t : List Nat} {c k : Nat} (h : t[k]? = some c) : skipP t c k = k := by
  unfold skipP
  obtain ⟨hk, e⟩ := List.getElem?_eq_some_iff.mp h
  rw [List.drop_eq_getElem_cons hk, e, List.findIdx_cons]; simp
theorem skipP_miss {t : List Nat} {c d k : Nat} (h : t[k]? = some d) (hd : d ≠ c) : skipP t c k = skipP t c (k + 1) := by
  unfold skipP
  obtain ⟨hk, e⟩ := List.getElem?_eq_some_iff.mp h
  rw [List.drop_eq_getElem_cons hk, e, List.findIdx_cons, beq_false_of_ne hd]; simp; omega
theorem skipP_le {t : List Nat} {c k : Nat} (h : k ≤ t.length) : skipP t c k ≤ t.length := by
  unfold skipP
  have := List.findIdx_le_length (p := (· == c)) (xs := t.drop k)
  rw [List.length_drop] at this
  omega
theorem skipP_bound {t : List Nat} {c k n : Nat} (h : k ≤ t.length + n) : skipP t c k ≤ t.length + n := by
  by_cases h1 : k ≤ t.length
  · have := skipP_le (c := c) h1; omega
  · rw [skipP_stop (by omega)]; exact h
theorem wkP_snoc (t : List Nat) (c : Nat) : ∀ (l : List Nat) (k : Nat), wkP t (l ++ [c]) k = skipP t c (wkP t l k) + 1
  | [], k => rfl
  | d :: r, k => wkP_snoc t c r _
theorem item_at {G : PySem.Str} {k : Nat} (h : k < G.length) : ∃ d, G.cps.toList[k]? = some d ∧ Txt.item G (k : Int) = ⟨#[d]⟩ := by
  have hs : k < G.cps.size := h
  refine ⟨G.cps[k], by simp [hs], ?_⟩
  rw [PySem.W.item_meets ⟨by omega, by omega⟩]
  simp [hs]
theorem item_ne {G : PySem.Str} {k c : Nat} (h : k < G.length) (hb : (Txt.item G (k : Int) != { cps := #[c] }) = true) : skipP G.cps.toList c k = skipP G.cps.toList c (k + 1) := by
  obtain ⟨d, h1, h2⟩ := item_at h
  rw [h2] at hb
  refine skipP_miss h1 ?_
  rintro rfl
  simp at hb
theorem item_eq {G : PySem.Str} {k c : Nat} (h : k < G.length) (hb : (Txt.item G (k : Int) != { cps := #[c] }) = false) : skipP G.cps.toList c k = k := by
  obtain ⟨d, h1, h2⟩ := item_at h
  rw [h2] at hb
  refine skipP_hit ?_
  rw [h1]
  simp at hb
  rw [hb]
theorem len_toList (G : PySem.Str) : G.cps.toList.length = G.length := by simp [PySem.Str.length]
theorem walked {w : World} {p : Program} {loose : List PySem.Str} {mean : ExcName → Option Value} {mg mb : PySem.Str → Option Value}
  {dp un : Nat} {gd : Option (List Code)} {cn : PySem.Str} {cs : Scope} {a : Addr} {ccd : Value} {cl : List (PySem.Str × Addr)} {outer : List Env} {A₀ : Around} {base h₀ : Heap} {L : Addr} {m : PySem.Str → Option Value} {s : Shared} {Q E : Value → Shared → Prop}
  {rest : List (Addr × Obj)} {W G : PySem.Str} {t0 t1 : Tok}
  (B : Below A₀ base outer h₀) (F : Fr h₀ L s.heap m) (X : (hd.heap_39 w.params).In h₀) (N : News h₀ L s.heap rest) (T : Top p loose mean mg mb h₀) (hk : cs.kind = .function)
  (hdp : dp + 5 < recursionLimit) (hun : un + 40 < cLine) (hW : W.length ≤ 1000) (hG : G.length ≤ 1000) (hWa : W.cps.all (· < 128) = true)
  (hret : ∀ t h' tk', Fr h₀ L h' m → News h₀ L h' rest → Q (.int ((walkedP W.cps.toList G.cps.toList : Nat) : Int) t) { s with heap := h', toks := tk' }) :
  wpAny (model Challenge.rw_qu0035_01.row.prog w) (ktrTop dp un gd cn cs L a ccd cl outer) (call (.ref 95) [.str W t0, .str G t1]) Q E s := by
  have hQ : Challenge.rw_qu0035_01.row.prog = Challenge.rw_qu0035_01.prog := rfl
  revert X hQ
  k_fill
  intro X hQ
  clear hQ
  refine wpAny_call ?_
  k_dflt cell_enter
  rename_i gg LL hh FG F1 N1 BB XX TT
  replace F1 : Fr gg LL hh (mpL [(Str.ofString "text", some (.str G t1)), (Str.ofString "word", some (.str W t0)), (Str.ofString "k", none), (Str.ofString "letter", none)]) :=
    fr_of [Str.ofString "k", Str.ofString "letter"] F1
  k_steps
  unfold Halt
  rename Fr _ _ _ _ => F2
  rename News _ _ _ _ => N2
  replace F2 := fr_eq F2 (mpL_s rfl)
  refine wpAny_For ?_
  k_steps
  unfold Halt
  refine for_strN (x := W) (fun i m₁ nw => ∃ (kk : Nat) (ts : Tok) (u1 : Option Value), m₁ = mpL [(Str.ofString "text", some (.str G t1)), (Str.ofString "word", some (.str W t0)), (Str.ofString "k", some (.int (kk : Nat) ts)), (Str.ofString "letter", u1)] ∧
    nw = rest ∧ kk = wkP G.cps.toList (W.cps.toList.take i) 0 ∧ kk ≤ G.length + i) rfl hWa (fun _ _ => rfl) F2 N2 ⟨0, _, _, rfl, rfl, rfl, by omega⟩ ?turn ?done (by passes_own)
  case turn =>
    clear F2 N2
    rintro i c u I m₁ nw h₆ tk₆ oI hi hc hIlt hoff ⟨kk, ts, u1, rfl, rfl, hkk, hkb⟩ F6 N6
    refine wpAny_assign_Name (stN F6 N6 ?_ rfl rfl)
    intro h₇ F7 N7
    (try dsimp only)
    k_steps
    unfold Halt
    have hkl : kk ≤ skipP G.cps.toList c kk := Nat.le_add_right _ _
    replace F7 := fr_eq F7 (mpL_s rfl)
    refine While_inv2 (n₀ := skipP G.cps.toList c kk - kk) (fun n m₁ news₁ => ∃ (k2 : Nat) (ts : Tok), m₁ = mpL [(Str.ofString "text", some (.str G t1)), (Str.ofString "word", some (.str W t0)), (Str.ofString "k", some (.int (k2 : Nat) ts)), (Str.ofString "letter", some (.str ⟨#[c]⟩ u))] ∧
      news₁ = (I, oI) :: nw ∧ k2 + n = skipP G.cps.toList c kk ∧ skipP G.cps.toList c k2 = skipP G.cps.toList c kk) F7 N7 ⟨kk, ts, rfl, rfl, by omega, rfl⟩ ?turn ?hE
    case hE => passes_own
    case turn =>
      clear F7 N7 F6 N6
      rintro n m₁ news₁ h₁ tk₁ F₁ N₁ ⟨k2, ts2, rfl, rfl, hn, hs2⟩
      have hlenG := len_toList G
      have hci : W.cps.toList[i]? = some c := by simpa using hc
      have htk : wkP G.cps.toList (W.cps.toList.take (i + 1)) 0 = skipP G.cps.toList c kk + 1 := by
        rw [List.take_succ, hci, hkk]
        exact wkP_snoc _ _ _ _
      have hsb : skipP G.cps.toList c kk ≤ G.length + i := by rw [← hlenG]; exact skipP_bound (by omega)
      k_steps
      · have hk2 : k2 < G.length := by omega
        have hstep := item_ne hk2 (by assumption)
        have hle : k2 + 1 ≤ skipP G.cps.toList c (k2 + 1) := Nat.le_add_right _ _
        rename Fr _ _ _ _ => F8
        rename News _ _ _ _ => N8
        refine ws_next (n' := n - 1) (fr_eq F8 (mpL_s rfl)) N8 (by omega) ⟨k2 + 1, _, rfl, rfl, by omega, by omega⟩
      · have hk2 : k2 < G.length := by omega
        have hstep := item_eq hk2 (by assumption)
        rename Fr _ _ _ _ => F8
        rename News _ _ _ _ => N8
        refine fp_next (news₂ := nw) (fr_eq F8 (mpL_s rfl)) N8 hoff ⟨k2 + 1, _, _, rfl, rfl, ?_, by omega⟩
        rw [htk]; omega
      · have hstep : skipP G.cps.toList c k2 = k2 := skipP_stop (by omega)
        rename Fr _ _ _ _ => F8
        rename News _ _ _ _ => N8
        refine fp_next (news₂ := nw) (fr_eq F8 (mpL_s rfl)) N8 hoff ⟨k2 + 1, _, _, rfl, rfl, ?_, by omega⟩
        rw [htk]; omega
  case done =>
    clear F2 N2
    rintro m₁ nw h₆ tk₆ ⟨kk, ts, u1, rfl, rfl, hkk, hkb⟩ F6 N6
    have hlenG := len_toList G
    rw [show W.length = W.cps.toList.length from (len_toList W).symm, List.take_length] at hkk
    k_steps
    have hmin : (if ((G.length : Nat) : Int) + 1 < ((kk : Nat) : Int) then ((G.length : Nat) : Int) + 1 else ((kk : Nat) : Int)) = ((walkedP W.cps.toList G.cps.toList : Nat) : Int) := by
      unfold walkedP
      rw [← hkk, hlenG]
      split <;> omega
    rw [hmin]
    exact hret _ _ _ (by k_asm) (by k_asm)
end Mine
end
section
open PySem PySem.W PyProof.Rows
theorem Mine.freshWk1 {M : Model} {A : Around} {Q : Flow → Shared → Prop} {E : Value → Shared → Prop} {s : Shared} {env : Env} (h : wpAny M A (execs [] env) Q E s) : wpAny M A (execs [] env) Q E s := by
  w_top off
  first | (walk1; fail) | exact h
end
section
open PySem PySem.W PyProof.Rows PyProof.Rows.LCg PyProof.Rows.LCp
set_option Elab.async false
set_option maxRecDepth 100000
set_option maxHeartbeats 2000000
namespace Mine
def LamCode (l : Led) (c' : Addr) (q : PySem.Str) : Prop := ∃ oc vs t, (c', oc) ∈ l ∧ oc.data = .fields vs ∧ vs[1]? = some (.str q t)
/-- the table holds codes of the one name q, and each of them lies in the ledger -/
def TabOk (q : PySem.Str) (l : Led) (ps : Array Value) : Prop := TriplesOk ps.toList ∧ ∀ pos : Pos, codeAmong pos ps.toList = none ∨ ∃ c', codeAmong pos ps.toList = some (.ref c') ∧ LamCode l c' q
theorem LamCode.mono {l l' : Led} {c : Addr} {q : PySem.Str} (h : LamCode l c q) (hs : ∀ x ∈ l, x ∈ l') : LamCode l' c q := by
  obtain ⟨oc, vs, t, h1, h2, h3⟩ := h
  exact ⟨oc, vs, t, hs _ h1, h2, h3⟩
theorem TabOk.mono {l l' : Led} {ps : Array Value} {q : PySem.Str} (h : TabOk q l ps) (hs : ∀ x ∈ l, x ∈ l') : TabOk q l' ps :=
  ⟨h.1, fun pos => (h.2 pos).imp id fun ⟨c, h1, h2⟩ => ⟨c, h1, h2.mono hs⟩⟩
theorem tab_nil (q : PySem.Str) (l : Led) : TabOk q l #[] := ⟨trivial, fun _ => .inl rfl⟩
theorem triples_snoc (l : List Value) (i j : Int) (c : Value) (h : TriplesOk l) : TriplesOk (l ++ [rawInt i, rawInt j, c]) := by
  fun_induction TriplesOk l with
  | case1 => simp [TriplesOk, rawInt]
  | case2 a b c' d e rest ih => simpa [TriplesOk] using ih h
  | case3 => exact h.elim
theorem among_snoc (l : List Value) (pos : Pos) (i j : Int) (c : Value) (h : TriplesOk l) : codeAmong pos (l ++ [rawInt i, rawInt j, c]) = codeAmong pos l ∨ codeAmong pos (l ++ [rawInt i, rawInt j, c]) = some c := by
  fun_induction TriplesOk l with
  | case1 =>
    simp only [List.nil_append, codeAmong, rawInt]
    split
    · exact .inr rfl
    · exact .inl rfl
  | case2 a b c' d e rest ih =>
    simp only [List.cons_append, codeAmong]
    split
    · exact .inl rfl
    · exact ih h
  | case3 => exact h.elim
theorem tab_snoc {q : PySem.Str} {l l' : Led} {ps : Array Value} {i j : Int} {c : Addr} (h : TabOk q l ps) (hs : ∀ x ∈ l, x ∈ l') (hc : LamCode l' c q) : TabOk q l' (ps ++ #[rawInt i, rawInt j, .ref c]) := by
  refine ⟨by simpa using triples_snoc ps.toList i j (.ref c) h.1, fun pos => ?_⟩
  have e : (ps ++ #[rawInt i, rawInt j, .ref c]).toList = ps.toList ++ [rawInt i, rawInt j, .ref c] := by simp
  rw [e]
  rcases among_snoc ps.toList pos i j (.ref c) h.1 with h1 | h1
  · rw [h1]; exact (h.mono hs).2 pos
  · exact .inr ⟨c, h1, hc⟩
section
variable {M : Model} {A : Around} {E : Value → Shared → Prop} {s : Shared} {h₀ : Heap} {L a c P : Addr} {m mg mb : PySem.Str → Option Value} {cn : PySem.Str} {cs : Scope} {ccd : Value} {cl : List (PySem.Str × Addr)} {rest : Led}
  {p : Program} {loose : List PySem.Str} {mean : ExcName → Option Value} {qual : PySem.Str} {params : Arguments} {body : PySem.Expr} {scope : Scope} {ps : Array Value} {pos : Pos} {clos : List (PySem.Str × Addr)}
theorem lam_make {Q : Value → Shared → Prop} {env : Env} (keep : Led) (he : env = envX cn cs L a ccd cl) (F : Fr h₀ L s.heap m) (N : News h₀ L s.heap ((P, tabObj ps) :: rest)) (T : Top p loose mean mg mb h₀) (C : CodeHd h₀ c P) (hcd : ccd = .ref c) (hr : ∀ q ∈ rest, q.1 ≠ P) (hT : TabOk qual keep ps)
    (hcl : closureFor scope (envX cn cs L a ccd cl) = pure clos) (hq : env.qual ++ Str.ofString "<lambda>" = qual) (hdef : defaultsOf params env = ([], []))
    (h : ∀ f c' ctv ps' extra h' tk, Fr h₀ L h' m → News h₀ L h' ((f, kla_obj (Str.ofString "<lambda>") qual params body scope clos ((mg (Str.ofString "__name__")).getD .none) c' ctv) :: (P, tabObj ps') :: (extra ++ rest)) →
      LamCode (extra ++ keep) c' qual → TabOk qual (extra ++ keep) ps' → (∀ q ∈ (P, tabObj ps') :: (extra ++ rest), q.1 < f) → (∀ q ∈ extra, ∀ r ∈ (P, tabObj ps) :: rest, r.1 < q.1) → Q (.ref f) { s with heap := h', toks := tk }) :
    wpAny M A (eval (.Lambda params body scope pos) env) Q E s := by
  subst hq
  subst he
  refine kla_eval hdef ?_
  rcases hT.2 pos with hn | ⟨c', hc', hL⟩
  · refine kla_nest F N T C hcd (.head hr) hT.1 hn hcl ?_
    intro f c' oc vs t ctv h' tk F' N' d1 d2 l1 l2
    have hLc : LamCode ([(c', oc)] ++ keep) c' ((envX cn cs L a ccd cl).qual ++ Str.ofString "<lambda>") := ⟨oc, vs, t, .head _, d1, d2⟩
    refine h f c' ctv (ps ++ #[rawInt pos.line, rawInt pos.col, .ref c']) [(c', oc)] h' tk F' (nsub N' ?_) hLc (tab_snoc hT (fun _ hx => .tail _ hx) hLc) ?_ ?_
    · ((repeat' (first | exact sub_nil | refine sub_cons ?_ ?_ | refine sub_app ?_ ?_)) <;> (try intro q hq) <;> (first | ((repeat (first | exact List.Mem.head _ | assumption | exact List.mem_append_left _ (by assumption) | refine List.Mem.tail _ ?_ | refine List.mem_append_right _ ?_)); done) | simp [*]))
    · intro q hq
      rcases List.mem_cons.mp hq with rfl | hq
      · exact Nat.lt_trans (l1 (P, tabObj ps) (.head _)) l2
      rcases List.mem_cons.mp hq with rfl | hq
      · exact l2
      · exact Nat.lt_trans (l1 q (.tail _ hq)) l2
    · intro q hq r hr'
      rw [List.mem_singleton.mp hq]
      exact l1 r hr'
  · refine kla_hit F N T C hcd (.head _) hT.1 hc' hcl ?_
    intro f ctv h' tk F' N' l1
    exact h f c' ctv ps [] h' tk F' N' hL hT l1 (fun q hq => by cases hq)
end
end Mine
end
section
open PySem PySem.W PyProof.Rows
theorem Mine.freshLm {M : Model} {A : Around} {Q : Flow → Shared → Prop} {E : Value → Shared → Prop} {s : Shared} {env : Env} (h : wpAny M A (execs [] env) Q E s) : wpAny M A (execs [] env) Q E s := by
  w_top off
  first | (walk1; fail) | exact h
end
section
open PySem PySem.W PyProof.Rows PyProof.Rows.LCg PyProof.Rows.LCp
set_option Elab.async false
set_option maxRecDepth 100000
set_option maxHeartbeats 2000000
namespace Mine
local macro_rules | `(tactic| walk_at "call ref") => `(tactic| refine Mine.halt ?_)
local macro_rules | `(tactic| walk_at "exec While Compare cons nil") => `(tactic| refine Mine.halt ?_)
local macro_rules | `(tactic| walk_at "subscriptTail Name Name ref int") => `(tactic| refine Mine.halt ?_)
local macro_rules | `(tactic| walk_at "callWith ref") => `(tactic| (refine callWith_F (FnAt.of (by k_asm) (by assumption)) ?_))
local macro_rules | `(tactic| walk_at "FnAt") => `(tactic| (exact FnAt.of (by k_asm) (by assumption)))
/-- a key: a call of f with a text of the bars gives a number -/
def KeyOk (w : World) (p : Program) (loose : List PySem.Str) (mean : ExcName → Option Value) (mg mb : PySem.Str → Option Value) (base : Heap) (rest0 : Led) (f : Addr) (val : PySem.Str → Int) (ok : PySem.Str → Prop) : Prop :=
  ∀ (dp un : Nat) (gd : Option (List Code)) (cn : PySem.Str) (cs : Scope) (a : Addr) (ccd : Value) (cl : List (PySem.Str × Addr)) (outer : List Env) (A₀ : Around) (h₀ : Heap) (L : Addr) (m : PySem.Str → Option Value) (s : Shared) (Q E : Value → Shared → Prop) (rest : Led) (G : PySem.Str) (t1 : Tok),
    Below A₀ base outer h₀ → Fr h₀ L s.heap m → (hd.heap_39 w.params).In h₀ → News h₀ L s.heap rest → Top p loose mean mg mb h₀ → cs.kind = .function → dp + 9 < recursionLimit → un + 60 < cLine → (∀ q ∈ rest0, q ∈ rest) → ok G →
    (∀ t h' tk', Fr h₀ L h' m → News h₀ L h' rest → Q (.int (val G) t) { s with heap := h', toks := tk' }) →
    wpAny (model Challenge.rw_qu0035_01.row.prog w) (ktrTop dp un gd cn cs L a ccd cl outer) (call (.ref f) [.str G t1]) Q E s
theorem bl {w : World} {p : Program} {loose : List PySem.Str} {mean : ExcName → Option Value} {mg mb : PySem.Str → Option Value}
  {dp un : Nat} {gd : Option (List Code)} {cn : PySem.Str} {cs : Scope} {a : Addr} {ccd : Value} {cl : List (PySem.Str × Addr)} {outer : List Env} {A₀ : Around} {base h₀ : Heap} {L : Addr} {m : PySem.Str → Option Value} {s : Shared} {Q E : Value → Shared → Prop}
  {rest : List (Addr × Obj)} {t0 : Tok} {lb f : Addr} {bvs : List Value} {nb : Nat} {bars : List PySem.Str} {val : PySem.Str → Int} {ok : PySem.Str → Prop} {foc : Value} {fod : Option Addr} {ffd : FuncData} {fsl : Array (Option Value)}
  (B : Below A₀ base outer h₀) (F : Fr h₀ L s.heap m) (X : (hd.heap_39 w.params).In h₀) (N : News h₀ L s.heap rest) (T : Top p loose mean mg mb h₀) (hk : cs.kind = .function)
  (hdp : dp + 11 < recursionLimit) (hun : un + 70 < cLine) (hkey : KeyOk w p loose mean mg mb base rest f val ok) (hfn : (f, (⟨foc, fod, .func ffd, fsl⟩ : Obj)) ∈ rest) (hlb : (lb, listOf bvs.toArray nb) ∈ rest) (hbs : StrsAre bvs bars) (hlen : bars.length ≤ 100)
  (hok : ∀ G ∈ bars, ok G) {r0 : Nat} (hr0 : r0 ≤ bars.length) (hlo : ∀ i, i < r0 → val (bars.getD i (Str.ofString "x")) < 1) (hhi : ∀ i, r0 ≤ i → i < bars.length → ¬ val (bars.getD i (Str.ofString "x")) < 1)
  (hret : ∀ t h' tk', Fr h₀ L h' m → News h₀ L h' rest → Q (.int ((r0 : Nat) : Int) t) { s with heap := h', toks := tk' }) :
  wpAny (model Challenge.rw_qu0035_01.row.prog w) (ktrTop dp un gd cn cs L a ccd cl outer) (call (.ref 32) [.ref lb, .int 1 t0] [(Str.ofString "key", .ref f)]) Q E s := by
  have hQ : Challenge.rw_qu0035_01.row.prog = Challenge.rw_qu0035_01.prog := rfl
  revert X hQ
  k_fill
  intro X hQ
  clear hQ
  refine wpAny_call ?_
  k_dflt (refine' code_def ?k1 ?k2 ?k3 ?k4 ?k5 ?kA ?kF ?kK ?k6 ?k7 ?k8 ?k9 ?kB ?_ ?c2 ?c3 ?c4 ?c5; (case kA => exact rfl); (case kF => exact rfl); (case kK => assumption); (case k1 => k_asm); (case k2 => k_asm); (case k3 => k_asm); (case k4 => k_asm); (case k5 => k_asm); (case k6 => k_is); (case k7 => k_is); (case k8 => ktr_room); (case k9 => exact binds_K (by k_in) rfl (by k_is) rfl rfl rfl); (case c5 => decide); (case kB => exact locs rfl); (case c2 => exact rfl); (case c3 => exact rfl); (case c4 => exact rfl); k_whole; intro gg LL hh FG F1 N1 BB XX TT; (try dsimp only); (try k_lift BB); (try k_fold))
  obtain ⟨tl, F1⟩ : ∃ tl, Fr gg LL hh (mpL [(Str.ofString "key", some (.ref f)), (Str.ofString "hi", some .none), (Str.ofString "lo", some (.int 0 tl)), (Str.ofString "x", some (.int 1 t0)), (Str.ofString "a", some (.ref lb)), (Str.ofString "mid", none)]) :=
    ⟨_, fr_of [Str.ofString "mid"] F1⟩
  have hvl : bvs.length = bars.length := hbs.length
  have hbs2 : Halt (StrsAre bvs bars) := hbs
  clear hbs
  k_steps
  refine ru_len N1 hlb (by omega) ?_
  intro tL tkL
  rw [hvl]
  (try dsimp only)
  k_steps
  unfold Halt
  rename Fr _ _ _ _ => F2
  rename News _ _ _ _ => N2
  replace F2 := fr_eq F2 (mpL_s rfl)
  refine While_inv2 (n₀ := bars.length) (fun n m₁ news₁ => ∃ (lo hi : Nat) (tl th : Tok) (u1 : Option Value), m₁ = mpL [(Str.ofString "key", some (.ref f)), (Str.ofString "hi", some (.int (hi : Nat) th)), (Str.ofString "lo", some (.int (lo : Nat) tl)), (Str.ofString "x", some (.int 1 t0)), (Str.ofString "a", some (.ref lb)), (Str.ofString "mid", u1)] ∧
    news₁ = rest ∧ n = hi - lo ∧ lo ≤ r0 ∧ r0 ≤ hi ∧ hi ≤ bars.length) F2 N2 ⟨0, bars.length, _, _, _, rfl, rfl, by omega, by omega, hr0, by omega⟩ ?turn ?hE
  case hE => passes_own
  case turn =>
    clear F2 N2
    rintro n m₁ news₁ h₁ tk₁ F₁ N₁ ⟨lo, hi, tl, th, u1, rfl, rfl, hn, hl1, hl2, hl3⟩
    k_steps
    · unfold Halt
      have hlohi : lo < hi := by omega
      generalize hmid : (lo + hi) / 2 = mid
      have em : ((lo : Int) + (hi : Int)).fdiv 2 = ((mid : Nat) : Int) := by rw [Int.fdiv_eq_ediv_of_nonneg _ (by decide)]; omega
      rename Fr _ _ _ _ => F3
      rename News _ _ _ _ => N3
      rw [em] at F3
      rw [em]
      replace F3 := fr_eq F3 (mpL_s rfl)
      refine ru_itemN mid N3 hlb rfl (by omega) (by omega) ?_ (by with_unfolding_all rfl)
      obtain ⟨tw, etw⟩ := strs_at (show StrsAre bvs bars from hbs2) mid (Str.ofString "x") (by omega)
      rw [etw]
      (try dsimp only)
      k_steps
      unfold Halt
      k_dflt (refine hkey _ _ _ _ _ _ _ _ _ _ _ _ _ _ _ _ _ _ _ (by k_asm) (by k_asm) (by k_asm) (by k_asm) (by k_asm) rfl (by show dp + 1 + 9 < recursionLimit; omega) (by show un + 3 + 60 < cLine; omega) (fun _ h => h) (hok _ ?_) ?_)
      · rw [List.getD_eq_getElem?_getD, List.getElem?_eq_getElem (by omega)]
        exact List.getElem_mem _
      intro t4 h4 tk4 F4 N4
      clear F3 N3
      (try dsimp only)
      k_steps
      · have hm : mid < r0 := by
          rcases Nat.lt_or_ge mid r0 with h | h
          · exact h
          · exact absurd (by assumption) (hhi mid h (by omega))
        rename Fr _ _ _ _ => F8
        rename News _ _ _ _ => N8
        refine ws_next (n' := hi - (mid + 1)) (fr_eq F8 (mpL_s rfl)) N8 (by omega) ⟨mid + 1, hi, _, _, _, rfl, rfl, rfl, by omega, by omega, by omega⟩
      · have hm : r0 ≤ mid := by
          rcases Nat.lt_or_ge mid r0 with h | h
          · exact absurd (hlo mid h) (by assumption)
          · exact h
        rename Fr _ _ _ _ => F8
        rename News _ _ _ _ => N8
        refine ws_next (n' := mid - lo) (fr_eq F8 (mpL_s rfl)) N8 (by omega) ⟨lo, mid, _, _, _, rfl, rfl, rfl, by omega, by omega, by omega⟩
    · have e : lo = r0 := by omega
      subst e
      exact hret _ _ _ (by k_asm) (by k_asm)
theorem br {w : World} {p : Program} {loose : List PySem.Str} {mean : ExcName → Option Value} {mg mb : PySem.Str → Option Value}
  {dp un : Nat} {gd : Option (List Code)} {cn : PySem.Str} {cs : Scope} {a : Addr} {ccd : Value} {cl : List (PySem.Str × Addr)} {outer : List Env} {A₀ : Around} {base h₀ : Heap} {L : Addr} {m : PySem.Str → Option Value} {s : Shared} {Q E : Value → Shared → Prop}
  {rest : List (Addr × Obj)} {t0 : Tok} {lb f : Addr} {bvs : List Value} {nb : Nat} {bars : List PySem.Str} {val : PySem.Str → Int} {ok : PySem.Str → Prop} {foc : Value} {fod : Option Addr} {ffd : FuncData} {fsl : Array (Option Value)}
  (B : Below A₀ base outer h₀) (F : Fr h₀ L s.heap m) (X : (hd.heap_39 w.params).In h₀) (N : News h₀ L s.heap rest) (T : Top p loose mean mg mb h₀) (hk : cs.kind = .function)
  (hdp : dp + 11 < recursionLimit) (hun : un + 70 < cLine) (hkey : KeyOk w p loose mean mg mb base rest f val ok) (hfn : (f, (⟨foc, fod, .func ffd, fsl⟩ : Obj)) ∈ rest) (hlb : (lb, listOf bvs.toArray nb) ∈ rest) (hbs : StrsAre bvs bars) (hlen : bars.length ≤ 100)
  (hok : ∀ G ∈ bars, ok G) {r0 : Nat} (hr0 : r0 ≤ bars.length) (hlo : ∀ i, i < r0 → ¬ 0 < val (bars.getD i (Str.ofString "x"))) (hhi : ∀ i, r0 ≤ i → i < bars.length → 0 < val (bars.getD i (Str.ofString "x")))
  (hret : ∀ t h' tk', Fr h₀ L h' m → News h₀ L h' rest → Q (.int ((r0 : Nat) : Int) t) { s with heap := h', toks := tk' }) :
  wpAny (model Challenge.rw_qu0035_01.row.prog w) (ktrTop dp un gd cn cs L a ccd cl outer) (call (.ref 23) [.ref lb, .int 0 t0] [(Str.ofString "key", .ref f)]) Q E s := by
  have hQ : Challenge.rw_qu0035_01.row.prog = Challenge.rw_qu0035_01.prog := rfl
  revert X hQ
  k_fill
  intro X hQ
  clear hQ
  refine wpAny_call ?_
  k_dflt (refine' code_def ?k1 ?k2 ?k3 ?k4 ?k5 ?kA ?kF ?kK ?k6 ?k7 ?k8 ?k9 ?kB ?_ ?c2 ?c3 ?c4 ?c5; (case kA => exact rfl); (case kF => exact rfl); (case kK => assumption); (case k1 => k_asm); (case k2 => k_asm); (case k3 => k_asm); (case k4 => k_asm); (case k5 => k_asm); (case k6 => k_is); (case k7 => k_is); (case k8 => ktr_room); (case k9 => exact binds_K (by k_in) rfl (by k_is) rfl rfl rfl); (case c5 => decide); (case kB => exact locs rfl); (case c2 => exact rfl); (case c3 => exact rfl); (case c4 => exact rfl); k_whole; intro gg LL hh FG F1 N1 BB XX TT; (try dsimp only); (try k_lift BB); (try k_fold))
  obtain ⟨tl, F1⟩ : ∃ tl, Fr gg LL hh (mpL [(Str.ofString "key", some (.ref f)), (Str.ofString "hi", some .none), (Str.ofString "lo", some (.int 0 tl)), (Str.ofString "x", some (.int 0 t0)), (Str.ofString "a", some (.ref lb)), (Str.ofString "mid", none)]) :=
    ⟨_, fr_of [Str.ofString "mid"] F1⟩
  have hvl : bvs.length = bars.length := hbs.length
  have hbs2 : Halt (StrsAre bvs bars) := hbs
  clear hbs
  k_steps
  refine ru_len N1 hlb (by omega) ?_
  intro tL tkL
  rw [hvl]
  (try dsimp only)
  k_steps
  unfold Halt
  rename Fr _ _ _ _ => F2
  rename News _ _ _ _ => N2
  replace F2 := fr_eq F2 (mpL_s rfl)
  refine While_inv2 (n₀ := bars.length) (fun n m₁ news₁ => ∃ (lo hi : Nat) (tl th : Tok) (u1 : Option Value), m₁ = mpL [(Str.ofString "key", some (.ref f)), (Str.ofString "hi", some (.int (hi : Nat) th)), (Str.ofString "lo", some (.int (lo : Nat) tl)), (Str.ofString "x", some (.int 0 t0)), (Str.ofString "a", some (.ref lb)), (Str.ofString "mid", u1)] ∧
    news₁ = rest ∧ n = hi - lo ∧ lo ≤ r0 ∧ r0 ≤ hi ∧ hi ≤ bars.length) F2 N2 ⟨0, bars.length, _, _, _, rfl, rfl, by omega, by omega, hr0, by omega⟩ ?turn ?hE
  case hE => passes_own
  case turn =>
    clear F2 N2
    rintro n m₁ news₁ h₁ tk₁ F₁ N₁ ⟨lo, hi, tl, th, u1, rfl, rfl, hn, hl1, hl2, hl3⟩
    k_steps
    · unfold Halt
      have hlohi : lo < hi := by omega
      generalize hmid : (lo + hi) / 2 = mid
      have em : ((lo : Int) + (hi : Int)).fdiv 2 = ((mid : Nat) : Int) := by rw [Int.fdiv_eq_ediv_of_nonneg _ (by decide)]; omega
      rename Fr _ _ _ _ => F3
      rename News _ _ _ _ => N3
      rw [em] at F3
      rw [em]
      replace F3 := fr_eq F3 (mpL_s rfl)
      refine ru_itemN mid N3 hlb rfl (by omega) (by omega) ?_ (by with_unfolding_all rfl)
      obtain ⟨tw, etw⟩ := strs_at (show StrsAre bvs bars from hbs2) mid (Str.ofString "x") (by omega)
      rw [etw]
      (try dsimp only)
      k_steps
      unfold Halt
      k_dflt (refine hkey _ _ _ _ _ _ _ _ _ _ _ _ _ _ _ _ _ _ _ (by k_asm) (by k_asm) (by k_asm) (by k_asm) (by k_asm) rfl (by show dp + 1 + 9 < recursionLimit; omega) (by show un + 3 + 60 < cLine; omega) (fun _ h => h) (hok _ ?_) ?_)
      · rw [List.getD_eq_getElem?_getD, List.getElem?_eq_getElem (by omega)]
        exact List.getElem_mem _
      intro t4 h4 tk4 F4 N4
      clear F3 N3
      (try dsimp only)
      k_steps
      · have hm : r0 ≤ mid := by
          rcases Nat.lt_or_ge mid r0 with h | h
          · exact absurd (by assumption) (hlo mid h)
          · exact h
        rename Fr _ _ _ _ => F8
        rename News _ _ _ _ => N8
        refine ws_next (n' := mid - lo) (fr_eq F8 (mpL_s rfl)) N8 (by omega) ⟨lo, mid, _, _, _, rfl, rfl, rfl, by omega, by omega, by omega⟩
      · have hm : mid < r0 := by
          rcases Nat.lt_or_ge mid r0 with h | h
          · exact h
          · exact absurd (hhi mid h (by omega)) (by assumption)
        rename Fr _ _ _ _ => F8
        rename News _ _ _ _ => N8
        refine ws_next (n' := hi - (mid + 1)) (fr_eq F8 (mpL_s rfl)) N8 (by omega) ⟨mid + 1, hi, _, _, _, rfl, rfl, rfl, by omega, by omega, by omega⟩
    · have e : lo = r0 := by omega
      subst e
      exact hret _ _ _ (by k_asm) (by k_asm)
end Mine
end
section
open PySem PySem.W PyProof.Rows
theorem Mine.freshBi1 {M : Model} {A : Around} {Q : Flow → Shared → Prop} {E : Value → Shared → Prop} {s : Shared} {env : Env} (h : wpAny M A (execs [] env) Q E s) : wpAny M A (execs [] env) Q E s := by
  w_top off
  first | (walk1; fail) | exact h
end
section
open PySem PySem.W PyProof.Rows PyProof.Rows.LCg PyProof.Rows.LCp
set_option Elab.async false
set_option maxRecDepth 100000
set_option maxHeartbeats 2000000
namespace Mine
local macro_rules | `(tactic| walk_at "eval Name") => `(tactic| ((with_reducible show wpAny _ _ (eval (Expr.Name _ _) (envX _ _ _ _ _ _)) _ _ _); refine nameX_F (by assumption) (by rfl) (by assumption) (by assumption) ?_))
local macro_rules | `(tactic| walk_at "call ref") => `(tactic| refine Mine.halt ?_)
local macro_rules | `(tactic| walk_at "eval Lambda") => `(tactic| refine Mine.halt ?_)
local macro_rules | `(tactic| walk_at "subscriptTail Name Constant ref int") => `(tactic| refine Mine.halt ?_)
local macro_rules | `(tactic| walk_at "eval Name") => `(tactic| ((with_reducible show wpAny _ _ (eval (Expr.Name _ _) (envOfC _ _ _ _ _)) _ _ _); refine nameX_C (by assumption) (by rfl) (by assumption) (by assumption) ?_))
def tupS (x y : PySem.Str) (t u : Tok) : Obj := { cls := .type "tuple", data := .seq #[.str x t, .str y u] }
section
variable {prog : Program} {w : World} {A : Around} {E : Value → Shared → Prop} {s : Shared} {h₀ : Heap} {L D : Addr} {news : Led} {u : Tok} {x y : PySem.Str} {t1 u1 : Tok}
theorem ru_ts0 {value slice : PySem.Expr} {Q : Value → Shared → Prop} (N : News h₀ L s.heap news) (hm : (D, tupS x y t1 u1) ∈ news) (h : Q (.str x t1) s)
    (hs : subscripted slice false (.ref D) (.int 0 u) = operate [.ref D, .int 0 u] (getItem (.ref D) (.int 0 u)) := by with_unfolding_all rfl) :
    wpAny (model prog w) A (subscriptTail value slice (.ref D) (.int 0 u)) Q E s := by
  have ht : IsTup s.heap D #[.str x t1, .str y u1] := ⟨_, (N _ hm).1, rfl, _, rfl⟩
  exact tail_any ht.typeIs slot_tuple_getitem.lookup (getItem_tuple (k := 0) (j := 0) ht (by decide) (by decide) (by show seqIndex? 0 2 = some 0; decide) rfl h) hs
theorem ru_ts1 {value slice : PySem.Expr} {Q : Value → Shared → Prop} (N : News h₀ L s.heap news) (hm : (D, tupS x y t1 u1) ∈ news) (h : Q (.str y u1) s)
    (hs : subscripted slice false (.ref D) (.int 1 u) = operate [.ref D, .int 1 u] (getItem (.ref D) (.int 1 u)) := by with_unfolding_all rfl) :
    wpAny (model prog w) A (subscriptTail value slice (.ref D) (.int 1 u)) Q E s := by
  have ht : IsTup s.heap D #[.str x t1, .str y u1] := ⟨_, (N _ hm).1, rfl, _, rfl⟩
  exact tail_any ht.typeIs slot_tuple_getitem.lookup (getItem_tuple (k := 1) (j := 1) ht (by decide) (by decide) (by show seqIndex? 1 2 = some 1; decide) rfl h) hs
end
/-- a pattern and its pieces -/
structure PatOk (W : PySem.Str) (pcs : List PySem.Str) : Prop where
  len : W.length ≤ 1000
  has : (Builtin.Str.occurrences W (Str.ofString "...") 0 W.length 1).isEmpty = false
  spl : Txt.split W (Str.ofString "...") = pcs
  two : 2 ≤ pcs.length
  few : pcs.length ≤ 1000
  fst : pcs.getD 0 (Str.ofString "x") = Str.ofString ""
  lst : pcs.getD (pcs.length - 1) (Str.ofString "x") = Str.ofString ""
theorem withLed {R : Prop} {h₀ h : Heap} {L : Addr} {led : Led} (_N : News h₀ L h led) (K : Led → Prop) (hK : K led) (hR : K led → R) : R := hR hK
theorem span {w : World} {p : Program} {loose : List PySem.Str} {mean : ExcName → Option Value} {mg mb : PySem.Str → Option Value}
  {dp un : Nat} {gd : Option (List Code)} {cn : PySem.Str} {cs : Scope} {a : Addr} {ccd : Value} {cl : List (PySem.Str × Addr)} {outer : List Env} {A₀ : Around} {base h₀ : Heap} {L : Addr} {m : PySem.Str → Option Value} {s : Shared} {Q E : Value → Shared → Prop}
  {rest keep : List (Addr × Obj)} {W1 W2 : PySem.Str} {lp lb : Addr} {t1 t2 : Tok} {ps : Array Value} {bvs : List Value} {nb : Nat} {bars : List PySem.Str}
  (B : Below A₀ base outer h₀) (F : Fr h₀ L s.heap m) (X : (hd.heap_39 w.params).In h₀) (N : News h₀ L s.heap ((83, tabObj ps) :: rest)) (T : Top p loose mean mg mb h₀) (hk : cs.kind = .function)
  (C : CodeHd base 87 83) (hrt : ∀ q ∈ rest, q.1 ≠ 83) (hkp : ∀ q ∈ keep, q ∈ rest) (hTab : TabOk (Str.ofString "_law_span.<locals>.<lambda>") keep ps)
  (hdp : dp + 14 < recursionLimit) (hun : un + 100 < cLine) (hpr : (lp, tupS W1 W2 t1 t2) ∈ rest) (hW1 : W1.length ≤ 100) (hW2 : W2.length ≤ 100) (hd1 : (dotted W1).length ≤ 500) (hd2 : (dotted W2).length ≤ 500) (hlb : (lb, listOf bvs.toArray nb) ∈ rest)
  (hbs : StrsAre bvs bars) (hlen : bars.length ≤ 100) (hG : ∀ G ∈ bars, G.length ≤ 1000)
  {pc1 pc2 : List PySem.Str} (hP1 : PatOk (dotted W1 ++ Str.ofString "|...") pc1) (hP2 : PatOk (Str.ofString "...|" ++ dotted W2) pc2)
  {r1 r2 : Nat} (hr1 : r1 ≤ bars.length) (hr2 : r2 ≤ bars.length) (h1 : ∀ i, i < bars.length → emGo (bars.getD i (Str.ofString "x")) pc1 0 = decide (r1 ≤ i)) (h2 : ∀ i, i < bars.length → emGo (bars.getD i (Str.ofString "x")) pc2 0 = decide (i < r2))
  (hret : ∀ D t u ps' extra h' tk', Fr h₀ L h' m → News h₀ L h' ((D, tup2 r1 r2 t u) :: (83, tabObj ps') :: (extra ++ rest)) → TabOk (Str.ofString "_law_span.<locals>.<lambda>") (extra ++ keep) ps' → (∀ r ∈ (83, tabObj ps) :: rest, r.1 < D) → (∀ q ∈ extra, ∀ r ∈ (83, tabObj ps) :: rest, r.1 < q.1) → Q (.ref D) { s with heap := h', toks := tk' }) :
  wpAny (model Challenge.rw_qu0035_01.row.prog w) (ktrTop dp un gd cn cs L a ccd cl outer) (call (.ref 88) [.ref lp, .ref lb]) Q E s := by
  have hQ : Challenge.rw_qu0035_01.row.prog = Challenge.rw_qu0035_01.prog := rfl
  revert X hQ
  k_fill
  intro X hQ
  clear hQ
  refine wpAny_call ?_
  k_dflt (refine' code_defC ?k1 ?k2 ?k3 ?k4 ?k5 ?kA ?kF ?kK ?k6 ?k7 ?k8 ?k9 ?kB ?kD ?_ ?c2 ?c3 ?c4; (case kA => exact rfl); (case kF => exact rfl); (case kK => assumption); (case k1 => k_asm); (case k2 => k_asm); (case k3 => k_asm); (case k4 => k_asm); (case k5 => k_asm); (case k6 => k_is); (case k7 => k_is); (case k8 => ktr_room); (case k9 => exact BindsTo.of_eq rfl); (case kB => exact rfl); (case kD => decide +kernel); (case c2 => exact rfl); (case c3 => exact rfl); (case c4 => exact rfl); k_whole; intro gg LL hh tk' cells' FG F1 N1 Y1 BB XX TT l1; k_cells Y1; (try simp only [List.cons_append, List.nil_append] at N1); (try dsimp only); (try k_fold))
  rename_i ob oa d1 d2
  replace d1 : ob.data = .cell none := d1
  replace d2 : oa.data = .cell none := d2
  replace F1 : Fr gg LL hh (mpL [(Str.ofString "pair", some (.ref lp)), (Str.ofString "bars", some (.ref lb)), (Str.ofString "first", none), (Str.ofString "past", none)]) :=
    fr_eq F1 ((mpL_s (mpL_s (f := fun _ => none) (l := []) rfl)).trans (mpL_pad _ [Str.ofString "first", Str.ofString "past"]))
  k_steps
  unfold Halt
  refine ru_ts0 (by k_asm) (.tail _ (.tail _ (.tail _ hpr))) ?_ (by with_unfolding_all rfl)
  (try dsimp only)
  k_steps
  unfold Halt
  k_dflt (refine dots (by k_asm) (by k_asm) (by k_asm) (by k_asm) (by k_asm) rfl (by show dp + 1 + 5 < recursionLimit; omega) (by show un + 3 + 40 < cLine; omega) (by omega) ?_)
  intro tD h3 tk3 F3 N3
  (try dsimp only)
  k_steps
  have hr83 : ∀ q ∈ (83, tabObj ps) :: rest, q.1 ≠ LL + 1 ∧ q.1 ≠ LL + 1 + 1 := fun q hq => ⟨Nat.ne_of_lt (Nat.lt_succ_of_lt (l1 q hq)), Nat.ne_of_lt (Nat.lt_succ_of_lt (Nat.lt_succ_of_lt (l1 q hq)))⟩
  refine ru_cell (c := LL + 1) (rest := (LL + 1 + 1, ob) :: (83, tabObj ps) :: rest) (by k_asm) (nsub (by k_asm) ?_) ?_ d2 ?_ rfl rfl rfl
  · ((repeat' (first | exact sub_nil | refine sub_cons ?_ ?_ | refine sub_app ?_ ?_)) <;> (try intro q hq) <;> (first | ((repeat (first | exact List.Mem.head _ | assumption | exact List.mem_append_left _ (by assumption) | refine List.Mem.tail _ ?_ | refine List.mem_append_right _ ?_)); done) | simp [*]))
  · intro q hq
    rcases List.mem_cons.mp hq with rfl | hq
    · exact (Nat.ne_of_lt (Nat.lt_succ_self _)).symm
    · exact (hr83 q hq).1
  intro h4 oa' F4 N4 d2'
  clear F3 N3 F1 N1 d2
  (try dsimp only)
  k_steps
  unfold Halt
  refine ru_ts1 (by k_asm) (.tail _ (.tail _ (.tail _ hpr))) ?_ (by with_unfolding_all rfl)
  (try dsimp only)
  k_steps
  unfold Halt
  k_dflt (refine dots (by k_asm) (by k_asm) (by k_asm) (by k_asm) (by k_asm) rfl (by show dp + 1 + 5 < recursionLimit; omega) (by show un + 3 + 40 < cLine; omega) (by omega) ?_)
  intro tD2 h5 tk5 F5 N5
  clear F4 N4
  (try dsimp only)
  k_steps
  refine ru_cell (c := LL + 1 + 1) (rest := (LL + 1, oa') :: (83, tabObj ps) :: rest) (by k_asm) (nsub (by k_asm) ?_) ?_ d1 ?_ rfl rfl rfl
  · ((repeat' (first | exact sub_nil | refine sub_cons ?_ ?_ | refine sub_app ?_ ?_)) <;> (try intro q hq) <;> (first | ((repeat (first | exact List.Mem.head _ | assumption | exact List.mem_append_left _ (by assumption) | refine List.Mem.tail _ ?_ | refine List.mem_append_right _ ?_)); done) | simp [*]))
  · intro q hq
    rcases List.mem_cons.mp hq with rfl | hq
    · exact Nat.ne_of_lt (Nat.lt_succ_self _)
    · exact (hr83 q hq).2
  intro h6 ob' F6 N6 d1'
  clear F5 N5 d1
  (try dsimp only)
  k_steps
  unfold Halt
  refine lam_make keep (P := 83) (c := 87) (qual := Str.ofString "_law_span.<locals>.<lambda>") (clos := [(Str.ofString "ahead", LL + 1)]) rfl (by k_asm) (nsub N6 (l' := (83, tabObj ps) :: (LL + 1 + 1, ob') :: (LL + 1, oa') :: rest) ?_) (by k_asm) (by kn_code) rfl ?_ hTab rfl (by show Str.ofString "_law_span" ++ Str.ofString ".<locals>." ++ Str.ofString "<lambda>" = _; decide +kernel) rfl ?_
  · ((repeat' (first | exact sub_nil | refine sub_cons ?_ ?_ | refine sub_app ?_ ?_)) <;> (try intro q hq) <;> (first | ((repeat (first | exact List.Mem.head _ | assumption | exact List.mem_append_left _ (by assumption) | refine List.Mem.tail _ ?_ | refine List.mem_append_right _ ?_)); done) | simp [*]))
  · intro q hq
    rcases List.mem_cons.mp hq with rfl | hq
    · exact Ne.symm (hr83 _ (.head _)).2
    rcases List.mem_cons.mp hq with rfl | hq
    · exact Ne.symm (hr83 _ (.head _)).1
    · exact hrt q hq
  intro f1 c1 ct1 ps1 ex1 h7 tk7 F7 N7 hc1 hT1 lf1 le1
  clear F6 N6
  (try dsimp only)
  k_steps
  unfold Halt
  refine withLed N7 (fun led => KeyOk w p loose mean mg mb base led f1 (fun G => if emGo G pc1 0 then 1 else 0) (fun G => G.length ≤ 1000)) ?_ fun K1 => ?_
  · intro dp' un' gd' cn' cs' a' ccd' cl' outer' A' hb' L' m' s' Q' E' rest' G t1' B' F' X' N' T' hk' hdp' hun' hsub hG' hq
    have mf := hsub _ (.head _)
    have ma : (LL + 1, oa') ∈ rest' := hsub _ (.tail _ (.tail _ (List.mem_append_right _ (.tail _ (.head _)))))
    obtain ⟨oc, vs, tq, mc, dc, vq⟩ := hc1.mono (fun x hx => hsub x (.tail _ (.tail _ ((List.mem_append.mp hx).elim (fun h => List.mem_append_left _ h) (fun h => List.mem_append_right _ (.tail _ (.tail _ (hkp _ h))))))))
    clear F7 N7 hsub B F N T X BB XX TT FG
    refine wpAny_call ?_
    k_dflt (refine' kla_code ?k1 ?k2 ?k3 ?k4 ?k5 ?kA ?kF ?kK ?k6 ?k7 ?k8 ?k9 ?kB ?_ ?c2 ?c3 ?c4 ?c5; (case kA => exact rfl); (case kF => exact rfl); (case kK => assumption); (case k1 => k_asm); (case k2 => k_asm); (case k3 => k_asm); (case k4 => k_asm); (case k5 => k_asm); (case k6 => assumption); (case k7 => exact codeRec_news (by k_asm) (by assumption) (by assumption) (by assumption)); (case k8 => ktr_room); (case k9 => exact rfl); (case c5 => decide); (case kB => exact locs rfl); (case c2 => exact rfl); (case c3 => exact rfl); (case c4 => exact rfl); k_whole; intro g2 L2 h2' FG2 F2 N2 B2 X2 T2; (try dsimp only); (try k_lift B2); (try k_fold))
    replace F2 : Fr g2 L2 h2' (mpL [(Str.ofString "bar", some (.str G t1'))]) := fr_of [] F2
    k_steps
    unfold Halt
    k_dflt (refine says (by k_asm) (by k_asm) (by k_asm) (by k_asm) (by k_asm) rfl (by show dp' + 1 + 7 < recursionLimit; omega) (by show un' + 3 + 50 < cLine; omega) hP1.len hG' hP1.has hP1.spl hP1.two hP1.few hP1.fst hP1.lst ?_)
    intro t9 h9 tk9 F9 N9
    (try dsimp only)
    k_steps
    exact hq _ _ _ (by k_asm) (by k_asm)
  k_dflt (refine bl (by k_asm) (by k_asm) (by k_asm) N7 (by k_asm) rfl (by show dp + 1 + 11 < recursionLimit; omega) (by show un + 3 + 70 < cLine; omega) K1 (.head _) (.tail _ (.tail _ (List.mem_append_right _ (.tail _ (.tail _ hlb))))) hbs hlen hG hr1 ?_ ?_ ?_)
  · intro i hi
    rw [h1 i (by omega), decide_eq_false (by omega)]; decide
  · intro i hi hi2
    rw [h1 i hi2, decide_eq_true hi]; decide
  intro t8 h8 tk8 F8 N8
  clear F7 N7
  (try dsimp only)
  k_steps
  unfold Halt
  rename Fr _ _ _ _ => F10
  rename News _ _ _ _ => N10
  replace F10 := fr_eq F10 (mpL_s rfl)
  refine lam_make (ex1 ++ keep) (P := 83) (c := 87) (qual := Str.ofString "_law_span.<locals>.<lambda>") (clos := [(Str.ofString "behind", LL + 1 + 1)]) rfl F10 (nsub N10 (l' := (83, tabObj ps1) :: (ex1 ++ (LL + 1 + 1, ob') :: (LL + 1, oa') :: rest)) fun q hq => .tail _ hq) (by k_asm) (by kn_code) rfl ?_ hT1 rfl (by show Str.ofString "_law_span" ++ Str.ofString ".<locals>." ++ Str.ofString "<lambda>" = _; decide +kernel) rfl ?_
  · intro q hq
    rcases List.mem_append.mp hq with hq | hq
    · exact (Nat.ne_of_lt (le1 q hq _ (.head _))).symm
    rcases List.mem_cons.mp hq with rfl | hq
    · exact Ne.symm (hr83 _ (.head _)).2
    rcases List.mem_cons.mp hq with rfl | hq
    · exact Ne.symm (hr83 _ (.head _)).1
    · exact hrt q hq
  intro f2 c2 ct2 ps2 ex2 h11 tk11 F11 N11 hc2 hT2 lf2 le2
  clear F10 N10
  (try dsimp only)
  k_steps
  unfold Halt
  refine withLed N11 (fun led => KeyOk w p loose mean mg mb base led f2 (fun G => 1 - (if emGo G pc2 0 then 1 else 0)) (fun G => G.length ≤ 1000)) ?_ fun K2 => ?_
  · intro dp' un' gd' cn' cs' a' ccd' cl' outer' A' hb' L' m' s' Q' E' rest' G t1' B' F' X' N' T' hk' hdp' hun' hsub hG' hq
    have mf := hsub _ (.head _)
    have ma : (LL + 1 + 1, ob') ∈ rest' := hsub _ (.tail _ (.tail _ (List.mem_append_right _ (List.mem_append_right _ (.head _)))))
    obtain ⟨oc, vs, tq, mc, dc, vq⟩ := hc2.mono (fun x hx => hsub x (.tail _ (.tail _ ((List.mem_append.mp hx).elim (fun h => List.mem_append_left _ h) (fun h => List.mem_append_right _ ((List.mem_append.mp h).elim (fun h => List.mem_append_left _ h) (fun h => List.mem_append_right _ (.tail _ (.tail _ (hkp _ h))))))))))
    clear F11 N11 hsub B F N T X BB XX TT FG
    refine wpAny_call ?_
    k_dflt (refine' kla_code ?k1 ?k2 ?k3 ?k4 ?k5 ?kA ?kF ?kK ?k6 ?k7 ?k8 ?k9 ?kB ?_ ?c2 ?c3 ?c4 ?c5; (case kA => exact rfl); (case kF => exact rfl); (case kK => assumption); (case k1 => k_asm); (case k2 => k_asm); (case k3 => k_asm); (case k4 => k_asm); (case k5 => k_asm); (case k6 => assumption); (case k7 => exact codeRec_news (by k_asm) (by assumption) (by assumption) (by assumption)); (case k8 => ktr_room); (case k9 => exact rfl); (case c5 => decide); (case kB => exact locs rfl); (case c2 => exact rfl); (case c3 => exact rfl); (case c4 => exact rfl); k_whole; intro g2 L2 h2' FG2 F2 N2 B2 X2 T2; (try dsimp only); (try k_lift B2); (try k_fold))
    replace F2 : Fr g2 L2 h2' (mpL [(Str.ofString "bar", some (.str G t1'))]) := fr_of [] F2
    k_steps
    unfold Halt
    k_dflt (refine says (by k_asm) (by k_asm) (by k_asm) (by k_asm) (by k_asm) rfl (by show dp' + 1 + 7 < recursionLimit; omega) (by show un' + 3 + 50 < cLine; omega) hP2.len hG' hP2.has hP2.spl hP2.two hP2.few hP2.fst hP2.lst ?_)
    intro t9 h9 tk9 F9 N9
    (try dsimp only)
    k_steps
    exact hq _ _ _ (by k_asm) (by k_asm)
  k_dflt (refine br (by k_asm) (by k_asm) (by k_asm) N11 (by k_asm) rfl (by show dp + 1 + 11 < recursionLimit; omega) (by show un + 3 + 70 < cLine; omega) K2 (.head _) (.tail _ (.tail _ (List.mem_append_right _ (List.mem_append_right _ (.tail _ (.tail _ hlb)))))) hbs hlen hG hr2 ?_ ?_ ?_)
  · intro i hi
    rw [h2 i (by omega), decide_eq_true hi]; decide
  · intro i hi hi2
    rw [h2 i hi2, decide_eq_false (by omega)]; decide
  intro t12 h12 tk12 F12 N12
  clear F11 N11
  (try dsimp only)
  k_steps
  rename _ ∧ _ ∧ AllLt _ _ => lD0
  obtain ⟨_, lD83, lD1⟩ := lD0
  have lD := kst_ltOf lD1
  have e : ex2 ++ (ex1 ++ (LL + 1 + 1, ob') :: (LL + 1, oa') :: rest) = (ex2 ++ (ex1 ++ [(LL + 1 + 1, ob'), (LL + 1, oa')])) ++ rest := by simp
  refine hret _ t8 t12 ps2 (ex2 ++ (ex1 ++ [(LL + 1 + 1, ob'), (LL + 1, oa')])) _ _ (by k_asm) (nsub (by k_asm) ?_) (hT2.mono ?_) ?_ ?_
  · intro q hq
    rw [← e] at hq
    rcases List.mem_cons.mp hq with rfl | hq
    · exact .head _
    · exact .tail _ (.tail _ hq)
  · ((repeat' (first | exact sub_nil | refine sub_cons ?_ ?_ | refine sub_app ?_ ?_)) <;> (try intro q hq) <;> (first | ((repeat (first | exact List.Mem.head _ | assumption | exact List.mem_append_left _ (by assumption) | refine List.Mem.tail _ ?_ | refine List.mem_append_right _ ?_)); done) | simp [*]))
  · intro r hr
    rcases List.mem_cons.mp hr with rfl | hr
    · exact lD83
    · exact lD r (by rw [e]; exact List.mem_append_right _ hr)
  · intro q hq r hr
    have hlr := l1 r hr
    have hr2 : ∀ c : Nat, LL < c → r.1 < c := fun c hc => Nat.lt_trans hlr hc
    rcases List.mem_append.mp hq with hq | hq
    · rcases List.mem_cons.mp hr with rfl | hr
      · exact le2 q hq (83, tabObj ps1) (.head _)
      · exact le2 q hq r (.tail _ (List.mem_append_right _ (.tail _ (.tail _ hr))))
    rcases List.mem_append.mp hq with hq | hq
    · rcases List.mem_cons.mp hr with rfl | hr
      · exact le1 q hq (83, tabObj ps) (.head _)
      · exact le1 q hq r (.tail _ (.tail _ (.tail _ hr)))
    rcases List.mem_cons.mp hq with rfl | hq
    · exact hr2 _ (Nat.lt_succ_of_lt (Nat.lt_succ_self _))
    rw [List.mem_singleton.mp hq]
    exact hr2 _ (Nat.lt_succ_self _)
end Mine
end
section
open PySem PySem.W PyProof.Rows
theorem Mine.freshSn1 {M : Model} {A : Around} {Q : Flow → Shared → Prop} {E : Value → Shared → Prop} {s : Shared} {env : Env} (h : wpAny M A (execs [] env) Q E s) : wpAny M A (execs [] env) Q E s := by
  w_top off
  first | (walk1; fail) | exact h
end
section
open PySem PySem.W PyProof.Rows
set_option maxRecDepth 100000
namespace Mine
/-- how many of the first n have it -/
def cn (n : Nat) (p : Nat → Bool) : Nat := ((List.range n).filter p).length
theorem cn_congr {n : Nat} {p q : Nat → Bool} (h : ∀ e, e < n → p e = q e) : cn n p = cn n q := by
  unfold cn
  rw [List.filter_congr (fun e he => h e (List.mem_range.mp he))]
theorem len_split {α : Type} (p q : α → Bool) : ∀ l : List α, (l.filter p).length = (l.filter fun x => p x && q x).length + (l.filter fun x => p x && !q x).length
  | [] => rfl
  | a :: l => by
    have ih := len_split p q l
    simp only [List.filter_cons]
    cases hp : p a <;> cases hq : q a <;> simp only [Bool.and_self, Bool.and_true, Bool.and_false, Bool.not_true, Bool.not_false, Bool.false_eq_true, if_true, if_false, List.length_cons] <;> omega
theorem cn_split (n : Nat) (p q : Nat → Bool) : cn n p = cn n (fun e => p e && q e) + cn n (fun e => p e && !q e) := len_split p q _
theorem cn_mono {n : Nat} {p q : Nat → Bool} (h : ∀ e, e < n → p e = true → q e = true) : cn n p ≤ cn n q := by
  have h1 := cn_split n q p
  have h2 : cn n p = cn n (fun e => q e && p e) := cn_congr fun e he => by
    cases hp : p e
    · simp
    · simp [h e he hp]
  omega
theorem flt (xs : List (Int × Int)) (p : Int × Int → Bool) : (xs.filter p).length = cn xs.length (fun e => p (xs.getD e (0, 0))) := by
  have e : xs = (List.range xs.length).map (fun e => xs.getD e (0, 0)) := by
    apply List.ext_getElem
    · simp
    · intro i h1 h2
      simp [List.getD_eq_getElem?_getD, h1]
  have : xs.filter p = (((List.range xs.length).filter (p ∘ fun e => xs.getD e (0, 0))).map (fun e => xs.getD e (0, 0))) := by
    conv => lhs; rw [e]
    rw [List.filter_map]
  rw [this, List.length_map]
  rfl
section
variable (xs : List (Int × Int)) (S : List (Nat × Nat)) (z : Nat)
def cE (e : Nat) : Int := min (psO xs e) z
def inC (e : Nat) : Bool := decide (fsO xs e < cE xs z e)
def svd (e : Nat) : Bool := S.any fun p => p.2 == e && decide (p.1 < z)
def uns (r : Nat) : Nat := cn xs.length fun e => inC xs z e && !svd S z e && decide (cE xs z e ≤ r)
def insd (q r : Nat) (e : Nat) : Bool := inC xs z e && (decide ((q : Int) ≤ fsO xs e) && decide (cE xs z e ≤ r))
theorem cut_len : (cutP xs z).length = cn xs.length (inC xs z) := by
  unfold cutP
  rw [List.length_map, flt]
  rfl
theorem inside_len (q r : Nat) : insideP (cutP xs z) q r = cn xs.length (insd xs z q r) := by
  unfold insideP cutP
  rw [List.filter_map, List.length_map, List.filter_filter, flt]
  refine cn_congr fun e _ => ?_
  simp only [Function.comp, insd, inC, cE, fsO, psO]
  exact Bool.and_comm _ _
end
theorem one_place : ∀ {S : List (Nat × Nat)}, (S.map (·.2)).Nodup → ∀ {u v e : Nat}, (u, e) ∈ S → (v, e) ∈ S → u = v
  | [], _, _, _, _, h, _ => by cases h
  | p :: S, hn, u, v, e, h1, h2 => by
    rw [List.map_cons] at hn
    obtain ⟨a, b⟩ := List.nodup_cons.mp hn
    rcases List.mem_cons.mp h1 with h1 | h1
    · rcases List.mem_cons.mp h2 with h2 | h2
      · rw [← h2] at h1; exact congrArg Prod.fst h1
      · exact absurd (List.mem_map.mpr ⟨_, h2, by rw [← h1]⟩) a
    · rcases List.mem_cons.mp h2 with h2 | h2
      · exact absurd (List.mem_map.mpr ⟨_, h1, by rw [← h2]⟩) a
      · exact one_place b h1 h2
section
variable {xs : List (Int × Int)} {S : List (Nat × Nat)} {z : Nat}
theorem svd_iff {e : Nat} : svd S z e = true ↔ ∃ pl, (pl, e) ∈ S ∧ pl < z := by
  unfold svd
  rw [List.any_eq_true]
  constructor
  · rintro ⟨⟨a, b⟩, h, hb⟩
    simp only [Bool.and_eq_true, beq_iff_eq, decide_eq_true_eq] at hb
    obtain ⟨rfl, hb⟩ := hb
    exact ⟨a, h, hb⟩
  · rintro ⟨pl, h, hb⟩
    exact ⟨(pl, e), h, by simpa using hb⟩
theorem nodup_flt {α β : Type} {f : α → β} {p : α → Bool} {l : List α} (h : (l.map f).Nodup) : ((l.filter p).map f).Nodup :=
  List.Sublist.nodup (List.Sublist.map f List.filter_sublist) h
theorem svd_len {t : Nat} (G : Good xs t S) (P : Nat → Bool) : cn xs.length (fun e => svd S z e && P e) = (S.filter fun p => decide (p.1 < z) && P p.2).length := by
  refine Nat.le_antisymm ?_ ?_
  · have := nodup_le (l := (List.range xs.length).filter fun e => svd S z e && P e) (m := (S.filter fun p => decide (p.1 < z) && P p.2).map (·.2)) (List.Sublist.nodup List.filter_sublist List.nodup_range) (fun e he => by
      obtain ⟨h1, h2⟩ := List.mem_filter.mp he
      simp only [Bool.and_eq_true] at h2
      obtain ⟨pl, h3, h4⟩ := svd_iff.mp h2.1
      exact List.mem_map.mpr ⟨(pl, e), List.mem_filter.mpr ⟨h3, by simp [h4, h2.2]⟩, rfl⟩)
    rw [List.length_map] at this
    exact this
  · have := nodup_le (l := (S.filter fun p => decide (p.1 < z) && P p.2).map (·.2)) (m := (List.range xs.length).filter fun e => svd S z e && P e) (nodup_flt G.ones) (fun e he => by
      obtain ⟨⟨a, b⟩, hp, rfl⟩ := List.mem_map.mp he
      obtain ⟨h1, h2⟩ := List.mem_filter.mp hp
      simp only [Bool.and_eq_true, decide_eq_true_eq] at h2
      exact List.mem_filter.mpr ⟨List.mem_range.mpr (G.fits _ h1).2.1, by simp only [Bool.and_eq_true]; exact ⟨svd_iff.mpr ⟨a, h1, h2.1⟩, h2.2⟩⟩)
    rw [List.length_map] at this
    exact this
/-- the most of a chain, by its end -/
theorem most_len (cut : List (Int × Int)) : ∀ r, (mostP cut r).length = r + 1 := mostP_len cut
def mo (cut : List (Int × Int)) (r : Nat) : Int := (mostP cut r).getD r 0
theorem most_at (cut : List (Int × Int)) {r : Nat} : ∀ k, r ≤ k → (mostP cut k).getD r 0 = mo cut r := by
  intro k
  induction k with
  | zero => intro h; obtain rfl : r = 0 := by omega
            rfl
  | succ k ih =>
    intro h
    by_cases e : r = k + 1
    · subst e; rfl
    · rw [← ih (by omega)]
      show (mostP cut k ++ [_]).getD r 0 = _
      rw [List.getD_eq_getElem?_getD, List.getElem?_append_left (by rw [mostP_len]; omega), List.getD_eq_getElem?_getD]
theorem best_spec (cut : List (Int × Int)) (r : Nat) : ∀ k, k ≤ r + 1 → (mo cut r ≤ bestP cut (mostP cut r) (r + 1) k ∧ (∀ q, q < k → mo cut q + insideP cut q (r + 1 : Nat) - (((r + 1 : Nat) : Int) - (q : Int)) ≤ bestP cut (mostP cut r) (r + 1) k) ∧
    ∀ B : Int, mo cut r ≤ B → (∀ q, q < k → mo cut q + insideP cut q (r + 1 : Nat) - (((r + 1 : Nat) : Int) - (q : Int)) ≤ B) → bestP cut (mostP cut r) (r + 1) k ≤ B) := by
  intro k
  induction k with
  | zero =>
    intro _
    have e : bestP cut (mostP cut r) (r + 1) 0 = mo cut r := most_at cut r (Nat.le_refl _)
    rw [e]
    exact ⟨Int.le_refl _, fun q hq => absurd hq (Nat.not_lt_zero _), fun B h _ => h⟩
  | succ k ih =>
    intro hk
    obtain ⟨h1, h2, h3⟩ := ih (by omega)
    have e : bestP cut (mostP cut r) (r + 1) (k + 1) = max (bestP cut (mostP cut r) (r + 1) k) (mo cut k + insideP cut k (r + 1 : Nat) - (((r + 1 : Nat) : Int) - (k : Int))) := by
      show max _ ((mostP cut r).getD k 0 + _ - _) = _
      rw [most_at cut r (by omega)]
    rw [e]
    refine ⟨by omega, fun q hq => ?_, fun B hb hq => ?_⟩
    · by_cases e1 : q = k
      · subst e1; omega
      · have := h2 q (by omega); omega
    · have a := h3 B hb (fun q hq' => hq q (by omega))
      have b := hq k (by omega)
      omega
theorem mo_succ (cut : List (Int × Int)) (r : Nat) : mo cut (r + 1) = bestP cut (mostP cut r) (r + 1) (r + 1) := by
  show (mostP cut r ++ [_]).getD (r + 1) 0 = _
  have : (mostP cut r).length = r + 1 := mostP_len cut r
  rw [List.getD_eq_getElem?_getD, List.getElem?_append_right (by omega), this]
  simp
theorem mo_skip (cut : List (Int × Int)) (r : Nat) : mo cut r ≤ mo cut (r + 1) := by
  rw [mo_succ]; exact (best_spec cut r (r + 1) (Nat.le_refl _)).1
theorem mo_take (cut : List (Int × Int)) {q r : Nat} (h : q < r + 1) : mo cut q + insideP cut q (r + 1 : Nat) - (((r + 1 : Nat) : Int) - (q : Int)) ≤ mo cut (r + 1) := by
  rw [mo_succ]; exact (best_spec cut r (r + 1) (Nat.le_refl _)).2.1 q h
theorem mo_le (cut : List (Int × Int)) {r : Nat} {B : Int} (h1 : mo cut r ≤ B) (h2 : ∀ q, q < r + 1 → mo cut q + insideP cut q (r + 1 : Nat) - (((r + 1 : Nat) : Int) - (q : Int)) ≤ B) : mo cut (r + 1) ≤ B := by
  rw [mo_succ]; exact (best_spec cut r (r + 1) (Nat.le_refl _)).2.2 B h1 h2
theorem fits_in {t : Nat} (G : Good xs t S) {u e : Nat} (h : (u, e) ∈ S) (hz : u < z) : inC xs z e = true ∧ (u : Int) < cE xs z e ∧ fsO xs e ≤ u ∧ e < xs.length := by
  obtain ⟨_, h1, h2, h3⟩ := G.fits _ h
  simp only at h2 h3 h1
  refine ⟨?_, ?_, h2, h1⟩
  · unfold inC cE; simp only [decide_eq_true_eq]; omega
  · unfold cE; omega
theorem insd_iff {q r e : Nat} : insd xs z q r e = true ↔ inC xs z e = true ∧ (q : Int) ≤ fsO xs e ∧ cE xs z e ≤ r := by
  unfold insd; simp only [Bool.and_eq_true, decide_eq_true_eq]
theorem served_few {t : Nat} (G : Good xs t S) {q r : Nat} (h : q ≤ r) : cn xs.length (fun e => svd S z e && insd xs z q r e) ≤ r - q := by
  rw [svd_len G]
  have := nodup_le (l := (S.filter fun p => decide (p.1 < z) && insd xs z q r p.2).map (·.1)) (m := List.range' q (r - q)) (nodup_flt G.places) (fun u hu => by
    obtain ⟨⟨a, b⟩, hp, rfl⟩ := List.mem_map.mp hu
    obtain ⟨h1, h2⟩ := List.mem_filter.mp hp
    simp only [Bool.and_eq_true, decide_eq_true_eq] at h2
    obtain ⟨i1, i2, i3⟩ := insd_iff.mp h2.2
    obtain ⟨_, f2, f3, _⟩ := fits_in G h1 h2.1
    rw [List.mem_range'_1]
    simp only
    omega)
  rw [List.length_map, List.length_range'] at this
  exact this
theorem served_all {t : Nat} (G : Good xs t S) {q r : Nat} (hrz : r ≤ z) (h : ∀ u, q ≤ u → u < r → ∃ e, (u, e) ∈ S ∧ insd xs z q r e = true) : r - q ≤ cn xs.length (fun e => svd S z e && insd xs z q r e) := by
  rw [svd_len G]
  have := nodup_le (l := List.range' q (r - q)) (m := (S.filter fun p => decide (p.1 < z) && insd xs z q r p.2).map (·.1)) List.nodup_range' (fun u hu => by
    rw [List.mem_range'_1] at hu
    obtain ⟨e, h1, h2⟩ := h u hu.1 (by omega)
    exact List.mem_map.mpr ⟨(u, e), List.mem_filter.mpr ⟨h1, by simp only [Bool.and_eq_true, decide_eq_true_eq]; exact ⟨by omega, h2⟩⟩, rfl⟩)
  rw [List.length_map, List.length_range'] at this
  exact this
theorem ins_split (q r : Nat) : cn xs.length (insd xs z q r) = cn xs.length (fun e => svd S z e && insd xs z q r e) + cn xs.length (fun e => insd xs z q r e && !svd S z e) := by
  rw [cn_split _ _ (svd S z), cn_congr fun e _ => Bool.and_comm _ _]
/-- no dealing does better -/
theorem upper {t : Nat} (G : Good xs t S) : ∀ r, r ≤ z → mo (cutP xs z) r ≤ uns xs S z r := by
  intro r
  induction r using Nat.strongRecOn with
  | _ r ih =>
    intro hr
    cases r with
    | zero => show (0 : Int) ≤ _; omega
    | succ r =>
      refine mo_le _ ?_ ?_
      · have h1 := ih r (by omega) (by omega)
        have h2 : uns xs S z r ≤ uns xs S z (r + 1) := cn_mono fun e _ h => by
          simp only [Bool.and_eq_true, decide_eq_true_eq] at h ⊢
          exact ⟨h.1, by omega⟩
        omega
      · intro q hq
        have h1 := ih q hq (by omega)
        rw [inside_len]
        have h2 := ins_split (xs := xs) (S := S) (z := z) q (r + 1)
        have h3 := served_few (z := z) G (q := q) (r := r + 1) (by omega)
        have h4 : uns xs S z (r + 1) = cn xs.length (fun e => (inC xs z e && !svd S z e && decide (cE xs z e ≤ (r + 1 : Nat))) && decide (cE xs z e ≤ q)) + cn xs.length (fun e => (inC xs z e && !svd S z e && decide (cE xs z e ≤ (r + 1 : Nat))) && !decide (cE xs z e ≤ q)) := cn_split _ _ _
        have h5 : uns xs S z q ≤ cn xs.length (fun e => (inC xs z e && !svd S z e && decide (cE xs z e ≤ (r + 1 : Nat))) && decide (cE xs z e ≤ q)) := cn_mono fun e _ h => by
          simp only [Bool.and_eq_true, decide_eq_true_eq] at h ⊢
          exact ⟨⟨h.1, by omega⟩, h.2⟩
        have h6 : cn xs.length (fun e => insd xs z q (r + 1) e && !svd S z e) ≤ cn xs.length (fun e => (inC xs z e && !svd S z e && decide (cE xs z e ≤ (r + 1 : Nat))) && !decide (cE xs z e ≤ q)) := cn_mono fun e _ h => by
          simp only [Bool.and_eq_true] at h
          obtain ⟨i1, i2, i3⟩ := insd_iff.mp h.1
          simp only [Bool.and_eq_true, decide_eq_true_eq]
          refine ⟨⟨⟨i1, h.2⟩, i3⟩, ?_⟩
          have : fsO xs e < cE xs z e := by simpa [inC] using i1
          simp only [Bool.not_eq_true', decide_eq_false_iff_not]
          omega
        omega
theorem least (C : Nat → Prop) : ∀ k, C k → ∃ q, q ≤ k ∧ C q ∧ (q = 0 ∨ ¬ C (q - 1))
  | 0, h => ⟨0, Nat.le_refl _, h, .inl rfl⟩
  | k + 1, h => by
    by_cases e : C k
    · obtain ⟨q, h1, h2, h3⟩ := least C k e
      exact ⟨q, by omega, h2, h3⟩
    · exact ⟨k + 1, Nat.le_refl _, h, .inr e⟩
/-- this dealing does as well -/
theorem lower {t : Nat} (G : Good xs t S) (hz : z ≤ t) (hnn : ∀ e, e < xs.length → 0 ≤ fsO xs e) : ∀ r, r ≤ z → (uns xs S z r : Int) ≤ mo (cutP xs z) r := by
  intro r
  induction r using Nat.strongRecOn with
  | _ r ih =>
    intro hr
    cases r with
    | zero =>
      have : uns xs S z 0 ≤ cn xs.length (fun _ => false) := cn_mono fun e he h => by
        simp only [Bool.and_eq_true, decide_eq_true_eq, inC] at h
        have := hnn e he
        omega
      have e0 : cn xs.length (fun _ => false) = 0 := by unfold cn; simp
      show _ ≤ (0 : Int)
      omega
    | succ r =>
      by_cases hex : ∃ e, e < xs.length ∧ inC xs z e = true ∧ svd S z e = false ∧ cE xs z e = (r + 1 : Nat)
      · obtain ⟨e₀, he₀, c1, c2, c3⟩ := hex
        have ns : ∀ {e : Nat}, svd S z e = false → ∀ pl, (pl, e) ∈ S → z ≤ pl := fun {e} h pl hp => by
          rcases Nat.lt_or_ge pl z with h1 | h1
          · rw [svd_iff.mpr ⟨pl, hp, h1⟩] at h; cases h
          · exact h1
        have lt_of : ∀ {e : Nat}, inC xs z e = true → fsO xs e < cE xs z e := fun {e} h => by simpa [inC] using h
        have le_ps : ∀ e, cE xs z e ≤ psO xs e := fun e => by unfold cE; omega
        have mono : ∀ {e e' : Nat}, psO xs e' ≤ psO xs e → cE xs z e' ≤ cE xs z e := fun {e e'} h => by unfold cE; omega
        let C : Nat → Prop := fun q => ∀ u, q ≤ u → u < r + 1 → ∃ e', (u, e') ∈ S ∧ cE xs z e' ≤ (r + 1 : Nat)
        have hC : C r := by
          intro u hu1 hu2
          obtain rfl : u = r := by omega
          have := lt_of c1
          have := le_ps e₀
          obtain ⟨e', h1, h2⟩ := G.greedy u (by omega) e₀ he₀ (by omega) (by omega) (fun pl hp => by have := ns c2 pl hp; omega)
          exact ⟨e', h1, by have := mono h2; omega⟩
        obtain ⟨q, hq1, hq2, hq3⟩ := least C r hC
        have key : ∀ e, e < xs.length → cE xs z e ≤ (r + 1 : Nat) → (q : Int) < psO xs e + 1 → (∀ pl, (pl, e) ∈ S → q ≤ pl) → (q : Int) ≤ fsO xs e := by
          intro e he h1 h2 h3
          rcases hq3 with rfl | hq3
          · have := hnn e he; omega
          · rcases Int.lt_or_le (fsO xs e) q with h4 | h4
            · exfalso
              have hq0 : 0 < q := by have := hnn e he; omega
              obtain ⟨e', g1, g2⟩ := G.greedy (q - 1) (by omega) e he (by omega) (by omega) (fun pl hp => by have := h3 pl hp; omega)
              refine hq3 fun u hu1 hu2 => ?_
              by_cases eu : u = q - 1
              · subst eu
                exact ⟨e', g1, by have := mono g2; omega⟩
              · exact hq2 u (by omega) hu2
            · exact h4
        have cov : ∀ u, q ≤ u → u < r + 1 → ∃ e, (u, e) ∈ S ∧ insd xs z q (r + 1) e = true := by
          intro u hu1 hu2
          obtain ⟨e', h1, h2⟩ := hq2 u hu1 hu2
          obtain ⟨f1, f2, f3, f4⟩ := fits_in (z := z) G h1 (by omega)
          refine ⟨e', h1, insd_iff.mpr ⟨f1, key e' f4 h2 (by have := le_ps e'; omega) (fun pl hp => ?_), h2⟩⟩
          have := one_place G.ones h1 hp
          omega
        have h1 := ih q (by omega) (by omega)
        have h2 := ins_split (xs := xs) (S := S) (z := z) q (r + 1)
        have h3 := served_all G hr cov
        have h4 : uns xs S z (r + 1) = cn xs.length (fun e => (inC xs z e && !svd S z e && decide (cE xs z e ≤ (r + 1 : Nat))) && decide (cE xs z e ≤ q)) + cn xs.length (fun e => (inC xs z e && !svd S z e && decide (cE xs z e ≤ (r + 1 : Nat))) && !decide (cE xs z e ≤ q)) := cn_split _ _ _
        have h5 : cn xs.length (fun e => (inC xs z e && !svd S z e && decide (cE xs z e ≤ (r + 1 : Nat))) && decide (cE xs z e ≤ q)) ≤ uns xs S z q := cn_mono fun e _ h => by
          simp only [Bool.and_eq_true, decide_eq_true_eq] at h ⊢
          exact ⟨h.1.1, h.2⟩
        have h6 : cn xs.length (fun e => (inC xs z e && !svd S z e && decide (cE xs z e ≤ (r + 1 : Nat))) && !decide (cE xs z e ≤ q)) ≤ cn xs.length (fun e => insd xs z q (r + 1) e && !svd S z e) := cn_mono fun e he h => by
          simp only [Bool.and_eq_true, decide_eq_true_eq, Bool.not_eq_true', decide_eq_false_iff_not] at h
          obtain ⟨⟨⟨i1, i2⟩, i3⟩, i4⟩ := h
          simp only [Bool.and_eq_true, Bool.not_eq_true']
          refine ⟨insd_iff.mpr ⟨i1, key e he i3 (by have := le_ps e; omega) (fun pl hp => ?_), i3⟩, i2⟩
          have := ns i2 pl hp
          omega
        have h7 := mo_take (cutP xs z) (q := q) (r := r) (by omega)
        rw [inside_len] at h7
        omega
      · have h1 := ih r (by omega) (by omega)
        have h2 := mo_skip (cutP xs z) r
        have h3 : uns xs S z (r + 1) ≤ uns xs S z r := cn_mono fun e he h => by
          simp only [Bool.and_eq_true, decide_eq_true_eq, Bool.not_eq_true'] at h ⊢
          refine ⟨h.1, ?_⟩
          by_cases e1 : cE xs z e = (r + 1 : Nat)
          · exact absurd ⟨e, he, h.1.1, h.1.2, e1⟩ hex
          · omega
        omega
/-- the pure law: what is served by the places below z is what is due -/
theorem due_served {t : Nat} (G : Good xs t S) (hz : z ≤ t) (hnn : ∀ e, e < xs.length → 0 ≤ fsO xs e) : (((S.filter fun p => decide (p.1 < z)).length : Nat) : Int) = dueP xs z := by
  have h1 := upper (z := z) G z (Nat.le_refl _)
  have h2 := lower G hz hnn z (Nat.le_refl _)
  have h3 : dueP xs z = ((cutP xs z).length : Int) - mo (cutP xs z) z := rfl
  have h4 := cut_len xs z
  have h5 := cn_split xs.length (inC xs z) (svd S z)
  have h6 : cn xs.length (fun e => inC xs z e && svd S z e) = (S.filter fun p => decide (p.1 < z)).length := by
    have a := svd_len (z := z) G (fun _ => true)
    simp only [Bool.and_true] at a
    rw [← a]
    refine cn_congr fun e _ => ?_
    cases hs : svd S z e
    · simp
    · obtain ⟨pl, p1, p2⟩ := svd_iff.mp hs
      simp [(fits_in G p1 p2).1]
  have h7 : uns xs S z z = cn xs.length (fun e => inC xs z e && !svd S z e) := cn_congr fun e _ => by
    have : cE xs z e ≤ z := by unfold cE; omega
    simp [this]
  omega
end
end Mine
end
section
open PySem PySem.W PyProof.Rows
theorem Mine.freshPd {M : Model} {A : Around} {Q : Flow → Shared → Prop} {E : Value → Shared → Prop} {s : Shared} {env : Env} (h : wpAny M A (execs [] env) Q E s) : wpAny M A (execs [] env) Q E s := by
  w_top off
  first | (walk1; fail) | exact h
end
section
open PySem PySem.W PyProof.Rows
open PySem.Builtin PySem.Builtin.Str
set_option Elab.async false
set_option maxRecDepth 100000
namespace Mine
/-- find over plain lists -/
def fnd (t y : List Nat) (a : Nat) : Option Nat := (List.range' a (t.length + 1 - a)).find? fun i => y.isPrefixOf (t.drop i)
theorem occ_keep (s sub : PySem.Str) (hi : Nat) : ∀ (l : List Nat) (st : Array Nat × Nat), ¬ st.fst.size < 1 → (forIn l st (StrLaws.occBody s sub hi 1)).run.fst = st.fst
  | [], _, _ => rfl
  | a :: l, st, h => by
    rw [List.forIn_cons]
    unfold StrLaws.occBody
    rw [if_neg (fun hc => h hc.1.1.1)]
    exact occ_keep s sub hi l (st.fst, st.snd) h
theorem occ_find (s sub : PySem.Str) (hi : Nat) : ∀ (l : List Nat) (lo : Nat), (∀ a ∈ l, lo ≤ a) →
    (forIn l ((#[] : Array Nat), lo) (StrLaws.occBody s sub hi 1)).run.fst.toList = (l.find? fun i => decide (i + sub.length ≤ hi) && subAt s sub i).toList
  | [], _, _ => rfl
  | a :: l, lo, h => by
    rw [List.forIn_cons]
    unfold StrLaws.occBody
    by_cases hc : a + sub.length ≤ hi ∧ subAt s sub a = true
    · have h0 : (#[] : Array Nat).size < 1 := by decide
      rw [if_pos ⟨⟨⟨h0, h a (.head _)⟩, hc.1⟩, hc.2⟩]
      rw [List.find?_cons_of_pos (by simp [hc.1, hc.2])]
      show (forIn l ((#[] : Array Nat).push a, a + sub.length) (StrLaws.occBody s sub hi 1)).run.fst.toList = _
      rw [occ_keep _ _ _ _ _ (by simp)]
      rfl
    · rw [if_neg (fun hx => hc ⟨hx.1.2, hx.2⟩)]
      rw [List.find?_cons_of_neg (by simpa using hc)]
      exact occ_find s sub hi l lo (fun b hb => h b (.tail _ hb))
theorem isPre_iff (y t : List Nat) : y.isPrefixOf t = true ↔ t.take y.length = y := by
  rw [List.isPrefixOf_iff_prefix, List.prefix_iff_eq_take]
  exact eq_comm
theorem sub_pre (t y : List Nat) (i : Nat) (hi : i ≤ t.length) : (decide (i + (⟨y.toArray⟩ : PySem.Str).length ≤ (⟨t.toArray⟩ : PySem.Str).length) && subAt ⟨t.toArray⟩ ⟨y.toArray⟩ i) = y.isPrefixOf (t.drop i) := by
  have l1 : (⟨y.toArray⟩ : PySem.Str).length = y.length := by simp [PySem.Str.length]
  have l2 : (⟨t.toArray⟩ : PySem.Str).length = t.length := by simp [PySem.Str.length]
  rw [l1, l2]
  unfold subAt
  rw [l1]
  apply Bool.eq_iff_iff.mpr
  rw [isPre_iff, Bool.and_eq_true, decide_eq_true_eq, beq_iff_eq]
  have e : t.toArray.extract i (i + y.length) = ((t.drop i).take y.length).toArray := by
    rw [List.extract_toArray, List.extract_eq_take_drop]
    congr 2; omega
  show i + y.length ≤ t.length ∧ t.toArray.extract i (i + y.length) = y.toArray ↔ _
  rw [e]
  constructor
  · rintro ⟨_, h⟩
    exact congrArg Array.toList h
  · intro h
    refine ⟨?_, by rw [h]⟩
    have := congrArg List.length h
    rw [List.length_take, List.length_drop] at this
    omega
theorem find_congr {p q : Nat → Bool} : ∀ {l : List Nat}, (∀ a ∈ l, p a = q a) → l.find? p = l.find? q
  | [], _ => rfl
  | a :: l, h => by
    rw [List.find?_cons, List.find?_cons, h a (.head _), find_congr (fun b hb => h b (.tail _ hb))]
theorem found_fnd (t y : List Nat) (a : Nat) : foundAt ⟨t.toArray⟩ ⟨y.toArray⟩ a = match fnd t y a with | some k => (k : Int) | none => -1 := by
  have l2 : (⟨t.toArray⟩ : PySem.Str).length = t.length := by simp [PySem.Str.length]
  have h := occ_find ⟨t.toArray⟩ ⟨y.toArray⟩ (⟨t.toArray⟩ : PySem.Str).length (List.range' a ((⟨t.toArray⟩ : PySem.Str).length + 1 - a)) a (fun b hb => (List.mem_range'_1.mp hb).1)
  rw [← StrLaws.occ_eq] at h
  unfold foundAt
  rw [h]
  unfold fnd
  have e : ((List.range' a ((⟨t.toArray⟩ : PySem.Str).length + 1 - a)).find? fun i => decide (i + (⟨y.toArray⟩ : PySem.Str).length ≤ (⟨t.toArray⟩ : PySem.Str).length) && subAt ⟨t.toArray⟩ ⟨y.toArray⟩ i) =
      (List.range' a (t.length + 1 - a)).find? fun i => y.isPrefixOf (t.drop i) := by
    rw [← l2]
    refine find_congr fun i hi => ?_
    have := List.mem_range'_1.mp hi
    exact sub_pre t y i (by omega)
  rw [e]
  cases (List.range' a (t.length + 1 - a)).find? fun i => y.isPrefixOf (t.drop i) <;> rfl
def emL (t : List Nat) : List (List Nat) → Nat → Bool
  | [], _ => true
  | y :: r, st => match fnd t y st with
    | none => false
    | some k => emL t r (k + y.length)
def posL (t : List Nat) : List (List Nat) → Nat → Option Nat
  | [], st => some st
  | y :: r, st => match fnd t y st with
    | none => none
    | some k => posL t r (k + y.length)
def mk (l : List Nat) : PySem.Str := ⟨l.toArray⟩
theorem emGo_emL (t : List Nat) : ∀ (ps : List (List Nat)) (st : Nat), emGo (mk t) (ps.map mk) st = emL t ps st
  | [], _ => rfl
  | y :: r, st => by
    have l1 : (mk y).length = y.length := by simp [mk, PySem.Str.length]
    show (if foundAt (mk t) (mk y) st < 0 then false else emGo (mk t) (r.map mk) ((foundAt (mk t) (mk y) st).toNat + (mk y).length)) = _
    have h : foundAt (mk t) (mk y) st = _ := found_fnd t y st
    rw [h, l1]
    unfold emL
    cases fnd t y st with
    | none => rfl
    | some k =>
      show (if (k : Int) < 0 then false else emGo (mk t) (r.map mk) ((k : Int).toNat + y.length)) = emL t r (k + y.length)
      rw [if_neg (by omega)]
      exact emGo_emL t r (k + y.length)
theorem emL_app (t : List Nat) (qs : List (List Nat)) : ∀ (ps : List (List Nat)) (st : Nat), emL t (ps ++ qs) st = match posL t ps st with | none => false | some k => emL t qs k
  | [], _ => rfl
  | y :: r, st => by
    rw [List.cons_append]
    show (match fnd t y st with | none => false | some k => emL t (r ++ qs) (k + y.length)) = (match (match fnd t y st with | none => none | some k => posL t r (k + y.length)) with | none => false | some k => emL t qs k)
    cases fnd t y st with
    | none => rfl
    | some k => exact emL_app t qs r (k + y.length)
/-- the seven words -/
def wrdN : List (List Nat) := [[], [97], [98], [97, 97], [97, 98], [98, 97], [98, 98]]
def wn (i : Nat) : List Nat := wrdN.getD i []
def wrd (i : Nat) : PySem.Str := mk (wn i)
/-- the text -/
def txtL (n : Nat) : List Nat := (List.range 5).map fun k => 97 + n / 2 ^ k % 2
def txt (n : Nat) : PySem.Str := mk (txtL n)
def barN (n k : Nat) : List Nat := (txtL n).take k ++ 124 :: (txtL n).drop k
def bar (n k : Nat) : PySem.Str := mk (barN n k)
def barsL (n : Nat) : List PySem.Str := (List.range 6).map (bar n)
def sg (w : List Nat) : List (List Nat) := w.map fun c => [c]
def p1 (i : Nat) : List (List Nat) := [] :: sg (wn i) ++ [[124], []]
def p2 (i : Nat) : List (List Nat) := [] :: [124] :: sg (wn i) ++ [[]]
def p3 (i j : Nat) : List (List Nat) := ([] :: sg (wn i) ++ [[124]]) ++ (sg (wn j) ++ [[]])
def fst (n i : Nat) : Nat := walkedP (wn i) (txtL n)
def pst (n i : Nat) : Nat := 6 - walkedP (wn i).reverse (txtL n).reverse
theorem e1 : ∀ n < 32, ∀ i < 7, fst n i ≤ 6 ∧ ∀ k < 6, emL (barN n k) (p1 i) 0 = decide (fst n i ≤ k) := by decide +kernel
theorem e2 : ∀ n < 32, ∀ i < 7, walkedP (wn i).reverse (txtL n).reverse ≤ 6 ∧ ∀ k < 6, emL (barN n k) (p2 i) 0 = decide (k < pst n i) := by decide +kernel
theorem e3 : ∀ n < 32, ∀ i < 7, ∀ k < 6, fst n i ≤ k → posL (barN n k) ([] :: sg (wn i) ++ [[124]]) 0 = some (k + 1) := by decide +kernel
theorem e4 : ∀ n < 32, ∀ i < 7, ∀ k < 6, k < pst n i → emL (barN n k) (sg (wn i) ++ [[]]) (k + 1) = true := by decide +kernel
theorem q1 : ∀ i < 7, Txt.split (dotted (wrd i) ++ Str.ofString "|...") (Str.ofString "...") = (p1 i).map mk := by decide +kernel
theorem q2 : ∀ i < 7, Txt.split (Str.ofString "...|" ++ dotted (wrd i)) (Str.ofString "...") = (p2 i).map mk := by decide +kernel
theorem q3 : ∀ i < 7, ∀ j < 7, Txt.split (dotted (wrd i) ++ Str.ofString "|" ++ dotted (wrd j)) (Str.ofString "...") = (p3 i j).map mk := by decide +kernel
end Mine
end
section
open PySem PySem.W PyProof.Rows
theorem Mine.freshPt {M : Model} {A : Around} {Q : Flow → Shared → Prop} {E : Value → Shared → Prop} {s : Shared} {env : Env} (h : wpAny M A (execs [] env) Q E s) : wpAny M A (execs [] env) Q E s := by
  w_top off
  first | (walk1; fail) | exact h
end
section
open PySem PySem.W PyProof.Rows
set_option Elab.async false
set_option maxRecDepth 100000
namespace Mine
def nOf (z : Int) : Nat := (z % 32).toNat
theorem nOf_lt (z : Int) : nOf z < 32 := by unfold nOf; omega
theorem bit (z : Int) : ∀ k, k < 5 → (z.fdiv (2 ^ k)).fmod 2 = ((nOf z / 2 ^ k % 2 : Nat) : Int) := by
  intro k hk
  rw [Int.fdiv_eq_ediv_of_nonneg _ (Int.pow_nonneg (by decide)), Int.fmod_eq_emod_of_nonneg _ (by decide)]
  unfold nOf
  rcases k with _ | _ | _ | _ | _ | k
  · simp only [Nat.pow_zero, Int.pow_zero]; omega
  · simp only [Nat.zero_add, Nat.pow_one, Int.pow_succ, Int.pow_zero]; omega
  · simp only [show ((2:Int) ^ (0 + 1 + 1)) = 4 by decide, show ((2:Nat) ^ (0 + 1 + 1)) = 4 by decide]; omega
  · simp only [show ((2:Int) ^ (0 + 1 + 1 + 1)) = 8 by decide, show ((2:Nat) ^ (0 + 1 + 1 + 1)) = 8 by decide]; omega
  · simp only [show ((2:Int) ^ (0 + 1 + 1 + 1 + 1)) = 16 by decide, show ((2:Nat) ^ (0 + 1 + 1 + 1 + 1)) = 16 by decide]; omega
  · omega
theorem item01 : ∀ b < 2, Txt.item (Str.ofString "ab") ((b : Nat) : Int) = mk [97 + b] := by decide +kernel
theorem txt_join (z : Int) : Txt.join (Str.ofString "") ((List.range 5).map fun k => Txt.item (Str.ofString "ab") ((z.fdiv (2 ^ k)).fmod 2)) = txt (nOf z) := by
  have e : ((List.range 5).map fun k => Txt.item (Str.ofString "ab") ((z.fdiv (2 ^ k)).fmod 2)) = (List.range 5).map fun k => mk [97 + nOf z / 2 ^ k % 2] := by
    refine List.map_congr_left fun k hk => ?_
    have := List.mem_range.mp hk
    rw [bit z k this]
    exact item01 _ (Nat.mod_lt _ (by decide))
  rw [e]
  rfl
theorem txt_len (n : Nat) : (txt n).length = 5 := by simp [txt, mk, txtL, PySem.Str.length]
/-- the numbers -/
def numsOf (ns : List Int) : List Int := ns.take 7 ++ [11, 34, 44, 17, 26].drop ns.length
theorem nums_len (ns : List Int) : (numsOf ns).length ≤ 7 := by
  unfold numsOf
  rw [List.length_append, List.length_take, List.length_drop]
  simp only [List.length_cons, List.length_nil]
  omega
def ix (x : Int) : Nat := (x % 7).toNat
def iy (x : Int) : Nat := ((x / 7) % 7).toNat
theorem ix_lt (x : Int) : ix x < 7 := by unfold ix; omega
theorem iy_lt (x : Int) : iy x < 7 := by unfold iy; omega
theorem ix_eq (x : Int) : x.fmod 7 = (ix x : Int) := by
  rw [Int.fmod_eq_emod_of_nonneg _ (by decide)]; unfold ix; omega
theorem iy_eq (x : Int) : (x.fdiv 7).fmod 7 = (iy x : Int) := by
  rw [Int.fdiv_eq_ediv_of_nonneg _ (by decide), Int.fmod_eq_emod_of_nonneg _ (by decide)]; unfold iy; omega
theorem bar_eq : ∀ n < 32, ∀ k < 6, Txt.slice (txt n) none (some ((k : Nat) : Int)) ++ Str.ofString "|" ++ Txt.slice (txt n) (some ((k : Nat) : Int)) none = bar n k := by decide +kernel
end Mine
end
section
open PySem PySem.W PyProof.Rows
theorem Mine.freshPt2 {M : Model} {A : Around} {Q : Flow → Shared → Prop} {E : Value → Shared → Prop} {s : Shared} {env : Env} (h : wpAny M A (execs [] env) Q E s) : wpAny M A (execs [] env) Q E s := by
  w_top off
  first | (walk1; fail) | exact h
end
section
open PySem PySem.W PyProof.Rows
set_option Elab.async false
set_option maxRecDepth 100000
namespace Mine
theorem pa1 : ∀ i < 7, (dotted (wrd i) ++ Str.ofString "|...").length ≤ 1000 ∧ (Builtin.Str.occurrences (dotted (wrd i) ++ Str.ofString "|...") (Str.ofString "...") 0 (dotted (wrd i) ++ Str.ofString "|...").length 1).isEmpty = false ∧
    2 ≤ ((p1 i).map mk).length ∧ ((p1 i).map mk).length ≤ 1000 ∧ ((p1 i).map mk).getD 0 (Str.ofString "x") = Str.ofString "" ∧ ((p1 i).map mk).getD (((p1 i).map mk).length - 1) (Str.ofString "x") = Str.ofString "" := by decide +kernel
theorem pa2 : ∀ i < 7, (Str.ofString "...|" ++ dotted (wrd i)).length ≤ 1000 ∧ (Builtin.Str.occurrences (Str.ofString "...|" ++ dotted (wrd i)) (Str.ofString "...") 0 (Str.ofString "...|" ++ dotted (wrd i)).length 1).isEmpty = false ∧
    2 ≤ ((p2 i).map mk).length ∧ ((p2 i).map mk).length ≤ 1000 ∧ ((p2 i).map mk).getD 0 (Str.ofString "x") = Str.ofString "" ∧ ((p2 i).map mk).getD (((p2 i).map mk).length - 1) (Str.ofString "x") = Str.ofString "" := by decide +kernel
theorem patOk1 {i : Nat} (hi : i < 7) : PatOk (dotted (wrd i) ++ Str.ofString "|...") ((p1 i).map mk) := by
  obtain ⟨a, b, c, d, e, f⟩ := pa1 i hi
  exact ⟨a, b, q1 i hi, c, d, e, f⟩
theorem patOk2 {i : Nat} (hi : i < 7) : PatOk (Str.ofString "...|" ++ dotted (wrd i)) ((p2 i).map mk) := by
  obtain ⟨a, b, c, d, e, f⟩ := pa2 i hi
  exact ⟨a, b, q2 i hi, c, d, e, f⟩
theorem bars_len (n : Nat) : (barsL n).length = 6 := by simp [barsL]
theorem bars_at {n k : Nat} (hk : k < 6) (d : PySem.Str) : (barsL n).getD k d = bar n k := by
  simp [barsL, List.getD_eq_getElem?_getD, hk]
theorem bar_len {n k : Nat} : (bar n k).length = 6 := by
  simp only [bar, mk, PySem.Str.length, List.size_toArray, barN, List.length_append, List.length_take, List.length_cons, List.length_drop, txtL, List.length_map, List.length_range]
  omega
theorem bars_few {n : Nat} : ∀ G ∈ barsL n, G.length ≤ 1000 := by
  intro G hG
  obtain ⟨k, _, rfl⟩ := List.mem_map.mp hG
  rw [bar_len]; decide
theorem em1 {n i k : Nat} (hn : n < 32) (hi : i < 7) (hk : k < (barsL n).length) : emGo ((barsL n).getD k (Str.ofString "x")) ((p1 i).map mk) 0 = decide (fst n i ≤ k) := by
  rw [bars_len] at hk
  rw [bars_at hk]
  exact (emGo_emL _ _ _).trans ((e1 n hn i hi).2 k hk)
theorem em2 {n i k : Nat} (hn : n < 32) (hi : i < 7) (hk : k < (barsL n).length) : emGo ((barsL n).getD k (Str.ofString "x")) ((p2 i).map mk) 0 = decide (k < pst n i) := by
  rw [bars_len] at hk
  rw [bars_at hk]
  exact (emGo_emL _ _ _).trans ((e2 n hn i hi).2 k hk)
theorem fst_le {n i : Nat} (hn : n < 32) (hi : i < 7) : fst n i ≤ 6 := (e1 n hn i hi).1
theorem pst_le {n i : Nat} : pst n i ≤ 6 := Nat.sub_le _ _
theorem w_len : ∀ i < 7, (wrd i).length ≤ 100 ∧ (dotted (wrd i)).length ≤ 500 := by decide +kernel
theorem w_ascii : ∀ i < 7, (wrd i).cps.all (· < 128) = true := by decide +kernel
theorem rev_w0 : ∀ i < 7, Txt.sliceBy (wrd i) none none (-1, 0) = mk (wn i).reverse := by decide +kernel
theorem rev_w {i : Nat} (hi : i < 7) (u : Tok) : Txt.sliceBy (wrd i) none none (-1, u) = mk (wn i).reverse := rev_w0 i hi
theorem rev_t0 : ∀ n < 32, Txt.sliceBy (txt n) none none (-1, 0) = mk (txtL n).reverse := by decide +kernel
theorem rev_t {n : Nat} (hn : n < 32) (u : Tok) : Txt.sliceBy (txt n) none none (-1, u) = mk (txtL n).reverse := rev_t0 n hn
theorem w_ascii2 : ∀ i < 7, (mk (wn i).reverse).cps.all (· < 128) = true ∧ (mk (wn i).reverse).length ≤ 1000 := by decide +kernel
theorem sz_ok {k : Nat} (h : k ≤ 1000) : k ≤ sizeLine := by unfold sizeLine; omega
def spn (n : Nat) (x : Int) : Int × Int := ((fst n (ix x) : Nat), (pst n (iy x) : Nat))
/-- the pattern of both words, at a bar -/
theorem em3 {n i j k : Nat} (hn : n < 32) (hi : i < 7) (hj : j < 7) (hk : k < 6) (h1 : fst n i ≤ k) (h2 : k < pst n j) : emGo (bar n k) ((p3 i j).map mk) 0 = true := by
  refine (emGo_emL (barN n k) _ _).trans ?_
  unfold p3
  rw [emL_app, e3 n hn i hi k hk h1]
  exact e4 n hn j hj k hk h2
theorem pa3 : ∀ i < 7, ∀ j < 7, (dotted (wrd i) ++ Str.ofString "|" ++ dotted (wrd j)).length ≤ 1000 ∧ (Builtin.Str.occurrences (dotted (wrd i) ++ Str.ofString "|" ++ dotted (wrd j)) (Str.ofString "...") 0 (dotted (wrd i) ++ Str.ofString "|" ++ dotted (wrd j)).length 1).isEmpty = false ∧
    2 ≤ ((p3 i j).map mk).length ∧ ((p3 i j).map mk).length ≤ 1000 ∧ ((p3 i j).map mk).getD 0 (Str.ofString "x") = Str.ofString "" ∧ ((p3 i j).map mk).getD (((p3 i j).map mk).length - 1) (Str.ofString "x") = Str.ofString "" := by decide +kernel
theorem patOk3 {i j : Nat} (hi : i < 7) (hj : j < 7) : PatOk (dotted (wrd i) ++ Str.ofString "|" ++ dotted (wrd j)) ((p3 i j).map mk) := by
  obtain ⟨a, b, c, d, e, f⟩ := pa3 i hi j hj
  exact ⟨a, b, q3 i hi j hj, c, d, e, f⟩
end Mine
end
section
open PySem PySem.W PyProof.Rows
theorem Mine.freshPt3 {M : Model} {A : Around} {Q : Flow → Shared → Prop} {E : Value → Shared → Prop} {s : Shared} {env : Env} (h : wpAny M A (execs [] env) Q E s) : wpAny M A (execs [] env) Q E s := by
  w_top off
  first | (walk1; fail) | exact h
end
section
open PySem PySem.W PyProof.Rows PyProof.Rows.LCg PyProof.Rows.LCp
set_option Elab.async false
set_option maxRecDepth 100000
namespace Mine
def lawDefOf {q : Program} {l : List PySem.Str} {XP : (PySem.Str → Option Value) → Heap → Prop} {YP : World → Heap → Prop} {r : RowW} {d : DefRec} {k : List (PySem.Str × PySem.Expr)} {c : Value → List Value → Sem Value} {P : Prop} (_ : WalkO q l XP YP r d k c → P) : DefRec := d
def lawD : DefRec := lawDefOf hd
def LawQ (gg : Heap) (L : Addr) (s : Shared) (f : Flow) (s' : Shared) : Prop :=
  ∃ (h' : Heap) (tk : Nat) (m' : Nm → Option Value) (ps : Array Value) (rest : Led), f = .ret (.bool true) ∧ s' = { s with heap := h', toks := tk } ∧ Fr gg L h' m' ∧ News gg L h' ((83, tabObj ps) :: rest)
theorem strs_snoc {vs : List Value} {l : List PySem.Str} (h : StrsAre vs l) (x : PySem.Str) (t : Tok) : StrsAre (vs ++ [.str x t]) (l ++ [x]) := by
  induction h with
  | nil => exact .cons x t .nil
  | cons y u _ ih => exact .cons y u ih
theorem strs_carried {vs : List Value} {l : List PySem.Str} (h : StrsAre vs l) : CarriedAll vs (l.map fun a => PyData.str a) := by
  induction h with
  | nil => exact .nil
  | cons y u _ ih => exact .cons (.str y u) ih
theorem st_loc {M : Model} {A : Around} {E : Value → Shared → Prop} {s : Shared} {h₀ : Heap} {L : Addr} {m : Nm → Option Value} {news : Led} {v : Value} {env : Env} {x : Nm} {Q : Unit → Shared → Prop}
    (F : Fr h₀ L s.heap m) (N : News h₀ L s.heap news)
    (h : ∀ h' tk, Fr h₀ L h' (fun y => if y = x then some v else m y) → News h₀ L h' news → Q () { s with heap := h', toks := tk })
    (he : env.locals = L) (hk : env.kindOf x = some .local) (hp : (env.scope.kind == .class || (env.scope.kind == .module && env.locals != env.globals)) = false) : wpAny M A (storeName env x v) Q E s := by
  subst he
  refine wpAny_storeName_local hk F.ns (fun h₂ hn₂ hs₂ => ?_) hp
  have hL₀ : h₀.get? env.locals = none := Heap.get?_none_of_le F.above
  exact h h₂ _ ⟨hn₂, fun b o e => hs₂.extBut b o (fun q => by rw [q, hL₀] at e; cases e) (F.keep b o e), F.above⟩ (fun p hp => ⟨hs₂.extBut _ _ (N p hp).2.1 (N p hp).1, (N p hp).2⟩)
theorem off_nil {c : Addr} : ∀ q ∈ ([] : Led), q.1 ≠ c := fun _ h => nomatch h
theorem off_cons {c : Addr} {p : Addr × Obj} {l : Led} (h : @Ne Nat p.1 c) (hl : ∀ q ∈ l, q.1 ≠ c) : ∀ q ∈ p :: l, q.1 ≠ c := fun q hq => (List.mem_cons.mp hq).elim (fun e => e ▸ h) (hl q)
end Mine
end
section
open PySem PySem.W PyProof.Rows
theorem Mine.freshLh {M : Model} {A : Around} {Q : Flow → Shared → Prop} {E : Value → Shared → Prop} {s : Shared} {env : Env} (h : wpAny M A (execs [] env) Q E s) : wpAny M A (execs [] env) Q E s := by
  w_top off
  first | (walk1; fail) | exact h
end
section
open PySem PySem.W PyProof.Rows PyProof.Rows.LCg PyProof.Rows.LCp
set_option Elab.async false
set_option maxRecDepth 100000
set_option maxHeartbeats 2000000
namespace Mine
local macro_rules | `(tactic| walk_at "execs cons") => `(tactic| refine Mine.halt ?_)
local macro_rules | `(tactic| walk_at "eval ListComp") => `(tactic| refine Mine.halt ?_)
local macro_rules | `(tactic| walk_at "exec For Name Call cons nil") => `(tactic| refine Mine.halt ?_)
local macro_rules | `(tactic| walk_at "CompSrc") => `(tactic| refine Mine.halt ?_)
local macro_rules | `(tactic| walk_at "storeName") => `(tactic| refine Mine.halt ?_)
local macro_rules | `(tactic| walk_at "pyIter ref") => `(tactic| refine Mine.halt ?_)
local macro_rules | `(tactic| walk_at "call ref") => `(tactic| refine Mine.halt ?_)
local macro_rules | `(tactic| walk_at "eval Name") => `(tactic| ((with_reducible show wpAny _ _ (eval (Expr.Name _ _) (compEnvC _ _ _ _)) _ _ _); refine kcf_cell (by assumption) (by rfl) (by assumption) (by assumption) ?_))
local macro_rules | `(tactic| walk_at "eval Name") => `(tactic| ((with_reducible show wpAny _ _ (eval (Expr.Name _ _) (envOfC _ _ _ _ _)) _ _ _); refine nameX_C (by assumption) (by rfl) (by assumption) (by assumption) ?_))
section
theorem seg3 {w : World} {p : Program} {loose : List PySem.Str} {mean : ExcName → Option Value} {mg mb : PySem.Str → Option Value} {gg : Heap} {L fa : Addr} {cd : Value} {s : Shared} {n : Nat} {t : Tok} {m : Nm → Option Value} {o2 o4 : Obj} {led : Led} {Q : Flow → Shared → Prop} {E : Value → Shared → Prop}
    (X : (hd.heap_39 w.params).In gg) (T : Top p loose mean mg mb gg) (hn : n < 32)
    (F : Fr gg L s.heap m) (N : News gg L s.heap ((L + 1 + 1 + 1 + 1, o4) :: led)) (hoff : ∀ q ∈ led, q.1 ≠ L + 1 + 1 + 1 + 1) (hm2 : (L + 1 + 1, o2) ∈ led)
    (d2 : o2.data = .cell (some (.str (txt n) t))) (d4 : o4.data = .cell none)
    (next : ∀ h' tk o4' lb bvs, Fr gg L h' m → News gg L h' ((lb, listOf bvs.toArray bvs.length) :: (L + 1 + 1 + 1 + 1, o4') :: led) → StrsAre bvs (barsL n) → o4'.data = .cell (some (.ref lb)) → (∀ q ∈ led, q.1 ≠ lb) → L + 1 + 1 + 1 + 1 ≠ lb →
      wpAny (model Challenge.rw_qu0035_01.row.prog w) (callerA.deeper (envOfC lawD.name lawD.scope L fa cd)) (execs (lawD.body.drop 5) (envOfC lawD.name lawD.scope L fa cd)) Q E { s with heap := h', toks := tk }) :
    wpAny (model Challenge.rw_qu0035_01.row.prog w) (callerA.deeper (envOfC lawD.name lawD.scope L fa cd)) (execs (lawD.body.drop 4) (envOfC lawD.name lawD.scope L fa cd)) Q E s := by
  have hQ : Challenge.rw_qu0035_01.row.prog = Challenge.rw_qu0035_01.prog := rfl
  revert X hQ
  k_fill
  intro X hQ
  clear hQ
  have next' := next
  clear next
  revert next'
  unfold lawD lawDefOf
  dsimp only [List.drop]
  intro next
  refine wpAny_execs_cons ?_
  k_steps
  unfold Halt
  refine ListComp_U F rfl (by decide) rfl (by decide) rfl ?_
  k_steps
  unfold Halt
  rename IsRange _ _ _ _ _ _ _ _ => R1
  rename Fr _ _ _ _ => F1
  rename News _ _ _ _ => N1
  have hms : (L + 1 + 1, o2) ∈ ((L + 1 + 1 + 1 + 1, o4) :: led) := .tail _ hm2
  have htl := txt_len n
  refine CompSrc.range (n := 6) rfl F1 N1 R1 (by decide) (by decide) (by decide) (fun g => rest_U (n := 6) (fun i ys nw => nw = ((L + 1 + 1 + 1 + 1, o4) :: led) ∧ StrsAre ys ((List.range i).map (bar n))) ?_ ?_ 6 0 [] _ rfl ⟨rfl, .nil⟩)
  · rintro i ys nw hi ⟨rfl, hys⟩ v I oI C oC D m₂ h tk E' ⟨tv, rfl⟩ hoC hx F2 N2 o3 o4'
    have hms2 : (L + 1 + 1, o2) ∈ ((I, oI) :: (C, oC) :: (D, lst ys) :: (L + 1 + 1 + 1 + 1, o4) :: led) := .tail _ (.tail _ (.tail _ hms))
    rw [show (0 : Int) + (i : Int) = ((i : Nat) : Int) by omega] at hx
    clear next
    k_steps
    rename Fr _ _ _ _ => F3
    rename News _ _ _ _ => N3
    refine CompEnd.intro F3 N3 _ (fun _ h => h) o3 trivial ⟨rfl, ?_⟩
    rw [bar_eq n hn i hi, List.range_succ, List.map_append]
    exact strs_snoc hys _ _
  · rintro ys nw ⟨rfl, hys⟩ D h tk F2 N2 of1
    have of2 := off1_of of1
    k_steps
    unfold Halt
    refine ru_cell (c := L + 1 + 1 + 1 + 1) (rest := (D, lst ys) :: led) F2 (nsub N2 ?_) (off_cons (of2 _ (.head _)).symm hoff) d4 ?_ rfl rfl rfl
    · ((repeat' (first | exact sub_nil | refine sub_cons ?_ ?_ | refine sub_app ?_ ?_)) <;> (try intro q hq) <;> (first | ((repeat (first | exact List.Mem.head _ | assumption | exact List.mem_append_left _ (by assumption) | refine List.Mem.tail _ ?_ | refine List.mem_append_right _ ?_)); done) | simp [*]))
    intro h3 o4' F4 N4 d4'
    refine next _ _ o4' D ys F4 (nsub N4 ?_) hys d4' (fun q hq => of2 q (.tail _ hq)) (of2 _ (.head _))
    ((repeat' (first | exact sub_nil | refine sub_cons ?_ ?_ | refine sub_app ?_ ?_)) <;> (try intro q hq) <;> (first | ((repeat (first | exact List.Mem.head _ | assumption | exact List.mem_append_left _ (by assumption) | refine List.Mem.tail _ ?_ | refine List.mem_append_right _ ?_)); done) | simp [*]))
end
local macro_rules | `(tactic| walk_at "exec Assign cons ListComp") => `(tactic| refine Mine.halt ?_)
theorem freshLseg3 {M : Model} {A : Around} {Q : Flow → Shared → Prop} {E : Value → Shared → Prop} {s : Shared} {env : Env} (h : wpAny M A (execs [] env) Q E s) : wpAny M A (execs [] env) Q E s := by
  w_top off
  first | (walk1; fail) | exact h
section
abbrev lawM (a b c d e f g h : Option Value) : Nm → Option Value := mpL [(Str.ofString "numbers", a), (Str.ofString "x", b), (Str.ofString "pairs", c), (Str.ofString "spans", d), (Str.ofString "y", e), (Str.ofString "served", f), (Str.ofString "place", g), (Str.ofString "e", h)]
theorem seg0 {w : World} {p : Program} {loose : List PySem.Str} {mean : ExcName → Option Value} {mg mb : PySem.Str → Option Value} {base gg : Heap} {L fa lsc : Addr} {cd : Value} {s : Shared} {vs : List Value} {ns : List Int} {o1 o2 o3 o4 o5 : Obj} {Q : Flow → Shared → Prop} {E : Value → Shared → Prop}
    (B : Below callerA base [] gg) (X : (hd.heap_39 w.params).In gg) (T : Top p loose mean mg mb gg) (hsc : gg.IsList lsc vs.toArray) (hI : IntsAre vs ns) (hlen : ns.length ≤ 63)
    (F : Fr gg L s.heap (lawM none none none none none none none none)) (N : News gg L s.heap [(L + 1 + 1 + 1 + 1 + 1, o5), (L + 1 + 1 + 1 + 1, o4), (L + 1 + 1 + 1, o3), (L + 1 + 1, o2), (L + 1, o1), (83, tabObj #[])])
    (d1 : o1.data = .cell (some (.ref lsc))) (d2 : o2.data = .cell none) (l0 : 83 < L)
    (next : ∀ h' tk o2' t, Fr gg L h' (lawM none none none none none none none none) → News gg L h' [(L + 1 + 1 + 1 + 1 + 1, o5), (L + 1 + 1 + 1 + 1, o4), (L + 1 + 1 + 1, o3), (L + 1 + 1, o2'), (L + 1, o1), (83, tabObj #[])] → o2'.data = .cell (some (.str (txt (nOf (ns.sum + 22))) t)) →
      wpAny (model Challenge.rw_qu0035_01.row.prog w) (callerA.deeper (envOfC lawD.name lawD.scope L fa cd)) (execs (lawD.body.drop 1) (envOfC lawD.name lawD.scope L fa cd)) Q E { s with heap := h', toks := tk }) :
    wpAny (model Challenge.rw_qu0035_01.row.prog w) (callerA.deeper (envOfC lawD.name lawD.scope L fa cd)) (execs lawD.body (envOfC lawD.name lawD.scope L fa cd)) Q E s := by
  have hQ : Challenge.rw_qu0035_01.row.prog = Challenge.rw_qu0035_01.prog := rfl
  revert X hQ
  k_fill
  intro X hQ
  clear hQ
  have next' := next
  clear next
  revert next'
  unfold lawD lawDefOf
  dsimp only
  intro next
  refine wpAny_execs_cons ?_
  k_steps
  unfold Halt
  have hms : (L + 1, o1) ∈ [(L + 1 + 1 + 1 + 1 + 1, o5), (L + 1 + 1 + 1 + 1, o4), (L + 1 + 1 + 1, o3), (L + 1 + 1, o2), (L + 1, o1), (83, tabObj #[])] := by simp
  generalize hled : [(L + 1 + 1 + 1 + 1 + 1, o5), (L + 1 + 1 + 1 + 1, o4), (L + 1 + 1 + 1, o3), (L + 1 + 1, o2), (L + 1, o1), (83, tabObj #[])] = led at N hms
  refine ListComp_U F rfl (by decide) rfl (by decide) rfl ?_
  k_steps
  unfold Halt
  rename IsRange _ _ _ _ _ _ _ _ => R1
  rename Fr _ _ _ _ => F1
  rename News _ _ _ _ => N1
  refine CompSrc.range (n := 5) rfl F1 N1 R1 (by decide) (by decide) (by decide) (fun g => rest_U (n := 5) (fun i ys nw => nw = led ∧ StrsAre ys ((List.range i).map fun k => Txt.item (Str.ofString "ab") (((ns.sum + 22).fdiv (2 ^ k)).fmod 2))) ?_ ?_ 5 0 [] led rfl ⟨rfl, .nil⟩)
  · rintro i ys nw hi ⟨rfl, hys⟩ v I oI C oC D m₂ h tk E' ⟨t, rfl⟩ hoC hx F2 N2 o3 o4
    have hms2 : (L + 1, o1) ∈ ((I, oI) :: (C, oC) :: (D, lst ys) :: nw) := by simp [hms]
    rw [show (0 : Int) + (i : Int) = ((i : Nat) : Int) by omega] at hx
    clear next
    k_steps
    rename Fr _ _ _ _ => F3
    rename News _ _ _ _ => N3
    refine CompEnd.intro F3 N3 nw (fun _ h => h) o3 trivial ⟨rfl, ?_⟩
    rw [List.range_succ, List.map_append]
    exact strs_snoc hys _ _
  · rintro ys nw ⟨rfl, hys⟩ D h tk F2 N2 of1
    k_steps
    refine KT.join_1 (l := (List.range 5).map fun k => Txt.item (Str.ofString "ab") (((ns.sum + 22).fdiv (2 ^ k)).fmod 2)) (g := fun x => x) (PySem.IsL.isList (n := ys.length) (N2 _ (.head _)).1) (strs_carried hys) ?_ (by simp) ?_
    · intro a ha
      obtain ⟨k, _, rfl⟩ := List.mem_map.mp ha
      rfl
    intro tj kj _
    rw [List.map_id', txt_join]
    have l0n : @LT.lt Nat _ 83 L := l0
    subst hled
    obtain ⟨nD5, nD4, nD3, nD2, nD1, nD0, _⟩ := of1
    (try dsimp only)
    k_steps
    unfold Halt
    refine ru_cell (c := L + 1 + 1) (rest := [(L + 1 + 1 + 1 + 1 + 1, o5), (L + 1 + 1 + 1 + 1, o4), (L + 1 + 1 + 1, o3), (L + 1, o1), (83, tabObj #[])]) F2 (nsub N2 (by ((repeat' (first | exact sub_nil | refine sub_cons ?_ ?_ | refine sub_app ?_ ?_)) <;> (try intro q hq) <;> (first | ((repeat (first | exact List.Mem.head _ | assumption | exact List.mem_append_left _ (by assumption) | refine List.Mem.tail _ ?_ | refine List.mem_append_right _ ?_)); done) | simp [*])))) (by ((repeat' (first | exact off_nil | refine off_cons ?_ ?_)); all_goals (first | assumption | exact Ne.symm (by assumption) | (dsimp only; omega) | skip))) d2 ?_ rfl rfl rfl
    intro h2 o2' F3 N3 d2'
    exact next _ _ o2' _ F3 (nsub N3 (by ((repeat' (first | exact sub_nil | refine sub_cons ?_ ?_ | refine sub_app ?_ ?_)) <;> (try intro q hq) <;> (first | ((repeat (first | exact List.Mem.head _ | assumption | exact List.mem_append_left _ (by assumption) | refine List.Mem.tail _ ?_ | refine List.mem_append_right _ ?_)); done) | simp [*])))) d2'
end
theorem freshLseg0 {M : Model} {A : Around} {Q : Flow → Shared → Prop} {E : Value → Shared → Prop} {s : Shared} {env : Env} (h : wpAny M A (execs [] env) Q E s) : wpAny M A (execs [] env) Q E s := by
  w_top off
  first | (walk1; fail) | exact h
section
local macro_rules | `(tactic| kmk_nums) => `(tactic| exact kmk_from (by l_ints) (by omega))
theorem seg1 {w : World} {p : Program} {loose : List PySem.Str} {mean : ExcName → Option Value} {mg mb : PySem.Str → Option Value} {base gg : Heap} {L fa lsc : Addr} {cd : Value} {s : Shared} {vs : List Value} {ns : List Int} {o1 o2 o3 o4 o5 : Obj} {Q : Flow → Shared → Prop} {E : Value → Shared → Prop}
    (X : (hd.heap_39 w.params).In gg) (T : Top p loose mean mg mb gg) (hsc : gg.IsList lsc vs.toArray) (hI : IntsAre vs ns) (hlen : ns.length ≤ 63)
    (F : Fr gg L s.heap (lawM none none none none none none none none)) (N : News gg L s.heap [(L + 1 + 1 + 1 + 1 + 1, o5), (L + 1 + 1 + 1 + 1, o4), (L + 1 + 1 + 1, o3), (L + 1 + 1, o2), (L + 1, o1), (83, tabObj #[])])
    (d1 : o1.data = .cell (some (.ref lsc))) (d3 : o3.data = .cell none) (l0 : 83 < L)
    (next : ∀ h' tk o3' lw wvs lnum nvs, Fr gg L h' (lawM (some (.ref lnum)) none none none none none none none) → News gg L h' [(lnum, listOf nvs.toArray 0), (lw, listOf wvs.toArray 0), (L + 1 + 1 + 1 + 1 + 1, o5), (L + 1 + 1 + 1 + 1, o4), (L + 1 + 1 + 1, o3'), (L + 1 + 1, o2), (L + 1, o1), (83, tabObj #[])] → o3'.data = .cell (some (.ref lw)) → StrsAre wvs ((List.range 7).map wrd) → IntsAre nvs (numsOf ns) → L + 1 + 1 + 1 + 1 + 1 < lw → lw < lnum →
      wpAny (model Challenge.rw_qu0035_01.row.prog w) (callerA.deeper (envOfC lawD.name lawD.scope L fa cd)) (execs (lawD.body.drop 3) (envOfC lawD.name lawD.scope L fa cd)) Q E { s with heap := h', toks := tk }) :
    wpAny (model Challenge.rw_qu0035_01.row.prog w) (callerA.deeper (envOfC lawD.name lawD.scope L fa cd)) (execs (lawD.body.drop 1) (envOfC lawD.name lawD.scope L fa cd)) Q E s := by
  have hQ : Challenge.rw_qu0035_01.row.prog = Challenge.rw_qu0035_01.prog := rfl
  revert X hQ
  k_fill
  intro X hQ
  clear hQ
  have next' := next
  clear next
  revert next'
  unfold lawD lawDefOf
  dsimp only [List.drop]
  intro next
  refine wpAny_execs_cons ?_
  k_steps
  unfold Halt
  rename Fr _ _ _ _ => F2
  rename News _ _ _ _ => N2
  rename Addr => lw
  have l0n : @LT.lt Nat _ 83 L := l0
  rename _ ∧ _ => lwl
  obtain ⟨nD5, nD4, nD3, nD2, nD1, nD0⟩ := lwl
  have ew : (List.range 7).map wrd = [Str.ofString "", Str.ofString "a", Str.ofString "b", Str.ofString "aa", Str.ofString "ab", Str.ofString "ba", Str.ofString "bb"] := by decide +kernel
  obtain ⟨wvs, hW, N3⟩ : ∃ wvs : List Value, StrsAre wvs ((List.range 7).map wrd) ∧ News gg L _ [(lw, listOf wvs.toArray 0), (L + 1 + 1 + 1 + 1 + 1, o5), (L + 1 + 1 + 1 + 1, o4), (L + 1 + 1 + 1, o3), (L + 1 + 1, o2), (L + 1, o1), (83, tabObj #[])] := by
    refine' ⟨[.str (Str.ofString "") ?t1, .str (Str.ofString "a") ?t2, .str (Str.ofString "b") ?t3, .str (Str.ofString "aa") ?t4, .str (Str.ofString "ab") ?t5, .str (Str.ofString "ba") ?t6, .str (Str.ofString "bb") ?t7], ?h, N2⟩
    rw [ew]
    exact .cons _ _ (.cons _ _ (.cons _ _ (.cons _ _ (.cons _ _ (.cons _ _ (.cons _ _ .nil))))))
  clear N2
  refine ru_cell (c := L + 1 + 1 + 1) (rest := [(lw, listOf wvs.toArray 0), (L + 1 + 1 + 1 + 1 + 1, o5), (L + 1 + 1 + 1 + 1, o4), (L + 1 + 1, o2), (L + 1, o1), (83, tabObj #[])]) F2 (nsub N3 (by ((repeat' (first | exact sub_nil | refine sub_cons ?_ ?_ | refine sub_app ?_ ?_)) <;> (try intro q hq) <;> (first | ((repeat (first | exact List.Mem.head _ | assumption | exact List.mem_append_left _ (by assumption) | refine List.Mem.tail _ ?_ | refine List.mem_append_right _ ?_)); done) | simp [*])))) (by ((repeat' (first | exact off_nil | refine off_cons ?_ ?_)); all_goals (first | assumption | exact Ne.symm (by assumption) | (dsimp only; omega) | skip))) d3 ?_ rfl rfl rfl
  intro h3 o3' F4 N4 d3'
  clear F2 N3
  k_steps
  unfold Halt
  refine wpAny_execs_cons ?_
  have hms : (L + 1, o1) ∈ [(L + 1 + 1 + 1, o3'), (lw, listOf wvs.toArray 0), (L + 1 + 1 + 1 + 1 + 1, o5), (L + 1 + 1 + 1 + 1, o4), (L + 1 + 1, o2), (L + 1, o1), (83, tabObj #[])] := by simp
  k_steps
  unfold Halt
  rename Fr _ _ _ _ => F5
  rename News _ _ _ _ => N5
  rename_i lnum nvs _ hnv lnl
  have hnl : lw < lnum := by obtain ⟨_, _, _, _, h, _⟩ := lnl; exact h
  refine st_loc F5 N5 ?_ rfl rfl rfl
  intro h7 tk7 F7 N7
  exact next _ _ o3' lw wvs lnum nvs (fr_eq F7 (mpL_s rfl)) (nsub N7 (by ((repeat' (first | exact sub_nil | refine sub_cons ?_ ?_ | refine sub_app ?_ ?_)) <;> (try intro q hq) <;> (first | ((repeat (first | exact List.Mem.head _ | assumption | exact List.mem_append_left _ (by assumption) | refine List.Mem.tail _ ?_ | refine List.mem_append_right _ ?_)); done) | simp [*])))) d3' hW hnv nD5 hnl
end
theorem freshLseg1 {M : Model} {A : Around} {Q : Flow → Shared → Prop} {E : Value → Shared → Prop} {s : Shared} {env : Env} (h : wpAny M A (execs [] env) Q E s) : wpAny M A (execs [] env) Q E s := by
  w_top off
  first | (walk1; fail) | exact h
section
local macro_rules | `(tactic| walk_at "subscriptTail Name BinOp ref int") => `(tactic| refine Mine.halt ?_)
/-- a list of pairs of words, each in the ledger -/
def AreWs (nw : Led) (ys : List Value) (l : List (Nat × Nat)) : Prop := ys.length = l.length ∧ ∀ k, k < l.length → ∃ a t u, gt ys k = .ref a ∧ (a, tupS (wrd (l.getD k (0, 0)).1) (wrd (l.getD k (0, 0)).2) t u) ∈ nw
theorem AreWs.nil (nw : Led) : AreWs nw [] [] := ⟨rfl, fun _ h => absurd h (Nat.not_lt_zero _)⟩
theorem AreWs.mono {nw nw' : Led} {ys : List Value} {l : List (Nat × Nat)} (h : AreWs nw ys l) (hs : ∀ p ∈ nw, p ∈ nw') : AreWs nw' ys l :=
  ⟨h.1, fun k hk => by obtain ⟨a, t, u, h1, h2⟩ := h.2 k hk; exact ⟨a, t, u, h1, hs _ h2⟩⟩
theorem AreWs.snoc {nw : Led} {ys : List Value} {l : List (Nat × Nat)} {a : Addr} {x : Nat × Nat} {t u : Tok} (h : AreWs nw ys l) (hv : (a, tupS (wrd x.1) (wrd x.2) t u) ∈ nw) : AreWs nw (ys ++ [.ref a]) (l ++ [x]) := by
  refine ⟨by simp [h.1], fun i hi => ?_⟩
  simp only [List.length_append, List.length_cons, List.length_nil] at hi
  by_cases e : i < l.length
  · have h1 : gt (ys ++ [.ref a]) i = gt ys i := by simp [gt, List.getD_eq_getElem?_getD, List.getElem?_append_left (show i < ys.length by rw [h.1]; exact e)]
    have h2 : (l ++ [x]).getD i (0, 0) = l.getD i (0, 0) := by simp [List.getD_eq_getElem?_getD, List.getElem?_append_left e]
    rw [h1, h2]; exact h.2 i e
  · have e2 : i = l.length := by omega
    subst e2
    have h1 : gt (ys ++ [.ref a]) l.length = .ref a := by simp [gt, List.getD_eq_getElem?_getD, ← h.1]
    have h2 : (l ++ [x]).getD l.length (0, 0) = x := by simp [List.getD_eq_getElem?_getD]
    rw [h1, h2]; exact ⟨a, t, u, rfl, hv⟩
theorem ints_at {vs : List Value} {xs : List Int} (h : IntsAre vs xs) : ∀ (i : Nat), i < xs.length → ∃ t, gt vs i = .int (xs.getD i 0) t := by
  induction h with
  | nil => intro i hi; exact absurd hi (Nat.not_lt_zero _)
  | cons x t _ ih =>
    intro i hi
    cases i with
    | zero => exact ⟨t, rfl⟩
    | succ i =>
      obtain ⟨u, e⟩ := ih i (Nat.lt_of_succ_lt_succ hi)
      exact ⟨u, by simpa [gt] using e⟩
theorem wrd_at {wvs : List Value} (hW : StrsAre wvs ((List.range 7).map wrd)) {i : Nat} (hi : i < 7) : ∃ t, gt wvs i = .str (wrd i) t := by
  obtain ⟨t, e⟩ := strs_at hW i (wrd i) (by simpa using hi)
  refine ⟨t, e.trans ?_⟩
  congr 1
  simp [List.getD_eq_getElem?_getD, hi]
def ixy (x : Int) : Nat × Nat := (ix x, iy x)
theorem seg2 {w : World} {p : Program} {loose : List PySem.Str} {mean : ExcName → Option Value} {mg mb : PySem.Str → Option Value} {gg : Heap} {L fa lnum lw : Addr} {cd : Value} {s : Shared} {nvs wvs : List Value} {xs : List Int} {o3 : Obj} {led : Led} {Q : Flow → Shared → Prop} {E : Value → Shared → Prop}
    (X : (hd.heap_39 w.params).In gg) (T : Top p loose mean mg mb gg) (hI : IntsAre nvs xs) (hlen : xs.length ≤ 7) (hW : StrsAre wvs ((List.range 7).map wrd))
    (F : Fr gg L s.heap (lawM (some (.ref lnum)) none none none none none none none)) (N : News gg L s.heap led) (hnum : (lnum, listOf nvs.toArray 0) ∈ led) (hw : (lw, listOf wvs.toArray 0) ∈ led) (hm3 : (L + 1 + 1 + 1, o3) ∈ led)
    (d3 : o3.data = .cell (some (.ref lw)))
    (next : ∀ h' tk lp pvs tups, Fr gg L h' (lawM (some (.ref lnum)) none (some (.ref lp)) none none none none none) → News gg L h' ((lp, listOf pvs.toArray pvs.length) :: (tups ++ led)) → AreWs tups pvs (xs.map ixy) → (∀ q ∈ tups, ∀ r ∈ led, r.1 < q.1) → (∀ q ∈ tups ++ led, q.1 ≠ lp) →
      wpAny (model Challenge.rw_qu0035_01.row.prog w) (callerA.deeper (envOfC lawD.name lawD.scope L fa cd)) (execs (lawD.body.drop 4) (envOfC lawD.name lawD.scope L fa cd)) Q E { s with heap := h', toks := tk }) :
    wpAny (model Challenge.rw_qu0035_01.row.prog w) (callerA.deeper (envOfC lawD.name lawD.scope L fa cd)) (execs (lawD.body.drop 3) (envOfC lawD.name lawD.scope L fa cd)) Q E s := by
  have hQ : Challenge.rw_qu0035_01.row.prog = Challenge.rw_qu0035_01.prog := rfl
  revert X hQ
  k_fill
  intro X hQ
  clear hQ
  have next' := next
  clear next
  revert next'
  unfold lawD lawDefOf
  dsimp only [List.drop]
  intro next
  refine wpAny_execs_cons ?_
  k_steps
  unfold Halt
  refine Assign_ListComp_U F rfl rfl rfl (by decide) rfl (by decide) rfl rfl rfl ?_
  k_steps
  unfold Halt
  rename Fr _ _ _ _ => F1
  rename News _ _ _ _ => N1
  have hnl : nvs.length = xs.length := hI.length
  refine CompSrc.ledger rfl F1 N1 hnum (by rw [List.size_toArray]; unfold sizeLine; omega) (fun g => rest_U (n := nvs.toArray.size) (fun i ys nw => ∃ tups : Led, nw = tups ++ led ∧ AreWs tups ys ((xs.take i).map ixy) ∧ ∀ q ∈ tups, ∀ r ∈ led, r.1 < q.1) ?_ ?_ _ 0 [] led (by omega) ⟨[], rfl, .nil _, fun _ h => nomatch h⟩)
  · rintro i ys nw hi ⟨tups, rfl, hys, htl⟩ v I oI C oC D m₂ h tk E' hv hoC hx F2 N2 o3' o4
    have hms2 : (L + 1 + 1 + 1, o3) ∈ ((I, oI) :: (C, oC) :: (D, lst ys) :: (tups ++ led)) := by simp [hm3]
    clear next
    have hil : i < xs.length := by rw [List.size_toArray] at hi; omega
    have hwl : wvs.length = 7 := by rw [hW.length]; rfl
    obtain ⟨tx, etx⟩ := ints_at hI i hil
    have hv' : v = .int (xs.getD i 0) tx := by
      have : nvs[i]? = some v := by simpa using hv
      rw [gt_some (by omega)] at this
      rw [← etx]; exact (Option.some.inj this).symm
    subst hv'
    generalize hxi : xs.getD i 0 = x at hx
    have hwm : (lw, listOf wvs.toArray 0) ∈ ((I, oI) :: (C, oC) :: (D, lst ys) :: (tups ++ led)) := by simp [hw]
    k_steps
    unfold Halt
    rename Fr _ _ _ _ => F3
    rename News _ _ _ _ => N3
    obtain ⟨t1, et1⟩ := wrd_at hW (ix_lt x)
    refine ru_itemN (ix x) N3 hwm (ix_eq x) (by have := ix_lt x; omega) (by omega) ?_ (by with_unfolding_all rfl)
    rw [et1]
    k_steps
    unfold Halt
    rename Fr _ _ _ _ => F4
    rename News _ _ _ _ => N4
    obtain ⟨t2, et2⟩ := wrd_at hW (iy_lt x)
    refine ru_itemN (iy x) N4 hwm (iy_eq x) (by have := iy_lt x; omega) (by omega) ?_ (by with_unfolding_all rfl)
    rw [et2]
    k_steps
    rename Fr _ _ _ _ => F5
    rename News _ _ _ _ => N5
    rename_i D2 _ lD
    obtain ⟨lI, lC, lDD, lR⟩ := lD
    have lR := kst_ltOf lR
    refine CompEnd.intro F5 N5 ((D2, tupS (wrd (ix x)) (wrd (iy x)) t1 t2) :: (tups ++ led)) ?_ (off3_mono o3' ?_) (.inr ⟨_, .tail _ (List.mem_append_right _ hnum), rfl, _, rfl⟩) ⟨(D2, tupS (wrd (ix x)) (wrd (iy x)) t1 t2) :: tups, rfl, ?_, ?_⟩
    · ((repeat' (first | exact sub_nil | refine sub_cons ?_ ?_ | refine sub_app ?_ ?_)) <;> (try intro q hq) <;> (first | ((repeat (first | exact List.Mem.head _ | assumption | exact List.mem_append_left _ (by assumption) | refine List.Mem.tail _ ?_ | refine List.mem_append_right _ ?_)); done) | simp [*]))
    · intro q hq
      rcases List.mem_cons.mp hq with rfl | hq
      · exact .inr ⟨(Nat.ne_of_lt lI).symm, (Nat.ne_of_lt lC).symm, (Nat.ne_of_lt lDD).symm⟩
      · exact .inl hq
    · have e : (xs.take (i + 1)).map ixy = (xs.take i).map ixy ++ [ixy x] := by
        rw [take_snoc (d := (0 : Int)) hil, hxi, List.map_append]; rfl
      rw [e]
      exact (hys.mono fun _ h => .tail _ h).snoc (t := t1) (u := t2) (.head _)
    · intro q hq r hr
      rcases List.mem_cons.mp hq with rfl | hq
      · exact lR r (List.mem_append_right _ hr)
      · exact htl q hq r hr
  · rintro ys nw ⟨tups, rfl, hys, htl⟩ D h tk F2 N2 of1
    have hsz : nvs.toArray.size = xs.length := by rw [List.size_toArray]; exact hnl
    rw [hsz, List.take_length] at hys
    exact next _ _ D ys tups (fr_eq F2 (mpL_s rfl)) N2 hys htl (off1_of of1)
end
theorem freshLseg2 {M : Model} {A : Around} {Q : Flow → Shared → Prop} {E : Value → Shared → Prop} {s : Shared} {env : Env} (h : wpAny M A (execs [] env) Q E s) : wpAny M A (execs [] env) Q E s := by
  w_top off
  first | (walk1; fail) | exact h
section
def lamQ : PySem.Str := Str.ofString "_law_span.<locals>.<lambda>"
theorem seg4 {w : World} {p : Program} {loose : List PySem.Str} {mean : ExcName → Option Value} {mg mb : PySem.Str → Option Value} {base gg : Heap} {L fa lnum lp lb : Addr} {cd : Value} {s : Shared} {n np nb : Nat} {pvs bvs : List Value} {xs : List Int} {o4 : Obj} {rest0 : Led} {Q : Flow → Shared → Prop} {E : Value → Shared → Prop}
    (B : Below callerA base [] gg) (X : (hd.heap_39 w.params).In gg) (T : Top p loose mean mg mb gg) (C : CodeHd base 87 83) (hn : n < 32) (hlen : xs.length ≤ 7)
    (F : Fr gg L s.heap (lawM (some (.ref lnum)) none (some (.ref lp)) none none none none none)) (N : News gg L s.heap ((83, tabObj #[]) :: rest0)) (hoff : ∀ q ∈ rest0, q.1 ≠ 83)
    (hP : (lp, listOf pvs.toArray np) ∈ rest0) (hA : AreWs rest0 pvs (xs.map ixy)) (hbl : (lb, listOf bvs.toArray nb) ∈ rest0) (hbs : StrsAre bvs (barsL n)) (hm4 : (L + 1 + 1 + 1 + 1, o4) ∈ rest0) (d4 : o4.data = .cell (some (.ref lb)))
    (next : ∀ h' tk lsp svs ps ext, Fr gg L h' (lawM (some (.ref lnum)) none (some (.ref lp)) (some (.ref lsp)) none none none none) → News gg L h' ((83, tabObj ps) :: (lsp, listOf svs.toArray svs.length) :: (ext ++ rest0)) → ArePr ext svs (xs.map (spn n)) →
      (∀ q ∈ ext, ∀ r ∈ ((83, tabObj #[]) :: rest0), r.1 < q.1) → (∀ q ∈ (83, tabObj ps) :: (ext ++ rest0), q.1 ≠ lsp) →
      wpAny (model Challenge.rw_qu0035_01.row.prog w) (callerA.deeper (envOfC lawD.name lawD.scope L fa cd)) (execs (lawD.body.drop 6) (envOfC lawD.name lawD.scope L fa cd)) Q E { s with heap := h', toks := tk }) :
    wpAny (model Challenge.rw_qu0035_01.row.prog w) (callerA.deeper (envOfC lawD.name lawD.scope L fa cd)) (execs (lawD.body.drop 5) (envOfC lawD.name lawD.scope L fa cd)) Q E s := by
  have hQ : Challenge.rw_qu0035_01.row.prog = Challenge.rw_qu0035_01.prog := rfl
  revert X hQ
  k_fill
  intro X hQ
  clear hQ
  have next' := next
  clear next
  revert next'
  unfold lawD lawDefOf
  dsimp only [List.drop]
  intro next
  refine wpAny_execs_cons ?_
  k_steps
  unfold Halt
  refine Assign_ListComp_U F rfl rfl rfl (by decide) rfl (by decide) rfl rfl rfl ?_
  k_steps
  unfold Halt
  rename Fr _ _ _ _ => F1
  rename News _ _ _ _ => N1
  have hpl : pvs.length = xs.length := by rw [hA.1, List.length_map]
  refine CompSrc.ledger rfl F1 N1 (.tail _ hP) (by rw [List.size_toArray]; unfold sizeLine; omega) (fun g => rest_U (n := pvs.toArray.size) (fun i ys nw => ∃ (ps : Array Value) (ext : Led), nw = (83, tabObj ps) :: (ext ++ rest0) ∧ TabOk lamQ (ext ++ rest0) ps ∧ ArePr ext ys ((xs.take i).map (spn n)) ∧ ∀ q ∈ ext, ∀ r ∈ ((83, tabObj #[]) :: rest0), r.1 < q.1) ?_ ?_ _ 0 [] _ (by omega) ⟨#[], [], rfl, tab_nil _ _, .nil _, fun _ h => nomatch h⟩)
  · rintro i ys nw hi ⟨ps, ext, rfl, hT, hys, hex⟩ v I oI cC oC D m₂ h tk E' hv hoC hx F2 N2 o3 o4'
    have hms2 : (L + 1 + 1 + 1 + 1, o4) ∈ ((I, oI) :: (cC, oC) :: (D, lst ys) :: (83, tabObj ps) :: (ext ++ rest0)) := by simp [hm4]
    clear next
    have hip : i < pvs.length := by rw [List.size_toArray] at hi; exact hi
    have hil : i < xs.length := by omega
    obtain ⟨a, t1, t2, eta, hma⟩ := hA.2 i (by rw [List.length_map]; exact hil)
    have hv' : v = .ref a := by
      have : pvs[i]? = some v := by simpa using hv
      rw [gt_some (by omega)] at this
      rw [← eta]; exact (Option.some.inj this).symm
    subst hv'
    have ex : (xs.map ixy).getD i (0, 0) = ixy (xs.getD i 0) := by simp [List.getD_eq_getElem?_getD, hil]
    rw [ex] at hma
    k_steps
    unfold Halt
    generalize hxx : xs.getD i 0 = x at hma
    have wl1 := w_len (ix x) (ix_lt x)
    have wl2 := w_len (iy x) (iy_lt x)
    have hbl6 := bars_len n
    k_dflt (refine span (keep := ext ++ rest0) (rest := (I, oI) :: (cC, oC) :: (D, lst ys) :: (ext ++ rest0)) (W1 := wrd (ix x)) (W2 := wrd (iy x)) (pc1 := (p1 (ix x)).map mk) (pc2 := (p2 (iy x)).map mk) (r1 := fst n (ix x)) (r2 := pst n (iy x)) (by k_asm) F2 (by k_asm) (nsub N2 ?_) (by k_asm) rfl C ?_ ?_ hT (by decide) (by decide) (.tail _ (.tail _ (.tail _ (List.mem_append_right _ hma)))) (by omega) (by omega) (by omega) (by omega) (.tail _ (.tail _ (.tail _ (List.mem_append_right _ hbl)))) hbs (by omega) bars_few (patOk1 (ix_lt x)) (patOk2 (iy_lt x)) (by rw [hbl6]; exact fst_le hn (ix_lt x)) (by rw [hbl6]; exact pst_le) (fun k hk => em1 hn (ix_lt x) hk) (fun k hk => em2 hn (iy_lt x) hk) ?_)
    · ((repeat' (first | exact sub_nil | refine sub_cons ?_ ?_ | refine sub_app ?_ ?_)) <;> (try intro q hq) <;> (first | ((repeat (first | exact List.Mem.head _ | assumption | exact List.mem_append_left _ (by assumption) | refine List.Mem.tail _ ?_ | refine List.mem_append_right _ ?_)); done) | simp [*]))
    · intro q hq
      have o3' := o3.1
      rcases List.mem_cons.mp hq with rfl | hq
      · exact o3'.1.symm
      rcases List.mem_cons.mp hq with rfl | hq
      · exact o3'.2.1.symm
      rcases List.mem_cons.mp hq with rfl | hq
      · exact o3'.2.2.symm
      rcases List.mem_append.mp hq with hq | hq
      · exact (Nat.ne_of_lt (hex q hq _ (.head _))).symm
      · exact hoff q hq
    · intro q hq
      exact .tail _ (.tail _ (.tail _ hq))
    intro D2 t u ps' extra h' tk' F3 N3 hT3 lD lE
    (try dsimp only)
    k_steps
    refine CompEnd.intro F3 N3 ((83, tabObj ps') :: (((D2, tup2 (fst n (ix x)) (pst n (iy x)) t u) :: (extra ++ ext)) ++ rest0)) ?_ (off3_mono o3 ?_) (.inr ⟨_, .tail _ (List.mem_append_right _ hP), rfl, _, rfl⟩) ⟨ps', (D2, tup2 (fst n (ix x)) (pst n (iy x)) t u) :: (extra ++ ext), rfl, hT3.mono ?_, ?_, ?_⟩
    · ((repeat' (first | exact sub_nil | refine sub_cons ?_ ?_ | refine sub_app ?_ ?_)) <;> (try intro q hq) <;> (first | ((repeat (first | exact List.Mem.head _ | assumption | exact List.mem_append_left _ (by assumption) | refine List.Mem.tail _ ?_ | refine List.mem_append_right _ ?_)); done) | simp [*]))
    · have up : ∀ c : Nat, (I < c ∧ cC < c ∧ D < c) → (c ≠ I ∧ c ≠ cC ∧ c ≠ D) := fun c h => ⟨(Nat.ne_of_lt h.1).symm, (Nat.ne_of_lt h.2.1).symm, (Nat.ne_of_lt h.2.2).symm⟩
      intro q hq
      rcases List.mem_cons.mp hq with rfl | hq
      · exact .inr o3.1
      rcases List.mem_append.mp hq with hq | hq
      · rcases List.mem_cons.mp hq with rfl | hq
        · exact .inr (up _ ⟨lD (I, oI) (.tail _ (.head _)), lD (cC, oC) (.tail _ (.tail _ (.head _))), lD (D, lst ys) (.tail _ (.tail _ (.tail _ (.head _))))⟩)
        rcases List.mem_append.mp hq with hq | hq
        · exact .inr (up _ ⟨lE q hq (I, oI) (.tail _ (.head _)), lE q hq (cC, oC) (.tail _ (.tail _ (.head _))), lE q hq (D, lst ys) (.tail _ (.tail _ (.tail _ (.head _))))⟩)
        · exact .inl (.tail _ (List.mem_append_left _ hq))
      · exact .inl (.tail _ (List.mem_append_right _ hq))
    · ((repeat' (first | exact sub_nil | refine sub_cons ?_ ?_ | refine sub_app ?_ ?_)) <;> (try intro q hq) <;> (first | ((repeat (first | exact List.Mem.head _ | assumption | exact List.mem_append_left _ (by assumption) | refine List.Mem.tail _ ?_ | refine List.mem_append_right _ ?_)); done) | simp [*]))
    · have e : (xs.take (i + 1)).map (spn n) = (xs.take i).map (spn n) ++ [spn n x] := by
        rw [take_snoc (d := (0 : Int)) hil, hxx, List.map_append]; rfl
      rw [e]
      exact (hys.mono fun _ h => .tail _ (List.mem_append_right _ h)).snoc ⟨D2, t, u, rfl, .head _⟩
    · intro q hq r hr
      have hr2 : ∀ c : Nat, (∀ r' ∈ (83, tabObj ps) :: (I, oI) :: (cC, oC) :: (D, lst ys) :: (ext ++ rest0), r'.1 < c) → r.1 < c := fun c hc => by
        rcases List.mem_cons.mp hr with rfl | hr
        · exact hc (83, tabObj ps) (.head _)
        · exact hc r (.tail _ (.tail _ (.tail _ (.tail _ (List.mem_append_right _ hr)))))
      rcases List.mem_cons.mp hq with rfl | hq
      · exact hr2 _ lD
      rcases List.mem_append.mp hq with hq | hq
      · exact hr2 _ (lE q hq)
      · exact hex q hq r hr
  · rintro ys nw ⟨ps, ext, rfl, hT, hys, hex⟩ D h tk F2 N2 of1
    have hsz : pvs.toArray.size = xs.length := by rw [List.size_toArray]; exact hpl
    rw [hsz, List.take_length] at hys
    refine next _ _ D ys ps ext (fr_eq F2 (mpL_s rfl)) (nsub N2 ?_) hys hex (off1_of of1)
    ((repeat' (first | exact sub_nil | refine sub_cons ?_ ?_ | refine sub_app ?_ ?_)) <;> (try intro q hq) <;> (first | ((repeat (first | exact List.Mem.head _ | assumption | exact List.mem_append_left _ (by assumption) | refine List.Mem.tail _ ?_ | refine List.mem_append_right _ ?_)); done) | simp [*]))
end
theorem freshLseg4 {M : Model} {A : Around} {Q : Flow → Shared → Prop} {E : Value → Shared → Prop} {s : Shared} {env : Env} (h : wpAny M A (execs [] env) Q E s) : wpAny M A (execs [] env) Q E s := by
  w_top off
  first | (walk1; fail) | exact h
section
local macro_rules | `(tactic| walk_at "compareOp NotEq ref ref") => `(tactic| refine Mine.halt ?_)
def prD (x : Int × Int) : PyData := .tuple [.int x.1, .int x.2]
theorem prD_eqv : ∀ l : List (Int × Int), PyData.eqvAll (l.map prD) (l.map prD) = true
  | [] => by simp [PyData.eqvAll]
  | x :: l => by simp [PyData.eqvAll, PyData.eqv, prD, prD_eqv l]
theorem prD_can : ∀ l : List (Int × Int), PyData.canLayAll0 (l.map prD) = true
  | [] => by simp [PyData.canLayAll0]
  | x :: l => by simp [PyData.canLayAll0, PyData.canLay0, prD, prD_can l]
theorem prD_depth : ∀ l : List (Int × Int), PyData.depthAll (l.map prD) ≤ 1
  | [] => by simp [PyData.depthAll]
  | x :: l => by have := prD_depth l; simp [PyData.depthAll, PyData.depth, prD]; omega
theorem prD_shaped (l : List (Int × Int)) : SeqAt.shaped (.list (l.map prD)) = true := by
  have h := prD_depth l
  simp [SeqAt.shaped, PyData.canLay0, PyData.depth, prD_can]
  omega
theorem prD_reads {gg h : Heap} {L : Addr} {nw : Led} (N : News gg L h nw) : ∀ {ys : List Value} {l : List (Int × Int)}, ArePr nw ys l → ∃ as, ReadsAll h ys (l.map prD) as
  | [], [], _ => ⟨_, .nil⟩
  | [], _ :: _, hA => by cases hA.1
  | _ :: _, [], hA => by cases hA.1
  | y :: ys, x :: l, hA => by
    obtain ⟨a, t, u, e, hm⟩ := hA.2 0 (by simp)
    have e' : y = .ref a := by simpa [gt] using e
    subst e'
    obtain ⟨as, hr⟩ := prD_reads N (ys := ys) (l := l) ⟨by simpa using hA.1, fun k hk => by
      have := hA.2 (k + 1) (by simpa using hk)
      simpa [gt] using this⟩
    have hm' : (a, tup2 x.1 x.2 t u) ∈ nw := by simpa using hm
    exact ⟨_, .cons (reads_tuple_at (N _ hm').1 rfl rfl (.cons (.int _ _) (.cons (.int _ _) .nil))) hr⟩
theorem seg5 {w : World} {p : Program} {loose : List PySem.Str} {mean : ExcName → Option Value} {mg mb : PySem.Str → Option Value} {base gg : Heap} {L fa lnum lp lsp : Addr} {cd : Value} {s : Shared} {n np nsp : Nat} {pvs svs : List Value} {xs : List Int} {o2 : Obj} {t : Tok} {led : Led} {Q : Flow → Shared → Prop} {E : Value → Shared → Prop}
    (B : Below callerA base [] gg) (X : (hd.heap_39 w.params).In gg) (T : Top p loose mean mg mb gg) (hn : n < 32) (hlen : xs.length ≤ 7)
    (F : Fr gg L s.heap (lawM (some (.ref lnum)) none (some (.ref lp)) (some (.ref lsp)) none none none none)) (N : News gg L s.heap led)
    (hP : (lp, listOf pvs.toArray np) ∈ led) (hA : AreWs led pvs (xs.map ixy)) (hS : (lsp, listOf svs.toArray nsp) ∈ led) (hB : ArePr led svs (xs.map (spn n))) (hm2 : (L + 1 + 1, o2) ∈ led) (d2 : o2.data = .cell (some (.str (txt n) t)))
    (next : ∀ h' tk, Fr gg L h' (lawM (some (.ref lnum)) none (some (.ref lp)) (some (.ref lsp)) none none none none) → News gg L h' led →
      wpAny (model Challenge.rw_qu0035_01.row.prog w) (callerA.deeper (envOfC lawD.name lawD.scope L fa cd)) (execs (lawD.body.drop 7) (envOfC lawD.name lawD.scope L fa cd)) Q E { s with heap := h', toks := tk }) :
    wpAny (model Challenge.rw_qu0035_01.row.prog w) (callerA.deeper (envOfC lawD.name lawD.scope L fa cd)) (execs (lawD.body.drop 6) (envOfC lawD.name lawD.scope L fa cd)) Q E s := by
  have hQ : Challenge.rw_qu0035_01.row.prog = Challenge.rw_qu0035_01.prog := rfl
  revert X hQ
  k_fill
  intro X hQ
  clear hQ
  have next' := next
  clear next
  revert next'
  unfold lawD lawDefOf
  dsimp only [List.drop]
  intro next
  refine wpAny_execs_cons ?_
  k_steps
  unfold Halt
  refine ListComp_P F rfl (by decide) rfl (by decide) rfl rfl (by decide) ?_
  k_steps
  have hpl : pvs.length = xs.length := by rw [hA.1, List.length_map]
  refine SrcLP.ledger rfl F N hP (by rw [List.size_toArray]; unfold sizeLine; omega) (fun g => rest_P (n := pvs.toArray.size) (fun i ys nw => ∃ ext : Led, nw = ext ++ led ∧ ArePr ext ys ((xs.take i).map (spn n))) ?_ ?_ _ 0 [] _ (by omega) ⟨[], rfl, .nil _⟩)
  · rintro i ys nw hi ⟨ext, rfl, hys⟩ v hv
    have hip : i < pvs.length := by rw [List.size_toArray] at hi; exact hi
    have hil : i < xs.length := by omega
    obtain ⟨a, t1, t2, eta, hma⟩ := hA.2 i (by rw [List.length_map]; exact hil)
    have hv' : v = .ref a := by
      have : pvs[i]? = some v := by simpa using hv
      rw [gt_some (by omega)] at this
      rw [← eta]; exact (Option.some.inj this).symm
    subst hv'
    have ex : (xs.map ixy).getD i (0, 0) = ixy (xs.getD i 0) := by simp [List.getD_eq_getElem?_getD, hil]
    rw [ex] at hma
    generalize hxx : xs.getD i 0 = x at hma
    replace hma : (a, tupS (wrd (ix x)) (wrd (iy x)) t1 t2) ∈ led := hma
    refine ⟨a, _, _, _, _, rfl, List.mem_append_right _ hma, rfl, rfl, ?_⟩
    intro I oI cC oC D m₂ h tk E' hoC hx1 hx2 F2 N2 o3 o4'
    have hms2 : (L + 1 + 1, o2) ∈ ((I, oI) :: (cC, oC) :: (D, lst ys) :: (ext ++ led)) := by simp [hm2]
    have htl := txt_len n
    have wl1 := w_len (ix x) (ix_lt x)
    have wl2 := w_len (iy x) (iy_lt x)
    have hz1 : (wrd (iy x)).length ≤ sizeLine := sz_ok (by omega)
    have hz2 : (txt n).length ≤ sizeLine := sz_ok (by omega)
    clear next
    k_steps
    unfold Halt
    k_dflt (refine walked (W := wrd (ix x)) (G := txt n) (by k_asm) (by k_asm) (by k_asm) (by k_asm) (by k_asm) rfl (by decide) (by decide) (by omega) (by omega) (w_ascii _ (ix_lt x)) ?_)
    intro t3 h3 tk3 F3 N3
    (try dsimp only)
    k_steps
    unfold Halt
    rw [rev_w (iy_lt x), rev_t hn]
    have wa2 := w_ascii2 _ (iy_lt x)
    have hg5 : (mk (txtL n).reverse).length ≤ 1000 := by simp [mk, PySem.Str.length, txtL]
    k_dflt (refine walked (W := mk (wn (iy x)).reverse) (G := mk (txtL n).reverse) (by k_asm) (by k_asm) (by k_asm) (by k_asm) (by k_asm) rfl (by decide) (by decide) wa2.2 hg5 wa2.1 ?_)
    intro t4 h4 tk4 F4 N4
    have hw1 : ((walkedP (wrd (ix x)).cps.toList (txt n).cps.toList : Nat) : Int) = (spn n x).1 := rfl
    have hw2 : (6 : Int) - ((walkedP (mk (wn (iy x)).reverse).cps.toList (mk (txtL n).reverse).cps.toList : Nat) : Int) = (spn n x).2 := by
      have := (e2 n hn (iy x) (iy_lt x)).1
      show (6 : Int) - ((walkedP (wn (iy x)).reverse (txtL n).reverse : Nat) : Int) = ((6 - walkedP (wn (iy x)).reverse (txtL n).reverse : Nat) : Int)
      omega
    (try dsimp only)
    k_steps
    rename Fr _ _ _ _ => F5
    rename News _ _ _ _ => N5
    rw [hw1, hw2] at N5
    rename_i D2 _ lD
    obtain ⟨lI, lC, lDD, lR⟩ := lD
    have lR := kst_ltOf lR
    refine CompEnd.intro F5 N5 ((D2, tup2 (spn n x).1 (spn n x).2 t3 tk4) :: (ext ++ led)) ?_ (off3_mono o3 ?_) (.inr ⟨_, .tail _ (List.mem_append_right _ hP), rfl, _, rfl⟩) ⟨(D2, tup2 (spn n x).1 (spn n x).2 t3 tk4) :: ext, rfl, ?_⟩
    · ((repeat' (first | exact sub_nil | refine sub_cons ?_ ?_ | refine sub_app ?_ ?_)) <;> (try intro q hq) <;> (first | ((repeat (first | exact List.Mem.head _ | assumption | exact List.mem_append_left _ (by assumption) | refine List.Mem.tail _ ?_ | refine List.mem_append_right _ ?_)); done) | simp [*]))
    · intro q hq
      rcases List.mem_cons.mp hq with rfl | hq
      · exact .inr ⟨(Nat.ne_of_lt lI).symm, (Nat.ne_of_lt lC).symm, (Nat.ne_of_lt lDD).symm⟩
      · exact .inl hq
    · have e : (xs.take (i + 1)).map (spn n) = (xs.take i).map (spn n) ++ [spn n x] := by
        rw [take_snoc (d := (0 : Int)) hil, hxx, List.map_append]; rfl
      rw [e]
      exact (hys.mono fun _ h => .tail _ h).snoc ⟨D2, t3, tk4, rfl, .head _⟩
  · rintro ys nw ⟨ext, rfl, hys⟩ D h tk F2 N2 of1
    have hsz : pvs.toArray.size = xs.length := by rw [List.size_toArray]; exact hpl
    rw [hsz, List.take_length] at hys
    (try dsimp only)
    k_steps
    unfold Halt
    obtain ⟨as1, hr1⟩ := prD_reads N2 (ys := svs) (l := xs.map (spn n)) (hB.mono fun q hq => .tail _ (List.mem_append_right _ hq))
    obtain ⟨as2, hr2⟩ := prD_reads N2 (ys := ys) (l := xs.map (spn n)) (hys.mono fun q hq => .tail _ (List.mem_append_left _ hq))
    refine ne_dataH (da := .list ((xs.map (spn n)).map prD)) (db := .list ((xs.map (spn n)).map prD)) (reads_list_at (vs := svs.toArray) (N2 _ (.tail _ (List.mem_append_right _ hS))).1 rfl rfl hr1) (reads_list_at (vs := ys.toArray) (N2 _ (.head _)).1 rfl rfl hr2) (prD_shaped _) (prD_shaped _) (Nat.le_of_ble_eq_true rfl) ?_
    simp only [PyData.eqv, prD_eqv, Bool.not_true]
    k_steps
    exact next _ _ F2 (nsub N2 fun q hq => .tail _ (List.mem_append_right _ hq))
end
theorem freshLseg5 {M : Model} {A : Around} {Q : Flow → Shared → Prop} {E : Value → Shared → Prop} {s : Shared} {env : Env} (h : wpAny M A (execs [] env) Q E s) : wpAny M A (execs [] env) Q E s := by
  w_top off
  first | (walk1; fail) | exact h
section
theorem seg6 {w : World} {p : Program} {loose : List PySem.Str} {mean : ExcName → Option Value} {mg mb : PySem.Str → Option Value} {base gg : Heap} {L fa lnum lp lsp : Addr} {cd : Value} {s : Shared} {n nsp : Nat} {svs : List Value} {xs : List Int} {led : Led} {Q : Flow → Shared → Prop} {E : Value → Shared → Prop}
    (B : Below callerA base [] gg) (X : (hd.heap_39 w.params).In gg) (T : Top p loose mean mg mb gg) (hlen : xs.length ≤ 7)
    (F : Fr gg L s.heap (lawM (some (.ref lnum)) none (some (.ref lp)) (some (.ref lsp)) none none none none)) (N : News gg L s.heap led)
    (hS : (lsp, listOf svs.toArray nsp) ∈ led) (hB : ArePr led svs (xs.map (spn n)))
    (next : ∀ h' tk ls (sv : List Value) nv (ext : Led) (S : List (Nat × Nat)), Fr gg L h' (lawM (some (.ref lnum)) none (some (.ref lp)) (some (.ref lsp)) none (some (.ref ls)) none none) → News gg L h' ((ls, listOf sv.toArray nv) :: ext) → (∀ q ∈ led, q ∈ ext) → (∀ q ∈ ext, q.1 ≠ ls) → sv.length = S.length →
      (∀ i, i < S.length → IsPr ext (gt sv i) (((S.getD i (0, 0)).1 : Int), ((S.getD i (0, 0)).2 : Int))) → Good (xs.map (spn n)) 6 S →
      wpAny (model Challenge.rw_qu0035_01.row.prog w) (callerA.deeper (envOfC lawD.name lawD.scope L fa cd)) (execs (lawD.body.drop 8) (envOfC lawD.name lawD.scope L fa cd)) Q E { s with heap := h', toks := tk }) :
    wpAny (model Challenge.rw_qu0035_01.row.prog w) (callerA.deeper (envOfC lawD.name lawD.scope L fa cd)) (execs (lawD.body.drop 7) (envOfC lawD.name lawD.scope L fa cd)) Q E s := by
  have hQ : Challenge.rw_qu0035_01.row.prog = Challenge.rw_qu0035_01.prog := rfl
  revert X hQ
  k_fill
  intro X hQ
  clear hQ
  have next' := next
  clear next
  revert next'
  unfold lawD lawDefOf
  dsimp only [List.drop]
  intro next
  refine wpAny_execs_cons ?_
  k_steps
  unfold Halt
  have hl2 : svs.length = (xs.map (spn n)).length := hB.1
  have hl3 : (xs.map (spn n)).length < 50 := by rw [List.length_map]; omega
  have hnn : ∀ e, e < (xs.map (spn n)).length → 0 ≤ fsO (xs.map (spn n)) e := by
    intro e he
    unfold fsO
    rw [List.length_map] at he
    simp [List.getD_eq_getElem?_getD, he, spn]
  k_dflt (refine sv (xs := xs.map (spn n)) (by k_asm) (by k_asm) (by k_asm) (by k_asm) (by k_asm) rfl (by decide) (by decide) hS hl2 hl3 (fun e he => hB.2 e he) hnn ?_)
  intro ls sv nv ext S h3 tk3 F3 N3 hsub hne _ hsl hsi hG
  (try dsimp only)
  k_steps
  unfold Halt
  refine st_loc F3 N3 ?_ rfl rfl rfl
  intro h4 tk4 F4 N4
  exact next _ _ ls sv nv ext S (fr_eq F4 (mpL_s rfl)) N4 hsub hne hsl hsi hG
end
theorem freshLseg6 {M : Model} {A : Around} {Q : Flow → Shared → Prop} {E : Value → Shared → Prop} {s : Shared} {env : Env} (h : wpAny M A (execs [] env) Q E s) : wpAny M A (execs [] env) Q E s := by
  w_top off
  first | (walk1; fail) | exact h
section
local macro_rules | `(tactic| walk_at "call type:set cons nil") => `(tactic| refine Mine.halt ?_)
local macro_rules | `(tactic| walk_at "call builtin:len") => `(tactic| refine Mine.halt ?_)
theorem fm_len (f : Nat → Int) : ∀ i, (∀ j, j < i → ∀ k, k < i → f j = f k → j = k) → (firstMet f i).length = i
  | 0, _ => rfl
  | i + 1, h => by
    have ih := fm_len f i (fun j hj k hk => h j (by omega) k (by omega))
    rw [firstMet_succ]
    unfold step_dedup
    have hno : (firstMet f i).any (· == f i) = false := by
      rw [firstMet_any, List.any_eq_false]
      intro x hx
      obtain ⟨j, hj, rfl⟩ := List.mem_map.mp hx
      have hj' := List.mem_range.mp hj
      intro e
      have e' : f j = f i := by simpa using e
      have := h j (by omega) i (by omega) e'
      omega
    rw [hno]
    simp [ih]
theorem ones_len {S : List (Nat × Nat)} (h : (S.map (·.2)).Nodup) : (firstMet (fun i => (S.map fun q => ((q.2 : Nat) : Int)).getD i 0) S.length).length = S.length := by
  refine fm_len _ _ (fun j hj k hk e => ?_)
  have e2 : (S.map (·.2))[j]? = (S.map (·.2))[k]? := by
    have : (((S[j].2 : Nat) : Int)) = (((S[k].2 : Nat) : Int)) := by simpa [List.getD_eq_getElem?_getD, hj, hk] using e
    simp [hj, hk]
    omega
  exact (List.getElem?_inj (by simpa using hj) h).mp e2
theorem set_N {prog : Program} {w : World} {A : Around} {E : Value → Shared → Prop} {s : Shared} {h₀ : Heap} {L : Addr} {m : PySem.Str → Option Value} {news : List (Addr × Obj)} {l : Addr} {vs : List Value} {k : Nat} {ns : List Int} {Q : Value → Shared → Prop} (F : Fr h₀ L s.heap m) (N : News h₀ L s.heap news)
    (hh : A.handled = none) (hm : (l, listOf vs.toArray k) ∈ news) (hi : IntsAre vs ns) (hb : ns.length + 1 < scanBound)
    (h : ∀ D h' (tk : Nat) o, Fr h₀ L h' m → News h₀ L h' ((D, o) :: news) →
      o.SetObjOf (intKind prog w) (fun k' => (firstMet (fun i => ns.getD i 0) vs.length).any (· == k')) (firstMet (fun i => ns.getD i 0) vs.length).length →
      Q (.ref D) { s with heap := h', toks := tk }) :
    wpAny (model prog w) A (call (.type "set") [.ref l]) Q E s := by
  have hvn : vs.length = ns.length := IntsAre.length hi
  have hsz : vs.toArray.size = vs.length := List.size_toArray
  rw [← hvn] at hb
  refine PySem.call_set_list (items := vs.toArray) (ns := ns) hh (PySem.IsL.isList (n := k) (N _ hm).1) (by simpa using hi) (by rw [hsz]; exact hb) fun h' tk hS hk => ?_
  rw [hsz] at hS
  obtain ⟨o, ho, hso⟩ := hS.objOf
  have hLlt : L < s.heap.objs.size := F.ns.lt
  refine h s.heap.objs.size h' tk o ⟨F.ns.at' fun o' e => hk L o' hLlt e, fun b o' e => hk b o' (Heap.lt_size (F.keep b o' e)) (F.keep b o' e), F.above⟩ (fun p hp => ?_) hso
  rcases List.mem_cons.mp hp with rfl | hp
  · exact ⟨ho, Nat.ne_of_gt hLlt, next_is_new F⟩
  · exact ⟨hk _ _ (Heap.lt_size (N p hp).1) (N p hp).1, (N p hp).2.1, (N p hp).2.2⟩
theorem seg7 {w : World} {p : Program} {loose : List PySem.Str} {mean : ExcName → Option Value} {mg mb : PySem.Str → Option Value} {base gg : Heap} {L fa ls : Addr} {cd : Value} {s : Shared} {nv : Nat} {sv : List Value} {S : List (Nat × Nat)} {led : Led} {Q : Flow → Shared → Prop} {E : Value → Shared → Prop} {a c d : Option Value}
    (B : Below callerA base [] gg) (X : (hd.heap_39 w.params).In gg) (T : Top p loose mean mg mb gg)
    (F : Fr gg L s.heap (lawM a none c d none (some (.ref ls)) none none)) (N : News gg L s.heap led)
    (hS : (ls, listOf sv.toArray nv) ∈ led) (hl : sv.length = S.length) (hs6 : S.length ≤ 6) (hB : ∀ i, i < S.length → IsPr led (gt sv i) (((S.getD i (0, 0)).1 : Int), ((S.getD i (0, 0)).2 : Int))) (hno : (S.map (·.2)).Nodup)
    (next : ∀ h' tk, Fr gg L h' (lawM a none c d none (some (.ref ls)) none none) → News gg L h' led →
      wpAny (model Challenge.rw_qu0035_01.row.prog w) (callerA.deeper (envOfC lawD.name lawD.scope L fa cd)) (execs (lawD.body.drop 9) (envOfC lawD.name lawD.scope L fa cd)) Q E { s with heap := h', toks := tk }) :
    wpAny (model Challenge.rw_qu0035_01.row.prog w) (callerA.deeper (envOfC lawD.name lawD.scope L fa cd)) (execs (lawD.body.drop 8) (envOfC lawD.name lawD.scope L fa cd)) Q E s := by
  have hQ : Challenge.rw_qu0035_01.row.prog = Challenge.rw_qu0035_01.prog := rfl
  revert X hQ
  k_fill
  intro X hQ
  clear hQ
  have next' := next
  clear next
  revert next'
  unfold lawD lawDefOf
  dsimp only [List.drop]
  intro next
  refine wpAny_execs_cons ?_
  k_steps
  unfold Halt
  refine ListComp_P F rfl (by decide) rfl (by decide) rfl rfl (by decide) ?_
  k_steps
  refine SrcLP.ledger rfl F N hS (by rw [List.size_toArray]; unfold sizeLine; omega) (fun g => rest_P (n := sv.toArray.size) (fun i ys nw => nw = led ∧ IntsAre ys ((S.take i).map fun q => ((q.2 : Nat) : Int))) ?_ ?_ _ 0 [] _ (by omega) ⟨rfl, .nil⟩)
  · rintro i ys nw hi ⟨rfl, hys⟩ v hv
    have hip : i < S.length := by rw [List.size_toArray] at hi; omega
    obtain ⟨b, t1, u1, hb, hm⟩ := hB i hip
    have hvb : v = .ref b := by
      have : sv[i]? = some v := by simpa using hv
      rw [gt_some (by omega)] at this
      rw [← hb]; exact (Option.some.inj this).symm
    refine ⟨b, _, _, _, _, hvb, hm, rfl, rfl, ?_⟩
    intro I oI cC oC D m₂ h tk E' hoC hx1 hx2 F2 N2 o3 o4'
    clear next
    k_steps
    refine CompEnd.intro F2 N2 nw (fun _ h => h) o3 (.inr ⟨_, hS, rfl, _, rfl⟩) ⟨rfl, ?_⟩
    rw [take_snoc (d := ((0 : Nat), (0 : Nat))) hip, List.map_append]
    exact ints_snoc hys
  · rintro ys nw ⟨rfl, hys⟩ D h tk F2 N2 of1
    have hsz : sv.toArray.size = S.length := by rw [List.size_toArray]; exact hl
    rw [hsz, List.take_length] at hys
    (try dsimp only)
    k_steps
    unfold Halt
    refine set_N F2 N2 rfl (.head _) hys (by rw [List.length_map]; unfold scanBound; omega) ?_
    intro D2 h3 tk3 oS F3 N3 hset
    have hyl : ys.length = S.length := by rw [hys.length, List.length_map]
    rw [hyl, ones_len hno] at hset
    (try dsimp only)
    k_steps
    unfold Halt
    refine len_sl1 (own := []) N3 hset (by omega) ?_
    (try dsimp only)
    k_steps
    unfold Halt
    refine ru_len (vs := sv) (n := nv) N3 (.tail _ (.tail _ hS)) (by omega) ?_
    intro t5 tk5
    rw [hl]
    (try dsimp only)
    k_steps
    · exact absurd rfl (by assumption)
    · rename Fr _ _ _ _ => F9
      rename News _ _ _ _ => N9
      exact next _ _ F9 (nsub N9 fun q hq => .tail _ (.tail _ hq))
end
theorem freshLseg7 {M : Model} {A : Around} {Q : Flow → Shared → Prop} {E : Value → Shared → Prop} {s : Shared} {env : Env} (h : wpAny M A (execs [] env) Q E s) : wpAny M A (execs [] env) Q E s := by
  w_top off
  first | (walk1; fail) | exact h
section
local macro_rules | `(tactic| walk_at "subscriptTail Name Name ref int") => `(tactic| refine Mine.halt ?_)
theorem st_pair {prog : Program} {w : World} {A : Around} {E : Value → Shared → Prop} {s : Shared} {h₀ : Heap} {L : Addr} {m : Nm → Option Value} {news : Led} {v1 v2 : Value} {env : Env} {x y : Nm} {px py pos : Pos} {x1 nt : Nat} {t : Addr} {ot : Obj} {Q : Unit → Shared → Prop}
    (hh : A.handled = none) (F : Fr h₀ L s.heap m) (N : News h₀ L s.heap news) (hm : (t, ot) ∈ news) (hc : ot.cls = .type "tuple") (hd : ot.data = .seq #[v1, v2] nt)
    (h : ∀ h' tk, Fr h₀ L h' (fun z => if z = y then some v2 else if z = x then some v1 else m z) → News h₀ L h' news → Q () { s with heap := h', toks := tk })
    (he : env.locals = L) (hkx : env.kindOf x = some .local) (hky : env.kindOf y = some .local) (hp : (env.scope.kind == .class || (env.scope.kind == .module && env.locals != env.globals)) = false) :
    wpAny (model prog w) A (assign (.Tuple [.Name x px, .Name y py] x1 pos) env (.ref t)) Q E s := by
  have ht : IsTup s.heap t #[v1, v2] := ⟨ot, (N _ hm).1, hc, nt, hd⟩
  refine assign_Tuple_tuple hh ht rfl rfl fun h₅ hx => ?_
  have hx' : ∀ b o, s.heap.get? b = some o → h₅.get? b = some o := fun b o e => hx b o (Nat.ne_of_lt (Heap.lt_size e)) e
  refine assignInOrder_cons (wpAny_assign_Name (st_loc (F.keeps hx') (N.grown hx') (fun h₆ tk₆ F₆ N₆ => ?_) he hkx hp))
  refine assignInOrder_cons (wpAny_assign_Name (st_loc F₆ N₆ (fun h₇ tk₇ F₇ N₇ => ?_) he hky hp))
  exact assignInOrder_nil (h h₇ tk₇ F₇ N₇)
theorem seg8 {w : World} {p : Program} {loose : List PySem.Str} {mean : ExcName → Option Value} {mg mb : PySem.Str → Option Value} {base gg : Heap} {L fa ls lp lb : Addr} {cd : Value} {s : Shared} {n nv np nb : Nat} {sv pvs bvs : List Value} {xs : List Int} {S : List (Nat × Nat)} {o4 : Obj} {led : Led} {Q : Flow → Shared → Prop} {E : Value → Shared → Prop} {a d : Option Value}
    (B : Below callerA base [] gg) (X : (hd.heap_39 w.params).In gg) (T : Top p loose mean mg mb gg) (hn : n < 32) (hlen : xs.length ≤ 7)
    (F : Fr gg L s.heap (lawM a none (some (.ref lp)) d none (some (.ref ls)) none none)) (N : News gg L s.heap led)
    (hS : (ls, listOf sv.toArray nv) ∈ led) (hl : sv.length = S.length) (hs6 : S.length ≤ 6) (hB : ∀ i, i < S.length → IsPr led (gt sv i) (((S.getD i (0, 0)).1 : Int), ((S.getD i (0, 0)).2 : Int))) (hG : Good (xs.map (spn n)) 6 S)
    (hP : (lp, listOf pvs.toArray np) ∈ led) (hA : AreWs led pvs (xs.map ixy)) (hbl : (lb, listOf bvs.toArray nb) ∈ led) (hbs : StrsAre bvs (barsL n)) (hm4 : (L + 1 + 1 + 1 + 1, o4) ∈ led) (d4 : o4.data = .cell (some (.ref lb)))
    (next : ∀ h' tk b e g i, Fr gg L h' (lawM a b (some (.ref lp)) d e (some (.ref ls)) g i) → News gg L h' led →
      wpAny (model Challenge.rw_qu0035_01.row.prog w) (callerA.deeper (envOfC lawD.name lawD.scope L fa cd)) (execs (lawD.body.drop 10) (envOfC lawD.name lawD.scope L fa cd)) Q E { s with heap := h', toks := tk })
    (hE : PassesOwn (model Challenge.rw_qu0035_01.row.prog w) (callerA.deeper (envOfC lawD.name lawD.scope L fa cd)) (envOfC lawD.name lawD.scope L fa cd) E) :
    wpAny (model Challenge.rw_qu0035_01.row.prog w) (callerA.deeper (envOfC lawD.name lawD.scope L fa cd)) (execs (lawD.body.drop 9) (envOfC lawD.name lawD.scope L fa cd)) Q E s := by
  have hQ : Challenge.rw_qu0035_01.row.prog = Challenge.rw_qu0035_01.prog := rfl
  revert X hQ
  k_fill
  intro X hQ
  clear hQ
  have next' := next
  clear next
  revert next' hE
  unfold lawD lawDefOf
  dsimp only [List.drop]
  intro hE next
  refine wpAny_execs_cons ?_
  refine wpAny_For ?_
  k_steps
  unfold Halt
  rename Fr _ _ _ _ => F1
  rename News _ _ _ _ => N1
  refine for_lst (vs := sv) (kk := nv) (fun i m₁ nw => (∃ b e g h, m₁ = lawM a b (some (.ref lp)) d e (some (.ref ls)) g h) ∧ nw = led) rfl ?hJD ?hrefs F1 N1 ⟨⟨_, _, _, _, rfl⟩, rfl⟩ ?turn ?done hE
  case hJD => rintro i m nw ⟨_, rfl⟩; exact hS
  case hrefs =>
    intro v hv
    obtain ⟨i, hi, rfl⟩ := mem_gt hv
    obtain ⟨b, _, _, hb, _⟩ := hB i (by omega)
    exact ⟨b, hb⟩
  case turn =>
    rintro i I m₁ nw h tk oI hi hIlt hoff ⟨⟨b, e, g, k, rfl⟩, rfl⟩ F2 N2
    obtain ⟨a1, t1, u1, ea1, hm1⟩ := hB i (by omega)
    rw [ea1]
    clear next
    obtain ⟨g1, g2, g3, g4⟩ := hG.fits (S.getD i (0, 0)) (by
      rw [List.getD_eq_getElem?_getD, List.getElem?_eq_getElem (by omega)]
      exact List.getElem_mem _)
    generalize hq : S.getD i (0, 0) = q at g1 g2 g3 g4 hm1
    obtain ⟨pl, ee⟩ := q
    simp only at g1 g2 g3 g4 hm1
    refine st_pair rfl F2 N2 (.tail _ hm1) rfl rfl ?_ rfl rfl rfl rfl
    intro h3 tk3 F3 N3
    replace F3 : Fr gg L h3 (lawM a b (some (.ref lp)) d e (some (.ref ls)) (some (.int pl t1)) (some (.int ee u1))) := fr_eq F3 (mpL_s (mpL_s rfl))
    have hms : (L + 1 + 1 + 1 + 1, o4) ∈ ((I, oI) :: nw) := .tail _ hm4
    refine wpAny_execs_cons ?_
    have hel : ee < xs.length := by rw [List.length_map] at g2; exact g2
    have hpl : pvs.length = xs.length := by rw [hA.1, List.length_map]
    obtain ⟨a2, t2, u2, ea2, hm2⟩ := hA.2 ee (by rw [List.length_map]; exact hel)
    have ex : (xs.map ixy).getD ee (0, 0) = ixy (xs.getD ee 0) := by simp [List.getD_eq_getElem?_getD, hel]
    have ex2 : (xs.map (spn n)).getD ee (0, 0) = spn n (xs.getD ee 0) := by simp [List.getD_eq_getElem?_getD, hel]
    rw [ex] at hm2
    unfold fsO at g3
    unfold psO at g4
    rw [ex2] at g3 g4
    generalize hxx : xs.getD ee 0 = x at hm2 g3 g4
    replace hm2 : (a2, tupS (wrd (ix x)) (wrd (iy x)) t2 u2) ∈ nw := hm2
    replace g3 : fst n (ix x) ≤ pl := by have : ((fst n (ix x) : Nat) : Int) ≤ (pl : Int) := g3; omega
    replace g4 : pl < pst n (iy x) := by have : (pl : Int) < ((pst n (iy x) : Nat) : Int) := g4; omega
    k_steps
    unfold Halt
    refine ru_itemN ee N3 (.tail _ hP) rfl (by omega) (by omega) ?_ (by with_unfolding_all rfl)
    rw [ea2]
    k_steps
    refine st_pair rfl F3 N3 (.tail _ hm2) rfl rfl ?_ rfl rfl rfl rfl
    intro h4 tk4 F4 N4
    replace F4 : Fr gg L h4 (lawM a (some (.str (wrd (ix x)) t2)) (some (.ref lp)) d (some (.str (wrd (iy x)) u2)) (some (.ref ls)) (some (.int pl t1)) (some (.int ee u1))) := fr_eq F4 (mpL_s (mpL_s rfl))
    (try dsimp only)
    k_steps
    unfold Halt
    refine wpAny_execs_cons ?_
    have wl1 := w_len (ix x) (ix_lt x)
    have wl2 := w_len (iy x) (iy_lt x)
    clear F3 N3 F2 N2
    k_steps
    unfold Halt
    k_dflt (refine dots (by k_asm) (by k_asm) (by k_asm) (by k_asm) (by k_asm) rfl (by decide) (by decide) (by omega) ?_)
    intro tD h5 tk5 F5 N5
    clear F4 N4
    have hds1 : (dotted (wrd (ix x))).length ≤ sizeLine := sz_ok (by omega)
    (try dsimp only)
    k_steps
    unfold Halt
    k_dflt (refine dots (by k_asm) (by k_asm) (by k_asm) (by k_asm) (by k_asm) rfl (by decide) (by decide) (by omega) ?_)
    intro tD2 h6 tk6 F6 N6
    clear F5 N5
    have hlb : (Str.ofString "|").length = 1 := by decide +kernel
    have hds2 : (dotted (wrd (ix x)) ++ Str.ofString "|").length ≤ sizeLine := sz_ok (by omega)
    have hds3 : (dotted (wrd (iy x))).length ≤ sizeLine := sz_ok (by omega)
    (try dsimp only)
    k_steps
    unfold Halt
    have hbl6 := bars_len n
    have hbv : bvs.length = 6 := by rw [hbs.length]; exact hbl6
    obtain ⟨tb, etb⟩ := strs_at hbs pl (Str.ofString "x") (by omega)
    rw [bars_at g1] at etb
    rename Fr _ _ _ _ => F7
    rename News _ _ _ _ => N7
    refine ru_itemN pl N7 (.tail _ hbl) rfl (by omega) (by omega) ?_ (by with_unfolding_all rfl)
    rw [etb]
    (try dsimp only)
    k_steps
    unfold Halt
    have hpo := patOk3 (ix_lt x) (iy_lt x)
    k_dflt (refine em (by k_asm) (by k_asm) (by k_asm) (by k_asm) (by k_asm) rfl (by decide) (by decide) hpo.len (by rw [bar_len]; decide) hpo.has hpo.spl hpo.two hpo.few hpo.fst hpo.lst ?_)
    intro h8 tk8 F8 N8
    rw [em3 hn (ix_lt x) (iy_lt x) g1 g3 g4]
    (try dsimp only)
    k_steps
    exact fp_next F8 N8 hoff ⟨⟨_, _, _, _, rfl⟩, rfl⟩
  case done =>
    rintro m₁ nw h tk ⟨⟨b, e, g, k, rfl⟩, rfl⟩ F2 N2
    exact next _ _ _ _ _ _ F2 N2
end
theorem freshLseg8 {M : Model} {A : Around} {Q : Flow → Shared → Prop} {E : Value → Shared → Prop} {s : Shared} {env : Env} (h : wpAny M A (execs [] env) Q E s) : wpAny M A (execs [] env) Q E s := by
  w_top off
  first | (walk1; fail) | exact h
section
local macro_rules | `(tactic| walk_at "call builtin:len") => `(tactic| refine Mine.halt ?_)
def cntP (l : List (Nat × Nat)) (z : Nat) : Nat := (l.filter fun q => decide (q.1 < z)).length
theorem cntP_yes {l : List (Nat × Nat)} {x : Nat × Nat} {z : Nat} (h : x.1 < z) : cntP (l ++ [x]) z = cntP l z + 1 := by
  unfold cntP; simp [List.filter_append, h]
theorem cntP_no {l : List (Nat × Nat)} {x : Nat × Nat} {z : Nat} (h : ¬ x.1 < z) : cntP (l ++ [x]) z = cntP l z := by
  unfold cntP
  rw [List.filter_append, List.filter_cons, decide_eq_false h]; simp
theorem seg9 {w : World} {p : Program} {loose : List PySem.Str} {mean : ExcName → Option Value} {mg mb : PySem.Str → Option Value} {base gg : Heap} {L fa ls lsp : Addr} {cd : Value} {s : Shared} {n nv nsp : Nat} {sv svs : List Value} {xs : List Int} {S : List (Nat × Nat)} {o5 : Obj} {u5 : Option Value} {ps : Array Value} {rest : Led} {a b c e g k : Option Value}
    (B : Below callerA base [] gg) (X : (hd.heap_39 w.params).In gg) (T : Top p loose mean mg mb gg) (hlen : xs.length ≤ 7)
    (F : Fr gg L s.heap (lawM a b c (some (.ref lsp)) e (some (.ref ls)) g k)) (N : News gg L s.heap ((L + 1 + 1 + 1 + 1 + 1, o5) :: rest)) (d5 : o5.data = .cell u5) (hoff : ∀ q ∈ rest, q.1 ≠ L + 1 + 1 + 1 + 1 + 1)
    (hS : (ls, listOf sv.toArray nv) ∈ rest) (hl : sv.length = S.length) (hs6 : S.length ≤ 6) (hB : ∀ i, i < S.length → IsPr rest (gt sv i) (((S.getD i (0, 0)).1 : Int), ((S.getD i (0, 0)).2 : Int))) (hG : Good (xs.map (spn n)) 6 S)
    (hSp : (lsp, listOf svs.toArray nsp) ∈ rest) (hBs : ArePr rest svs (xs.map (spn n))) (hps : (83, tabObj ps) ∈ rest) :
    wpAny (model Challenge.rw_qu0035_01.row.prog w) (callerA.deeper (envOfC lawD.name lawD.scope L fa cd)) (execs (lawD.body.drop 10) (envOfC lawD.name lawD.scope L fa cd)) (LawQ gg L s) (fun _ _ => False) s := by
  have hQ : Challenge.rw_qu0035_01.row.prog = Challenge.rw_qu0035_01.prog := rfl
  revert X hQ
  k_fill
  intro X hQ
  clear hQ
  unfold lawD lawDefOf
  dsimp only [List.drop]
  refine wpAny_execs_cons ?_
  refine wpAny_For ?_
  k_steps
  unfold Halt
  rename IsRange _ _ _ _ _ _ _ _ => R1
  rename Fr _ _ _ _ => F1
  rename News _ _ _ _ => N1
  refine for_rng (n := 7) (fun i m₁ nw => m₁ = lawM a b c (some (.ref lsp)) e (some (.ref ls)) g k ∧ ∃ o5' u', nw = (L + 1 + 1 + 1 + 1 + 1, o5') :: rest ∧ o5'.data = .cell u') rfl R1 ⟨by decide, by decide⟩ rfl (by decide) F1 N1 ⟨rfl, o5, u5, rfl, d5⟩ (fun _ => rfl) ?turn ?done (by passes_own)
  case turn =>
    clear R1 F1 N1
    rintro i t I m₁ nw h tk oI hi hIlt hoffI ⟨rfl, o5', u', rfl, d5'⟩ F2 N2
    have hI5 : L + 1 + 1 + 1 + 1 + 1 ≠ I := hoffI _ (.head _)
    refine wpAny_assign_Name (ru_cell (c := L + 1 + 1 + 1 + 1 + 1) (rest := (I, oI) :: rest) F2 (nsub N2 ?_) (off_cons hI5.symm hoff) d5' ?_ rfl rfl rfl)
    · ((repeat' (first | exact sub_nil | refine sub_cons ?_ ?_ | refine sub_app ?_ ?_)) <;> (try intro q hq) <;> (first | ((repeat (first | exact List.Mem.head _ | assumption | exact List.mem_append_left _ (by assumption) | refine List.Mem.tail _ ?_ | refine List.mem_append_right _ ?_)); done) | simp [*]))
    intro h3 o5'' F3 N3 d5''
    rw [show (0 : Int) + (i : Int) = ((i : Nat) : Int) by omega] at d5''
    have hms : (L + 1 + 1 + 1 + 1 + 1, o5'') ∈ ((L + 1 + 1 + 1 + 1 + 1, o5'') :: (I, oI) :: rest) := .head _
    (try dsimp only)
    k_steps
    unfold Halt
    refine wpAny_execs_cons ?_
    k_steps
    unfold Halt
    refine ListComp_PT F3 rfl (by decide) rfl (by decide) rfl rfl (by decide) ?_
    k_steps
    refine ⟨ls, sv.toArray, nv, _, fun k zs nw => nw = ((L + 1 + 1 + 1 + 1 + 1, o5'') :: (I, oI) :: rest) ∧ zs.length = cntP (S.take k) i, rfl, rfl, F3, N3, ?_, ⟨rfl, rfl⟩, ?_, ?_, ?_⟩
    · rw [List.size_toArray, hl]; unfold sizeLine; omega
    · rintro k zs nw ⟨rfl, _⟩
      exact .tail _ (.tail _ hS)
    · rintro s₂ ⟨g2, rfl⟩ zs nw ⟨rfl, hzs⟩ D h₁₁ tk₁₁ F11 N11 hoff11
      rw [List.size_toArray, hl, List.take_length] at hzs
      have hcl : cntP S i ≤ S.length := List.length_filter_le ..
      have hms2 : (L + 1 + 1 + 1 + 1 + 1, o5'') ∈ ((D, lst zs) :: (L + 1 + 1 + 1 + 1 + 1, o5'') :: (I, oI) :: rest) := .tail _ (.head _)
      replace F11 : Fr gg L h₁₁ _ := F11
      replace N11 : News gg L h₁₁ _ := N11
      (try dsimp only)
      k_steps
      unfold Halt
      refine ru_len (vs := zs) (n := zs.length) N11 (.head _) (by omega) ?_
      intro tL tkL
      rw [hzs]
      (try dsimp only)
      k_steps
      unfold Halt
      have hl2 : svs.length = (xs.map (spn n)).length := hBs.1
      have hl3 : (xs.map (spn n)).length < 50 := by rw [List.length_map]; omega
      rename Fr _ _ _ _ => F12
      rename News _ _ _ _ => N12
      k_dflt (refine due (xs := xs.map (spn n)) (z := i) (by k_asm) F12 (by k_asm) N12 (by k_asm) rfl (by decide) (by decide) (.tail _ (.tail _ (.tail _ hSp))) hl2 hl3 (by omega) (fun e he => (hBs.2 e he).mono fun q hq => .tail _ (.tail _ (.tail _ hq))) ?_)
      intro t5 h5 tk5 F5 N5
      have hnn : ∀ e, e < (xs.map (spn n)).length → 0 ≤ fsO (xs.map (spn n)) e := by
        intro e he
        unfold fsO
        rw [List.length_map] at he
        simp [List.getD_eq_getElem?_getD, he, spn]
      have hdue : ((cntP S i : Nat) : Int) = dueP (xs.map (spn n)) i := due_served hG (by omega) hnn
      rw [← hdue]
      (try dsimp only)
      k_steps
      · exact absurd rfl (by assumption)
      · refine fp_next (news₂ := (L + 1 + 1 + 1 + 1 + 1, o5'') :: rest) F5 (nsub N5 ?_) ?_ ⟨rfl, o5'', _, rfl, d5''⟩
        · ((repeat' (first | exact sub_nil | refine sub_cons ?_ ?_ | refine sub_app ?_ ?_)) <;> (try intro q hq) <;> (first | ((repeat (first | exact List.Mem.head _ | assumption | exact List.mem_append_left _ (by assumption) | refine List.Mem.tail _ ?_ | refine List.mem_append_right _ ?_)); done) | simp [*]))
        · intro q hq
          rcases List.mem_cons.mp hq with rfl | hq
          · exact hI5
          · exact hoffI q (.tail _ hq)
    · rintro s₂ ⟨g2, rfl⟩ k zs nw v hv ⟨rfl, hzs⟩
      have hip : k < S.length := by
        rw [← hl]
        have : sv[k]? = some v := by simpa using hv
        exact (List.getElem?_eq_some_iff.mp this).1
      obtain ⟨b1, t1, u1, hb1, hm⟩ := hB k hip
      have hvb : v = .ref b1 := by
        have : sv[k]? = some v := by simpa using hv
        rw [gt_some (by omega)] at this
        rw [← hb1]; exact (Option.some.inj this).symm
      refine ⟨b1, _, _, _, _, hvb, .tail _ (.tail _ hm), rfl, rfl, ?_⟩
      intro I3 oI3 C oC D2 m₂ h₁₁ tk₁₁ E' hoC hx1 hx2 F11 N11 o3 o4
      have hms2 : (L + 1 + 1 + 1 + 1 + 1, o5'') ∈ ((I3, oI3) :: (C, oC) :: (D2, lst zs) :: (L + 1 + 1 + 1 + 1 + 1, o5'') :: (I, oI) :: rest) := by simp
      k_steps
      · refine CompEnd.intro F11 N11 _ (fun _ h => h) o3 trivial ⟨rfl, ?_⟩
        rw [take_snoc (d := ((0 : Nat), (0 : Nat))) hip, cntP_yes (by omega), List.length_append, hzs]; rfl
      · refine CompEnd.intro F11 N11 _ (fun _ h => h) o3 trivial ⟨rfl, ?_⟩
        rw [take_snoc (d := ((0 : Nat), (0 : Nat))) hip, cntP_no (by omega), hzs]
  case done =>
    clear R1 F1 N1
    rintro m₁ nw h tk ⟨rfl, o5', u', rfl, d5'⟩ F2 N2
    (try dsimp only)
    k_steps
    unfold Halt
    refine wpAny_execs_cons ?_
    k_steps
    exact ⟨h, _, _, ps, [], rfl, rfl, F2, nsub N2 fun q hq => by rw [List.mem_singleton.mp hq]; exact .tail _ hps⟩
end
theorem freshLseg9 {M : Model} {A : Around} {Q : Flow → Shared → Prop} {E : Value → Shared → Prop} {s : Shared} {env : Env} (h : wpAny M A (execs [] env) Q E s) : wpAny M A (execs [] env) Q E s := by
  w_top off
  first | (walk1; fail) | exact h
end Mine
end
section
open PySem PySem.W PyProof.Rows PyProof.Rows.LCg PyProof.Rows.LCp
set_option Elab.async false
set_option maxRecDepth 100000
set_option maxHeartbeats 2000000
namespace Mine
theorem news_ne {h₀ h : Heap} {L a b : Addr} {oa ob : Obj} {l : Led} (N : News h₀ L h l) (h1 : (a, oa) ∈ l) (h2 : (b, ob) ∈ l) (hd : oa.data ≠ ob.data) : a ≠ b := by
  rintro rfl
  have e1 : h.get? a = some oa := (N _ h1).1
  have e2 : h.get? a = some ob := (N _ h2).1
  rw [e1] at e2
  exact hd (congrArg Obj.data (Option.some.inj e2))
theorem off_app {c : Addr} {l l' : Led} (h : ∀ q ∈ l, q.1 ≠ c) (h' : ∀ q ∈ l', q.1 ≠ c) : ∀ q ∈ l ++ l', q.1 ≠ c := fun q hq => (List.mem_append.mp hq).elim (h q) (h' q)
/-- the ledger without one address -/
def wo (c : Addr) (l : Led) : Led := l.filter fun q => decide (q.1 ≠ c)
theorem wo_off (c : Addr) (l : Led) : ∀ q ∈ wo c l, q.1 ≠ c := fun q hq => by simpa using (List.mem_filter.mp hq).2
theorem wo_mem {c : Addr} {l : Led} {q : Addr × Obj} (h : q ∈ l) (hc : q.1 ≠ c) : q ∈ wo c l := List.mem_filter.mpr ⟨h, by simpa using hc⟩
theorem wo_pr {h₀ h : Heap} {L c : Addr} {oc : Obj} {u : Option Value} {l : Led} (N : News h₀ L h l) (hc : (c, oc) ∈ l) (hd : oc.data = .cell u) {v : Value} {x : Int × Int} (hv : IsPr l v x) : IsPr (wo c l) v x := by
  obtain ⟨a, t, u', rfl, hm⟩ := hv
  exact ⟨a, t, u', rfl, wo_mem hm (news_ne N hm hc (by rw [hd]; exact fun e => by cases e))⟩
theorem wo_lst {h₀ h : Heap} {L c a : Addr} {oc : Obj} {u : Option Value} {l : Led} {vs : Array Value} {k : Nat} (N : News h₀ L h l) (hc : (c, oc) ∈ l) (hd : oc.data = .cell u) (hm : (a, listOf vs k) ∈ l) : (a, listOf vs k) ∈ wo c l :=
  wo_mem hm (news_ne N hm hc (by rw [hd]; exact fun e => by cases e))
theorem lawBodyOk {w : World} {p : Program} {loose : List PySem.Str} {mean : ExcName → Option Value} {mg mb : PySem.Str → Option Value} {base gg : Heap} {L fa lsc : Addr} {cd : Value} {s : Shared} {vs : List Value} {ns : List Int} {m : Nm → Option Value} {o1 o2 o3 o4 o5 : Obj}
    (B : Below callerA base [] gg) (X : (hd.heap_39 w.params).In gg) (T : Top p loose mean mg mb gg) (C : CodeHd base 87 83) (hsc : gg.IsList lsc vs.toArray) (hI : IntsAre vs ns) (hlen : ns.length ≤ 63)
    (F : Fr gg L s.heap m) (hm : m = fun _ => none) (N : News gg L s.heap [(L + 1 + 1 + 1 + 1 + 1, o5), (L + 1 + 1 + 1 + 1, o4), (L + 1 + 1 + 1, o3), (L + 1 + 1, o2), (L + 1, o1), (83, tabObj #[])])
    (d1 : o1.data = .cell (some (.ref lsc))) (d2 : o2.data = .cell none) (d3 : o3.data = .cell none) (d4 : o4.data = .cell none) (d5 : o5.data = .cell none) (l0 : 83 < L) :
    wpAny (model Challenge.rw_qu0035_01.row.prog w) (callerA.deeper (envOfC lawD.name lawD.scope L fa cd)) (execs lawD.body (envOfC lawD.name lawD.scope L fa cd)) (LawQ gg L s) (fun _ _ => False) s := by
  subst hm
  replace F : Fr gg L s.heap (lawM none none none none none none none none) :=
    fr_eq F (mpL_pad [] [Str.ofString "numbers", Str.ofString "x", Str.ofString "pairs", Str.ofString "spans", Str.ofString "y", Str.ofString "served", Str.ofString "place", Str.ofString "e"])
  have hE : PassesOwn (model Challenge.rw_qu0035_01.row.prog w) (callerA.deeper (envOfC lawD.name lawD.scope L fa cd)) (envOfC lawD.name lawD.scope L fa cd) (fun _ _ => False) := by passes_own
  have l0n : @LT.lt Nat _ 83 L := l0
  refine seg0 B X T hsc hI hlen F N d1 d2 l0 ?_
  intro h1 tk1 o2' t2 F1 N1 d2'
  generalize hnn : nOf (ns.sum + 22) = n at d2'
  have hn : n < 32 := hnn ▸ nOf_lt _
  refine seg1 (base := base) X T hsc hI hlen F1 N1 d1 d3 l0 ?_
  intro h2 tk2 o3' lw wvs lnum nvs F2 N2 d3' hW hnv lt1 lt2
  have lt1n : @LT.lt Nat _ (L + 1 + 1 + 1 + 1 + 1) lw := lt1
  have lt2n : @LT.lt Nat _ lw lnum := lt2
  have hlen7 := nums_len ns
  generalize numsOf ns = xs at hnv hlen7
  refine seg2 X T hnv hlen7 hW F2 N2 (.head _) (.tail _ (.head _)) (.tail _ (.tail _ (.tail _ (.tail _ (.head _))))) d3' ?_
  intro h3 tk3 lp pvs tups F3 N3 hA htl hne
  have tl : ∀ c oc, (c, oc) ∈ ([(lnum, listOf nvs.toArray 0), (lw, listOf wvs.toArray 0), (L + 1 + 1 + 1 + 1 + 1, o5), (L + 1 + 1 + 1 + 1, o4), (L + 1 + 1 + 1, o3'), (L + 1 + 1, o2'), (L + 1, o1), (83, tabObj #[])] : Led) → ∀ q ∈ tups, q.1 ≠ c :=
    fun c oc hc q hq => (Nat.ne_of_lt (htl q hq _ hc)).symm
  have pl : ∀ c oc, (c, oc) ∈ ([(lnum, listOf nvs.toArray 0), (lw, listOf wvs.toArray 0), (L + 1 + 1 + 1 + 1 + 1, o5), (L + 1 + 1 + 1 + 1, o4), (L + 1 + 1 + 1, o3'), (L + 1 + 1, o2'), (L + 1, o1), (83, tabObj #[])] : Led) → @Ne Nat lp c :=
    fun c oc hc => (hne (c, oc) (List.mem_append_right _ hc)).symm
  refine seg3 (o4 := o4) (led := (lp, listOf pvs.toArray pvs.length) :: (tups ++ [(lnum, listOf nvs.toArray 0), (lw, listOf wvs.toArray 0), (L + 1 + 1 + 1 + 1 + 1, o5), (L + 1 + 1 + 1, o3'), (L + 1 + 1, o2'), (L + 1, o1), (83, tabObj #[])])) X T hn F3 (nsub N3 ?_) ?_ (.tail _ (List.mem_append_right _ (by simp))) d2' d4 ?_
  · ((repeat' (first | exact sub_nil | refine sub_cons ?_ ?_ | refine sub_app ?_ ?_)) <;> (try intro q hq) <;> (first | ((repeat (first | exact List.Mem.head _ | assumption | exact List.mem_append_left _ (by assumption) | refine List.Mem.tail _ ?_ | refine List.mem_append_right _ ?_)); done) | simp [*]))
  · refine off_cons (pl _ o4 (by simp)) (off_app (tl _ o4 (by simp)) ?_)
    ((repeat' (first | exact off_nil | refine off_cons ?_ ?_)); all_goals (first | assumption | exact Ne.symm (by assumption) | (dsimp only; omega) | skip))
  intro h4 tk4 o4' lb bvs F4 N4 hbs d4' hneb hlb4
  refine seg4 (n := n) (o4 := o4') (lb := lb) (rest0 := (lb, listOf bvs.toArray bvs.length) :: (L + 1 + 1 + 1 + 1, o4') :: (lp, listOf pvs.toArray pvs.length) :: (tups ++ [(lnum, listOf nvs.toArray 0), (lw, listOf wvs.toArray 0), (L + 1 + 1 + 1 + 1 + 1, o5), (L + 1 + 1 + 1, o3'), (L + 1 + 1, o2'), (L + 1, o1)])) B X T C hn hlen7 F4 (nsub N4 ?_) ?_ (.tail _ (.tail _ (.head _))) (hA.mono ?_) (.head _) hbs (.tail _ (.head _)) d4' ?_
  · ((repeat' (first | exact sub_nil | refine sub_cons ?_ ?_ | refine sub_app ?_ ?_)) <;> (try intro q hq) <;> (first | ((repeat (first | exact List.Mem.head _ | assumption | exact List.mem_append_left _ (by assumption) | refine List.Mem.tail _ ?_ | refine List.mem_append_right _ ?_)); done) | simp [*]))
  · refine off_cons (Ne.symm (hneb (83, tabObj #[]) (.tail _ (List.mem_append_right _ (by simp))))) (off_cons (by dsimp only; omega) (off_cons (pl 83 (tabObj #[]) (by simp)) (off_app (tl _ (tabObj #[]) (by simp)) ?_)))
    ((repeat' (first | exact off_nil | refine off_cons ?_ ?_)); all_goals (first | assumption | exact Ne.symm (by assumption) | (dsimp only; omega) | skip))
  · intro q hq
    exact .tail _ (.tail _ (.tail _ (List.mem_append_left _ hq)))
  intro h5 tk5 lsp svs ps ext F5 N5 hB5 hex hne5
  generalize hr0 : ((lb, listOf bvs.toArray bvs.length) :: (L + 1 + 1 + 1 + 1, o4') :: (lp, listOf pvs.toArray pvs.length) :: (tups ++ [(lnum, listOf nvs.toArray 0), (lw, listOf wvs.toArray 0), (L + 1 + 1 + 1 + 1 + 1, o5), (L + 1 + 1 + 1, o3'), (L + 1 + 1, o2'), (L + 1, o1)]) : Led) = rest0 at N5 hex hne5
  have m_lb : (lb, listOf bvs.toArray bvs.length) ∈ rest0 := hr0 ▸ .head _
  have m_4 : (L + 1 + 1 + 1 + 1, o4') ∈ rest0 := hr0 ▸ .tail _ (.head _)
  have m_lp : (lp, listOf pvs.toArray pvs.length) ∈ rest0 := hr0 ▸ .tail _ (.tail _ (.head _))
  have m_5 : (L + 1 + 1 + 1 + 1 + 1, o5) ∈ rest0 := hr0 ▸ .tail _ (.tail _ (.tail _ (List.mem_append_right _ (by simp))))
  have m_2 : (L + 1 + 1, o2') ∈ rest0 := hr0 ▸ .tail _ (.tail _ (.tail _ (List.mem_append_right _ (by simp))))
  have hA0 : AreWs rest0 pvs (xs.map ixy) := hA.mono fun q hq => hr0 ▸ .tail _ (.tail _ (.tail _ (List.mem_append_left _ hq)))
  have up : ∀ q ∈ rest0, q ∈ ((83, tabObj ps) :: (lsp, listOf svs.toArray svs.length) :: (ext ++ rest0) : Led) := fun q hq => .tail _ (.tail _ (List.mem_append_right _ hq))
  have hB5' : ArePr ((83, tabObj ps) :: (lsp, listOf svs.toArray svs.length) :: (ext ++ rest0)) svs (xs.map (spn n)) := hB5.mono fun q hq => .tail _ (.tail _ (List.mem_append_left _ hq))
  refine seg5 B X T hn hlen7 F5 N5 (up _ m_lp) (hA0.mono up) (.tail _ (.head _)) hB5' (up _ m_2) d2' ?_
  intro h6 tk6 F6 N6
  refine seg6 B X T hlen7 F6 N6 (.tail _ (.head _)) hB5' ?_
  intro h7 tk7 ls sv nv e6 S F7 N7 hsub hne7 hsl hsi hG
  have hs6 : S.length ≤ 6 := hG.length
  have up6 : ∀ q ∈ rest0, q ∈ ((ls, listOf sv.toArray nv) :: e6 : Led) := fun q hq => .tail _ (hsub q (up q hq))
  have hsi' : ∀ i, i < S.length → IsPr ((ls, listOf sv.toArray nv) :: e6) (gt sv i) (((S.getD i (0, 0)).1 : Int), ((S.getD i (0, 0)).2 : Int)) := fun i hi => (hsi i hi).mono fun q hq => .tail _ hq
  refine seg7 B X T F7 N7 (.head _) hsl hs6 hsi' hG.ones ?_
  intro h8 tk8 F8 N8
  refine seg8 B X T hn hlen7 F8 N8 (.head _) hsl hs6 hsi' hG (up6 _ m_lp) (hA0.mono up6) (up6 _ m_lb) hbs (up6 _ m_4) d4' ?_ hE
  intro h9 tk9 b e g i F9 N9
  have c5 := up6 _ m_5
  refine seg9 (rest := wo (L + 1 + 1 + 1 + 1 + 1) ((ls, listOf sv.toArray nv) :: e6)) (o5 := o5) (ps := ps) B X T hlen7 F9 (nsub N9 ?_) d5 (wo_off _ _) (wo_lst N9 c5 d5 (.head _)) hsl hs6 (fun i hi => wo_pr N9 c5 d5 (hsi' i hi)) hG (wo_lst N9 c5 d5 (.tail _ (hsub _ (.tail _ (.head _))))) ⟨hB5'.1, fun k hk => wo_pr N9 c5 d5 ((hB5'.2 k hk).mono fun q hq => .tail _ (hsub q hq))⟩ (wo_mem (.tail _ (hsub _ (.head _))) (show @Ne Nat 83 (L + 1 + 1 + 1 + 1 + 1) by omega))
  intro q hq
  rcases List.mem_cons.mp hq with rfl | hq
  · exact c5
  · exact (List.mem_filter.mp hq).1
end Mine
end
section
open PySem PySem.W PyProof.Rows
theorem Mine.freshLw3 {M : Model} {A : Around} {Q : Flow → Shared → Prop} {E : Value → Shared → Prop} {s : Shared} {env : Env} (h : wpAny M A (execs [] env) Q E s) : wpAny M A (execs [] env) Q E s := by
  w_top off
  first | (walk1; fail) | exact h
end
open PySem PySem.W PyProof.Rows PyProof.Rows.LCg PyProof.Rows.LCp
set_option maxRecDepth 100000 in
set_option maxHeartbeats 8000000 in
theorem PySem.Challenge.cw_qu0035_01_holds : PySem.Challenge.rw_qu0035_01.Holds :=
  Mine.hd (by
  k_go0
  refine wpAny_mono (Mine.lawBodyOk (by assumption) (by assumption) (by assumption) (by assumption) (by assumption) (by assumption) (by omega) (by assumption) rfl (by assumption) (by assumption) (by assumption) (by assumption) (by assumption) (by assumption) (by assumption)) ?_ (fun _ _ h => h.elim)
  rintro f s' ⟨h', tk, m', ps, rest, rfl, rfl, F3, N3⟩
  k_steps)
