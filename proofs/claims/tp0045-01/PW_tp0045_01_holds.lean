import PyProof.Rows.All
import Wide.All
import OpenK.AllK
import Wide.FinOn
import PySem.Challenge.RW_tp0045_01
open PySem PySem.W PyProof.Rows
set_option Elab.async false
set_option maxRecDepth 100000
set_option maxHeartbeats 8000000
open_top Mine.hd for PySem.Challenge.rw_tp0045_01
namespace Mine
open PySem PyProof.Rows PySem.StrLaws

/-- a text by its codes -/
noncomputable def tx (l : List Nat) : Str := ⟨l.toArray⟩

theorem tx_length (l : List Nat) : (tx l).length = l.length := by simp [tx, Str.length]
theorem tx_list (l : List Nat) : (tx l).cps.toList = l := by simp [tx]
theorem tx_append (a b : List Nat) : tx a ++ tx b = tx (a ++ b) := by
  refine Str.ext' (Array.toList_inj.mp ?_)
  rw [Str.cps_append, Array.toList_append, tx_list, tx_list, tx_list]
theorem tx_inj {a b : List Nat} (h : tx a = tx b) : a = b := by
  rw [← tx_list a, ← tx_list b, h]

theorem tx_slice (l : List Nat) {i j : Int} {a b : Nat} (hi : i = (a : Int)) (hj : j = (b : Int)) (ha : a ≤ l.length) (hab : a ≤ b) :
    Txt.slice (tx l) (some i) (some j) = tx ((l.drop a).take (b - a)) := by
  subst hi; subst hj
  have e : Builtin.Str.strSliceIndices (some (a : Int)) (some (b : Int)) 1 (tx l).length = Builtin.Str.strSliceIndices (some (a : Int)) (some ((min b l.length : Nat) : Int)) 1 (tx l).length := by
    have h1 : ¬ ((a : Int) < 0) := by omega
    have h2 : ¬ ((b : Int) < 0) := by omega
    have h3 : ¬ (((min b l.length : Nat) : Int) < 0) := by omega
    have e1 : max (0 : Int) (min (b : Int) (l.length : Int)) = max (0 : Int) (min ((min b l.length : Nat) : Int) (l.length : Int)) := by
      rcases Nat.le_total b l.length with h | h
      · rw [Nat.min_eq_left h]
      · rw [Nat.min_eq_right h, Int.min_eq_right (a := (b : Int)) (Int.ofNat_le.mpr h), Int.min_eq_right (Int.le_refl _)]
    simp only [Builtin.Str.strSliceIndices, h1, h2, h3, if_false, tx_length, e1, show ((1 : Int) > 0) = True from by simp, if_true]
  have e2 : Txt.slice (tx l) (some (a : Int)) (some (b : Int)) = sliceText (tx l) (some (a : Int)) (some ((min b l.length : Nat) : Int)) := by
    unfold Txt.slice sliceText
    rw [e]
  rw [e2, sliceText_nat (tx l) (by omega) (by rw [tx_length]; omega), tx_list]
  show tx _ = tx _
  congr 1
  by_cases hb : b ≤ l.length
  · rw [Nat.min_eq_left hb]
  · rw [Nat.min_eq_right (by omega), List.take_of_length_le (by rw [List.length_drop]; omega), List.take_of_length_le (by rw [List.length_drop]; omega)]

theorem tx_slice0 (l : List Nat) {j : Int} {b : Nat} (hj : j = (b : Int)) : Txt.slice (tx l) none (some j) = tx (l.take b) := by
  have e : Txt.slice (tx l) none (some j) = Txt.slice (tx l) (some ((0 : Nat) : Int)) (some j) := by
    unfold Txt.slice
    have h : Builtin.Str.strSliceIndices none (some j) 1 (tx l).length = Builtin.Str.strSliceIndices (some ((0 : Nat) : Int)) (some j) 1 (tx l).length := sliceIdx_none_lo _ _
    rw [h]
  rw [e, tx_slice l rfl hj (Nat.zero_le _) (Nat.zero_le _)]
  rfl
theorem tx_slice1 (l : List Nat) {i : Int} {a : Nat} (hi : i = (a : Int)) (ha : a ≤ l.length) : Txt.slice (tx l) (some i) none = tx (l.drop a) := by
  have e : Txt.slice (tx l) (some i) none = Txt.slice (tx l) (some i) (some ((l.length : Nat) : Int)) := by
    unfold Txt.slice
    have h : Builtin.Str.strSliceIndices (some i) none 1 (tx l).length = Builtin.Str.strSliceIndices (some i) (some ((tx l).length : Int)) 1 (tx l).length := sliceIdx_none_hi _ _
    rw [h, tx_length]
  rw [e, tx_slice l hi rfl ha ha, List.take_of_length_le (by rw [List.length_drop]; omega)]

theorem tx_item (l : List Nat) {i : Int} {a c : Nat} (hi : i = (a : Int)) (h : l[a]? = some c) : Txt.item (tx l) i = tx [c] := by
  subst hi
  unfold Txt.item Txt.charAt
  rw [at_nonneg (n := c) (by omega) (by simpa [tx] using h)]
  rfl

theorem foldl_rep (l : List Nat) : ∀ (n : Nat) (a : Array Nat), ((List.replicate n l.toArray).foldl (· ++ ·) a).toList = a.toList ++ (List.replicate n l).flatten
  | 0, a => by simp
  | n + 1, a => by
    rw [List.replicate_succ, List.foldl_cons, foldl_rep l n, List.replicate_succ, List.flatten_cons, Array.toList_append, List.append_assoc]

theorem tx_mul (l : List Nat) {i : Int} {n : Nat} (hi : i = (n : Int)) : Txt.mul (tx l) i = tx (List.replicate n l).flatten := by
  subst hi
  unfold Txt.mul
  split
  · have : n = 0 := by omega
    subst this; rfl
  · split
    · rename_i h1 h2
      simp only [Bool.or_eq_true, beq_iff_eq] at h2
      rcases h2 with h2 | h2
      · have : n = 1 := by omega
        subst this; simp
      · rw [tx_length] at h2
        have : l = [] := List.length_eq_zero_iff.mp h2
        subst this
        congr 1
        simp
    · refine Str.ext' (Array.toList_inj.mp ?_)
      show ((List.replicate (n : Int).toNat l.toArray).foldl (· ++ ·) #[]).toList = _
      rw [foldl_rep, tx_list]
      simp

theorem subAt_one (l : List Nat) (c k : Nat) : At (tx l) (tx [c]) (tx l).length k ↔ l[k]? = some c := by
  unfold At
  rw [subAt_eq, tx_list, tx_list, tx_length, tx_length]
  constructor
  · rintro ⟨h1, h2⟩
    have hk : k < l.length := by simp at h1; omega
    rw [List.drop_eq_getElem_cons hk] at h2
    simp only [List.length_cons, List.length_nil, List.take_succ_cons, List.take_zero] at h2
    rw [List.getElem?_eq_getElem hk]
    simpa using h2
  · intro h
    obtain ⟨hk, e⟩ := List.getElem?_eq_some_iff.mp h
    refine ⟨by simp; omega, ?_⟩
    rw [List.drop_eq_getElem_cons hk]
    simp [e]

theorem count_free (l : List Nat) (c : Nat) : ∀ a, (∀ k, a ≤ k → l[k]? ≠ some c) → (l.drop a).count c = 0 := by
  intro a h
  rw [List.count_eq_zero]
  intro hm
  obtain ⟨j, hj⟩ := List.getElem?_of_mem hm
  rw [List.getElem?_drop] at hj
  exact h (a + j) (by omega) hj
theorem count_gap (l : List Nat) (c a b : Nat) (hab : a ≤ b) (h : ∀ k, a ≤ k → k < b → l[k]? ≠ some c) : (l.drop a).count c = (l.drop b).count c := by
  have e : l.drop a = (l.drop a).take (b - a) ++ l.drop b := by
    have h1 := List.take_append_drop (b - a) (l.drop a)
    rw [List.drop_drop, show a + (b - a) = b by omega] at h1
    exact h1.symm
  rw [e, List.count_append]
  have z : ((l.drop a).take (b - a)).count c = 0 := by
    rw [List.count_eq_zero]
    intro hm
    obtain ⟨j, hj⟩ := List.getElem?_of_mem hm
    have hlt : j < b - a := by
      have h1 := (List.getElem?_eq_some_iff.mp hj).1
      simp at h1
      omega
    rw [List.getElem?_take_of_lt hlt, List.getElem?_drop] at hj
    exact h (a + j) (by omega) (by omega) hj
  omega
theorem count_chain (l : List Nat) (c : Nat) : ∀ (cuts : List Nat) (a f : Nat), ChainG (tx l) (tx [c]) (tx l).length a cuts f → (∀ k, f ≤ k → l[k]? ≠ some c) → cuts.length = (l.drop a).count c
  | [], a, f, h, hf => by
    have e : f = a := h
    subst e
    rw [count_free l c f hf]; rfl
  | x :: r, a, f, h, hf => by
    obtain ⟨h1, h2, h3, h4⟩ := h
    have hx := (subAt_one l c x).mp h2
    have h4' : ChainG (tx l) (tx [c]) (tx l).length (x + 1) r f := h4
    have ih := count_chain l c r (x + 1) f h4' hf
    rw [count_gap l c a x h1 (fun k ha hb hk => h3 k ha hb ((subAt_one l c k).mpr hk))]
    obtain ⟨hlt, e⟩ := List.getElem?_eq_some_iff.mp hx
    rw [List.drop_eq_getElem_cons hlt, e, List.count_cons_self, List.length_cons, ih]
theorem tx_count (l : List Nat) (c : Nat) : Txt.count (tx l) (tx [c]) = (l.count c : Nat) := by
  unfold Txt.count
  obtain ⟨f, h1, h2⟩ := occ_tight (tx l) (tx [c]) (by rw [tx_length]; exact Nat.le_refl _)
  have := count_chain l c _ 0 f h1 fun k hk e => h2 k hk ((subAt_one l c k).mpr e)
  rw [List.drop_zero] at this
  rw [this]

theorem tx_eqb (a b : List Nat) : ((tx a).cps.toList == (tx b).cps.toList) = decide (a = b) := by
  rw [tx_list, tx_list]; rw [Bool.eq_iff_iff]; simp
end Mine
namespace Mine
open PySem PySem.W PyProof.Rows
/-- a frame's first names, written plain -/
noncomputable def frOf : List (Str × Value) → Str → Option Value
  | [] => fun _ => none
  | (n, v) :: r => fun z => if z = n then some v else frOf r z
theorem lookup_frOf : ∀ (l : List (Str × Value)) (y : Str), List.lookup y l = frOf l y
  | [], _ => rfl
  | (n, v) :: r, y => by
    unfold frOf List.lookup
    by_cases e : y = n
    · subst e; simp
    · have : (y == n) = false := beq_eq_false_iff_ne.mpr e
      rw [this, if_neg e]; exact lookup_frOf r y
theorem fr_plain {g h : Heap} {L : Addr} {l' : List (Str × Value)} (l : List (Str × Value)) (F : Fr g L h (fun y => List.lookup y l')) (e : l' = l) : Fr g L h (frOf l) := by
  subst e
  exact (funext (lookup_frOf l')) ▸ F
theorem ifn {α : Type} {p : Prop} {inst : Decidable p} {a b c : α} (h : ¬ p) (e : b = c) : @ite α p inst a b = c := (if_neg h).trans e
theorem ifnR {α : Type} {p : Prop} {inst : Decidable p} {a b c : α} (h : ¬ p) (e : c = b) : c = @ite α p inst a b := e.trans (if_neg h).symm
theorem nin1 {z n : Str} (h : [n].contains z = false) : z ≠ n := by rintro rfl; simp at h
theorem let_around {M : Model} {α : Type} {A : Around} {t : Sem α} {Q : α → Shared → Prop} {E : Value → Shared → Prop} {s : Shared} (h : let A' := A; wpAny M A' t Q E s) : wpAny M A t Q E s := h
theorem let_fr {g h : Heap} {L : Addr} {m : Str → Option Value} {G : Prop} (F : Fr g L h m) (k : let m' := m; Fr g L h m' → G) : G := k F
theorem let_state {M : Model} {α : Type} {A : Around} {t : Sem α} {Q : α → Shared → Prop} {E : Value → Shared → Prop} {s : Shared} (h : let s' := s; wpAny M A t Q E s') : wpAny M A t Q E s := h
theorem let_env {M : Model} {A : Around} {body : List Stmt} {env : Env} {Q : Flow → Shared → Prop} {E : Value → Shared → Prop} {s : Shared} (h : let e := env; wpAny M A (execs body e) Q E s) : wpAny M A (execs body env) Q E s := h
theorem let_news {g h : Heap} {L : Addr} {l : List (Addr × Obj)} {G : Prop} (N : News g L h l) (k : let l' := l; News g L h l' → G) : G := k N
theorem news_drop {h₀ h : Heap} {L : Addr} {p : Addr × Obj} {l : List (Addr × Obj)} (N : News h₀ L h (p :: l)) : News h₀ L h l := fun q hq => N q (List.Mem.tail _ hq)
/-- a stored value's token is none of the walk's business -/
theorem gen_int {M : Model} {A : Around} {env : Env} {nm : Str} {v : Int} {t : Tok} {Q : Unit → Shared → Prop} {E : Value → Shared → Prop} {s : Shared} (h : ∀ t', wpAny M A (storeName env nm (.int v t')) Q E s) : wpAny M A (storeName env nm (.int v t)) Q E s := h t
theorem gen_str {M : Model} {A : Around} {env : Env} {nm : Str} {v : Str} {t : Tok} {Q : Unit → Shared → Prop} {E : Value → Shared → Prop} {s : Shared} (h : ∀ t', wpAny M A (storeName env nm (.str v t')) Q E s) : wpAny M A (storeName env nm (.str v t)) Q E s := h t
section
variable {prog : Program} {w : World} {A : Around} {E : Value → Shared → Prop} {s : Shared} {value slice : PySem.Expr} {x y : Str} {t u : Tok} {h₀ : Heap} {L : Addr} {m : Str → Option Value} {news : List (Addr × Obj)} {Q : Value → Shared → Prop}
theorem sl_ns {j : Int} {uj : Tok} (e : Txt.slice x none (some j) = y) (hsz : x.length ≤ sizeLine) (hF : Fr h₀ L s.heap m) (hN : News h₀ L s.heap news) (h : ∀ h' t' k, Fr h₀ L h' m → News h₀ L h' news → Q (.str y t') { s with heap := h', toks := k })
    (hs : subscripted slice false (.str x t) (.ref s.heap.objs.size) = operate [.ref s.heap.objs.size, .str x t] (getItem (.str x t) (.ref s.heap.objs.size)) := by with_unfolding_all rfl)
    (ht : ∀ r, letTemporaryGo value (.str x t) r = pure () := by intro _; with_unfolding_all rfl) :
    wpAny (model prog w) A (subscriptTail value slice (.str x t) (.ref s.heap.objs.size)) Q E { s with heap := s.heap.push { cls := .type "slice", data := .fields #[.none, .int j uj, .none] } } := by
  subst e; exact slice_strN_ns hF hN h hs ht hsz
theorem sl_sn {i : Int} {ui : Tok} (e : Txt.slice x (some i) none = y) (hsz : x.length ≤ sizeLine) (hF : Fr h₀ L s.heap m) (hN : News h₀ L s.heap news) (h : ∀ h' t' k, Fr h₀ L h' m → News h₀ L h' news → Q (.str y t') { s with heap := h', toks := k })
    (hs : subscripted slice false (.str x t) (.ref s.heap.objs.size) = operate [.ref s.heap.objs.size, .str x t] (getItem (.str x t) (.ref s.heap.objs.size)) := by with_unfolding_all rfl)
    (ht : ∀ r, letTemporaryGo value (.str x t) r = pure () := by intro _; with_unfolding_all rfl) :
    wpAny (model prog w) A (subscriptTail value slice (.str x t) (.ref s.heap.objs.size)) Q E { s with heap := s.heap.push { cls := .type "slice", data := .fields #[.int i ui, .none, .none] } } := by
  subst e; exact slice_strN_sn hF hN h hs ht hsz
theorem sl_ss {i j : Int} {ui uj : Tok} (e : Txt.slice x (some i) (some j) = y) (hsz : x.length ≤ sizeLine) (hF : Fr h₀ L s.heap m) (hN : News h₀ L s.heap news) (h : ∀ h' t' k, Fr h₀ L h' m → News h₀ L h' news → Q (.str y t') { s with heap := h', toks := k })
    (hs : subscripted slice false (.str x t) (.ref s.heap.objs.size) = operate [.ref s.heap.objs.size, .str x t] (getItem (.str x t) (.ref s.heap.objs.size)) := by with_unfolding_all rfl)
    (ht : ∀ r, letTemporaryGo value (.str x t) r = pure () := by intro _; with_unfolding_all rfl) :
    wpAny (model prog w) A (subscriptTail value slice (.str x t) (.ref s.heap.objs.size)) Q E { s with heap := s.heap.push { cls := .type "slice", data := .fields #[.int i ui, .int j uj, .none] } } := by
  subst e; exact slice_strN_ss hF hN h hs ht hsz
theorem eq_b {b : Bool} (e : (x == y) = b) (h : Q (.bool b) s) : wpAny (model prog w) A (compareOp .Eq (.str x t) (.str y u)) Q E s := eq_str (by rw [e]; exact h)
theorem ne_b {b : Bool} (e : (x != y) = b) (h : Q (.bool b) s) : wpAny (model prog w) A (compareOp .NotEq (.str x t) (.str y u)) Q E s := ne_str (by rw [e]; exact h)
theorem it_s {i : Int} {u : Tok} (e : Txt.item x i = y) (h1 : 0 ≤ i) (h2 : i < x.length) (hsz : x.length ≤ sizeLine) (h : Q (.str y s.toks) { s with toks := s.toks + 1 })
    (hs : subscripted slice false (.str x t) (.int i u) = operate [.str x t, .int i u] (getItem (.str x t) (.int i u)) := by with_unfolding_all rfl)
    (ht : ∀ r, letTemporaryGo value (.str x t) r = pure () := by intro _; with_unfolding_all rfl) :
    wpAny (model prog w) A (subscriptTail value slice (.str x t) (.int i u)) Q E s := by
  subst e
  rw [sizeLine_eq] at hsz
  exact item_str (fitsSsize_of (N := 9223372036854775808) (by omega) (by omega) (Int.le_refl _)) (by omega) h2 (fun _ => h) hs ht
end


theorem topNotIn_K {prog : Program} {w : World} {A : Around} {E : Value → Shared → Prop} {s : Shared} {h₀ : Heap} {L a : Addr} {m : Str → Option Value} {K : Frag} {es : Array DictEntry} {n : Nat} {x : Str} {t : Tok} {r : Option Value} {Q : Value → Shared → Prop}
    (F : Fr h₀ L s.heap m) (X₀ : K.In h₀) (hl : K.lookup a = some ⟨.type "dict", none, .dict es n, #[]⟩) (hk : KeysLit w.params es.toList) (e : nsIn K a x = some r) (lo : (a == sysModules) = false)
    (h : Q (.bool !r.isSome) { s with toks := s.toks + 1 }) : wpAny (model prog w) A (compareOp .NotIn (.str x t) (.ref a)) Q E s :=
  wpAny_notIn_of (strKind_is prog w x t) lo (mapOf_K (prog := prog) (X₀.keeps F.keep) hl hk) (by rw [find_K hl e]; exact h)

/-- a loop whose turns may make objects that stay: the turn's end -/
noncomputable def FreeEnd (h₀ : Heap) (L : Addr) (J : (Str → Option Value) → List (Addr × Obj) → Prop) (own : List (Addr × Obj)) (s₁ s₂ : Shared) : Prop :=
  ∃ h' tk m' nx, s₂ = { s₁ with heap := h', toks := tk } ∧ Fr h₀ L h' m' ∧ News h₀ L h' (nx ++ own) ∧ (∀ p ∈ nx, ∀ q ∈ own, q.1 ≠ p.1) ∧ J m' nx
noncomputable def FreePost (h₀ : Heap) (L : Addr) (J : (Str → Option Value) → List (Addr × Obj) → Prop) (own : List (Addr × Obj)) (s₁ : Shared) (Q : Flow → Shared → Prop) (f : Flow) (s₂ : Shared) : Prop :=
  match f with
  | .ret v => Q (.ret v) s₂
  | .brk => Q .next s₂
  | _ => FreeEnd h₀ L J own s₁ s₂
theorem FreeEnd.intro {h₀ : Heap} {L : Addr} {J : (Str → Option Value) → List (Addr × Obj) → Prop} {own news' nx : List (Addr × Obj)} {s₁ : Shared} {h' : Heap} {tk : Nat} {m' : Str → Option Value}
    (F : Fr h₀ L h' m') (N : News h₀ L h' news') (hn : ∀ p ∈ nx ++ own, p ∈ news') (ha : ∀ p ∈ nx, ∀ q ∈ own, q.1 ≠ p.1) (hj : J m' nx) : FreeEnd h₀ L J own s₁ { s₁ with heap := h', toks := tk } :=
  ⟨h', tk, m', nx, rfl, F, fun p hp => N p (hn p hp), ha, hj⟩
section
variable {prog : Program} {w : World} {A : Around} {E : Value → Shared → Prop} {s : Shared} {env : Env} {h₀ : Heap} {x : Str} {body : List Stmt} {Q : Flow → Shared → Prop}
theorem loop_free {I : Addr} {n : Nat} {P : Nat → Value → Prop} {St : Nat → Heap → Prop} {m₀ : Str → Option Value} {news : List (Addr × Obj)} (J : Nat → (Str → Option Value) → List (Addr × Obj) → Prop)
    (W : Walks prog w A I [I] [I] n P St) (hSt : ∀ i h, St i h → ∃ o, h.get? I = some o) (hLf : env.locals ≠ I) (hI : h₀.get? I = none) (hnw : ∀ p ∈ news, p.1 ≠ I) (hst : St 0 s.heap) (F : Fr h₀ env.locals s.heap m₀) (N : News h₀ env.locals s.heap news) (hj : J 0 m₀ news)
    (turn : ∀ i v m₁ nx h tk own, i < n → P i v → J i m₁ nx → (∀ p ∈ nx, ∀ q ∈ own, q.1 ≠ p.1) → Fr h₀ env.locals h (fun y => if y = x then some v else m₁ y) → News h₀ env.locals h (nx ++ own) →
      wpAny (model prog w) A (execs body env) (FreePost h₀ env.locals (J (i + 1)) own { s with heap := h, toks := tk } Q) E { s with heap := h, toks := tk })
    (done : ∀ m₁ nx h tk, J n m₁ nx → Fr h₀ env.locals h m₁ → News h₀ env.locals h nx → Q .next { s with heap := h, toks := tk }) :
    LoopAtV prog w A h₀ env x body Q E (.ref I) s := by
  refine ⟨I, [I], [I], n, P, St, m₀, news, J, rfl, W, ?_, ?_, ?_, hst, F, N, hj, ?_, ?_⟩
  · intro hm; exact hLf (List.mem_singleton.mp hm)
  · intro b hb; rw [List.mem_singleton.mp hb]; exact hI
  · intro p hp hm; exact hnw p hp (List.mem_singleton.mp hm)
  · rintro i v m₁ news₁ s₁ own ⟨hh', tk', rfl⟩ hin hP hJ hoff hown _ hall hst' F₁ N₁
    have hsep : ∀ p ∈ news₁, ∀ q ∈ own, q.1 ≠ p.1 := fun p hp q hq e => hoff p hp (e ▸ hown q hq)
    have N₂ : News h₀ env.locals hh' (news₁ ++ own) := fun p hp => N₁ p ((List.mem_append.mp hp).elim (fun h => List.mem_append.mpr (.inr h)) fun h => List.mem_append.mpr (.inl h))
    obtain ⟨o, ho⟩ := hSt _ _ hst'
    have hIo : (I, o) ∈ own := hall I (List.mem_singleton.mpr rfl) hI o ho
    refine wpAny_mono (turn i v m₁ news₁ hh' tk' own hin hP hJ hsep F₁ N₂) (fun f s₂ p => ?_) fun _ _ e => e
    have fin : FreeEnd h₀ env.locals (J (i + 1)) own { s with heap := hh', toks := tk' } s₂ → LoopStepU h₀ env.locals [I] own (J (i + 1)) { s with heap := hh', toks := tk' } .next s₂ := by
      rintro ⟨h', tk, m', nx, e, F', N', ha, hm⟩
      exact ⟨rfl, h', tk, m', nx, e, F', fun p hp => N' p ((List.mem_append.mp hp).elim (fun h => List.mem_append.mpr (.inr h)) fun h => List.mem_append.mpr (.inl h)), fun p hp hq => ha p hp _ hIo (List.mem_singleton.mp hq).symm, hm⟩
    cases f with
    | ret v => exact .ret p
    | brk => exact .brk p
    | next => exact .next (fin p)
    | cont => exact .cont (fin p)
  · rintro h' tk m' news' F' N' _ hJ
    exact done m' news' h' tk hJ F' N'
theorem free_text {xt : Str} {tx : Tok} {m₀ : Str → Option Value} {news : List (Addr × Obj)} (J : Nat → (Str → Option Value) → List (Addr × Obj) → Prop)
    (hh : A.handled = none) (F : Fr h₀ env.locals s.heap m₀) (N : News h₀ env.locals s.heap news) (hj : J 0 m₀ news)
    (turn : ∀ i n t m₁ nx h tk own, xt.cps[i]? = some n → J i m₁ nx → (∀ p ∈ nx, ∀ q ∈ own, q.1 ≠ p.1) → Fr h₀ env.locals h (fun y => if y = x then some (.str ⟨#[n]⟩ t) else m₁ y) → News h₀ env.locals h (nx ++ own) →
      wpAny (model prog w) A (execs body env) (FreePost h₀ env.locals (J (i + 1)) own { s with heap := h, toks := tk } Q) E { s with heap := h, toks := tk })
    (done : ∀ m₁ nx h tk, J xt.cps.size m₁ nx → Fr h₀ env.locals h m₁ → News h₀ env.locals h nx → Q .next { s with heap := h, toks := tk }) :
    wpAny (model prog w) A (pyIter (.str xt tx)) (fun it s₂ => LoopAtV prog w A h₀ env x body Q E it s₂) E s := by
  have key : ∀ (ty : String) (o : Obj), Walks prog w A s.heap.objs.size [s.heap.objs.size] [s.heap.objs.size] xt.cps.size (SignAt xt) (fun i h => h.IsStrIter s.heap.objs.size ty xt tx i) →
      o.cls = .type ty ∧ o.data = .fields #[.str xt tx, .int 0 0] → o.isFreed = false → LoopAtV prog w A h₀ env x body Q E (.ref s.heap.objs.size) { s with heap := s.heap.push o } := by
    intro ty o W ho hfr
    refine loop_free (s := { s with heap := s.heap.push o }) J W (fun _ _ st => let ⟨o, ho, _⟩ := st; ⟨o, ho⟩) ?_ ?_ ?_ ⟨o, Heap.get?_push_size _ hfr, ho.1, ho.2⟩ (F.push _) (fun p hp => ⟨Heap.get?_push_of_some _ (N p hp).1, (N p hp).2⟩) hj ?_ ?_
    · exact Nat.ne_of_lt F.ns.lt
    · exact next_is_new F
    · intro p hp e; exact absurd (Heap.lt_size (N p hp).1) (e ▸ Nat.lt_irrefl _)
    · rintro i v m₁ nx h tk own hi ⟨n, u, hn, rfl⟩ hJ hsep F₁ N₁
      exact turn i n u m₁ nx h tk own hn hJ hsep F₁ N₁
    · rintro m₁ nx h tk hJ F₁ N₁
      exact done m₁ nx h tk hJ F₁ N₁
  cases ha : xt.cps.all (· < 128)
  · exact wpAny_pyIter_wide ha (key "str_iterator" _ (Walks.strWide hh _ xt tx) ⟨rfl, rfl⟩ rfl)
  · exact wpAny_pyIter_ascii ha (key "str_ascii_iterator" _ (Walks.strAscii hh _ xt tx) ⟨rfl, rfl⟩ rfl)
end

section
variable {prog : Program} {w : World} {A : Around} {E : Value → Shared → Prop} {s : Shared} {env : Env} {h₀ : Heap} {x y : Str} {body : List Stmt} {Q : Flow → Shared → Prop}
/-- one int gathered over range(n): its value ahead of turn j is f j -/
theorem acc_range {f : Nat → Int} {n : Nat} {r : Addr} {t₀ u₀ v₀ ti : Tok} {m₀ : Str → Option Value} {news : List (Addr × Obj)} (hfit : n ≤ 1000000) (hyx : y ≠ x) (hh : A.handled = none) (hr : IsRange s.heap r 0 (n : Int) 1 t₀ u₀ v₀)
    (F : Fr h₀ env.locals s.heap m₀) (N : News h₀ env.locals s.heap news) (hk : m₀ y = some (.int (f 0) ti))
    (turn : ∀ (j : Nat) (t ti : Tok) (u : Str → Option Value) h tk own, j < n → OwnOff own (news.map (·.1)) →
      Fr h₀ env.locals h (fun z => if z = x then some (.int (j : Int) t) else kstB (fun z => if ([] : List Str).contains z then u z else m₀ z) [(y, .int (f j) ti)] z) → News h₀ env.locals h (news ++ own) →
      wpAny (model prog w) A (execs body env) (InvPostN h₀ env.locals (fun m nx => nx = news ∧ ∃ t' v, m y = some (.int v t') ∧ v = f (j + 1) ∧ ∀ z, z ≠ x → z ≠ y → m z = m₀ z) own (news.map (·.1)) { s with heap := h, toks := tk } Q) E { s with heap := h, toks := tk })
    (done : ∀ (v : Int) (ti : Tok) (u : Str → Option Value) h tk, v = f n → Fr h₀ env.locals h (fun z => if z = x then u z else kstB (fun z => if ([] : List Str).contains z then u z else m₀ z) [(y, .int v ti)] z) → News h₀ env.locals h news → Q .next { s with heap := h, toks := tk }) :
    wpAny (model prog w) A (pyIter (.ref r)) (fun it s₂ => LoopAtV prog w A h₀ env x body Q E it s₂) E s := by
  have hn : Builtin.Range.rangeSize 0 (n : Int) 1 = (n : Int) := (rangeSize_nat _ _).trans (by simp)
  refine kst_range (σ := Int × Tok) (n := n) (fun _ => news) (fun c => [(y, .int c.1 c.2)]) (fun _ => True) [] (fun pre c => c.1 = f pre.length) (f 0, ti) hh hr
    (small_one (by omega) (by omega) (by omega) (by omega)) hn F N True.intro (List.forall_mem_cons.mpr ⟨hk, List.forall_mem_nil _⟩) rfl ?_ ?_
  · rintro ⟨il, ti⟩ pre k t u h tk own hk hlt hoff - hP F₁ N₁
    dsimp only at hP F₁ N₁ hoff ⊢
    have hj : k = (pre.length : Int) := by omega
    subst hj
    subst hP
    refine wpAny_mono (turn pre.length t ti u h tk own hlt hoff F₁ N₁) (fun fl s₂ p => ?_) fun _ _ x => x
    have up : InvEndN h₀ env.locals (fun m nx => nx = news ∧ ∃ t' v, m y = some (.int v t') ∧ v = f (pre.length + 1) ∧ ∀ z, z ≠ x → z ≠ y → m z = m₀ z) own (news.map (·.1)) { s with heap := h, toks := tk } s₂ →
        InvEndN h₀ env.locals (KstS (fun _ => news) (fun c : Int × Tok => [(y, .int c.1 c.2)]) (fun _ => True) x [] m₀ (fun pre c => c.1 = f pre.length) (pre ++ [(pre.length : Int)])) own (news.map (·.1)) { s with heap := h, toks := tk } s₂ := by
      rintro ⟨h', tk', m', news', nx, e, F', N', hn', ho', ha, hnx, t', v, h1, h2, h3⟩
      refine ⟨h', tk', m', news', nx, e, F', N', hn', ho', ha, (v, t'), hnx, True.intro, List.forall_mem_cons.mpr ⟨h1, List.forall_mem_nil _⟩, fun z hz hz2 _ => h3 z hz (hz2 _ (.head _)), ?_⟩
      show v = f (pre ++ [(pre.length : Int)]).length
      rw [List.length_append, List.length_singleton]; exact h2
    cases fl with
    | ret v => exact p
    | brk => exact p
    | next => exact up p
    | cont => exact up p
  · rintro ⟨il, ti⟩ u h tk - hP F₁ N₁
    dsimp only at hP F₁ N₁
    rw [rangeKs_length] at hP
    exact done il ti u h tk hP F₁ N₁
theorem acc_end {f : Nat → Int} {news own news' : List (Addr × Obj)} {adr : List Addr} {m₀ m' : Str → Option Value} {j : Nat} {s₁ : Shared} {h' : Heap} {L : Addr} {tk : Nat} {t' : Tok} {v : Int}
    (F : Fr h₀ L h' m') (h1 : m' y = some (.int v t')) (N : News h₀ L h' news') (hin : ∀ p ∈ news ++ own, p ∈ news') (ha : news.map (·.1) = adr) (hy : v = f (j + 1)) (h3 : ∀ z, z ≠ x → z ≠ y → m' z = m₀ z) :
    InvEndN h₀ L (fun m nx => nx = news ∧ ∃ t' v, m y = some (.int v t') ∧ v = f (j + 1) ∧ ∀ z, z ≠ x → z ≠ y → m z = m₀ z) own adr s₁ { s₁ with heap := h', toks := tk } :=
  InvEndN.intro F N ⟨rfl, t', v, h1, hy, h3⟩ ha (fun p hp => hin p (List.mem_append.mpr (.inl hp))) (fun p hp => hin p (List.mem_append.mpr (.inr hp)))
end
/-- what a call of the text's def at f, on vs, hands back: a value and what it made -/
noncomputable def Ctr (w : World) (f : Addr) (sz : Nat) (vs : List Value) (Ret : Value → List (Addr × Obj) → Prop) : Prop :=
  ∀ (loose : List Str) (mean : ExcName → Option Value) (mg mb : Str → Option Value) (dp un : Nat) (gd : Option (List Code)) (cn : Str) (cs : Scope) (a : Addr) (ccd : Value) (cl : List (Str × Addr)) (outer : List Env) (A₀ : Around) (base h₀ : Heap) (L : Addr) (m : Str → Option Value) (news : List (Addr × Obj)) (s : Shared)
    (Q E : Value → Shared → Prop),
    Below A₀ base outer h₀ → Fr h₀ L s.heap m → (Mine.hd.heap_39 w.params).In h₀ → News h₀ L s.heap news → Top Mine.hd.view_39 loose mean mg mb h₀ → cs.kind = .function → dp + sz < recursionLimit → un + 8 * sz < cLine →
    (∀ r tl h' tk', Fr h₀ L h' m → News h₀ L h' (tl ++ news) → (∀ q ∈ news, ∀ p ∈ tl, q.1 < p.1) → Ret r tl → Q r { s with heap := h', toks := tk' }) →
    wpAny (model PySem.Challenge.rw_tp0045_01.row.prog w) (ktrTop dp un gd cn cs L a ccd cl outer) (call (.ref f) vs) Q E s
/-- the same, where something must stand in the ledger -/
noncomputable def CtrP (w : World) (f : Addr) (sz : Nat) (vs : List Value) (Pre : List (Addr × Obj) → Prop) (Ret : Value → List (Addr × Obj) → Prop) : Prop :=
  ∀ (loose : List Str) (mean : ExcName → Option Value) (mg mb : Str → Option Value) (dp un : Nat) (gd : Option (List Code)) (cn : Str) (cs : Scope) (a : Addr) (ccd : Value) (cl : List (Str × Addr)) (outer : List Env) (A₀ : Around) (base h₀ : Heap) (L : Addr) (m : Str → Option Value) (news : List (Addr × Obj)) (s : Shared)
    (Q E : Value → Shared → Prop),
    Below A₀ base outer h₀ → Fr h₀ L s.heap m → (Mine.hd.heap_39 w.params).In h₀ → News h₀ L s.heap news → Top Mine.hd.view_39 loose mean mg mb h₀ → cs.kind = .function → dp + sz < recursionLimit → un + 8 * sz < cLine → Pre news →
    (∀ r tl h' tk', Fr h₀ L h' m → News h₀ L h' (tl ++ news) → (∀ q ∈ news, ∀ p ∈ tl, q.1 < p.1) → Ret r tl → Q r { s with heap := h', toks := tk' }) →
    wpAny (model PySem.Challenge.rw_tp0045_01.row.prog w) (ktrTop dp un gd cn cs L a ccd cl outer) (call (.ref f) vs) Q E s
theorem above_nil {news : List (Addr × Obj)} : ∀ q ∈ news, ∀ p ∈ ([] : List (Addr × Obj)), q.1 < p.1 := fun _ _ _ h => nomatch h
theorem above_one {news : List (Addr × Obj)} {l : Addr} {o : Obj} (h : AllLt l news) : ∀ q ∈ news, ∀ p ∈ [(l, o)], q.1 < p.1 := fun q hq p hp => by
  rw [List.mem_singleton.mp hp]; exact ktn_ltOf h q hq
end Mine
namespace Mine
open PySem PySem.W PyProof.Rows
noncomputable def reply (n : Nat) : Str := tx ([50, 53, 55, 32, 34] ++ List.replicate n 34 ++ [120, 34])
noncomputable def told (n : Nat) : Str := tx (List.replicate (n / 2) 34 ++ if n % 2 = 0 then [120] else [])

theorem reply_len (n : Nat) : (reply n).length = n + 7 := by
  unfold reply; rw [tx_length]; simp
theorem reply_fit {n : Nat} (h : n ≤ 2000) : (reply n).length ≤ sizeLine := by rw [reply_len, sizeLine_eq]; omega
theorem lit_257 : Str.ofString "257" = tx [50, 53, 55] := by decide +kernel
theorem lit_sq : Str.ofString " \"" = tx [32, 34] := by decide +kernel
theorem lit_q : Str.ofString "\"" = tx [34] := by decide +kernel
theorem lit_x : Str.ofString "x" = tx [120] := by decide +kernel
theorem lit_e : Str.ofString "" = tx [] := by decide +kernel
theorem reply_3 (n : Nat) : Txt.slice (reply n) none (some 3) = Str.ofString "257" := by
  unfold reply; rw [tx_slice0 (j := 3) (b := 3) _ rfl, lit_257]; rfl
theorem reply_5 (n : Nat) : Txt.slice (reply n) (some 3) (some 5) = Str.ofString " \"" := by
  unfold reply; rw [tx_slice (i := 3) (j := 5) (a := 3) (b := 5) _ rfl rfl (by simp) (by omega), lit_sq]; rfl
theorem reply_at {n : Nat} {i : Int} {k c : Nat} (hi : i = 5 + (k : Int)) (h : (List.replicate n 34 ++ [120, 34])[k]? = some c) : Txt.item (reply n) i = tx [c] := by
  unfold reply
  refine tx_item (a := 5 + k) _ (by omega) ?_
  rw [show [50, 53, 55, 32, 34] ++ List.replicate n 34 ++ [120, 34] = [50, 53, 55, 32, 34] ++ (List.replicate n 34 ++ [120, 34]) from List.append_assoc _ _ _, List.getElem?_append_right (by simp)]
  simpa using h
theorem reply_q {n : Nat} {i : Int} {k : Nat} (hi : i = 5 + (k : Int)) (h : k < n) : Txt.item (reply n) i = Str.ofString "\"" := by
  rw [lit_q]; refine reply_at hi ?_
  rw [List.getElem?_append_left (by simpa using h)]; simp [h]
theorem reply_x {n : Nat} {i : Int} (hi : i = 5 + (n : Int)) : Txt.item (reply n) i = Str.ofString "x" := by
  rw [lit_x]; refine reply_at hi ?_
  rw [List.getElem?_append_right (by simp)]; simp
theorem reply_z {n : Nat} {i : Int} (hi : i = 6 + (n : Int)) : Txt.item (reply n) i = Str.ofString "\"" := by
  rw [lit_q]; refine reply_at (k := n + 1) (by omega) ?_
  rw [List.getElem?_append_right (by simp)]; simp


noncomputable def PInv (n : Nat) (i : Int) (d : Str) : Prop :=
  (∃ j : Nat, 2 * j ≤ n ∧ i = 5 + 2 * (j : Int) ∧ d = tx (List.replicate j 34)) ∨ (n % 2 = 0 ∧ i = (n : Int) + 6 ∧ d = told n)
theorem told_even {n j : Nat} (h : n = 2 * j) : told n = tx (List.replicate j 34) ++ Str.ofString "x" := by
  subst h; rw [lit_x, tx_append]; unfold told
  rw [show 2 * j / 2 = j by omega, if_pos (by omega)]
theorem told_odd {n j : Nat} (h : n = 2 * j + 1) : told n = tx (List.replicate j 34) := by
  subst h; unfold told
  rw [show (2 * j + 1) / 2 = j by omega, if_neg (by omega), List.append_nil]
theorem told_fit {n : Nat} (h : n ≤ 2000) : (told n).length ≤ 1001 := by
  unfold told; rw [tx_length]; simp only [List.length_append, List.length_replicate]; split <;> simp <;> omega
theorem pinv_start (n : Nat) : PInv n 5 (Str.ofString "") := .inl ⟨0, by omega, by simp, by rw [lit_e]; rfl⟩
theorem pinv_ways {n : Nat} {i : Int} {d : Str} (hn : n ≤ 2000) (h : PInv n i d) :
    (0 ≤ i ∧ i + 1 < (n : Int) + 5 ∧ d.length ≤ 1001 ∧ Txt.item (reply n) i = Str.ofString "\"" ∧ Txt.item (reply n) (i + 1) = Str.ofString "\"" ∧ PInv n (i + 1 + 1) (d ++ Str.ofString "\"")) ∨
    (0 ≤ i ∧ i + 1 = (n : Int) + 5 ∧ Txt.item (reply n) i = Str.ofString "\"" ∧ Txt.item (reply n) (i + 1) = Str.ofString "x" ∧ d = told n) ∨
    (0 ≤ i ∧ i = (n : Int) + 5 ∧ d.length ≤ 1001 ∧ Txt.item (reply n) i = Str.ofString "x" ∧ PInv n (i + 1) (d ++ Str.ofString "x")) ∨
    (0 ≤ i ∧ i = (n : Int) + 6 ∧ Txt.item (reply n) i = Str.ofString "\"" ∧ d = told n) := by
  rcases h with ⟨j, hj, hi, hd⟩ | ⟨he, hi, hd⟩
  · have hl : d.length ≤ 1001 := by rw [hd, tx_length, List.length_replicate]; omega
    have h3 : 2 * j + 1 < n ∨ n = 2 * j + 1 ∨ n = 2 * j := by omega
    rcases h3 with h3 | h3 | h3
    · refine .inl ⟨by omega, by omega, hl, reply_q (k := 2 * j) (by omega) (by omega), reply_q (k := 2 * j + 1) (by omega) (by omega), .inl ⟨j + 1, by omega, by omega, ?_⟩⟩
      rw [hd, lit_q, tx_append]; congr 1; rw [List.replicate_succ']
    · refine .inr (.inl ⟨by omega, by omega, reply_q (k := 2 * j) (by omega) (by omega), reply_x (by omega), ?_⟩)
      rw [hd, told_odd h3]
    · refine .inr (.inr (.inl ⟨by omega, by omega, hl, reply_x (by omega), .inr ⟨by omega, by omega, ?_⟩⟩))
      rw [hd, told_even h3]
  · exact .inr (.inr (.inr ⟨by omega, by omega, reply_z (by omega), hd⟩))

noncomputable abbrev parseT : ToldN Nat where
  Rel := fun _ vs n => ∃ t, vs = [.str (reply n) t]
  Ok := fun n => n ≤ 2000
  size := fun _ => 1
  Tl := fun tl => tl = []
  Out := fun _ r n => ∃ t, r = .str (told n) t

structure ParseAt (n : Nat) : Prop where
  ok : n ≤ 2000
noncomputable def parsePs (c : Int × Tok × Str × Tok) : List (Str × Value) := [(Str.ofString "i", .int c.1 c.2.1), (Str.ofString "dirname", .str c.2.2.1 c.2.2.2)]
theorem parse_while {prog : Program} {w : World} {A : Around} {E : Value → Shared → Prop} {Q : Flow → Shared → Prop} {s : Shared} {env : Env} {h₀ : Heap} {L : Addr} {d : Nat} {test : PySem.Expr} {body : List Stmt} {pos : Pos} {m₀ : Str → Option Value} {news : List (Addr × Obj)} {t₀ t₁ : Tok}
    (pA : ParseAt d) (F : Fr h₀ L s.heap m₀) (N : News h₀ L s.heap news) (hi : m₀ (Str.ofString "i") = some (.int 5 t₀)) (hd : m₀ (Str.ofString "dirname") = some (.str (Str.ofString "") t₁))
    (turn : ∀ (i : Int) (ti : Tok) (dn : Str) (td : Tok) (u : Str → Option Value) h tk, d ≤ 2000 → PInv d i dn → Fr h₀ L h (kstB (fun z => if [Str.ofString "c"].contains z then u z else m₀ z) [(Str.ofString "i", .int i ti), (Str.ofString "dirname", .str dn td)]) → News h₀ L h news →
      wpAny (model prog w) A (isTrue test env (eval test env)) (fun b s₂ =>
        if b = true then wpAny (model prog w) A (execs body env) (KswPost h₀ L s (fun _ => news) parsePs (fun _ => True) [Str.ofString "c"] m₀ (fun c => PInv d c.1 c.2.2.1) (fun c => ((d : Int) + 7 - c.1).toNat) Q (i, ti, dn, td)) E s₂ else Q .next s₂) E { s with heap := h, toks := tk })
    (hE : PassesOwn (model prog w) A env E := by passes_own) :
    wpAny (model prog w) A (exec (.While test body [] pos) env) Q E s :=
  ksw_while (fun _ => news) parsePs (fun _ => True) [Str.ofString "c"] (fun c => PInv d c.1 c.2.2.1) (fun c => ((d : Int) + 7 - c.1).toNat) (5, t₀, Str.ofString "", t₁) F N True.intro
    (List.forall_mem_cons.mpr ⟨hi, List.forall_mem_cons.mpr ⟨hd, List.forall_mem_nil _⟩⟩) (pinv_start d)
    (fun c u h tk _ hP F1 N1 => turn c.1 c.2.1 c.2.2.1 c.2.2.2 u h tk pA.ok hP F1 N1) hE

theorem parse_tells {w : World} {loose : List Str} {mean : ExcName → Option Value} {mg mb : Str → Option Value} :
    ∀ d, TellsN PySem.Challenge.rw_tp0045_01.row.prog w (Mine.hd.heap_39 w.params) Mine.hd.view_39 loose mean mg mb 53 parseT d := by
  w_top off
  k_fill
  intro d
  unfold TellsN
  intro dp un gd cn cs a ccd cl outer A₀ base h₀ L m news s vs Q E B F X N T hk hR hok hd hu hret
  obtain ⟨tR, rfl⟩ := hR
  dsimp only [parseT] at hok hd hu hret
  have hsz := reply_fit hok
  have hlen := reply_len d
  have e3 := reply_3 d
  have e5 := reply_5 d
  have pA : ParseAt d := ⟨hok⟩
  refine wpAny_call ?_
  k_dflt ktr_enter
  (rename Fr _ _ _ (fun y => List.lookup y _) => fB9)
  have fC9 := fr_plain [(Str.ofString "resp", .str (reply d) tR)] fB9 (by rfl)
  clear fB9
  dsimp only [frOf] at fC9
  refine let_around ?_; intro A9
  refine let_env ?_; intro e9
  repeat' (first
    | ((with_reducible show wpAny _ _ (storeName _ _ (Value.int _ (@HAdd.hAdd _ _ _ _ _ _))) _ _ _); (refine gen_int ?_); (intro t9))
    | ((with_reducible show wpAny _ _ (storeName _ _ (Value.int _ (Shared.toks _))) _ _ _); (refine gen_int ?_); (intro t9))
    | ((with_reducible show wpAny _ _ (storeName _ _ (Value.str _ (@HAdd.hAdd _ _ _ _ _ _))) _ _ _); (refine gen_str ?_); (intro t9))
    | ((with_reducible show wpAny _ _ (storeName _ _ (Value.str _ (Shared.toks _))) _ _ _); (refine gen_str ?_); (intro t9))
    | ((with_reducible show wpAny _ _ (exec _ _) _ _ _); k_fold; (refine let_state ?_); (intro s8))
    | ((with_reducible show wpAny _ _ (execs (_ :: _) _) _ _ _); k_fold)
    | ((with_reducible show wpAny _ _ (isTrue _ _ _) _ _ _); k_fold)
    | ((with_reducible show wpAny _ _ (storeName _ _ _) _ _ _); walk1; (rename Fr _ _ _ _ => lF8); (refine let_fr lF8 ?_); (intro m8 lG8); (clear lF8))
    | (k_unfold; (try dsimp only))
    | (k_end; wrow_close)
    | ((with_reducible show KswEnd _ _ _ _ _ _ _ _ _ _ _ _); first | with_reducible ((k_dflt ( (rename News _ _ _ _ => nE'); (refine' ksw_end (Led := fun _ => _) (ps := parsePs) (Facts := fun _ => True) ⟨_, _, _, _⟩ ?ka nE' ?kb ?kc ?kd ?ke ?kf ?kg); (case ka => assumption); (case kb => exact fun _ h => h); (case kc => exact True.intro); (case kd => (unfold parsePs; kst_all)); (case ke => (intro z h2 h3; (have g1 : z ≠ Str.ofString "i" := h2 _ (List.Mem.head _)); (have g2 : z ≠ Str.ofString "dirname" := h2 _ (List.Mem.tail _ (List.Mem.head _))); (have g3 := nin1 h3); (have g4 := ne_true_of_eq_false h3); (repeat (refine ifn (by with_reducible assumption) ?_)); first | exact rfl | ((repeat (refine ifnR (by with_reducible assumption) ?_)); exact rfl))); (case kf => (dsimp only; with_reducible assumption)); (case kg => (dsimp only; omega))))) | ((k_dflt ( (rename News _ _ _ _ => nE'); (refine' ksw_end (Led := fun _ => _) (ps := parsePs) (Facts := fun _ => True) ⟨_, _, _, _⟩ ?ka nE' ?kb ?kc ?kd ?ke ?kf ?kg); (case ka => assumption); (case kb => exact fun _ h => h); (case kc => exact True.intro); (case kd => (unfold parsePs; kst_all)); (case ke => (intro z h2 h3; (have g1 : z ≠ Str.ofString "i" := h2 _ (List.Mem.head _)); (have g2 : z ≠ Str.ofString "dirname" := h2 _ (List.Mem.tail _ (List.Mem.head _))); (have g3 := nin1 h3); (have g4 := ne_true_of_eq_false h3); (repeat (refine ifn (by with_reducible assumption) ?_)); first | exact rfl | ((repeat (refine ifnR (by with_reducible assumption) ?_)); exact rfl))); (case kf => (dsimp only; with_reducible assumption)); (case kg => (dsimp only; omega))))))
    | ((with_reducible show wpAny _ _ (exec (PySem.Stmt.While (PySem.Expr.Compare _ _ _ _) _ _ _) _) _ _ _); first | with_reducible (( k_here; (rename Fr _ _ _ _ => lF'); (rename News _ _ _ _ => lN'); (rename ParseAt _ => pA'); (with_unfolding_all refine' parse_while pA' lF' lN' ?k1 ?k2 ?_); (case k1 => with_unfolding_all rfl); (case k2 => with_unfolding_all rfl); (clear lF' lN'); (intro i9 ti9 dn9 td9 u9 h9 tk9 hok9 hP9 F9 N9); (dsimp only [kstB] at F9); (rcases pinv_ways hok9 hP9 with ⟨p1, p2, p3, p4, p5, p6⟩ | ⟨p1, p2, p3, p4, p5⟩ | ⟨p1, p2, p3, p4, p5⟩ | ⟨p1, p2, p3, p4⟩); (all_goals (try subst dn9)); (all_goals clear hP9); (all_goals (try k_fold)))) | (( k_here; (rename Fr _ _ _ _ => lF'); (rename News _ _ _ _ => lN'); (rename ParseAt _ => pA'); (with_unfolding_all refine' parse_while pA' lF' lN' ?k1 ?k2 ?_); (case k1 => with_unfolding_all rfl); (case k2 => with_unfolding_all rfl); (clear lF' lN'); (intro i9 ti9 dn9 td9 u9 h9 tk9 hok9 hP9 F9 N9); (dsimp only [kstB] at F9); (rcases pinv_ways hok9 hP9 with ⟨p1, p2, p3, p4, p5, p6⟩ | ⟨p1, p2, p3, p4, p5⟩ | ⟨p1, p2, p3, p4, p5⟩ | ⟨p1, p2, p3, p4⟩); (all_goals (try subst dn9)); (all_goals clear hP9); (all_goals (try k_fold)))))
    | ((with_reducible show wpAny _ _ (compareOp .NotIn (Value.str _ _) (Value.ref _)) _ _ _); first | with_reducible ((k_here; k_dflt (refine' topNotIn_K ?F ?X ?l ?k ?e ?o ?_; (case F => k_asm); (case X => k_asm); (case l => k_is); (case k => k_keys); (case e => k_is); (case o => decide)))) | ((k_here; k_dflt (refine' topNotIn_K ?F ?X ?l ?k ?e ?o ?_; (case F => k_asm); (case X => k_asm); (case l => k_is); (case k => k_keys); (case e => k_is); (case o => decide)))))
    | ((with_reducible show wpAny _ _ (compareOp .NotEq (Value.str _ _) (Value.str _ _)) _ _ _); first | with_reducible (k_dflt (first | (refine' ne_b (b := true) ?e ?_; (case e => first | with_reducible assumption | decide +kernel)) | (refine' ne_b (b := false) ?e ?_; (case e => first | with_reducible assumption | decide +kernel)))) | (k_dflt (first | (refine' ne_b (b := true) ?e ?_; (case e => first | with_reducible assumption | decide +kernel)) | (refine' ne_b (b := false) ?e ?_; (case e => first | with_reducible assumption | decide +kernel)))))
    | ((with_reducible show wpAny _ _ (compareOp .Eq (Value.str _ _) (Value.str _ _)) _ _ _); first | with_reducible (k_dflt (first | (refine' eq_b (b := true) ?e ?_; (case e => first | with_reducible assumption | decide +kernel)) | (refine' eq_b (b := false) ?e ?_; (case e => first | with_reducible assumption | decide +kernel)))) | (k_dflt (first | (refine' eq_b (b := true) ?e ?_; (case e => first | with_reducible assumption | decide +kernel)) | (refine' eq_b (b := false) ?e ?_; (case e => first | with_reducible assumption | decide +kernel)))))
    | ((with_reducible show wpAny _ _ (subscriptTail (PySem.Expr.Name _ _) (PySem.Expr.Name _ _) (Value.str _ _) (Value.int _ _)) _ _ _); first | with_reducible (( (with_reducible show wpAny _ _ (subscriptTail _ _ (Value.str _ _) (Value.int _ _)) _ _ _); k_dflt (refine' it_s ?e ?h1 ?h2 ?hsz ?_; (case e => with_reducible assumption); (case h1 => omega); (case h2 => omega); (case hsz => with_reducible assumption)))) | (( (with_reducible show wpAny _ _ (subscriptTail _ _ (Value.str _ _) (Value.int _ _)) _ _ _); k_dflt (refine' it_s ?e ?h1 ?h2 ?hsz ?_; (case e => with_reducible assumption); (case h1 => omega); (case h2 => omega); (case hsz => with_reducible assumption)))))
    | ((with_reducible show wpAny _ _ (subscriptTail (PySem.Expr.Name _ _) (PySem.Expr.Slice _ _ _ _) (Value.str _ _) (Value.ref _)) _ _ _); first | with_reducible (((with_reducible rename Fr _ _ _ _ => F'); (with_reducible rename News _ _ _ _ => N'); first | (refine' sl_ns (s := ⟨_, _, _, _, _⟩) ?e ?hsz F' N' ?_; (case e => with_reducible assumption); (case hsz => with_reducible assumption); intro _ _ _ _ _) | (refine' sl_sn (s := ⟨_, _, _, _, _⟩) ?e ?hsz F' N' ?_; (case e => with_reducible assumption); (case hsz => with_reducible assumption); intro _ _ _ _ _) | (refine' sl_ss (s := ⟨_, _, _, _, _⟩) ?e ?hsz F' N' ?_; (case e => with_reducible assumption); (case hsz => with_reducible assumption); intro _ _ _ _ _))) | (((with_reducible rename Fr _ _ _ _ => F'); (with_reducible rename News _ _ _ _ => N'); first | (refine' sl_ns (s := ⟨_, _, _, _, _⟩) ?e ?hsz F' N' ?_; (case e => with_reducible assumption); (case hsz => with_reducible assumption); intro _ _ _ _ _) | (refine' sl_sn (s := ⟨_, _, _, _, _⟩) ?e ?hsz F' N' ?_; (case e => with_reducible assumption); (case hsz => with_reducible assumption); intro _ _ _ _ _) | (refine' sl_ss (s := ⟨_, _, _, _, _⟩) ?e ?hsz F' N' ?_; (case e => with_reducible assumption); (case hsz => with_reducible assumption); intro _ _ _ _ _))))
    | walk1 | (dsimp only; walk1) | (leave1; walk_say "STEP leave1"; try dsimp only))
  all_goals exact hret _ [] _ _ (by k_asm) (ktn_tl0 (by k_asm)) ktn_ord0 rfl ⟨_, rfl⟩
end Mine
namespace Mine
open PySem PySem.W PyProof.Rows
noncomputable def entOf (P : Params) (e : DictEntry) : DictEntry := match e.key with
  | .str x t => ⟨PyData.keyHash P x, .str x t, e.val⟩
  | _ => e
noncomputable def keyIsStr (e : DictEntry) : Bool := match e.key with
  | .str _ _ => true
  | _ => false
theorem keysLit_of {P : Params} : ∀ l : List DictEntry, l.all keyIsStr = true → l.map (entOf P) = l → KeysLit P l
  | [], _, _ => True.intro
  | ⟨hs, k, v⟩ :: r, h1, h2 => by
    rw [List.all_cons, Bool.and_eq_true] at h1
    obtain ⟨h1, h3⟩ := h1
    unfold keyIsStr at h1
    cases k <;> first | exact Bool.noConfusion (show false = true from h1) | (rw [List.map_cons, List.cons.injEq] at h2; exact ⟨⟨_, _, rfl, (congrArg DictEntry.hash h2.1).symm⟩, keysLit_of r h3 h2.2⟩)
noncomputable def esE (P : Params) : Array DictEntry := match (Mine.hd.heap_39 P).lookup 120 with
  | some ⟨_, _, .dict es _, _⟩ => es
  | _ => #[]
noncomputable def nE (P : Params) : Nat := match (Mine.hd.heap_39 P).lookup 120 with
  | some ⟨_, _, .dict _ n, _⟩ => n
  | _ => 0
theorem dictE (P : Params) : (Mine.hd.heap_39 P).lookup 120 = some ⟨.type "dict", none, .dict (esE P) (nE P), #[]⟩ := rfl
theorem keysE (P : Params) : KeysLit P (esE P).toList := keysLit_of _ rfl rfl
section
variable {prog : Program} {w : World} {A : Around} {E : Value → Shared → Prop} {s : Shared} {h₀ : Heap} {L : Addr} {m : Str → Option Value} {x : Str} {t : Tok} {Q : Value → Shared → Prop}
theorem notIn_E {r : Option Value} (F : Fr h₀ L s.heap m) (X₀ : (Mine.hd.heap_39 w.params).In h₀) (e : nsIn (Mine.hd.heap_39 w.params) 120 x = some r)
    (h : Q (.bool !r.isSome) { s with toks := s.toks + 1 }) : wpAny (model prog w) A (compareOp .NotIn (.str x t) (.ref 120)) Q E s := by
  exact topNotIn_K F X₀ (dictE _) (keysE _) e (by decide) h
theorem item_E {value slice : PySem.Expr} {v : Value} (F : Fr h₀ L s.heap m) (X₀ : (Mine.hd.heap_39 w.params).In h₀) (e : nsIn (Mine.hd.heap_39 w.params) 120 x = some (some v))
    (h : Q v { s with toks := s.toks + 1 })
    (hs : subscripted slice false (.ref 120) (.str x t) = operate [.ref 120, .str x t] (getItem (.ref 120) (.str x t)) := by with_unfolding_all rfl) :
    wpAny (model prog w) A (subscriptTail value slice (.ref 120) (.str x t)) Q E s := by
  exact topItem_K F X₀ (dictE _) (keysE _) e h hs
end
noncomputable def stars (n : Nat) : Str := tx (List.replicate n 42 ++ [44])
noncomputable def pcs (n : Nat) : List Int := List.replicate (n / 2) 35 ++ (if n % 2 = 1 then [16] else []) ++ [12]
theorem stars_len (n : Nat) : (stars n).length = n + 1 := by unfold stars; rw [tx_length]; simp
theorem stars_fit {n : Nat} (h : n ≤ 2000) : (stars n).length ≤ sizeLine := by rw [stars_len, sizeLine_eq]; omega
theorem lit_s1 : Str.ofString "*" = tx [42] := by decide +kernel
theorem lit_s2 : Str.ofString "**" = tx [42, 42] := by decide +kernel
theorem lit_s3 : Str.ofString "***" = tx [42, 42, 42] := by decide +kernel
theorem lit_c : Str.ofString "," = tx [44] := by decide +kernel
theorem lit_s1c : Str.ofString "*," = tx [42, 44] := by decide +kernel
theorem lit_s2c : Str.ofString "**," = tx [42, 42, 44] := by decide +kernel
theorem stars_cut {n : Nat} {i j : Int} {a r k : Nat} (hn : n = a + r) (hi : i = (a : Int)) (hj : j = i + (k : Int)) :
    Txt.slice (stars n) (some i) (some j) = tx ((List.replicate r 42 ++ [44]).take k) := by
  subst hn
  unfold stars
  rw [tx_slice (a := a) (b := a + k) _ hi (by omega) (by simp; omega) (by omega)]
  congr 1
  rw [← List.replicate_append_replicate, List.append_assoc, List.drop_append_of_le_length (by simp), List.drop_of_length_le (by simp), List.nil_append, show a + k - a = k by omega]
/-- the piece of k signs at i is y -/
structure SlAt (n : Nat) (i : Int) (k : Int) (y : Str) : Prop where
  e : ∀ j, j = i + k → Txt.slice (stars n) (some i) (some j) = y
theorem slAt_of {n : Nat} {i : Int} {a r k : Nat} {y : Str} (hn : n = a + r) (hi : i = (a : Int)) (hy : y = tx ((List.replicate r 42 ++ [44]).take k)) : SlAt n i (k : Int) y :=
  ⟨fun j hj => by rw [hy]; exact stars_cut hn hi hj⟩
noncomputable def PcInv (n : Nat) (i : Int) (xs : List Int) : Prop :=
  (∃ j : Nat, 2 * j ≤ n ∧ i = 2 * (j : Int) ∧ xs = List.replicate j 35) ∨ (∃ j : Nat, n = 2 * j + 1 ∧ i = (n : Int) ∧ xs = List.replicate j 35 ++ [16]) ∨ (i = (n : Int) + 3 ∧ xs = pcs n)
structure PcNext (n : Nat) (i k : Int) (xs : List Int) (v : Int) : Prop where
  e : ∀ j, j = i + k → PcInv n j (xs ++ [v])
theorem pcInv_start (n : Nat) : PcInv n 0 [] := .inl ⟨0, by omega, by simp, rfl⟩
theorem pcInv_len {n : Nat} {i : Int} {xs : List Int} (hn : n ≤ 2000) (h : PcInv n i xs) : xs.length ≤ 1010 := by
  rcases h with ⟨j, h1, _, h2⟩ | ⟨j, h1, _, h2⟩ | ⟨_, h2⟩
  · rw [h2, List.length_replicate]; omega
  · rw [h2, List.length_append, List.length_replicate]; simp; omega
  · rw [h2]; unfold pcs; simp only [List.length_append, List.length_replicate, List.length_cons, List.length_nil]; split <;> simp <;> omega
theorem pcs_even {n j : Nat} (h : n = 2 * j) : pcs n = List.replicate j 35 ++ [12] := by
  subst h; unfold pcs; rw [show 2 * j / 2 = j by omega, if_neg (by omega), List.append_nil]
theorem pcs_odd {n j : Nat} (h : n = 2 * j + 1) : pcs n = (List.replicate j 35 ++ [16]) ++ [12] := by
  subst h; unfold pcs; rw [show (2 * j + 1) / 2 = j by omega, if_pos (by omega)]
theorem pc_ways {n : Nat} {i : Int} {xs : List Int} (h : PcInv n i xs) :
    (0 ≤ i ∧ i + 3 ≤ n ∧ SlAt n i 3 (Str.ofString "***") ∧ SlAt n i 2 (Str.ofString "**") ∧ PcNext n i 2 xs 35) ∨
    (0 ≤ i ∧ i + 2 = n ∧ SlAt n i 3 (Str.ofString "**,") ∧ SlAt n i 2 (Str.ofString "**") ∧ PcNext n i 2 xs 35) ∨
    (0 ≤ i ∧ i + 1 = n ∧ SlAt n i 3 (Str.ofString "*,") ∧ SlAt n i 2 (Str.ofString "*,") ∧ SlAt n i 1 (Str.ofString "*") ∧ PcNext n i 1 xs 16) ∨
    (0 ≤ i ∧ i = n ∧ SlAt n i 3 (Str.ofString ",") ∧ PcNext n i 3 xs 12) ∨
    (0 ≤ i ∧ i = (n : Int) + 3 ∧ xs = pcs n) := by
  rcases h with ⟨j, hj, hi, hx⟩ | ⟨j, hj, hi, hx⟩ | ⟨hi, hx⟩
  · have nx : 2 * j + 2 ≤ n → PcNext n i 2 xs 35 := fun h => ⟨fun y hy => .inl ⟨j + 1, by omega, by omega, by rw [hx, List.replicate_succ']⟩⟩
    have h4 : 2 * j + 3 ≤ n ∨ n = 2 * j + 2 ∨ n = 2 * j + 1 ∨ n = 2 * j := by omega
    rcases h4 with h4 | h4 | h4 | h4
    · obtain ⟨r, hr⟩ : ∃ r, n = 2 * j + (r + 3) := ⟨n - 2 * j - 3, by omega⟩
      refine .inl ⟨by omega, by omega, slAt_of (k := 3) hr (by omega) ?_, slAt_of (k := 2) hr (by omega) ?_, nx (by omega)⟩
      · rw [lit_s3]; simp [List.replicate_succ]
      · rw [lit_s2]; simp [List.replicate_succ]
    · refine .inr (.inl ⟨by omega, by omega, slAt_of (k := 3) h4 (by omega) ?_, slAt_of (k := 2) h4 (by omega) ?_, nx (by omega)⟩)
      · rw [lit_s2c]; rfl
      · rw [lit_s2]; rfl
    · refine .inr (.inr (.inl ⟨by omega, by omega, slAt_of (k := 3) h4 (by omega) ?_, slAt_of (k := 2) h4 (by omega) ?_, slAt_of (k := 1) h4 (by omega) ?_, ⟨fun y hy => .inr (.inl ⟨j, h4, by omega, by rw [hx]⟩)⟩⟩))
      · rw [lit_s1c]; rfl
      · rw [lit_s1c]; rfl
      · rw [lit_s1]; rfl
    · refine .inr (.inr (.inr (.inl ⟨by omega, by omega, slAt_of (k := 3) (r := 0) (a := 2 * j) h4 (by omega) ?_, ⟨fun y hy => .inr (.inr ⟨by omega, by rw [hx, pcs_even h4]⟩)⟩⟩)))
      rw [lit_c]; rfl
  · refine .inr (.inr (.inr (.inl ⟨by omega, by omega, slAt_of (k := 3) (r := 0) (a := n) rfl (by omega) ?_, ⟨fun y hy => .inr (.inr ⟨by omega, by rw [hx, pcs_odd hj]⟩)⟩⟩)))
    rw [lit_c]; rfl
  · exact .inr (.inr (.inr (.inr ⟨by omega, hi, hx⟩)))

structure PiecesAt (n : Nat) : Prop where
  ok : n ≤ 2000
noncomputable abbrev PcSt := Int × Tok × List Value × List Int × Nat
noncomputable def pcPs (c : PcSt) : List (Str × Value) := [(Str.ofString "place", .int c.1 c.2.1)]
noncomputable def pcLed (l : Addr) (news : List (Addr × Obj)) (c : PcSt) : List (Addr × Obj) := (l, listOf c.2.2.1.toArray c.2.2.2.2) :: news
theorem pieces_while {prog : Program} {w : World} {A : Around} {E : Value → Shared → Prop} {Q : Flow → Shared → Prop} {s : Shared} {env : Env} {h₀ : Heap} {L l : Addr} {d cn : Nat} {test : PySem.Expr} {body : List Stmt} {pos : Pos} {m₀ : Str → Option Value} {news : List (Addr × Obj)} {t₀ : Tok}
    (pA : PiecesAt d) (F : Fr h₀ L s.heap m₀) (N : News h₀ L s.heap ((l, listOf ([] : List Value).toArray cn) :: news)) (hi : m₀ (Str.ofString "place") = some (.int 0 t₀))
    (turn : ∀ (i : Int) (ti : Tok) (vs : List Value) (xs : List Int) (c : Nat) (u : Str → Option Value) h tk, xs.length ≤ 1010 → vs.length = xs.length → IntsAre vs xs → PcInv d i xs → Fr h₀ L h (kstB (fun z => if [Str.ofString "size"].contains z then u z else m₀ z) [(Str.ofString "place", .int i ti)]) → News h₀ L h ((l, listOf vs.toArray c) :: news) →
      wpAny (model prog w) A (isTrue test env (eval test env)) (fun b s₂ =>
        if b = true then wpAny (model prog w) A (execs body env) (KswPost h₀ L s (pcLed l news) pcPs (fun c => IntsAre c.2.2.1 c.2.2.2.1) [Str.ofString "size"] m₀ (fun c => PcInv d c.1 c.2.2.2.1) (fun c => ((d : Int) + 3 - c.1).toNat) Q (i, ti, vs, xs, c)) E s₂ else Q .next s₂) E { s with heap := h, toks := tk })
    (hE : PassesOwn (model prog w) A env E := by passes_own) :
    wpAny (model prog w) A (exec (.While test body [] pos) env) Q E s :=
  ksw_while (pcLed l news) pcPs (fun c => IntsAre c.2.2.1 c.2.2.2.1) [Str.ofString "size"] (fun c => PcInv d c.1 c.2.2.2.1) (fun c => ((d : Int) + 3 - c.1).toNat) (0, t₀, [], [], cn) F N .nil
    (List.forall_mem_cons.mpr ⟨hi, List.forall_mem_nil _⟩) (pcInv_start d)
    (fun c u h tk hf hP F1 N1 => turn c.1 c.2.1 c.2.2.1 c.2.2.2.1 c.2.2.2.2 u h tk (pcInv_len pA.ok hP) hf.length hf hP F1 N1) hE

theorem pcNext_any {n : Nat} {i j : Int} {xs : List Int} {v : Int} (h : ∃ k, PcNext n i k xs v ∧ j = i + k) : PcInv n j (xs ++ [v]) := by
  obtain ⟨k, h, e⟩ := h; exact h.e j e
theorem pieces_ctr {w : World} {n : Nat} {t : Tok} (hn : n ≤ 2000) :
    Ctr w 129 1 [.str (stars n) t] (fun r tl => ∃ l vs c, r = .ref l ∧ tl = [(l, listOf vs.toArray c)] ∧ IntsAre vs (pcs n)) := by
  unfold Ctr
  w_top off
  k_fill
  intro loose mean mg mb dp un gd cn cs a ccd cl outer A₀ base h₀ L m news s Q E B F X N T hk hd hu hret
  have hsz := stars_fit hn
  have hlen := stars_len n
  have pA : PiecesAt n := ⟨hn⟩
  refine wpAny_call ?_
  k_dflt ktr_enter
  (rename Fr _ _ _ (fun y => List.lookup y _) => fB9)
  have fC9 := fr_plain [(Str.ofString "text", .str (stars n) t)] fB9 (by rfl)
  clear fB9
  dsimp only [frOf] at fC9
  refine let_around ?_; intro A9
  refine let_env ?_; intro e9
  repeat' (first
    | ((with_reducible show wpAny _ _ (storeName _ _ (Value.int _ (@HAdd.hAdd _ _ _ _ _ _))) _ _ _); (refine gen_int ?_); (intro t9))
    | ((with_reducible show wpAny _ _ (storeName _ _ (Value.int _ (Shared.toks _))) _ _ _); (refine gen_int ?_); (intro t9))
    | ((with_reducible show wpAny _ _ (storeName _ _ (Value.str _ (@HAdd.hAdd _ _ _ _ _ _))) _ _ _); (refine gen_str ?_); (intro t9))
    | ((with_reducible show wpAny _ _ (storeName _ _ (Value.str _ (Shared.toks _))) _ _ _); (refine gen_str ?_); (intro t9))
    | ((with_reducible show wpAny _ _ (exec _ _) _ _ _); k_fold; (refine let_state ?_); (intro s8))
    | ((with_reducible show wpAny _ _ (execs (_ :: _) _) _ _ _); k_fold)
    | ((with_reducible show wpAny _ _ (isTrue _ _ _) _ _ _); k_fold)
    | ((with_reducible show wpAny _ _ (storeName _ _ _) _ _ _); walk1; (rename Fr _ _ _ _ => lF8); (refine let_fr lF8 ?_); (intro m8 lG8); (clear lF8))
    | (k_unfold; (try dsimp only))
    | (k_end; wrow_close)
    | ((with_reducible show wpAny _ _ (subscriptTail _ _ (Value.ref _) (Value.str _ _)) _ _ _); first | with_reducible ((k_here; k_dflt (refine' item_E ?F ?X ?e ?_; (case F => k_asm); (case X => k_asm); (case e => k_is)))) | ((k_here; k_dflt (refine' item_E ?F ?X ?e ?_; (case F => k_asm); (case X => k_asm); (case e => k_is)))))
    | ((with_reducible show wpAny _ _ (compareOp .NotIn (Value.str _ _) (Value.ref _)) _ _ _); first | with_reducible ((k_here; k_dflt (refine' notIn_E ?F ?X ?e ?_; (case F => k_asm); (case X => k_asm); (case e => k_is)))) | ((k_here; k_dflt (refine' notIn_E ?F ?X ?e ?_; (case F => k_asm); (case X => k_asm); (case e => k_is)))))
    | ((with_reducible show KswEnd _ _ _ _ _ _ _ _ _ _ _ _); first | with_reducible ((k_dflt ( (rename News _ _ _ _ => nE'); (simp only [List.push_toArray] at nE'); (refine ksw_end (Led := pcLed _ _) (ps := pcPs) (Facts := fun c => IntsAre c.2.2.1 c.2.2.2.1) (P := fun c => PcInv _ c.1 c.2.2.2.1) ⟨_, _, _, _, _⟩ (by assumption) nE' (by exact fun _ h => h) (by exact IntsAre.append (by assumption) (.cons _ _ .nil)) (by (unfold pcPs; kst_all)) (by (intro z h2 h3; (have g1 : z ≠ Str.ofString "place" := h2 _ (List.Mem.head _)); (have g3 := nin1 h3); (have g4 := ne_true_of_eq_false h3); (repeat (refine ifn (by with_reducible assumption) ?_)); first | exact rfl | ((repeat (refine ifnR (by with_reducible assumption) ?_)); exact rfl))) (by (dsimp only; first | exact PcNext.e (k := 2) (by assumption) _ (by omega) | exact PcNext.e (k := 1) (by assumption) _ (by omega) | exact PcNext.e (k := 3) (by assumption) _ (by omega))) (by (dsimp only; omega)))))) | ((k_dflt ( (rename News _ _ _ _ => nE'); (simp only [List.push_toArray] at nE'); (refine ksw_end (Led := pcLed _ _) (ps := pcPs) (Facts := fun c => IntsAre c.2.2.1 c.2.2.2.1) (P := fun c => PcInv _ c.1 c.2.2.2.1) ⟨_, _, _, _, _⟩ (by assumption) nE' (by exact fun _ h => h) (by exact IntsAre.append (by assumption) (.cons _ _ .nil)) (by (unfold pcPs; kst_all)) (by (intro z h2 h3; (have g1 : z ≠ Str.ofString "place" := h2 _ (List.Mem.head _)); (have g3 := nin1 h3); (have g4 := ne_true_of_eq_false h3); (repeat (refine ifn (by with_reducible assumption) ?_)); first | exact rfl | ((repeat (refine ifnR (by with_reducible assumption) ?_)); exact rfl))) (by (dsimp only; first | exact PcNext.e (k := 2) (by assumption) _ (by omega) | exact PcNext.e (k := 1) (by assumption) _ (by omega) | exact PcNext.e (k := 3) (by assumption) _ (by omega))) (by (dsimp only; omega)))))))
    | ((with_reducible show wpAny _ _ (exec (PySem.Stmt.While (PySem.Expr.Compare _ _ _ _) _ _ _) _) _ _ _); first | with_reducible (( k_here; (rename Fr _ _ _ _ => lF'); (rename News _ _ _ _ => lN'); (rename PiecesAt _ => pA'); (with_unfolding_all refine' pieces_while pA' lF' lN' ?k1 ?_); (case k1 => with_unfolding_all rfl); (clear lF' lN'); (intro i9 ti9 vs9 xs9 c9 u9 h9 tk9 hl9 hv9 hA9 hP9 F9 N9); (have kMk9 : KstMark := kstMark); (dsimp only [kstB] at F9); (rcases pc_ways hP9 with ⟨p1, p2, p3, p4, p5⟩ | ⟨p1, p2, p3, p4, p5⟩ | ⟨p1, p2, p3, p4, p5, p6⟩ | ⟨p1, p2, p3, p4⟩ | ⟨p1, p2, p3⟩); (all_goals (try subst xs9)); (all_goals clear hP9); (all_goals (try k_fold)))) | (( k_here; (rename Fr _ _ _ _ => lF'); (rename News _ _ _ _ => lN'); (rename PiecesAt _ => pA'); (with_unfolding_all refine' pieces_while pA' lF' lN' ?k1 ?_); (case k1 => with_unfolding_all rfl); (clear lF' lN'); (intro i9 ti9 vs9 xs9 c9 u9 h9 tk9 hl9 hv9 hA9 hP9 F9 N9); (have kMk9 : KstMark := kstMark); (dsimp only [kstB] at F9); (rcases pc_ways hP9 with ⟨p1, p2, p3, p4, p5⟩ | ⟨p1, p2, p3, p4, p5⟩ | ⟨p1, p2, p3, p4, p5, p6⟩ | ⟨p1, p2, p3, p4⟩ | ⟨p1, p2, p3⟩); (all_goals (try subst xs9)); (all_goals clear hP9); (all_goals (try k_fold)))))
    | ((with_reducible show wpAny _ _ (subscriptTail (PySem.Expr.Name _ _) (PySem.Expr.Slice _ _ _ _) (Value.str _ _) (Value.ref _)) _ _ _); first | with_reducible (( (with_reducible rename Fr _ _ _ _ => F'); (with_reducible rename News _ _ _ _ => N'); k_dflt (refine' sl_ss (s := ⟨_, _, _, _, _⟩) ?e ?hsz F' N' ?_); (case hsz => with_reducible assumption); (case e => k_dflt (first | exact SlAt.e (k := 3) (by with_reducible assumption) _ (by omega) | exact SlAt.e (k := 2) (by with_reducible assumption) _ (by omega) | exact SlAt.e (k := 1) (by with_reducible assumption) _ (by omega))); (intro _ _ _ _ _))) | (( (with_reducible rename Fr _ _ _ _ => F'); (with_reducible rename News _ _ _ _ => N'); k_dflt (refine' sl_ss (s := ⟨_, _, _, _, _⟩) ?e ?hsz F' N' ?_); (case hsz => with_reducible assumption); (case e => k_dflt (first | exact SlAt.e (k := 3) (by with_reducible assumption) _ (by omega) | exact SlAt.e (k := 2) (by with_reducible assumption) _ (by omega) | exact SlAt.e (k := 1) (by with_reducible assumption) _ (by omega))); (intro _ _ _ _ _))))
    | ((with_reducible show wpAny _ _ (exec (PySem.Stmt.While (PySem.Expr.BoolOp _ _ _) _ _ _) _) _ _ _); first | with_reducible ((k_here; k_dflt (refine whl_start 6 ?_))) | ((k_here; k_dflt (refine whl_start 6 ?_))))
    | ((with_reducible show wpAny _ _ (compareOp .NotIn (Value.str _ _) (Value.ref _)) _ _ _); first | with_reducible ((k_here; k_dflt (refine' topNotIn_K ?F ?X ?l ?k ?e ?o ?_; (case F => k_asm); (case X => k_asm); (case l => k_is); (case k => k_keys); (case e => k_is); (case o => decide)))) | ((k_here; k_dflt (refine' topNotIn_K ?F ?X ?l ?k ?e ?o ?_; (case F => k_asm); (case X => k_asm); (case l => k_is); (case k => k_keys); (case e => k_is); (case o => decide)))))
    | ((with_reducible show wpAny _ _ (compareOp .NotEq (Value.str _ _) (Value.str _ _)) _ _ _); first | with_reducible (k_dflt (first | (refine' ne_b (b := true) ?e ?_; (case e => first | with_reducible assumption | decide +kernel)) | (refine' ne_b (b := false) ?e ?_; (case e => first | with_reducible assumption | decide +kernel)))) | (k_dflt (first | (refine' ne_b (b := true) ?e ?_; (case e => first | with_reducible assumption | decide +kernel)) | (refine' ne_b (b := false) ?e ?_; (case e => first | with_reducible assumption | decide +kernel)))))
    | ((with_reducible show wpAny _ _ (compareOp .Eq (Value.str _ _) (Value.str _ _)) _ _ _); first | with_reducible (k_dflt (first | (refine' eq_b (b := true) ?e ?_; (case e => first | with_reducible assumption | decide +kernel)) | (refine' eq_b (b := false) ?e ?_; (case e => first | with_reducible assumption | decide +kernel)))) | (k_dflt (first | (refine' eq_b (b := true) ?e ?_; (case e => first | with_reducible assumption | decide +kernel)) | (refine' eq_b (b := false) ?e ?_; (case e => first | with_reducible assumption | decide +kernel)))))
    | ((with_reducible show wpAny _ _ (subscriptTail (PySem.Expr.Name _ _) (PySem.Expr.Name _ _) (Value.str _ _) (Value.int _ _)) _ _ _); first | with_reducible (( (with_reducible show wpAny _ _ (subscriptTail _ _ (Value.str _ _) (Value.int _ _)) _ _ _); k_dflt (refine' it_s ?e ?h1 ?h2 ?hsz ?_; (case e => with_reducible assumption); (case h1 => omega); (case h2 => omega); (case hsz => with_reducible assumption)))) | (( (with_reducible show wpAny _ _ (subscriptTail _ _ (Value.str _ _) (Value.int _ _)) _ _ _); k_dflt (refine' it_s ?e ?h1 ?h2 ?hsz ?_; (case e => with_reducible assumption); (case h1 => omega); (case h2 => omega); (case hsz => with_reducible assumption)))))
    | ((with_reducible show wpAny _ _ (subscriptTail (PySem.Expr.Name _ _) (PySem.Expr.Slice _ _ _ _) (Value.str _ _) (Value.ref _)) _ _ _); first | with_reducible (((with_reducible rename Fr _ _ _ _ => F'); (with_reducible rename News _ _ _ _ => N'); first | (refine' sl_ns (s := ⟨_, _, _, _, _⟩) ?e ?hsz F' N' ?_; (case e => with_reducible assumption); (case hsz => with_reducible assumption); intro _ _ _ _ _) | (refine' sl_sn (s := ⟨_, _, _, _, _⟩) ?e ?hsz F' N' ?_; (case e => with_reducible assumption); (case hsz => with_reducible assumption); intro _ _ _ _ _) | (refine' sl_ss (s := ⟨_, _, _, _, _⟩) ?e ?hsz F' N' ?_; (case e => with_reducible assumption); (case hsz => with_reducible assumption); intro _ _ _ _ _))) | (((with_reducible rename Fr _ _ _ _ => F'); (with_reducible rename News _ _ _ _ => N'); first | (refine' sl_ns (s := ⟨_, _, _, _, _⟩) ?e ?hsz F' N' ?_; (case e => with_reducible assumption); (case hsz => with_reducible assumption); intro _ _ _ _ _) | (refine' sl_sn (s := ⟨_, _, _, _, _⟩) ?e ?hsz F' N' ?_; (case e => with_reducible assumption); (case hsz => with_reducible assumption); intro _ _ _ _ _) | (refine' sl_ss (s := ⟨_, _, _, _, _⟩) ?e ?hsz F' N' ?_; (case e => with_reducible assumption); (case hsz => with_reducible assumption); intro _ _ _ _ _))))
    | walk1 | (dsimp only; walk1) | (leave1; walk_say "STEP leave1"; try dsimp only))
  all_goals exact hret _ [_] _ _ (by k_asm) (by exact (by k_asm : News h₀ L _ (_ :: news))) (above_one (by ktn_lt)) ⟨_, _, _, rfl, rfl, by assumption⟩
end Mine
namespace Mine
open PySem PySem.W PyProof.Rows
noncomputable abbrev WsSt := List Int × Int × Int × Int
noncomputable def grown (xs : List Int) (b : Int) : List Int := if (xs.length : Int) ≤ b then xs ++ (List.replicate (b - (xs.length : Int) + 1).toNat [(0 : Int)]).flatten else xs
noncomputable def bump (xs : List Int) (b : Int) : List Int := (grown xs b).set b.toNat ((grown xs b).getD b.toNat 0 + 1)
noncomputable def wsStep (q : WsSt) (c : Nat) : WsSt := if c = 32 then (q.1, q.2.1 + 1, q.2.2.1 + 1, q.2.2.2) else (bump q.1 q.2.1, 0, q.2.2.1 + 1, q.2.2.2 + 1)
noncomputable def wsOf (l : List Nat) : WsSt := l.foldl wsStep ([], 0, 0, 0)
structure WhiteAt (l : List Nat) : Prop where
  ok : ∀ c ∈ l, c = 32 ∨ c = 9
  fit : l.length ≤ 20000
noncomputable def WsInv (q : WsSt) (k : Nat) : Prop := q.1.length ≤ k ∧ 0 ≤ q.2.1 ∧ q.2.1 ≤ k ∧ q.2.1 + (q.1.length : Int) ≤ k + 1 ∧ 0 ≤ q.2.2.1 ∧ q.2.2.1 ≤ k ∧ 0 ≤ q.2.2.2 ∧ q.2.2.2 ≤ k
theorem flat_len {k : Nat} : (List.replicate k [(0 : Int)]).flatten.length = k := by simp
theorem bump_len (xs : List Int) (b : Int) : (bump xs b).length = (grown xs b).length := by unfold bump; rw [List.length_set]
theorem grown_len {xs : List Int} {b : Int} (h : 0 ≤ b) : ((grown xs b).length : Int) = if (xs.length : Int) ≤ b then b + 1 else xs.length := by
  unfold grown; split
  · rw [List.length_append, flat_len]; omega
  · rfl
theorem wsInv_step {q : WsSt} {k c : Nat} (h : WsInv q k) : WsInv (wsStep q c) (k + 1) := by
  obtain ⟨v1, v2, v3, v4, v5, v6, v7, v8⟩ := h
  unfold wsStep
  split
  · exact ⟨by dsimp only; omega, by dsimp only; omega, by dsimp only; omega, by dsimp only; omega, by dsimp only; omega, by dsimp only; omega, by dsimp only; omega, by dsimp only; omega⟩
  · have e := grown_len (xs := q.1) v2
    have e2 := bump_len q.1 q.2.1
    have hl : (bump q.1 q.2.1).length ≤ k + 1 := by rw [e2]; split at e <;> omega
    exact ⟨hl, by dsimp only; omega, by dsimp only; omega, by dsimp only; omega, by dsimp only; omega, by dsimp only; omega, by dsimp only; omega, by dsimp only; omega⟩
theorem wsInv_fold (l : List Nat) : ∀ (q : WsSt) (k : Nat), WsInv q k → WsInv (l.foldl wsStep q) (k + l.length) := by
  induction l with
  | nil => intro q k h; exact h
  | cons c r ih =>
    intro q k h
    rw [List.foldl_cons, List.length_cons, show k + (r.length + 1) = (k + 1) + r.length by omega]
    exact ih _ _ (wsInv_step h)
theorem wsInv_of (l : List Nat) : WsInv (wsOf l) l.length := by
  have h := wsInv_fold l ([], 0, 0, 0) 0 ⟨by simp, by simp, by simp, by simp, by simp, by simp, by simp, by simp⟩
  rwa [Nat.zero_add] at h
theorem wsStep_sp {xs : List Int} {b nn nt : Int} : (xs, b + 1, nn + 1, nt) = wsStep (xs, b, nn, nt) 32 := rfl
theorem wsStep_in {xs : List Int} {b nn nt : Int} (h : b < (xs.length : Int)) : (xs.set b.toNat (xs.getD b.toNat 0 + 1), (0 : Int), nn + 1, nt + 1) = wsStep (xs, b, nn, nt) 9 := by
  unfold wsStep bump grown
  rw [if_neg (by decide), if_neg (by dsimp only; omega)]
theorem wsStep_out {xs : List Int} {b nn nt : Int} (h : (xs.length : Int) ≤ b) :
    ((xs ++ (List.replicate (b - (xs.length : Int) + 1).toNat [(0 : Int)]).flatten).set b.toNat ((xs ++ (List.replicate (b - (xs.length : Int) + 1).toNat [(0 : Int)]).flatten).getD b.toNat 0 + 1), (0 : Int), nn + 1, nt + 1) = wsStep (xs, b, nn, nt) 9 := by
  unfold wsStep bump grown
  rw [if_neg (by decide), if_pos (by dsimp only; omega)]
theorem allLt_left {d : Addr} : ∀ {l r : List (Addr × Obj)}, AllLt d (l ++ r) → AllLt d l
  | [], _, _ => trivial
  | _ :: _, _, h => ⟨h.1, allLt_left h.2⟩
noncomputable def WsJ (l : List Nat) (rest : List (Addr × Obj)) (m₀ : Str → Option Value) (i : Nat) (m : Str → Option Value) (nx : List (Addr × Obj)) : Prop :=
  ∃ (a : Addr) (vs : List Value) (c : Nat) (q : WsSt) (tb tn tt : Tok), nx = (a, listOf vs.toArray c) :: rest ∧ IntsAre vs q.1 ∧ AllLt a rest ∧ q = wsOf (l.take i) ∧
    m (Str.ofString "count") = some (.ref a) ∧ m (Str.ofString "b") = some (.int q.2.1 tb) ∧ m (Str.ofString "n") = some (.int q.2.2.1 tn) ∧ m (Str.ofString "nt") = some (.int q.2.2.2 tt) ∧
    (∀ z, z ≠ Str.ofString "ch" → z ≠ Str.ofString "count" → z ≠ Str.ofString "b" → z ≠ Str.ofString "n" → z ≠ Str.ofString "nt" → m z = m₀ z)
noncomputable def wsPs (a : Addr) (q : WsSt) (tb tn tt : Tok) : List (Str × Value) := [(Str.ofString "count", .ref a), (Str.ofString "b", .int q.2.1 tb), (Str.ofString "n", .int q.2.2.1 tn), (Str.ofString "nt", .int q.2.2.2 tt)]
theorem wsOf_snoc {l : List Nat} {i n : Nat} (h : l[i]? = some n) : wsOf (l.take (i + 1)) = wsStep (wsOf (l.take i)) n := by
  unfold wsOf
  rw [List.take_add_one, h, List.foldl_append]; rfl
section
variable {prog : Program} {w : World} {A : Around} {E : Value → Shared → Prop} {s : Shared} {env : Env} {h₀ : Heap} {body : List Stmt} {Q : Flow → Shared → Prop}
theorem white_fr {h : Heap} {L a : Addr} {q : WsSt} {tb tn tt : Tok} {m₁ m₀ : Str → Option Value} {v : Value} (h1 : m₁ (Str.ofString "count") = some (.ref a)) (h2 : m₁ (Str.ofString "b") = some (.int q.2.1 tb)) (h3 : m₁ (Str.ofString "n") = some (.int q.2.2.1 tn)) (h4 : m₁ (Str.ofString "nt") = some (.int q.2.2.2 tt))
    (h5 : ∀ z, z ≠ Str.ofString "ch" → z ≠ Str.ofString "count" → z ≠ Str.ofString "b" → z ≠ Str.ofString "n" → z ≠ Str.ofString "nt" → m₁ z = m₀ z) (F : Fr h₀ L h (fun y => if y = Str.ofString "ch" then some v else m₁ y)) :
    Fr h₀ L h (fun y => if y = Str.ofString "ch" then some v else kstB m₀ (wsPs a q tb tn tt) y) := by
  have em : (fun y => if y = Str.ofString "ch" then some v else kstB m₀ (wsPs a q tb tn tt) y) = fun y => if y = Str.ofString "ch" then some v else m₁ y := by
    funext y
    by_cases hy : y = Str.ofString "ch"
    · rw [if_pos hy, if_pos hy]
    · rw [if_neg hy, if_neg hy]
      refine kstB_eq (by unfold wsPs; simp [h1, h2, h3, h4]) fun hn => ?_
      unfold wsPs at hn
      simp only [List.forall_mem_cons, List.not_mem_nil, false_implies, implies_true, and_true] at hn
      exact (h5 y hy hn.1 hn.2.1 hn.2.2.1 hn.2.2.2).symm
  rw [em]; exact F
theorem white_out {h : Heap} {L a : Addr} {q : WsSt} {tb tn tt : Tok} {m₁ m₀ : Str → Option Value} (h1 : m₁ (Str.ofString "count") = some (.ref a)) (h2 : m₁ (Str.ofString "b") = some (.int q.2.1 tb)) (h3 : m₁ (Str.ofString "n") = some (.int q.2.2.1 tn)) (h4 : m₁ (Str.ofString "nt") = some (.int q.2.2.2 tt))
    (h5 : ∀ z, z ≠ Str.ofString "ch" → z ≠ Str.ofString "count" → z ≠ Str.ofString "b" → z ≠ Str.ofString "n" → z ≠ Str.ofString "nt" → m₁ z = m₀ z) (F : Fr h₀ L h m₁) :
    Fr h₀ L h (fun y => if y = Str.ofString "ch" then m₁ y else kstB m₀ (wsPs a q tb tn tt) y) := by
  have em : (fun y => if y = Str.ofString "ch" then m₁ y else kstB m₀ (wsPs a q tb tn tt) y) = m₁ := by
    funext y
    by_cases hy : y = Str.ofString "ch"
    · rw [if_pos hy]
    · rw [if_neg hy]
      refine kstB_eq (by unfold wsPs; simp [h1, h2, h3, h4]) fun hn => ?_
      unfold wsPs at hn
      simp only [List.forall_mem_cons, List.not_mem_nil, false_implies, implies_true, and_true] at hn
      exact (h5 y hy hn.1 hn.2.1 hn.2.2.1 hn.2.2.2).symm
  rw [em]; exact F
theorem white_loop {l : List Nat} {t₀ tb₀ tn₀ tt₀ : Tok} {a₀ : Addr} {cn : Nat} {m₀ : Str → Option Value} {rest : List (Addr × Obj)} (pA : WhiteAt l)
    (hh : A.handled = none) (F : Fr h₀ env.locals s.heap m₀) (N : News h₀ env.locals s.heap ((a₀, listOf ([] : List Value).toArray cn) :: rest)) (hlt : AllLt a₀ rest)
    (k1 : m₀ (Str.ofString "count") = some (.ref a₀)) (k2 : m₀ (Str.ofString "b") = some (.int 0 tb₀)) (k3 : m₀ (Str.ofString "n") = some (.int 0 tn₀)) (k4 : m₀ (Str.ofString "nt") = some (.int 0 tt₀))
    (turn : ∀ i n t a vs c xs b nn nt tb tn tt h tk own, (n = 32 ∨ n = 9) → WsInv (xs, b, nn, nt) i → i < 20000 → (∀ q' : WsSt, q' = wsStep (xs, b, nn, nt) n → q' = wsOf (l.take (i + 1))) → IntsAre vs xs → vs.length = xs.length → AllLt a rest → OwnOff own (a :: rest.map (·.1)) →
      Fr h₀ env.locals h (fun y => if y = Str.ofString "ch" then some (.str ⟨#[n]⟩ t) else kstB m₀ (wsPs a (xs, b, nn, nt) tb tn tt) y) → News h₀ env.locals h ((a, listOf vs.toArray c) :: (rest ++ own)) →
      wpAny (model prog w) A (execs body env) (FreePost h₀ env.locals (WsJ l rest m₀ (i + 1)) own { s with heap := h, toks := tk } Q) E { s with heap := h, toks := tk })
    (done : ∀ a vs c xs b nn nt tb tn tt (u : Str → Option Value) h tk, (xs, b, nn, nt) = wsOf l → WsInv (xs, b, nn, nt) l.length → IntsAre vs xs → vs.length = xs.length → AllLt a rest → Fr h₀ env.locals h (fun y => if y = Str.ofString "ch" then u y else kstB m₀ (wsPs a (xs, b, nn, nt) tb tn tt) y) → News h₀ env.locals h ((a, listOf vs.toArray c) :: rest) → Q .next { s with heap := h, toks := tk }) :
    wpAny (model prog w) A (pyIter (.str (tx l) t₀)) (fun it s₂ => LoopAtV prog w A h₀ env (Str.ofString "ch") body Q E it s₂) E s := by
  have hcps : (tx l).cps.toList = l := tx_list l
  refine free_text (WsJ l rest m₀) hh F N ⟨a₀, [], cn, ([], 0, 0, 0), tb₀, tn₀, tt₀, rfl, .nil, hlt, by simp [wsOf], k1, k2, k3, k4, fun _ _ _ _ _ _ => rfl⟩ ?_ ?_
  · rintro i n t m₁ nx h tk own hn ⟨a, vs, c, ⟨xs, b, nn, nt⟩, tb, tn, tt, rfl, hI, hl, hq, h1, h2, h3, h4, h5⟩ hsep F₁ N₁
    have hn' : l[i]? = some n := by
      rw [← hcps]; simpa using hn
    have hi : i < l.length := (List.getElem?_eq_some_iff.mp hn').1
    have hmem : n ∈ l := List.mem_of_getElem? hn'
    have hlen : (l.take i).length = i := by rw [List.length_take]; omega
    have hinv := wsInv_of (l.take i)
    rw [← hq, hlen] at hinv
    refine turn i n t a vs c xs b nn nt tb tn tt h tk own (pA.ok n hmem) hinv (Nat.lt_of_lt_of_le hi pA.fit) (fun q' e => by rw [e, wsOf_snoc hn', ← hq]) hI hI.length hl ?_ (white_fr h1 h2 h3 h4 h5 F₁) N₁
    intro q hq b hb
    rcases List.mem_cons.mp hb with rfl | hb
    · exact hsep _ (.head _) q hq
    · obtain ⟨p, hp, rfl⟩ := List.mem_map.mp hb
      exact hsep p (.tail _ hp) q hq
  · rintro m₁ nx h tk ⟨a, vs, c, ⟨xs, b, nn, nt⟩, tb, tn, tt, rfl, hI, hl, hq, h1, h2, h3, h4, h5⟩ F₁ N₁
    have hsz : (tx l).cps.size = l.length := by rw [← Array.length_toList, hcps]
    rw [hsz, List.take_length] at hq
    have hinv := wsInv_of l
    rw [← hq] at hinv
    exact done a vs c xs b nn nt tb tn tt m₁ h tk hq hinv hI hI.length hl (white_out h1 h2 h3 h4 h5 F₁) N₁
end

theorem ws_end {l : List Nat} {rest own news' : List (Addr × Obj)} {m₀ m' : Str → Option Value} {i : Nat} {s₁ : Shared} {h₀ h' : Heap} {L a a₁ : Addr} {tk : Nat} {vs : List Value} {c : Nat} {xs : List Int} {b nn nt : Int} {tb tn tt : Tok}
    (F : Fr h₀ L h' m') (h1 : m' (Str.ofString "count") = some (.ref a)) (h2 : m' (Str.ofString "b") = some (.int b tb)) (h3 : m' (Str.ofString "n") = some (.int nn tn)) (h4 : m' (Str.ofString "nt") = some (.int nt tt))
    (hI : IntsAre vs xs) (N : News h₀ L h' news') (hin : (a, listOf vs.toArray c) ∈ news') (hrest : ∀ p ∈ rest ++ own, p ∈ news') (hl : AllLt a rest) (hoff : ∀ q ∈ own, q.1 ≠ a) (ho : OwnOff own (a₁ :: rest.map (·.1)))
    (hq : (xs, b, nn, nt) = wsOf (l.take i))
    (h5 : ∀ z, z ≠ Str.ofString "ch" → z ≠ Str.ofString "count" → z ≠ Str.ofString "b" → z ≠ Str.ofString "n" → z ≠ Str.ofString "nt" → m' z = m₀ z) :
    FreeEnd h₀ L (WsJ l rest m₀ i) own s₁ { s₁ with heap := h', toks := tk } := by
  refine FreeEnd.intro (nx := (a, listOf vs.toArray c) :: rest) F N ?_ ?_ ⟨a, vs, c, (xs, b, nn, nt), tb, tn, tt, rfl, hI, hl, hq, h1, h2, h3, h4, h5⟩
  · intro p hp
    rcases List.mem_cons.mp hp with rfl | hp
    · exact hin
    · exact hrest p hp
  · intro p hp q hq
    rcases List.mem_cons.mp hp with rfl | hp
    · exact hoff q hq
    · exact ho q hq _ (.tail _ (List.mem_map.mpr ⟨p, hp, rfl⟩))
theorem off_of_lt {d : Addr} {l r : List (Addr × Obj)} (h : AllLt d (l ++ r)) : ∀ q ∈ r, q.1 ≠ d := fun q hq => Nat.ne_of_lt (ktn_ltOf h q (List.mem_append.mpr (.inr hq)))
theorem off_of_head {d : Addr} {r : List (Addr × Obj)} {as : List Addr} (h : OwnOff r (d :: as)) : ∀ q ∈ r, q.1 ≠ d := fun q hq => h q hq _ (.head _)
theorem tuple_K {prog : Program} {w : World} {A : Around} {E : Value → Shared → Prop} {s : Shared} {h₀ : Heap} {L : Addr} {m : Str → Option Value} {Q : Value → Shared → Prop} {l : Addr} {vs : List Value} {news : List (Addr × Obj)} (Fh : Fr h₀ L s.heap m) (N : News h₀ L s.heap news) (hl : s.heap.IsList l vs.toArray)
    (hsz : vs.length ≤ sizeLine)
    (hQ : ∀ (D : Addr) h', Fr h₀ L h' m → News h₀ L h' ((D, { cls := .type "tuple", data := .seq vs.toArray }) :: news) → (∀ p ∈ news, p.1 < D) → Q (.ref D) { s with heap := h' }) :
    wpAny (model prog w) A (call (.type "tuple") [.ref l]) Q E s := by
  refine call_tuple_list hl (fun h' hk => ?_) (by rw [List.size_toArray]; exact hsz)
  have F' : Fr h₀ L h' m := Fh.keeps hk
  have N' : News h₀ L h' news := fun p hp => ⟨hk _ _ (N p hp).1, (N p hp).2⟩
  exact hQ _ _ (F'.push _) (N'.push F' _) fun p hp => Heap.lt_size (N' p hp).1
theorem three_ways {n : Nat} {xs : List Int} {b : Int} (h : n = 32 ∨ n = 9) : n = 32 ∨ (n = 9 ∧ b < (xs.length : Int)) ∨ (n = 9 ∧ (xs.length : Int) ≤ b) := by
  rcases h with h | h
  · exact .inl h
  · rcases Int.lt_or_le b (xs.length : Int) with h1 | h1
    · exact .inr (.inl ⟨h, h1⟩)
    · exact .inr (.inr ⟨h, h1⟩)
theorem news_white {h₀ h : Heap} {L T C a D x dx : Addr} {oT oC oa oD ox od : Obj} {news : List (Addr × Obj)} (N : News h₀ L h ((T, oT) :: (C, oC) :: (a, oa) :: (D, oD) :: (x, ox) :: (dx, od) :: news)) :
    News h₀ L h ([(T, oT), (C, oC), (x, ox), (dx, od)] ++ news) := by
  intro p hp
  refine N p ?_
  simp only [List.cons_append, List.nil_append, List.mem_cons] at hp ⊢
  rcases hp with h | h | h | h | h
  · exact .inl h
  · exact .inr (.inl h)
  · exact .inr (.inr (.inr (.inr (.inl h))))
  · exact .inr (.inr (.inr (.inr (.inr (.inl h)))))
  · exact .inr (.inr (.inr (.inr (.inr (.inr h)))))
theorem above_white {T C x dx : Addr} {oT oC ox od : Obj} {news : List (Addr × Obj)} (h1 : AllLt T news) (h2 : AllLt C news) (h3 : dx < x) (h4 : AllLt dx news) : ∀ q ∈ news, ∀ p ∈ [(T, oT), (C, oC), (x, ox), (dx, od)], q.1 < p.1 := by
  intro q hq p hp
  simp only [List.mem_cons, List.not_mem_nil, or_false] at hp
  rcases hp with rfl | rfl | rfl | rfl
  · exact ktn_ltOf h1 q hq
  · exact ktn_ltOf h2 q hq
  · exact Nat.lt_trans (ktn_ltOf h4 q hq) h3
  · exact ktn_ltOf h4 q hq
/-- the entries of a Whitespace's dict -/
noncomputable def whiteDict (w : World) (l : List Nat) (t : Tok) (T : Addr) (nn nt : Int) (tn tt k1 k2 k3 k4 k5 : Tok) (sb : Bool) : Obj :=
  dictOf [⟨PyData.keyHash w.params (Str.ofString "raw"), .str (Str.ofString "raw") k1, .str (tx l) t⟩, ⟨PyData.keyHash w.params (Str.ofString "n"), .str (Str.ofString "n") k2, .int nn tn⟩,
    ⟨PyData.keyHash w.params (Str.ofString "nt"), .str (Str.ofString "nt") k3, .int nt tt⟩, ⟨PyData.keyHash w.params (Str.ofString "norm"), .str (Str.ofString "norm") k4, .ref T⟩,
    ⟨PyData.keyHash w.params (Str.ofString "is_simple"), .str (Str.ofString "is_simple") k5, .bool sb⟩] 5
noncomputable def WhiteRet (w : World) (l : List Nat) (t : Tok) (r : Value) (tl : List (Addr × Obj)) : Prop :=
  ∃ (x dx T C : Addr) (vs : List Value) (xs : List Int) (b nn nt : Int) (tb tn tt k1 k2 k3 k4 k5 : Tok) (sb : Bool), r = .ref x ∧
    tl = [(T, ({ cls := .type "tuple", data := .seq #[.ref C, .int b tb] } : Obj)), (C, { cls := .type "tuple", data := .seq vs.toArray }), (x, instObj 115 dx), (dx, whiteDict w l t T nn nt tn tt k1 k2 k3 k4 k5 sb)] ∧
    IntsAre vs xs ∧ (xs, b, nn, nt) = wsOf l
theorem white_ctr {w : World} {l : List Nat} {t : Tok} (hl : WhiteAt l) :
    Ctr w 115 2 [.str (tx l) t] (WhiteRet w l t) := by
  unfold Ctr
  w_top off
  k_fill
  intro loose mean mg mb dp un gd cn cs a ccd cl outer A₀ base h₀ L m news s Q E B F X N T hk hd hu hret
  k_dflt (refine' call_cls ?k1 ?k2 ?k3 ?k4 ?k5 ?k6 ?_; (case k1 => k_asm); (case k2 => k_asm); (case k3 => k_asm); (case k4 => k_is); (case k5 => k_is); (case k6 => k_is); k_whole; intro x' d' h' F' N' l1 l2; (try k_lt l1); (try k_lt2 l2); (try k_sweep))
  k_dflt ktr_enter
  (rename Fr _ _ _ (fun y => List.lookup y _) => fB9)
  have fC9 := fr_plain [(Str.ofString "ws", .str (tx l) t), (Str.ofString "self", .ref x')] fB9 (by rfl)
  clear fB9
  dsimp only [frOf] at fC9
  refine let_around ?_; intro A9
  refine let_env ?_; intro e9
  repeat' (first
    | ((with_reducible show wpAny _ _ (storeName _ _ (Value.int _ (@HAdd.hAdd _ _ _ _ _ _))) _ _ _); (refine gen_int ?_); (intro t9))
    | ((with_reducible show wpAny _ _ (storeName _ _ (Value.int _ (Shared.toks _))) _ _ _); (refine gen_int ?_); (intro t9))
    | ((with_reducible show wpAny _ _ (storeName _ _ (Value.str _ (@HAdd.hAdd _ _ _ _ _ _))) _ _ _); (refine gen_str ?_); (intro t9))
    | ((with_reducible show wpAny _ _ (storeName _ _ (Value.str _ (Shared.toks _))) _ _ _); (refine gen_str ?_); (intro t9))
    | ((with_reducible show wpAny _ _ (exec _ _) _ _ _); k_fold; (refine let_state ?_); (intro s8))
    | ((with_reducible show wpAny _ _ (execs (_ :: _) _) _ _ _); k_fold)
    | ((with_reducible show wpAny _ _ (isTrue _ _ _) _ _ _); k_fold)
    | ((with_reducible show wpAny _ _ (storeName _ _ _) _ _ _); walk1; (rename Fr _ _ _ _ => lF8); (refine let_fr lF8 ?_); (intro m8 lG8); (clear lF8))
    | (k_unfold; (try dsimp only))
    | (k_end; wrow_close)
    | ((with_reducible show FreeEnd _ _ _ _ _ _); first | with_reducible ((k_dflt ( (rename News _ _ _ _ => nE'); (refine ws_end (a₁ := ?a1) (by assumption) (by exact rfl) (by exact rfl) (by exact rfl) (by exact rfl) (by assumption) nE' (by k_memK) ?g1 ?g2 ?g3 ?g4 ?g5 ?g6); (case g1 => first | exact fun _ hp => List.Mem.tail _ hp | exact fun _ hp => List.Mem.tail _ (List.Mem.tail _ (List.Mem.tail _ (List.Mem.tail _ hp)))); (case g2 => first | (simp only [AllLt, and_true]; assumption) | ((rename _ < _ ∧ _ < _ ∧ _ < _ ∧ _ < _ ∧ _ < _ ∧ _ < _ ∧ AllLt _ _ => g9); simp only [AllLt, and_true]; exact ⟨by omega, by omega, by omega, allLt_left g9.2.2.2.2.2.2⟩)); (case g3 => first | exact off_of_head (by assumption) | ((rename _ < _ ∧ _ < _ ∧ _ < _ ∧ _ < _ ∧ _ < _ ∧ _ < _ ∧ AllLt _ _ => g9); exact off_of_lt g9.2.2.2.2.2.2)); (case g4 => assumption); (case g5 => ((rename ∀ q' : WsSt, _ → _ => st9); first | exact st9 _ wsStep_sp | exact st9 _ (wsStep_in (by assumption)) | exact st9 _ (wsStep_out (by assumption)))); (case g6 => (intro z h1 h2 h3 h4 h5; (repeat (refine ifn (by with_reducible assumption) ?_)); first | exact rfl | ((repeat (refine ifnR (by with_reducible assumption) ?_)); exact rfl)))))) | ((k_dflt ( (rename News _ _ _ _ => nE'); (refine ws_end (a₁ := ?a1) (by assumption) (by exact rfl) (by exact rfl) (by exact rfl) (by exact rfl) (by assumption) nE' (by k_memK) ?g1 ?g2 ?g3 ?g4 ?g5 ?g6); (case g1 => first | exact fun _ hp => List.Mem.tail _ hp | exact fun _ hp => List.Mem.tail _ (List.Mem.tail _ (List.Mem.tail _ (List.Mem.tail _ hp)))); (case g2 => first | (simp only [AllLt, and_true]; assumption) | ((rename _ < _ ∧ _ < _ ∧ _ < _ ∧ _ < _ ∧ _ < _ ∧ _ < _ ∧ AllLt _ _ => g9); simp only [AllLt, and_true]; exact ⟨by omega, by omega, by omega, allLt_left g9.2.2.2.2.2.2⟩)); (case g3 => first | exact off_of_head (by assumption) | ((rename _ < _ ∧ _ < _ ∧ _ < _ ∧ _ < _ ∧ _ < _ ∧ _ < _ ∧ AllLt _ _ => g9); exact off_of_lt g9.2.2.2.2.2.2)); (case g4 => assumption); (case g5 => ((rename ∀ q' : WsSt, _ → _ => st9); first | exact st9 _ wsStep_sp | exact st9 _ (wsStep_in (by assumption)) | exact st9 _ (wsStep_out (by assumption)))); (case g6 => (intro z h1 h2 h3 h4 h5; (repeat (refine ifn (by with_reducible assumption) ?_)); first | exact rfl | ((repeat (refine ifnR (by with_reducible assumption) ?_)); exact rfl)))))))
    | ((with_reducible show FreePost _ _ _ _ _ _ _ _); first | with_reducible ((dsimp only [FreePost])) | ((dsimp only [FreePost])))
    | ((with_reducible show wpAny _ _ (pyIter (Value.str _ _)) _ _ _); first | with_reducible (( k_here; (rename Fr _ _ _ _ => lF'); (rename News _ _ _ _ => lN'); (rename WhiteAt _ => pA'); (with_unfolding_all refine' white_loop pA' ?hh lF' lN' ?hl ?k1 ?k2 ?k3 ?k4 ?kturn ?kdone); (case hh => with_unfolding_all rfl); (case hl => (k_dflt ktn_lt)); (case k1 => with_unfolding_all rfl); (case k2 => with_unfolding_all rfl); (case k3 => with_unfolding_all rfl); (case k4 => with_unfolding_all rfl); (all_goals (clear lF' lN')); (case' kturn => ( (intro i9 n9 t9 a9 vs9 c9 xs9 b9 nn9 nt9 tb9 tn9 tt9 h9 tk9 own9 hn9 hinv9 hi9 hst9 hI9 hv9 hl9 ho9 F9 N9); (have kMk9 : KstMark := kstMark); (have fit9 := WhiteAt.fit pA'); (dsimp only [kstB, wsPs] at F9); (simp only [List.cons_append, List.nil_append] at N9); (simp only [AllLt, and_true] at hl9); (simp only [List.map_cons, List.map_nil] at ho9); (obtain ⟨v1, v2, v3, v4, v5, v6, v7, v8⟩ := hinv9); (dsimp only at v1 v2 v3 v4 v5 v6 v7 v8); (rcases three_ways (xs := xs9) (b := b9) hn9 with w1 | ⟨w1, w2⟩ | ⟨w1, w2⟩) <;> subst w1 <;> clear hn9)); (case' kdone => ( (intro a9 vs9 c9 xs9 b9 nn9 nt9 tb9 tn9 tt9 u9 h9 tk9 hq9 hinv9 hI9 hv9 hl9 F9 N9); (have kMk9 : KstMark := kstMark); (have fit9 := WhiteAt.fit pA'); (dsimp only [kstB, wsPs] at F9); (simp only [AllLt, and_true] at hl9); (obtain ⟨v1, v2, v3, v4, v5, v6, v7, v8⟩ := hinv9); (dsimp only at v1 v2 v3 v4 v5 v6 v7 v8); (try dsimp only))); (all_goals (try k_fold)))) | (( k_here; (rename Fr _ _ _ _ => lF'); (rename News _ _ _ _ => lN'); (rename WhiteAt _ => pA'); (with_unfolding_all refine' white_loop pA' ?hh lF' lN' ?hl ?k1 ?k2 ?k3 ?k4 ?kturn ?kdone); (case hh => with_unfolding_all rfl); (case hl => (k_dflt ktn_lt)); (case k1 => with_unfolding_all rfl); (case k2 => with_unfolding_all rfl); (case k3 => with_unfolding_all rfl); (case k4 => with_unfolding_all rfl); (all_goals (clear lF' lN')); (case' kturn => ( (intro i9 n9 t9 a9 vs9 c9 xs9 b9 nn9 nt9 tb9 tn9 tt9 h9 tk9 own9 hn9 hinv9 hi9 hst9 hI9 hv9 hl9 ho9 F9 N9); (have kMk9 : KstMark := kstMark); (have fit9 := WhiteAt.fit pA'); (dsimp only [kstB, wsPs] at F9); (simp only [List.cons_append, List.nil_append] at N9); (simp only [AllLt, and_true] at hl9); (simp only [List.map_cons, List.map_nil] at ho9); (obtain ⟨v1, v2, v3, v4, v5, v6, v7, v8⟩ := hinv9); (dsimp only at v1 v2 v3 v4 v5 v6 v7 v8); (rcases three_ways (xs := xs9) (b := b9) hn9 with w1 | ⟨w1, w2⟩ | ⟨w1, w2⟩) <;> subst w1 <;> clear hn9)); (case' kdone => ( (intro a9 vs9 c9 xs9 b9 nn9 nt9 tb9 tn9 tt9 u9 h9 tk9 hq9 hinv9 hI9 hv9 hl9 F9 N9); (have kMk9 : KstMark := kstMark); (have fit9 := WhiteAt.fit pA'); (dsimp only [kstB, wsPs] at F9); (simp only [AllLt, and_true] at hl9); (obtain ⟨v1, v2, v3, v4, v5, v6, v7, v8⟩ := hinv9); (dsimp only at v1 v2 v3 v4 v5 v6 v7 v8); (try dsimp only))); (all_goals (try k_fold)))))
    | ((with_reducible show wpAny _ _ (exec (PySem.Stmt.For (PySem.Expr.Name _ _) (PySem.Expr.Attribute _ _ _) _ _ _) _) _ _ _); first | with_reducible ((k_here; (rename WhiteAt _ => pA'); (rename Fr _ _ _ _ => lF'); (with_unfolding_all refine' For_invVF lF' ?k1 ?k2 ?_; (case k1 => exact rfl); (case k2 => exact rfl); k_whole))) | ((k_here; (rename WhiteAt _ => pA'); (rename Fr _ _ _ _ => lF'); (with_unfolding_all refine' For_invVF lF' ?k1 ?k2 ?_; (case k1 => exact rfl); (case k2 => exact rfl); k_whole))))
    | ((with_reducible show wpAny _ _ (call (Value.type "tuple") [Value.ref _]) _ _ _); first | with_reducible (( k_here; (with_reducible show wpAny _ _ (call (Value.type _) [Value.ref _]) _ _ _); k_dflt (refine' tuple_K ?k1 ?k2 ?k3 ?k4 ?_; (case k1 => k_asm); (case k2 => k_asm); (case k3 => exact News.isList (by k_asm) (by k_mem)); (case k4 => (rw [sizeLine_eq]; omega)); k_whole); (intro D' h' F' N' l1); (try k_lt l1); (try k_sweep))) | (( k_here; (with_reducible show wpAny _ _ (call (Value.type _) [Value.ref _]) _ _ _); k_dflt (refine' tuple_K ?k1 ?k2 ?k3 ?k4 ?_; (case k1 => k_asm); (case k2 => k_asm); (case k3 => exact News.isList (by k_asm) (by k_mem)); (case k4 => (rw [sizeLine_eq]; omega)); k_whole); (intro D' h' F' N' l1); (try k_lt l1); (try k_sweep))))
    | ((with_reducible show wpAny _ _ (compareOp .NotIn (Value.str _ _) (Value.ref _)) _ _ _); first | with_reducible ((k_here; k_dflt (refine' topNotIn_K ?F ?X ?l ?k ?e ?o ?_; (case F => k_asm); (case X => k_asm); (case l => k_is); (case k => k_keys); (case e => k_is); (case o => decide)))) | ((k_here; k_dflt (refine' topNotIn_K ?F ?X ?l ?k ?e ?o ?_; (case F => k_asm); (case X => k_asm); (case l => k_is); (case k => k_keys); (case e => k_is); (case o => decide)))))
    | ((with_reducible show wpAny _ _ (compareOp .NotEq (Value.str _ _) (Value.str _ _)) _ _ _); first | with_reducible (k_dflt (first | (refine' ne_b (b := true) ?e ?_; (case e => first | with_reducible assumption | decide +kernel)) | (refine' ne_b (b := false) ?e ?_; (case e => first | with_reducible assumption | decide +kernel)))) | (k_dflt (first | (refine' ne_b (b := true) ?e ?_; (case e => first | with_reducible assumption | decide +kernel)) | (refine' ne_b (b := false) ?e ?_; (case e => first | with_reducible assumption | decide +kernel)))))
    | ((with_reducible show wpAny _ _ (compareOp .Eq (Value.str _ _) (Value.str _ _)) _ _ _); first | with_reducible (k_dflt (first | (refine' eq_b (b := true) ?e ?_; (case e => first | with_reducible assumption | decide +kernel)) | (refine' eq_b (b := false) ?e ?_; (case e => first | with_reducible assumption | decide +kernel)))) | (k_dflt (first | (refine' eq_b (b := true) ?e ?_; (case e => first | with_reducible assumption | decide +kernel)) | (refine' eq_b (b := false) ?e ?_; (case e => first | with_reducible assumption | decide +kernel)))))
    | ((with_reducible show wpAny _ _ (subscriptTail (PySem.Expr.Name _ _) (PySem.Expr.Name _ _) (Value.str _ _) (Value.int _ _)) _ _ _); first | with_reducible (( (with_reducible show wpAny _ _ (subscriptTail _ _ (Value.str _ _) (Value.int _ _)) _ _ _); k_dflt (refine' it_s ?e ?h1 ?h2 ?hsz ?_; (case e => with_reducible assumption); (case h1 => omega); (case h2 => omega); (case hsz => with_reducible assumption)))) | (( (with_reducible show wpAny _ _ (subscriptTail _ _ (Value.str _ _) (Value.int _ _)) _ _ _); k_dflt (refine' it_s ?e ?h1 ?h2 ?hsz ?_; (case e => with_reducible assumption); (case h1 => omega); (case h2 => omega); (case hsz => with_reducible assumption)))))
    | ((with_reducible show wpAny _ _ (subscriptTail (PySem.Expr.Name _ _) (PySem.Expr.Slice _ _ _ _) (Value.str _ _) (Value.ref _)) _ _ _); first | with_reducible (((with_reducible rename Fr _ _ _ _ => F'); (with_reducible rename News _ _ _ _ => N'); first | (refine' sl_ns (s := ⟨_, _, _, _, _⟩) ?e ?hsz F' N' ?_; (case e => with_reducible assumption); (case hsz => with_reducible assumption); intro _ _ _ _ _) | (refine' sl_sn (s := ⟨_, _, _, _, _⟩) ?e ?hsz F' N' ?_; (case e => with_reducible assumption); (case hsz => with_reducible assumption); intro _ _ _ _ _) | (refine' sl_ss (s := ⟨_, _, _, _, _⟩) ?e ?hsz F' N' ?_; (case e => with_reducible assumption); (case hsz => with_reducible assumption); intro _ _ _ _ _))) | (((with_reducible rename Fr _ _ _ _ => F'); (with_reducible rename News _ _ _ _ => N'); first | (refine' sl_ns (s := ⟨_, _, _, _, _⟩) ?e ?hsz F' N' ?_; (case e => with_reducible assumption); (case hsz => with_reducible assumption); intro _ _ _ _ _) | (refine' sl_sn (s := ⟨_, _, _, _, _⟩) ?e ?hsz F' N' ?_; (case e => with_reducible assumption); (case hsz => with_reducible assumption); intro _ _ _ _ _) | (refine' sl_ss (s := ⟨_, _, _, _, _⟩) ?e ?hsz F' N' ?_; (case e => with_reducible assumption); (case hsz => with_reducible assumption); intro _ _ _ _ _))))
    | walk1 | (dsimp only; walk1) | (leave1; walk_say "STEP leave1"; try dsimp only))
  (rename _ < _ ∧ _ < _ ∧ _ < _ ∧ _ < _ ∧ _ < _ ∧ AllLt _ _ => g1)
  (rename _ < _ ∧ _ < _ ∧ _ < _ ∧ _ < _ ∧ AllLt _ _ => g2)
  exact hret _ _ _ _ (by k_asm) (news_white (by k_asm)) (above_white g1.2.2.2.2.2 g2.2.2.2.2 l2 (allLt_of l1)) ⟨_, _, _, _, _, _, _, _, _, _, _, _, _, _, _, _, _, _, rfl, rfl, by assumption, by assumption⟩
end Mine
namespace Mine
open PySem PySem.W PyProof.Rows
noncomputable def half (xs : List Int) (j : Nat) : Int := ((List.range j).map fun i => ((i / 2 : Nat) : Int) * xs.getD i 0).sum
theorem half_succ (xs : List Int) (j : Nat) : half xs (j + 1) = half xs j + ((j / 2 : Nat) : Int) * xs.getD j 0 := by
  unfold half; rw [List.range_succ, List.map_append, List.sum_append]; simp
/-- what a Whitespace is in the ledger -/
structure WhiteIn (w : World) (l : List Nat) (t : Tok) (x dx T C : Addr) (vs : List Value) (b nn nt : Int) (tb tn tt k1 k2 k3 k4 k5 : Tok) (sb : Bool) (news : List (Addr × Obj)) : Prop where
  h1 : (T, ({ cls := .type "tuple", data := .seq #[.ref C, .int b tb] } : Obj)) ∈ news
  h2 : (C, ({ cls := .type "tuple", data := .seq vs.toArray } : Obj)) ∈ news
  h3 : (x, instObj 115 dx) ∈ news
  h4 : (dx, whiteDict w l t T nn nt tn tt k1 k2 k3 k4 k5 sb) ∈ news
theorem half_two (xs : List Int) : half xs 2 = 0 := by unfold half; simp [List.range_succ]
theorem half_small (xs : List Int) {j : Nat} (h : j ≤ 2) : half xs j = 0 := by
  have : j = 0 ∨ j = 1 ∨ j = 2 := by omega
  rcases this with rfl | rfl | rfl
  · rfl
  · unfold half; simp [List.range_succ]
  · exact half_two xs
theorem half_end {xs : List Int} {n : Nat} (h : n = ((xs.length : Int) - 2).toNat) : half xs (n + 2) = half xs xs.length := by
  by_cases h2 : 2 ≤ xs.length
  · rw [show n + 2 = xs.length by omega]
  · rw [half_small xs (show xs.length ≤ 2 by omega), half_small xs (show n + 2 ≤ 2 by omega)]
theorem fdiv_two {k : Int} {j : Nat} (h : k = (j : Int)) : Int.fdiv k 2 = ((j / 2 : Nat) : Int) := by
  subst h; rw [Int.fdiv_eq_ediv_of_nonneg _ (by decide)]; rfl
/-- in indent_level: the count's ints -/
structure IndentAt (xs : List Int) : Prop where
  ok : xs.length ≤ 20000
section
variable {prog : Program} {w : World} {A : Around} {E : Value → Shared → Prop} {s : Shared} {env : Env} {h₀ : Heap} {body : List Stmt}
theorem len_tupI {L C : Addr} {news : List (Addr × Obj)} {vs : List Value} {xs : List Int} {Q : Value → Shared → Prop} (N : News h₀ L s.heap news) (hm : (C, ({ cls := .type "tuple", data := .seq vs.toArray } : Obj)) ∈ news) (hI : IntsAre vs xs) (hfit : xs.length ≤ 20000)
    (h : Q (.int (xs.length : Int) (s.toks + 1)) { s with toks := s.toks + 1 + 1 }) : wpAny (model prog w) A (call (.builtin "len") [.ref C]) Q E s := by
  have e : vs.toArray.size = xs.length := by rw [List.size_toArray, hI.length]
  exact PyProof.Rows.len_tuple (News.isTup N hm) (by rw [e]; omega) (by rw [e]; exact h)
theorem item_tupI {L C : Addr} {news : List (Addr × Obj)} {vs : List Value} {xs : List Int} {k : Int} {u : Tok} {value slice : PySem.Expr} {Q : Value → Shared → Prop} (N : News h₀ L s.heap news) (hm : (C, ({ cls := .type "tuple", data := .seq vs.toArray } : Obj)) ∈ news) (hI : IntsAre vs xs) (hfit : xs.length ≤ 20000)
    (h0 : 0 ≤ k) (h1 : k < (xs.length : Int)) (h : ∀ t, Q (.int (xs.getD k.toNat 0) t) s)
    (hs : subscripted slice false (.ref C) (.int k u) = operate [.ref C, .int k u] (getItem (.ref C) (.int k u)) := by with_unfolding_all rfl) :
    wpAny (model prog w) A (subscriptTail value slice (.ref C) (.int k u)) Q E s := by
  have hl := hI.length
  have hlt : k.toNat < vs.length := by omega
  have hv : vs[k.toNat]? = some vs[k.toNat] := List.getElem?_eq_getElem hlt
  obtain ⟨t, e⟩ := hI.int_at _ _ hv
  refine item_tupleT (j := k.toNat) (News.isTup N hm) (by omega) (by omega) ?_ hv (by rw [e]; exact h t) hs
  exact StrLaws.seqIndex_nonneg h0 (by omega)
theorem indent_loop {xs : List Int} {r : Addr} {t₀ u₀ v₀ ti : Tok} {m₀ : Str → Option Value} {news : List (Addr × Obj)} {Q : Flow → Shared → Prop} (pA : IndentAt xs) (hh : A.handled = none) (hr : IsRange s.heap r 2 (xs.length : Int) 1 t₀ u₀ v₀)
    (F : Fr h₀ env.locals s.heap m₀) (N : News h₀ env.locals s.heap news) (hk : m₀ (Str.ofString "il") = some (.int 0 ti))
    (turn : ∀ (il k : Int) (j : Nat) (t ti : Tok) (u : Str → Option Value) h tk own, k = (j : Int) → 2 ≤ j → j < xs.length → xs.length ≤ 20000 → (∀ y, y = il + ((j / 2 : Nat) : Int) * xs.getD j 0 → y = half xs (j + 1)) → OwnOff own (news.map (·.1)) →
      Fr h₀ env.locals h (fun y => if y = Str.ofString "i" then some (.int k t) else kstB (fun z => if ([] : List Str).contains z then u z else m₀ z) [(Str.ofString "il", .int il ti)] y) → News h₀ env.locals h (news ++ own) →
      wpAny (model prog w) A (execs body env) (InvPostN h₀ env.locals (fun m nx => nx = news ∧ ∃ t' y, m (Str.ofString "il") = some (.int y t') ∧ y = half xs (j + 1) ∧ ∀ z, z ≠ Str.ofString "i" → z ≠ Str.ofString "il" → m z = m₀ z) own (news.map (·.1)) { s with heap := h, toks := tk } Q) E { s with heap := h, toks := tk })
    (done : ∀ (ti : Tok) (u : Str → Option Value) h tk, Fr h₀ env.locals h (fun y => if y = Str.ofString "i" then u y else kstB (fun z => if ([] : List Str).contains z then u z else m₀ z) [(Str.ofString "il", .int (half xs xs.length) ti)] y) → News h₀ env.locals h news → Q .next { s with heap := h, toks := tk }) :
    wpAny (model prog w) A (pyIter (.ref r)) (fun it s₂ => LoopAtV prog w A h₀ env (Str.ofString "i") body Q E it s₂) E s := by
  have hfit := pA.ok
  refine kst_range (σ := Int × Tok) (n := ((xs.length : Int) - 2).toNat) (fun _ => news) (fun c => [(Str.ofString "il", .int c.1 c.2)]) (fun _ => True) [] (fun pre c => c.1 = half xs (pre.length + 2)) (0, ti) hh hr
    (small_one (by omega) (by omega) (by omega) (by omega)) (rangeSize_nat _ _) F N True.intro (List.forall_mem_cons.mpr ⟨hk, List.forall_mem_nil _⟩) (half_two xs).symm ?_ ?_
  · rintro ⟨il, ti⟩ pre k t u h tk own hk hlt hoff - hP F₁ N₁
    dsimp only at hP F₁ N₁ hoff ⊢
    have hj : k = ((pre.length + 2 : Nat) : Int) := by omega
    refine wpAny_mono (turn il k (pre.length + 2) t ti u h tk own hj (by omega) (by omega) hfit (fun y e => by rw [e, half_succ, hP]) hoff F₁ N₁) (fun f s₂ p => ?_) fun _ _ x => x
    have up : InvEndN h₀ env.locals (fun m nx => nx = news ∧ ∃ t' y, m (Str.ofString "il") = some (.int y t') ∧ y = half xs (pre.length + 2 + 1) ∧ ∀ z, z ≠ Str.ofString "i" → z ≠ Str.ofString "il" → m z = m₀ z) own (news.map (·.1)) { s with heap := h, toks := tk } s₂ →
        InvEndN h₀ env.locals (KstS (fun _ => news) (fun c : Int × Tok => [(Str.ofString "il", .int c.1 c.2)]) (fun _ => True) (Str.ofString "i") [] m₀ (fun pre c => c.1 = half xs (pre.length + 2)) (pre ++ [k])) own (news.map (·.1)) { s with heap := h, toks := tk } s₂ := by
      rintro ⟨h', tk', m', news', nx, e, F', N', hn', ho', ha, hnx, t', y, h1, h2, h3⟩
      refine ⟨h', tk', m', news', nx, e, F', N', hn', ho', ha, (y, t'), hnx, True.intro, List.forall_mem_cons.mpr ⟨h1, List.forall_mem_nil _⟩, fun z hz hz2 _ => h3 z hz (hz2 _ (.head _)), ?_⟩
      show y = half xs ((pre ++ [k]).length + 2)
      rw [List.length_append, List.length_singleton]; exact h2
    cases f with
    | ret v => exact p
    | brk => exact p
    | next => exact up p
    | cont => exact up p
  · rintro ⟨il, ti⟩ u h tk - hP F₁ N₁
    dsimp only at hP F₁ N₁
    rw [rangeKs_length, half_end rfl] at hP
    rw [hP] at F₁
    exact done ti u h tk F₁ N₁
end
theorem indent_end {xs : List Int} {news own news' : List (Addr × Obj)} {adr : List Addr} {m₀ m' : Str → Option Value} {j : Nat} {s₁ : Shared} {h₀ h' : Heap} {L : Addr} {tk : Nat} {t' : Tok} {y : Int}
    (F : Fr h₀ L h' m') (h1 : m' (Str.ofString "il") = some (.int y t')) (N : News h₀ L h' news') (hin : ∀ p ∈ news ++ own, p ∈ news') (ha : news.map (·.1) = adr) (hy : y = half xs (j + 1)) (h3 : ∀ z, z ≠ Str.ofString "i" → z ≠ Str.ofString "il" → m' z = m₀ z) :
    InvEndN h₀ L (fun m nx => nx = news ∧ ∃ t' y, m (Str.ofString "il") = some (.int y t') ∧ y = half xs (j + 1) ∧ ∀ z, z ≠ Str.ofString "i" → z ≠ Str.ofString "il" → m z = m₀ z) own adr s₁ { s₁ with heap := h', toks := tk } :=
  InvEndN.intro F N ⟨rfl, t', y, h1, hy, h3⟩ ha (fun p hp => hin p (List.mem_append.mpr (.inl hp))) (fun p hp => hin p (List.mem_append.mpr (.inr hp)))
theorem indent_ctr {w : World} {l : List Nat} {t t2 : Tok} {x dx T C : Addr} {vs : List Value} {xs : List Int} {b nn nt : Int} {tb tn tt k1 k2 k3 k4 k5 : Tok} {sb : Bool} (hI : IntsAre vs xs) (hlen : xs.length ≤ 20000) :
    CtrP w 84 1 [.ref x, .int 2 t2] (WhiteIn w l t x dx T C vs b nn nt tb tn tt k1 k2 k3 k4 k5 sb) (fun r tl => ∃ t', r = .int (b + 2 * (half xs xs.length + nt)) t' ∧ tl = []) := by
  unfold CtrP
  w_top off
  k_fill
  intro loose mean mg mb dp un gd cn cs a ccd cl outer A₀ base h₀ L m news s Q E B F X N T hk hd hu hP hret
  obtain ⟨p1, p2, p3, p4⟩ := hP
  unfold whiteDict at p4
  have hv := hI.length
  have pA : IndentAt xs := ⟨hlen⟩
  refine wpAny_call ?_
  k_dflt ktr_enter
  (rename Fr _ _ _ (fun y => List.lookup y _) => fB9)
  have fC9 := fr_plain [(Str.ofString "tabsize", .int 2 t2), (Str.ofString "self", .ref x)] fB9 (by rfl)
  clear fB9
  dsimp only [frOf] at fC9
  refine let_around ?_; intro A9
  refine let_env ?_; intro e9
  repeat' (first
    | ((with_reducible show wpAny _ _ (storeName _ _ (Value.int _ (@HAdd.hAdd _ _ _ _ _ _))) _ _ _); (refine gen_int ?_); (intro t9))
    | ((with_reducible show wpAny _ _ (storeName _ _ (Value.int _ (Shared.toks _))) _ _ _); (refine gen_int ?_); (intro t9))
    | ((with_reducible show wpAny _ _ (storeName _ _ (Value.str _ (@HAdd.hAdd _ _ _ _ _ _))) _ _ _); (refine gen_str ?_); (intro t9))
    | ((with_reducible show wpAny _ _ (storeName _ _ (Value.str _ (Shared.toks _))) _ _ _); (refine gen_str ?_); (intro t9))
    | ((with_reducible show wpAny _ _ (exec _ _) _ _ _); k_fold; (refine let_state ?_); (intro s8))
    | ((with_reducible show wpAny _ _ (execs (_ :: _) _) _ _ _); k_fold)
    | ((with_reducible show wpAny _ _ (isTrue _ _ _) _ _ _); k_fold)
    | ((with_reducible show wpAny _ _ (storeName _ _ _) _ _ _); walk1; (rename Fr _ _ _ _ => lF8); (refine let_fr lF8 ?_); (intro m8 lG8); (clear lF8))
    | (k_unfold; (try dsimp only))
    | (k_end; wrow_close)
    | ((with_reducible show InvEndN _ _ _ _ _ _ _); first | with_reducible ((k_dflt ( (rename News _ _ _ _ => nE'); (rename ∀ y : Int, _ → _ = half _ _ => st9); (refine indent_end (by assumption) (by exact rfl) nE' (by exact fun _ hp => hp) rfl (by exact st9 _ (by simp only [Int.toNat_natCast])) (by (intro z h1 h2; (repeat (refine ifn (by with_reducible assumption) ?_)); first | exact rfl | ((repeat (refine ifnR (by with_reducible assumption) ?_)); exact rfl))))))) | ((k_dflt ( (rename News _ _ _ _ => nE'); (rename ∀ y : Int, _ → _ = half _ _ => st9); (refine indent_end (by assumption) (by exact rfl) nE' (by exact fun _ hp => hp) rfl (by exact st9 _ (by simp only [Int.toNat_natCast])) (by (intro z h1 h2; (repeat (refine ifn (by with_reducible assumption) ?_)); first | exact rfl | ((repeat (refine ifnR (by with_reducible assumption) ?_)); exact rfl))))))))
    | ((with_reducible show wpAny _ _ (pyIter (Value.ref _)) _ _ _); first | with_reducible (( k_here; (rename IndentAt _ => pA'); (rename Fr _ _ _ _ => lF'); (rename News _ _ _ _ => lN'); (rename IsRange _ _ _ _ _ _ _ _ => rgX); (with_unfolding_all refine' indent_loop pA' ?hh rgX lF' lN' ?k1 ?kturn ?kdone); (case hh => with_unfolding_all rfl); (case k1 => with_unfolding_all rfl); (all_goals (clear lF' lN')); (case' kturn => ( (intro il9 k9 j9 t9 ti9 u9 h9 tk9 own9 e9 g9 l9 f9 n9 o9 F9 N9); (subst e9); (dsimp only [kstB] at F9))); (case' kdone => ( (intro ti9 u9 h9 tk9 F9 N9); (dsimp only [kstB] at F9); (try dsimp only))); (all_goals (try k_fold)))) | (( k_here; (rename IndentAt _ => pA'); (rename Fr _ _ _ _ => lF'); (rename News _ _ _ _ => lN'); (rename IsRange _ _ _ _ _ _ _ _ => rgX); (with_unfolding_all refine' indent_loop pA' ?hh rgX lF' lN' ?k1 ?kturn ?kdone); (case hh => with_unfolding_all rfl); (case k1 => with_unfolding_all rfl); (all_goals (clear lF' lN')); (case' kturn => ( (intro il9 k9 j9 t9 ti9 u9 h9 tk9 own9 e9 g9 l9 f9 n9 o9 F9 N9); (subst e9); (dsimp only [kstB] at F9))); (case' kdone => ( (intro ti9 u9 h9 tk9 F9 N9); (dsimp only [kstB] at F9); (try dsimp only))); (all_goals (try k_fold)))))
    | ((with_reducible show wpAny _ _ (binaryOp .Mult (Value.int _ _) (Value.int _ _)) _ _ _); first | with_reducible (((rename IndentAt _ => pA'); k_dflt (refine' PyProof.Rows.mul_int ?_ ?_; rotate_left; (first | exact PySem.IntMulOk.of_left (PySem.intBits_le_64 (by omega) (by omega)) | exact PySem.IntMulOk.of_left (by decide))))) | (((rename IndentAt _ => pA'); k_dflt (refine' PyProof.Rows.mul_int ?_ ?_; rotate_left; (first | exact PySem.IntMulOk.of_left (PySem.intBits_le_64 (by omega) (by omega)) | exact PySem.IntMulOk.of_left (by decide))))))
    | ((with_reducible show wpAny _ _ (binaryOp .FloorDiv (Value.int _ _) (Value.int _ _)) _ _ _); first | with_reducible (((rename IndentAt _ => pA'); k_dflt (refine' floordiv_int (by decide) ?_); (with_reducible rw [fdiv_two rfl]))) | (((rename IndentAt _ => pA'); k_dflt (refine' floordiv_int (by decide) ?_); (with_reducible rw [fdiv_two rfl]))))
    | ((with_reducible show wpAny _ _ (subscriptTail _ _ (Value.ref _) (Value.int _ _)) _ _ _); first | with_reducible ((k_here; (with_reducible show wpAny _ _ (subscriptTail _ _ (Value.ref _) (Value.int _ _)) _ _ _); (rename IndentAt _ => pA'); k_dflt (refine' item_tupI ?k1 ?k2 ?k3 ?k4 ?k5 ?k6 ?_; (case k1 => k_asm); (case k2 => k_mem); (case k3 => assumption); (case k4 => assumption); (case k5 => omega); (case k6 => omega); k_whole); intro _)) | ((k_here; (with_reducible show wpAny _ _ (subscriptTail _ _ (Value.ref _) (Value.int _ _)) _ _ _); (rename IndentAt _ => pA'); k_dflt (refine' item_tupI ?k1 ?k2 ?k3 ?k4 ?k5 ?k6 ?_; (case k1 => k_asm); (case k2 => k_mem); (case k3 => assumption); (case k4 => assumption); (case k5 => omega); (case k6 => omega); k_whole); intro _)))
    | ((with_reducible show wpAny _ _ (call (Value.builtin "len") [Value.ref _]) _ _ _); first | with_reducible ((k_here; (with_reducible show wpAny _ _ (call (Value.builtin "len") [Value.ref _]) _ _ _); k_dflt (refine' len_tupI ?k1 ?k2 ?k3 ?k4 ?_; (case k1 => k_asm); (case k2 => k_mem); (case k3 => assumption); (case k4 => assumption); k_whole))) | ((k_here; (with_reducible show wpAny _ _ (call (Value.builtin "len") [Value.ref _]) _ _ _); k_dflt (refine' len_tupI ?k1 ?k2 ?k3 ?k4 ?_; (case k1 => k_asm); (case k2 => k_mem); (case k3 => assumption); (case k4 => assumption); k_whole))))
    | ((with_reducible show wpAny _ _ (compareOp .NotIn (Value.str _ _) (Value.ref _)) _ _ _); first | with_reducible ((k_here; k_dflt (refine' topNotIn_K ?F ?X ?l ?k ?e ?o ?_; (case F => k_asm); (case X => k_asm); (case l => k_is); (case k => k_keys); (case e => k_is); (case o => decide)))) | ((k_here; k_dflt (refine' topNotIn_K ?F ?X ?l ?k ?e ?o ?_; (case F => k_asm); (case X => k_asm); (case l => k_is); (case k => k_keys); (case e => k_is); (case o => decide)))))
    | ((with_reducible show wpAny _ _ (compareOp .NotEq (Value.str _ _) (Value.str _ _)) _ _ _); first | with_reducible (k_dflt (first | (refine' ne_b (b := true) ?e ?_; (case e => first | with_reducible assumption | decide +kernel)) | (refine' ne_b (b := false) ?e ?_; (case e => first | with_reducible assumption | decide +kernel)))) | (k_dflt (first | (refine' ne_b (b := true) ?e ?_; (case e => first | with_reducible assumption | decide +kernel)) | (refine' ne_b (b := false) ?e ?_; (case e => first | with_reducible assumption | decide +kernel)))))
    | ((with_reducible show wpAny _ _ (compareOp .Eq (Value.str _ _) (Value.str _ _)) _ _ _); first | with_reducible (k_dflt (first | (refine' eq_b (b := true) ?e ?_; (case e => first | with_reducible assumption | decide +kernel)) | (refine' eq_b (b := false) ?e ?_; (case e => first | with_reducible assumption | decide +kernel)))) | (k_dflt (first | (refine' eq_b (b := true) ?e ?_; (case e => first | with_reducible assumption | decide +kernel)) | (refine' eq_b (b := false) ?e ?_; (case e => first | with_reducible assumption | decide +kernel)))))
    | ((with_reducible show wpAny _ _ (subscriptTail (PySem.Expr.Name _ _) (PySem.Expr.Name _ _) (Value.str _ _) (Value.int _ _)) _ _ _); first | with_reducible (( (with_reducible show wpAny _ _ (subscriptTail _ _ (Value.str _ _) (Value.int _ _)) _ _ _); k_dflt (refine' it_s ?e ?h1 ?h2 ?hsz ?_; (case e => with_reducible assumption); (case h1 => omega); (case h2 => omega); (case hsz => with_reducible assumption)))) | (( (with_reducible show wpAny _ _ (subscriptTail _ _ (Value.str _ _) (Value.int _ _)) _ _ _); k_dflt (refine' it_s ?e ?h1 ?h2 ?hsz ?_; (case e => with_reducible assumption); (case h1 => omega); (case h2 => omega); (case hsz => with_reducible assumption)))))
    | ((with_reducible show wpAny _ _ (subscriptTail (PySem.Expr.Name _ _) (PySem.Expr.Slice _ _ _ _) (Value.str _ _) (Value.ref _)) _ _ _); first | with_reducible (((with_reducible rename Fr _ _ _ _ => F'); (with_reducible rename News _ _ _ _ => N'); first | (refine' sl_ns (s := ⟨_, _, _, _, _⟩) ?e ?hsz F' N' ?_; (case e => with_reducible assumption); (case hsz => with_reducible assumption); intro _ _ _ _ _) | (refine' sl_sn (s := ⟨_, _, _, _, _⟩) ?e ?hsz F' N' ?_; (case e => with_reducible assumption); (case hsz => with_reducible assumption); intro _ _ _ _ _) | (refine' sl_ss (s := ⟨_, _, _, _, _⟩) ?e ?hsz F' N' ?_; (case e => with_reducible assumption); (case hsz => with_reducible assumption); intro _ _ _ _ _))) | (((with_reducible rename Fr _ _ _ _ => F'); (with_reducible rename News _ _ _ _ => N'); first | (refine' sl_ns (s := ⟨_, _, _, _, _⟩) ?e ?hsz F' N' ?_; (case e => with_reducible assumption); (case hsz => with_reducible assumption); intro _ _ _ _ _) | (refine' sl_sn (s := ⟨_, _, _, _, _⟩) ?e ?hsz F' N' ?_; (case e => with_reducible assumption); (case hsz => with_reducible assumption); intro _ _ _ _ _) | (refine' sl_ss (s := ⟨_, _, _, _, _⟩) ?e ?hsz F' N' ?_; (case e => with_reducible assumption); (case hsz => with_reducible assumption); intro _ _ _ _ _))))
    | walk1 | (dsimp only; walk1) | (leave1; walk_say "STEP leave1"; try dsimp only))
  all_goals exact hret _ [] _ _ (by k_asm) (by exact (by k_asm : News h₀ L _ news)) above_nil ⟨_, rfl, rfl⟩
end Mine
namespace Mine
open PySem PySem.W PyProof.Rows
noncomputable def nxt (a b n : Nat) : Nat := if n % 2 = 0 then n / 2 else (a * n + b) / 2
noncomputable def iter (a b : Nat) : Nat → Nat → Nat
  | 0, n => n
  | k + 1, n => nxt a b (iter a b k n)
noncomputable def rowOf (a b : Nat) : Nat → Nat → List Nat
  | 0, _ => []
  | k + 1, n => rowOf a b k n ++ [48 + iter a b k n % 2]
theorem rowOf_len (a b k n : Nat) : (rowOf a b k n).length = k := by
  induction k with
  | zero => rfl
  | succ k ih => rw [rowOf, List.length_append, ih]; rfl
structure WalkAt (st k a b : Nat) : Prop where
  hk : k ≤ 3
  hst : st ≤ 15
  ha : a ≤ 5
  hb : b ≤ 7
  ao : a % 2 = 1
  bo : b % 2 = 1
theorem nxt_le {a b n : Nat} (ha : a ≤ 5) (hb : b ≤ 7) : nxt a b n ≤ 3 * n + 4 := by
  unfold nxt
  split
  · omega
  · have : a * n ≤ 5 * n := Nat.mul_le_mul_right n ha
    omega
theorem iter_le {a b k n : Nat} (ha : a ≤ 5) (hb : b ≤ 7) (hn : n ≤ 15) (hk : k ≤ 3) : iter a b k n ≤ 500 := by
  have h1 : iter a b 1 n ≤ 49 := by
    have := nxt_le (n := iter a b 0 n) ha hb
    have e : iter a b 0 n = n := rfl
    show nxt a b (iter a b 0 n) ≤ 49
    omega
  have h2 : iter a b 2 n ≤ 151 := by
    have := nxt_le (n := iter a b 1 n) ha hb
    show nxt a b (iter a b 1 n) ≤ 151
    omega
  have h3 : iter a b 3 n ≤ 457 := by
    have := nxt_le (n := iter a b 2 n) ha hb
    show nxt a b (iter a b 2 n) ≤ 457
    omega
  have : k = 0 ∨ k = 1 ∨ k = 2 ∨ k = 3 := by omega
  rcases this with rfl | rfl | rfl | rfl
  · show n ≤ 500; omega
  · omega
  · omega
  · omega

noncomputable def leadE (n : Nat) : List Nat := List.replicate n 32 ++ [9]
noncomputable def leadO (n a b : Nat) : List Nat := (List.replicate a (leadE n)).flatten ++ leadE b
theorem leadE_len (n : Nat) : (leadE n).length = n + 1 := by unfold leadE; simp
theorem leadO_len (n a b : Nat) : (leadO n a b).length = a * (n + 1) + (b + 1) := by unfold leadO; simp [leadE_len]
theorem leadE_ok (n : Nat) : ∀ c ∈ leadE n, c = 32 ∨ c = 9 := by
  intro c hc; unfold leadE at hc; simp at hc; omega
theorem leadO_ok (n a b : Nat) : ∀ c ∈ leadO n a b, c = 32 ∨ c = 9 := by
  intro c hc
  unfold leadO at hc
  rcases List.mem_append.mp hc with h | h
  · obtain ⟨l, hl, hc⟩ := List.mem_flatten.mp h
    rw [(List.mem_replicate.mp hl).2] at hc
    exact leadE_ok n c hc
  · exact leadE_ok b c h
theorem white_even {n : Nat} (h : n ≤ 500) : WhiteAt (leadE n) := ⟨leadE_ok n, by rw [leadE_len]; omega⟩
theorem white_odd {n a b : Nat} (h : n ≤ 500) (ha : a ≤ 5) (hb : b ≤ 7) : WhiteAt (leadO n a b) :=
  ⟨leadO_ok n a b, by rw [leadO_len]; have : a * (n + 1) ≤ 5 * (n + 1) := Nat.mul_le_mul_right _ ha; omega⟩

theorem half_congr {xs ys : List Int} (h : ∀ i, xs.getD i 0 = ys.getD i 0) : ∀ k, half xs k = half ys k
  | 0 => rfl
  | k + 1 => by rw [half_succ, half_succ, half_congr h k, h]
theorem half_more (xs : List Int) : ∀ d, half xs (xs.length + d) = half xs xs.length
  | 0 => rfl
  | d + 1 => by
    rw [show xs.length + (d + 1) = (xs.length + d) + 1 from rfl, half_succ, half_more xs d]
    have : xs.getD (xs.length + d) 0 = 0 := by simp [List.getD]
    rw [this, Int.mul_zero, Int.add_zero]
theorem half_big {xs : List Int} {k : Nat} (h : xs.length ≤ k) : half xs k = half xs xs.length := by
  obtain ⟨d, rfl⟩ : ∃ d, k = xs.length + d := ⟨k - xs.length, by omega⟩
  exact half_more xs d
theorem half_set {ys : List Int} {i : Nat} (hi : i < ys.length) : ∀ k, half (ys.set i (ys.getD i 0 + 1)) k = half ys k + if i < k then ((i / 2 : Nat) : Int) else 0
  | 0 => by rw [if_neg (by omega)]; rfl
  | k + 1 => by
    rw [half_succ, half_succ, half_set hi k]
    have e : (ys.set i (ys.getD i 0 + 1)).getD k 0 = ys.getD k 0 + if i = k then 1 else 0 := by
      by_cases h : i = k
      · subst h
        rw [if_pos rfl]
        simp [List.getD, hi]
      · rw [if_neg h, Int.add_zero]
        simp [List.getD, List.getElem?_set, h]
    rw [e]
    by_cases h : i = k
    · subst h
      rw [if_pos rfl, if_neg (by omega), if_pos (by omega), Int.mul_add, Int.mul_one]
      omega
    · rw [if_neg h, Int.add_zero]
      by_cases h2 : i < k
      · rw [if_pos h2, if_pos (by omega)]; omega
      · rw [if_neg h2, if_neg (by omega)]; omega
theorem grown_getD (xs : List Int) (b : Int) (i : Nat) : (grown xs b).getD i 0 = xs.getD i 0 := by
  unfold grown
  split
  · by_cases h : i < xs.length
    · simp [List.getD, List.getElem?_append_left h]
    · have h' : xs.length ≤ i := by omega
      simp only [List.getD, List.getElem?_append_right h']
      have : xs[i]? = none := List.getElem?_eq_none h'
      rw [this]
      simp only [Option.getD_none]
      cases hq : ((List.replicate (b - (xs.length : Int) + 1).toNat [(0 : Int)]).flatten)[i - xs.length]? with
      | none => rfl
      | some v =>
        have hm := List.mem_of_getElem? hq
        simp at hm
        simp [hm.2]
  · rfl
theorem half_bump (xs : List Int) {b : Int} (hb : 0 ≤ b) : half (bump xs b) (bump xs b).length = half xs xs.length + ((b.toNat / 2 : Nat) : Int) := by
  have hg := grown_len (xs := xs) hb
  have hlt : b.toNat < (grown xs b).length := by split at hg <;> omega
  rw [bump_len]
  unfold bump
  rw [half_set hlt, if_pos hlt, half_congr (grown_getD xs b), half_big (by split at hg <;> omega)]
/-- what a fold leaves -/
noncomputable def Left (q : WsSt) (S nt : Int) : Prop := q.2.1 = 0 ∧ q.2.2.2 = nt ∧ half q.1 q.1.length = S
theorem fold_sp (n : Nat) : ∀ (xs : List Int) (b nn nt : Int), (List.replicate n 32).foldl wsStep (xs, b, nn, nt) = (xs, b + (n : Int), nn + (n : Int), nt) := by
  induction n with
  | zero => intro xs b nn nt; simp
  | succ n ih =>
    intro xs b nn nt
    rw [List.replicate_succ, List.foldl_cons]
    show (List.replicate n 32).foldl wsStep (xs, b + 1, nn + 1, nt) = _
    rw [ih]
    congr 1
    congr 1
    · omega
    · congr 1; omega
theorem fold_lead {q : WsSt} {S nt : Int} (n : Nat) (h : Left q S nt) : Left ((leadE n).foldl wsStep q) (S + ((n / 2 : Nat) : Int)) (nt + 1) := by
  obtain ⟨xs, b, nn, nt'⟩ := q
  obtain ⟨h1, h2, h3⟩ := h
  dsimp only at h1 h2 h3
  subst h1; subst h2
  unfold leadE
  rw [List.foldl_append, fold_sp]
  show Left (wsStep (xs, 0 + (n : Int), nn + (n : Int), nt') 9) _ _
  have hn : (0 : Int) + (n : Int) = (n : Int) := by omega
  rw [hn]
  refine ⟨rfl, rfl, ?_⟩
  show half (bump xs (n : Int)) (bump xs (n : Int)).length = _
  rw [half_bump xs (by omega), h3, Int.toNat_natCast]
theorem fold_leads {S nt : Int} (n : Nat) : ∀ (a : Nat) (q : WsSt), Left q S nt → Left (((List.replicate a (leadE n)).flatten).foldl wsStep q) (S + (a : Int) * ((n / 2 : Nat) : Int)) (nt + (a : Int))
  | 0, q, h => by simpa using h
  | a + 1, q, h => by
    rw [List.replicate_succ', List.flatten_append, List.foldl_append]
    have ih := fold_lead n (fold_leads n a q h)
    have e1 : S + (a : Int) * ((n / 2 : Nat) : Int) + ((n / 2 : Nat) : Int) = S + ((a + 1 : Nat) : Int) * ((n / 2 : Nat) : Int) := by
      rw [show ((a + 1 : Nat) : Int) = (a : Int) + 1 by omega, Int.add_mul, Int.one_mul, Int.add_assoc]
    have e2 : nt + (a : Int) + 1 = nt + ((a + 1 : Nat) : Int) := by omega
    rw [e1, e2] at ih
    simpa using ih
theorem left_even (n : Nat) : Left (wsOf (leadE n)) ((n / 2 : Nat) : Int) 1 := by
  have h := fold_lead (q := ([], 0, 0, 0)) (S := 0) (nt := 0) n ⟨rfl, rfl, rfl⟩
  unfold wsOf
  simpa using h
theorem left_odd (n a b : Nat) : Left (wsOf (leadO n a b)) ((a : Int) * ((n / 2 : Nat) : Int) + ((b / 2 : Nat) : Int)) ((a : Int) + 1) := by
  have h := fold_lead b (fold_leads (S := 0) (nt := 0) n a ([], 0, 0, 0) ⟨rfl, rfl, rfl⟩)
  unfold wsOf leadO
  rw [List.foldl_append]
  simpa using h
theorem fdiv2 (x : Int) : Int.fdiv x 2 = x / 2 := Int.fdiv_eq_ediv_of_nonneg x (by decide)
theorem walk_n_even {a b n : Nat} {b' nt' S : Int} (hn : n % 2 = 0) (h0 : b' = 0) (h1 : nt' = 1) (h2 : S = ((n / 2 : Nat) : Int)) : Int.fdiv (b' + 2 * (S + nt')) 2 - Int.fdiv (nt' + 1) 2 = ((nxt a b n : Nat) : Int) := by
  subst h0; subst h1; subst h2
  rw [fdiv2, fdiv2]
  unfold nxt
  rw [if_pos hn]
  omega
theorem walk_n_odd {a b n : Nat} {b' nt' S : Int} (hn : n % 2 = 1) (ha : a % 2 = 1) (hb : b % 2 = 1) (h0 : b' = 0) (h1 : nt' = (a : Int) + 1) (h2 : S = (a : Int) * ((n / 2 : Nat) : Int) + ((b / 2 : Nat) : Int)) :
    Int.fdiv (b' + 2 * (S + nt')) 2 - Int.fdiv (nt' + 1) 2 = ((nxt a b n : Nat) : Int) := by
  subst h0; subst h1; subst h2
  rw [fdiv2, fdiv2]
  unfold nxt
  rw [if_neg (by omega)]
  have e : a * n = 2 * (a * (n / 2)) + a := by
    have : n = 2 * (n / 2) + 1 := by omega
    calc a * n = a * (2 * (n / 2) + 1) := by rw [← this]
      _ = 2 * (a * (n / 2)) + a := by rw [Nat.mul_add, Nat.mul_one, Nat.mul_left_comm]
  rw [e]
  have e2 : (a : Int) * ((n / 2 : Nat) : Int) = ((a * (n / 2) : Nat) : Int) := by rw [Int.natCast_mul]
  rw [e2]
  generalize a * (n / 2) = z
  omega
end Mine
namespace Mine
open PySem PySem.W PyProof.Rows
theorem parse_ctr {w : World} {n : Nat} {t : Tok} (hn : n ≤ 2000) : Ctr w 53 1 [.str (reply n) t] (fun r tl => ∃ t', r = .str (told n) t' ∧ tl = []) := by
  intro loose mean mg mb dp un gd cn cs a ccd cl outer A₀ base h₀ L m news s Q E B F X N T hk hd hu hret
  refine parse_tells n dp un gd cn cs a ccd cl outer A₀ base h₀ L m news s _ Q E B F X N T hk ⟨t, rfl⟩ hn hd hu fun r tl h' tk' F' N' _ ht ho => ?_
  have ht' : tl = [] := ht
  subst ht'
  obtain ⟨t', rfl⟩ := ho
  rw [List.append_nil] at N'
  exact hret _ [] h' tk' F' N' above_nil ⟨t', rfl, rfl⟩
section
variable {w : World} {f : Addr} {sz : Nat} {vs : List Value} {Ret : Value → List (Addr × Obj) → Prop} {Pre : List (Addr × Obj) → Prop} {loose : List Str} {mean : ExcName → Option Value} {mg mb : Str → Option Value} {dp un : Nat} {gd : Option (List Code)} {cn : Str} {cs : Scope} {a : Addr} {ccd : Value} {cl : List (Str × Addr)} {outer : List Env} {A₀ : Around} {base h₀ : Heap} {L : Addr} {m : Str → Option Value} {news : List (Addr × Obj)} {s : Shared}
    {Q E : Value → Shared → Prop}
theorem Ctr.use (C : Ctr w f sz vs Ret) (B : Below A₀ base outer h₀) (F : Fr h₀ L s.heap m) (X : (Mine.hd.heap_39 w.params).In h₀) (N : News h₀ L s.heap news) (T : Top Mine.hd.view_39 loose mean mg mb h₀) (hk : cs.kind = .function) (hd : dp + sz < recursionLimit) (hu : un + 8 * sz < cLine)
    (ret : ∀ r tl h' tk', Fr h₀ L h' m → News h₀ L h' (tl ++ news) → (∀ q ∈ news, ∀ p ∈ tl, q.1 < p.1) → Ret r tl → Q r { s with heap := h', toks := tk' }) :
    wpAny (model PySem.Challenge.rw_tp0045_01.row.prog w) (ktrTop dp un gd cn cs L a ccd cl outer) (call (.ref f) vs) Q E s := C _ _ _ _ _ _ _ _ _ _ _ _ _ _ _ _ _ _ _ _ _ _ B F X N T hk hd hu ret
theorem CtrP.use (C : CtrP w f sz vs Pre Ret) (B : Below A₀ base outer h₀) (F : Fr h₀ L s.heap m) (X : (Mine.hd.heap_39 w.params).In h₀) (N : News h₀ L s.heap news) (T : Top Mine.hd.view_39 loose mean mg mb h₀) (hk : cs.kind = .function) (hd : dp + sz < recursionLimit) (hu : un + 8 * sz < cLine) (hp : Pre news)
    (ret : ∀ r tl h' tk', Fr h₀ L h' m → News h₀ L h' (tl ++ news) → (∀ q ∈ news, ∀ p ∈ tl, q.1 < p.1) → Ret r tl → Q r { s with heap := h', toks := tk' }) :
    wpAny (model PySem.Challenge.rw_tp0045_01.row.prog w) (ktrTop dp un gd cn cs L a ccd cl outer) (call (.ref f) vs) Q E s := C _ _ _ _ _ _ _ _ _ _ _ _ _ _ _ _ _ _ _ _ _ _ B F X N T hk hd hu hp ret
end
section
variable {prog : Program} {w : World} {A : Around} {E : Value → Shared → Prop} {s : Shared} {x y z : Str} {t u : Tok} {i c : Int} {Q : Value → Shared → Prop}
theorem mul_s (e : Txt.mul x i = y) (h1 : x.length ≤ 1000) (h2 : 0 ≤ i) (h3 : i ≤ 1000) (h : ∀ t' k, Q (.str y t') { s with toks := k }) : wpAny (model prog w) A (binaryOp .Mult (.str x t) (.int i u)) Q E s :=
  SB.mul (mulOk_of 1000 1000 h1 (by omega) (by omega) (by decide) (by decide)) (by rw [e]; exact h)
theorem add_s (e : x ++ y = z) (hz : z.length ≤ 100000) (h : ∀ t' k, Q (.str z t') { s with toks := k }) : wpAny (model prog w) A (binaryOp .Add (.str x t) (.str y u)) Q E s := by
  refine PyProof.Rows.add_str (by rw [e]; exact h) ?_
  have : (x ++ y).length = x.length + y.length := by rw [Str.length_append]
  rw [← this, e, sizeLine_eq]; omega
theorem cnt_s (e : Txt.count x y = c) (h : Q (.int c s.toks) { s with toks := s.toks + 1 }) : wpAny (model prog w) A (call (.builtin "str.count") [.str x t, .str y u]) Q E s :=
  SC.count (by rw [e]; exact h)
theorem str_s (e : Str.ofString (toString i) = y) (ha : i.natAbs.log2 < 1920) (h : Q (.str y s.toks) { s with toks := s.toks + 1 }) : wpAny (model prog w) A (call (.type "str") [.int i t]) Q E s :=
  P.str_of_int ha (by rw [show ((toString i : String) : Str) = y from e]; exact h)
theorem ne_same {a b : Addr} {vs us : List Value} {ns ms : List Int} (hl : s.heap.IsList a vs.toArray) (hi : IntsAre vs ns) (hl' : s.heap.IsList b us.toArray) (hi' : IntsAre us ms) (hu : A.units + 64 < cLine) (e : ns = ms)
    (h : Q (.bool false) s) : wpAny (model prog w) A (compareOp .NotEq (.ref a) (.ref b)) Q E s :=
  ne_intsK hl hi hl' hi' hu (by rw [decide_eq_true e]; exact h)
end
noncomputable def wStored : List Str := [Str.ofString "told", Str.ofString "odd", Str.ofString "lead", Str.ofString "white"]
noncomputable def WEnd (news : List (Addr × Obj)) (m₀ : Str → Option Value) (rw : List Nat) (N a b : Nat) (m : Str → Option Value) (nx : List (Addr × Obj)) : Prop :=
  nx = news ∧ ∃ (tr tn : Tok) (x : Str) (y : Int), m (Str.ofString "row") = some (.str x tr) ∧ m (Str.ofString "n") = some (.int y tn) ∧ x = tx (rw ++ [48 + N % 2]) ∧ y = ((nxt a b N : Nat) : Int) ∧
    ∀ z, z ≠ Str.ofString "turn" → z ≠ Str.ofString "row" → z ≠ Str.ofString "n" → z ≠ Str.ofString "told" → z ≠ Str.ofString "odd" → z ≠ Str.ofString "lead" → z ≠ Str.ofString "white" → m z = m₀ z
section
variable {prog : Program} {w : World} {A : Around} {E : Value → Shared → Prop} {s : Shared} {env : Env} {h₀ : Heap} {body : List Stmt} {Q : Flow → Shared → Prop}
theorem walk_loop {st k a b : Nat} {r : Addr} {t₀ u₀ v₀ tr₀ tn₀ : Tok} {m₀ : Str → Option Value} {news : List (Addr × Obj)} (pA : WalkAt st k a b) (hh : A.handled = none) (hr : IsRange s.heap r 0 (k : Int) 1 t₀ u₀ v₀)
    (F : Fr h₀ env.locals s.heap m₀) (N : News h₀ env.locals s.heap news) (hk1 : m₀ (Str.ofString "row") = some (.str (Str.ofString "") tr₀)) (hk2 : m₀ (Str.ofString "n") = some (.int (st : Int) tn₀))
    (turn : ∀ (j N : Nat) (rw : List Nat) (t tr tn : Tok) (u : Str → Option Value) h tk own, N ≤ 500 → rw.length ≤ 3 → OwnOff own (news.map (·.1)) →
      Fr h₀ env.locals h (fun z => if z = Str.ofString "turn" then some (.int (j : Int) t) else kstB (fun z => if wStored.contains z then u z else m₀ z) [(Str.ofString "row", .str (tx rw) tr), (Str.ofString "n", .int (N : Int) tn)] z) → News h₀ env.locals h (news ++ own) →
      wpAny (model prog w) A (execs body env) (InvPostN h₀ env.locals (WEnd news m₀ rw N a b) own (news.map (·.1)) { s with heap := h, toks := tk } Q) E { s with heap := h, toks := tk })
    (done : ∀ (tr tn : Tok) (u : Str → Option Value) h tk,
      Fr h₀ env.locals h (fun z => if z = Str.ofString "turn" then u z else kstB (fun z => if wStored.contains z then u z else m₀ z) [(Str.ofString "row", .str (tx (rowOf a b k st)) tr), (Str.ofString "n", .int ((iter a b k st : Nat) : Int) tn)] z) → News h₀ env.locals h news → Q .next { s with heap := h, toks := tk }) :
    wpAny (model prog w) A (pyIter (.ref r)) (fun it s₂ => LoopAtV prog w A h₀ env (Str.ofString "turn") body Q E it s₂) E s := by
  have hkk := pA.hk
  have hn : Builtin.Range.rangeSize 0 (k : Int) 1 = (k : Int) := (rangeSize_nat _ _).trans (by simp)
  refine kst_range (σ := Str × Tok × Int × Tok) (n := k) (fun _ => news) (fun c => [(Str.ofString "row", .str c.1 c.2.1), (Str.ofString "n", .int c.2.2.1 c.2.2.2)]) (fun _ => True) wStored (fun pre c => c.1 = tx (rowOf a b pre.length st) ∧ c.2.2.1 = ((iter a b pre.length st : Nat) : Int)) (Str.ofString "", tr₀, (st : Int), tn₀) hh hr
    (small_one (by omega) (by omega) (by omega) (by omega)) hn F N True.intro (List.forall_mem_cons.mpr ⟨hk1, List.forall_mem_cons.mpr ⟨hk2, List.forall_mem_nil _⟩⟩) ⟨lit_e, rfl⟩ ?_ ?_
  · rintro ⟨rs, tr, nn, tn⟩ pre k' t u h tk own hk' hlt hoff - ⟨hP1, hP2⟩ F₁ N₁
    dsimp only at hP1 hP2 F₁ N₁ hoff ⊢
    have hj : k' = (pre.length : Int) := by omega
    subst hj
    subst hP1
    subst hP2
    have hN : iter a b pre.length st ≤ 500 := iter_le pA.ha pA.hb pA.hst (by omega)
    refine wpAny_mono (turn pre.length (iter a b pre.length st) (rowOf a b pre.length st) t tr tn u h tk own hN (by rw [rowOf_len]; omega) hoff F₁ N₁) (fun fl s₂ p => ?_) fun _ _ x => x
    have up : InvEndN h₀ env.locals (WEnd news m₀ (rowOf a b pre.length st) (iter a b pre.length st) a b) own (news.map (·.1)) { s with heap := h, toks := tk } s₂ →
        InvEndN h₀ env.locals (KstS (fun _ => news) (fun c : Str × Tok × Int × Tok => [(Str.ofString "row", .str c.1 c.2.1), (Str.ofString "n", .int c.2.2.1 c.2.2.2)]) (fun _ => True) (Str.ofString "turn") wStored m₀ (fun pre c => c.1 = tx (rowOf a b pre.length st) ∧ c.2.2.1 = ((iter a b pre.length st : Nat) : Int)) (pre ++ [(pre.length : Int)])) own (news.map (·.1)) { s with heap := h, toks := tk } s₂ := by
      rintro ⟨h', tk', m', news', nx, e, F', N', hn', ho', ha, hnx, tr', tn', x, y, h1, h2, h3, h4, h5⟩
      refine ⟨h', tk', m', news', nx, e, F', N', hn', ho', ha, (x, tr', y, tn'), hnx, True.intro, List.forall_mem_cons.mpr ⟨h1, List.forall_mem_cons.mpr ⟨h2, List.forall_mem_nil _⟩⟩, fun z hz hz2 hz3 => ?_, ?_⟩
      · simp only [wStored, List.contains_cons, List.contains_nil, Bool.or_false, Bool.or_eq_false_iff, beq_eq_false_iff_ne, ne_eq] at hz3
        exact h5 z hz (hz2 _ (.head _)) (hz2 _ (.tail _ (.head _))) hz3.1 hz3.2.1 hz3.2.2.1 hz3.2.2.2
      · show x = tx (rowOf a b (pre ++ [(pre.length : Int)]).length st) ∧ y = ((iter a b (pre ++ [(pre.length : Int)]).length st : Nat) : Int)
        rw [List.length_append, List.length_singleton]
        exact ⟨h3, h4⟩
    cases fl with
    | ret v => exact p
    | brk => exact p
    | next => exact up p
    | cont => exact up p
  · rintro ⟨rs, tr, nn, tn⟩ u h tk - ⟨hP1, hP2⟩ F₁ N₁
    dsimp only at hP1 hP2 F₁ N₁
    rw [rangeKs_length] at hP1 hP2
    subst hP1
    subst hP2
    exact done tr tn u h tk F₁ N₁
end
theorem lit_257q : Str.ofString "257 \"" = tx [50, 53, 55, 32, 34] := by decide +kernel
theorem lit_xq : Str.ofString "x\"" = tx [120, 34] := by decide +kernel
theorem lit_sp : Str.ofString " " = tx [32] := by decide +kernel
theorem lit_tab : Str.ofString "\t" = tx [9] := by decide +kernel
theorem lit_one : Str.ofString "1" = tx [49] := by decide +kernel
theorem lit_0 : Str.ofString "0" = tx [48] := by decide +kernel
theorem flat_one (n c : Nat) : (List.replicate n [c]).flatten = List.replicate n c := by
  induction n with
  | zero => rfl
  | succ n ih => rw [List.replicate_succ, List.flatten_cons, ih]; rfl
/-- in a turn of _law_walk -/
structure StepAt (N a b : Nat) : Prop where
  n : N ≤ 500
  ha : a ≤ 5
  hb : b ≤ 7
  ao : a % 2 = 1
  bo : b % 2 = 1
theorem step_texts {N : Nat} (h : N ≤ 500) :
    Txt.mul (Str.ofString "\"") (N : Int) = tx (List.replicate N 34) ∧ Str.ofString "257 \"" ++ tx (List.replicate N 34) = tx ([50, 53, 55, 32, 34] ++ List.replicate N 34) ∧ (tx ([50, 53, 55, 32, 34] ++ List.replicate N 34)).length ≤ 100000 ∧
    tx ([50, 53, 55, 32, 34] ++ List.replicate N 34) ++ Str.ofString "x\"" = reply N ∧ (reply N).length ≤ 100000 ∧
    Txt.mul (Str.ofString "*") (N : Int) = tx (List.replicate N 42) ∧ tx (List.replicate N 42) ++ Str.ofString "," = stars N ∧ (stars N).length ≤ 100000 ∧
    Txt.mul (Str.ofString " ") (N : Int) = tx (List.replicate N 32) ∧ tx (List.replicate N 32) ++ Str.ofString "\t" = tx (leadE N) ∧ (tx (leadE N)).length ≤ 100000 ∧ (tx (leadE N)).length ≤ 1000 := by
  refine ⟨?_, ?_, ?_, ?_, ?_, ?_, ?_, ?_, ?_, ?_, ?_, ?_⟩
  · rw [lit_q, tx_mul _ rfl, flat_one]
  · rw [lit_257q, tx_append]
  · rw [tx_length]; simp; omega
  · rw [lit_xq, tx_append]; rfl
  · rw [reply_len]; omega
  · rw [lit_s1, tx_mul _ rfl, flat_one]
  · rw [lit_c, tx_append]; rfl
  · rw [stars_len]; omega
  · rw [lit_sp, tx_mul _ rfl, flat_one]
  · rw [lit_tab, tx_append]; rfl
  · rw [tx_length, leadE_len]; omega
  · rw [tx_length, leadE_len]; omega
theorem told_q (N : Nat) : Txt.count (told N) (Str.ofString "\"") = ((N / 2 : Nat) : Int) := by
  rw [lit_q]; unfold told; rw [tx_count, List.count_append, List.count_replicate_self]
  split <;> simp
theorem told_xe {N : Nat} (h : N % 2 = 0) : Txt.count (told N) (Str.ofString "x") = 1 := by
  rw [lit_x]; unfold told; rw [tx_count, List.count_append, if_pos h]
  simp [List.count_replicate]
theorem told_xo {N : Nat} (h : N % 2 = 1) : Txt.count (told N) (Str.ofString "x") = 0 := by
  rw [lit_x]; unfold told; rw [tx_count, List.count_append, if_neg (by omega)]
  simp [List.count_replicate]
theorem step_odd {N a b : Nat} (h : N ≤ 500) (ha : a ≤ 5) (hb : b ≤ 7) :
    Txt.mul (tx (leadE N)) (a : Int) = tx (List.replicate a (leadE N)).flatten ∧ Txt.mul (Str.ofString " ") (b : Int) = tx (List.replicate b 32) ∧
    tx (List.replicate a (leadE N)).flatten ++ tx (List.replicate b 32) = tx ((List.replicate a (leadE N)).flatten ++ List.replicate b 32) ∧ (tx ((List.replicate a (leadE N)).flatten ++ List.replicate b 32)).length ≤ 100000 ∧
    tx ((List.replicate a (leadE N)).flatten ++ List.replicate b 32) ++ Str.ofString "\t" = tx (leadO N a b) ∧ (tx (leadO N a b)).length ≤ 100000 := by
  have hm : a * (N + 1) ≤ 5 * (N + 1) := Nat.mul_le_mul_right _ ha
  refine ⟨?_, ?_, ?_, ?_, ?_, ?_⟩
  · rw [tx_mul _ rfl]
  · rw [lit_sp, tx_mul _ rfl, flat_one]
  · rw [tx_append]
  · rw [tx_length, List.length_append, List.length_flatten]; simp [leadE_len]; omega
  · rw [lit_tab, tx_append]; unfold leadO; rw [List.append_assoc]; rfl
  · rw [tx_length, leadO_len]; omega
theorem row_e {rw : List Nat} {N : Nat} (hl : rw.length ≤ 3) (h : N % 2 = 0) : tx rw ++ Str.ofString "0" = tx (rw ++ [48 + N % 2]) ∧ (tx (rw ++ [48 + N % 2])).length ≤ 100000 := by
  rw [lit_0, tx_append, h]; exact ⟨rfl, by rw [tx_length]; simp; omega⟩
theorem row_o {rw : List Nat} {N : Nat} (hl : rw.length ≤ 3) (h : N % 2 = 1) : tx rw ++ Str.ofString "1" = tx (rw ++ [48 + N % 2]) ∧ (tx (rw ++ [48 + N % 2])).length ≤ 100000 := by
  rw [lit_one, tx_append, h]; exact ⟨rfl, by rw [tx_length]; simp; omega⟩
theorem flat_oneI (n : Nat) (c : Int) : (List.replicate n [c]).flatten = List.replicate n c := by
  induction n with
  | zero => rfl
  | succ n ih => rw [List.replicate_succ, List.flatten_cons, ih]; rfl
theorem pcs_formE {N : Nat} (h : N % 2 = 0) {o : Int} (ho : o = 0) : pcs N = (List.replicate ((N / 2 : Nat) : Int).toNat [(35 : Int)]).flatten ++ (List.replicate o.toNat [(16 : Int)]).flatten ++ [12] := by
  subst ho; unfold pcs; rw [if_neg (by omega), flat_oneI, Int.toNat_natCast]; rfl
theorem pcs_formO {N : Nat} (h : N % 2 = 1) {o : Int} (ho : o = 1) : pcs N = (List.replicate ((N / 2 : Nat) : Int).toNat [(35 : Int)]).flatten ++ (List.replicate o.toNat [(16 : Int)]).flatten ++ [12] := by
  subst ho; unfold pcs; rw [if_pos h, flat_oneI, Int.toNat_natCast]; rfl
theorem white_facts {l : List Nat} {xs : List Int} {b nn nt S nt0 : Int} (hW : WhiteAt l) (hq : (xs, b, nn, nt) = wsOf l) (hL : Left (wsOf l) S nt0) : b = 0 ∧ nt = nt0 ∧ half xs xs.length = S ∧ xs.length ≤ 20000 := by
  have hi := wsInv_of l
  rw [← hq] at hL hi
  exact ⟨hL.1, hL.2.1, hL.2.2, Nat.le_trans hi.1 hW.fit⟩
theorem left_oddW {st k a b : Nat} (_p : WalkAt st k a b) (n : Nat) : Left (wsOf (leadO n a b)) ((a : Int) * ((n / 2 : Nat) : Int) + ((b / 2 : Nat) : Int)) ((a : Int) + 1) := left_odd n a b
theorem whiteIn_mk {w : World} {l : List Nat} {t : Tok} {x dx T C : Addr} {vs : List Value} {b nn nt : Int} {tb tn tt k1 k2 k3 k4 k5 : Tok} {sb : Bool} {news : List (Addr × Obj)}
    (h3 : (x, instObj 115 dx) ∈ news) (h4 : (dx, whiteDict w l t T nn nt tn tt k1 k2 k3 k4 k5 sb) ∈ news) (h1 : (T, ({ cls := .type "tuple", data := .seq #[.ref C, .int b tb] } : Obj)) ∈ news) (h2 : (C, ({ cls := .type "tuple", data := .seq vs.toArray } : Obj)) ∈ news) :
    WhiteIn w l t x dx T C vs b nn nt tb tn tt k1 k2 k3 k4 k5 sb news := ⟨h1, h2, h3, h4⟩
theorem two_ways (N : Nat) : N % 2 = 0 ∨ N % 2 = 1 := by omega
theorem wend_intro {news own news' : List (Addr × Obj)} {adr : List Addr} {m₀ m' : Str → Option Value} {rw : List Nat} {N a b : Nat} {s₁ : Shared} {h₀ h' : Heap} {L : Addr} {tk : Nat} {tr tn : Tok} {x : Str} {y : Int}
    (F : Fr h₀ L h' m') (h1 : m' (Str.ofString "row") = some (.str x tr)) (h2 : m' (Str.ofString "n") = some (.int y tn)) (N' : News h₀ L h' news') (hin : ∀ p ∈ news ++ own, p ∈ news') (ha : news.map (·.1) = adr) (hx : x = tx (rw ++ [48 + N % 2])) (hy : y = ((nxt a b N : Nat) : Int))
    (h3 : ∀ z, z ≠ Str.ofString "turn" → z ≠ Str.ofString "row" → z ≠ Str.ofString "n" → z ≠ Str.ofString "told" → z ≠ Str.ofString "odd" → z ≠ Str.ofString "lead" → z ≠ Str.ofString "white" → m' z = m₀ z) :
    InvEndN h₀ L (WEnd news m₀ rw N a b) own adr s₁ { s₁ with heap := h', toks := tk } :=
  InvEndN.intro F N' ⟨rfl, tr, tn, x, y, h1, h2, hx, hy, h3⟩ ha (fun p hp => hin p (List.mem_append.mpr (.inl hp))) (fun p hp => hin p (List.mem_append.mpr (.inr hp)))

theorem walk_not {z : Str} (h4 : z ≠ Str.ofString "told") (h5 : z ≠ Str.ofString "odd") (h6 : z ≠ Str.ofString "lead") (h7 : z ≠ Str.ofString "white") : ¬ (wStored.contains z = true) := by
  simp [wStored, h4, h5, h6, h7]
theorem walk_ctr {w : World} {st k a b : Nat} {t1 t2 t3 t4 : Tok} (hp : WalkAt st k a b) :
    Ctr w 136 12 [.int (st : Int) t1, .int (k : Int) t2, .int (a : Int) t3, .int (b : Int) t4]
      (fun r tl => ∃ D c t5 t6, r = .ref D ∧ tl = [(D, ({ cls := .type "tuple", data := .seq #[.str (tx (rowOf a b k st)) t5, .int ((iter a b k st : Nat) : Int) t6] c } : Obj))]) := by
  unfold Ctr
  w_top off
  k_fill
  intro loose mean mg mb dp un gd cn cs ad ccd cl outer A₀ base h₀ L m news s Q E B F X N T hk hd hu hret
  have pW := hp
  refine wpAny_call ?_
  k_dflt ktr_enter
  (rename Fr _ _ _ (fun y => List.lookup y _) => fB9)
  have fC9 := fr_plain [(Str.ofString "b", .int (b : Int) t4), (Str.ofString "a", .int (a : Int) t3), (Str.ofString "k", .int (k : Int) t2), (Str.ofString "start", .int (st : Int) t1)] fB9 (by rfl)
  clear fB9
  dsimp only [frOf] at fC9
  refine let_around ?_; intro A9
  refine let_env ?_; intro e9
  repeat' (first
    | ((with_reducible show wpAny _ _ (storeName _ _ (Value.int _ (@HAdd.hAdd _ _ _ _ _ _))) _ _ _); (refine gen_int ?_); (intro t9))
    | ((with_reducible show wpAny _ _ (storeName _ _ (Value.int _ (Shared.toks _))) _ _ _); (refine gen_int ?_); (intro t9))
    | ((with_reducible show wpAny _ _ (storeName _ _ (Value.str _ (@HAdd.hAdd _ _ _ _ _ _))) _ _ _); (refine gen_str ?_); (intro t9))
    | ((with_reducible show wpAny _ _ (storeName _ _ (Value.str _ (Shared.toks _))) _ _ _); (refine gen_str ?_); (intro t9))
    | ((with_reducible show wpAny _ _ (exec _ _) _ _ _); k_fold; (refine let_state ?_); (intro s8))
    | ((with_reducible show wpAny _ _ (execs (_ :: _) _) _ _ _); k_fold)
    | ((with_reducible show wpAny _ _ (isTrue _ _ _) _ _ _); k_fold)
    | ((with_reducible show wpAny _ _ (storeName _ (Str.ofString "lead") _) _ _ _); (rename News _ _ _ _ => nO7); (have nN7 := news_drop (news_drop (news_drop (news_drop (news_drop (news_drop (news_drop (news_drop nO7)))))))); (clear nO7); walk1; (rename Fr _ _ _ _ => lF8); (refine let_fr lF8 ?_); (intro m8 lG8); (clear lF8))
    | ((with_reducible show wpAny _ _ (storeName _ _ _) _ _ _); walk1; (rename Fr _ _ _ _ => lF8); (refine let_fr lF8 ?_); (intro m8 lG8); (clear lF8))
    | (k_unfold; (try dsimp only))
    | (k_end; wrow_close)
    | ((with_reducible show wpAny _ _ (pyIter (Value.ref _)) _ _ _); first | with_reducible (( k_here; (rename WalkAt _ _ _ _ => pA'); (rename Fr _ _ _ _ => lF'); (rename News _ _ _ _ => lN'); (rename IsRange _ _ _ _ _ _ _ _ => rgX); (with_unfolding_all refine' walk_loop pA' ?hh rgX lF' lN' ?k1 ?k2 ?kturn ?kdone); (case hh => with_unfolding_all rfl); (case k1 => with_unfolding_all rfl); (case k2 => with_unfolding_all rfl); (all_goals (clear lF' lN')); (case' kturn => ( (intro j9 n9 rw9 t9 tr9 tn9 u9 h9 tk9 own9 hn9 hl9 ho9 F9 N9); (have kMk9 : KstMark := kstMark); (dsimp only [kstB] at F9); (have pS9 : StepAt n9 _ _ := ⟨hn9, pA'.ha, pA'.hb, pA'.ao, pA'.bo⟩); (obtain ⟨f1, f2, f3, f4, f5, f6, f7, f8, f9, f10, f11, f12⟩ := step_texts hn9); (have f13 := told_q n9); (rcases two_ways n9 with w9 | w9); (case' inl => ((have f14 := told_xe w9); (have f15 := white_even hn9); (have f16 := left_even n9); (obtain ⟨f17, f18⟩ := row_e hl9 w9))); (case' inr => ((have f14 := told_xo w9); (have f15 := white_odd hn9 pA'.ha pA'.hb); (have f16 := left_oddW pA' n9); (obtain ⟨f17, f18⟩ := row_o hl9 w9); (obtain ⟨f19, f20, f21, f22, f23, f24⟩ := step_odd hn9 pA'.ha pA'.hb))))); (case' kdone => ( (intro tr9 tn9 u9 h9 tk9 F9 N9); (dsimp only [kstB] at F9); (try dsimp only))); (all_goals (try k_fold)))) | (( k_here; (rename WalkAt _ _ _ _ => pA'); (rename Fr _ _ _ _ => lF'); (rename News _ _ _ _ => lN'); (rename IsRange _ _ _ _ _ _ _ _ => rgX); (with_unfolding_all refine' walk_loop pA' ?hh rgX lF' lN' ?k1 ?k2 ?kturn ?kdone); (case hh => with_unfolding_all rfl); (case k1 => with_unfolding_all rfl); (case k2 => with_unfolding_all rfl); (all_goals (clear lF' lN')); (case' kturn => ( (intro j9 n9 rw9 t9 tr9 tn9 u9 h9 tk9 own9 hn9 hl9 ho9 F9 N9); (have kMk9 : KstMark := kstMark); (dsimp only [kstB] at F9); (have pS9 : StepAt n9 _ _ := ⟨hn9, pA'.ha, pA'.hb, pA'.ao, pA'.bo⟩); (obtain ⟨f1, f2, f3, f4, f5, f6, f7, f8, f9, f10, f11, f12⟩ := step_texts hn9); (have f13 := told_q n9); (rcases two_ways n9 with w9 | w9); (case' inl => ((have f14 := told_xe w9); (have f15 := white_even hn9); (have f16 := left_even n9); (obtain ⟨f17, f18⟩ := row_e hl9 w9))); (case' inr => ((have f14 := told_xo w9); (have f15 := white_odd hn9 pA'.ha pA'.hb); (have f16 := left_oddW pA' n9); (obtain ⟨f17, f18⟩ := row_o hl9 w9); (obtain ⟨f19, f20, f21, f22, f23, f24⟩ := step_odd hn9 pA'.ha pA'.hb))))); (case' kdone => ( (intro tr9 tn9 u9 h9 tk9 F9 N9); (dsimp only [kstB] at F9); (try dsimp only))); (all_goals (try k_fold)))))
    | ((with_reducible show wpAny _ (Around.deeper _ _) (call (Value.ref _) _) _ _ _); first | with_reducible (( k_here; (rename StepAt _ _ _ => pS'); (k_dflt (refine' CtrP.use (indent_ctr ?hI ?hn) ?k1 ?k2 ?k3 ?k4 ?k5 ?kK ?kd ?ku ?hp ?_; (case k1 => k_asm); (case k2 => k_asm); (case k3 => k_asm); (case k4 => k_asm); (case k5 => k_asm); (case kK => exact rfl); (case kd => ktr_room); (case ku => ktr_units); (case hp => exact whiteIn_mk (by k_mem) (by k_mem) (by k_mem) (by k_mem)); (case hI => assumption); (case hn => assumption))); (intro r9 tl9 h9 tk9 F9 N9 l9 hR9); (obtain ⟨t9, e9, e9'⟩ := hR9); (subst e9); (subst e9'); (simp only [List.nil_append] at N9); (clear l9); (try dsimp only); (try k_sweep); (try k_fold))) | (( k_here; (rename StepAt _ _ _ => pS'); (k_dflt (refine' CtrP.use (indent_ctr ?hI ?hn) ?k1 ?k2 ?k3 ?k4 ?k5 ?kK ?kd ?ku ?hp ?_; (case k1 => k_asm); (case k2 => k_asm); (case k3 => k_asm); (case k4 => k_asm); (case k5 => k_asm); (case kK => exact rfl); (case kd => ktr_room); (case ku => ktr_units); (case hp => exact whiteIn_mk (by k_mem) (by k_mem) (by k_mem) (by k_mem)); (case hI => assumption); (case hn => assumption))); (intro r9 tl9 h9 tk9 F9 N9 l9 hR9); (obtain ⟨t9, e9, e9'⟩ := hR9); (subst e9); (subst e9'); (simp only [List.nil_append] at N9); (clear l9); (try dsimp only); (try k_sweep); (try k_fold))))
    | ((with_reducible show wpAny _ (Around.deeper _ _) (call (Value.ref _) _) _ _ _); first | with_reducible (( k_here; (rename StepAt _ _ _ => pS'); (k_dflt (refine' Ctr.use (white_ctr ?hn) ?k1 ?k2 ?k3 ?k4 ?k5 ?kK ?kd ?ku ?_; (case hn => assumption); (case k1 => k_asm); (case k2 => k_asm); (case k3 => k_asm); (case k4 => k_asm); (case k5 => k_asm); (case kK => exact rfl); (case kd => ktr_room); (case ku => ktr_units))); (intro r9 tl9 h9 tk9 F9 N9 l9 hR9); (obtain ⟨x9, dx9, T9, C9, vs9, xs9, b9, nn9, nt9, tb9, tn9, tt9, k19, k29, k39, k49, k59, sb9, e9, e9', hI9, hq9⟩ := hR9); (subst e9); (subst e9'); (simp only [List.cons_append, List.nil_append] at N9); (clear l9); (obtain ⟨z1, z2, z3, z4⟩ := white_facts (by assumption) hq9 (by assumption)); (unfold whiteDict at N9); (try dsimp only); (try k_sweep); (try k_fold))) | (( k_here; (rename StepAt _ _ _ => pS'); (k_dflt (refine' Ctr.use (white_ctr ?hn) ?k1 ?k2 ?k3 ?k4 ?k5 ?kK ?kd ?ku ?_; (case hn => assumption); (case k1 => k_asm); (case k2 => k_asm); (case k3 => k_asm); (case k4 => k_asm); (case k5 => k_asm); (case kK => exact rfl); (case kd => ktr_room); (case ku => ktr_units))); (intro r9 tl9 h9 tk9 F9 N9 l9 hR9); (obtain ⟨x9, dx9, T9, C9, vs9, xs9, b9, nn9, nt9, tb9, tn9, tt9, k19, k29, k39, k49, k59, sb9, e9, e9', hI9, hq9⟩ := hR9); (subst e9); (subst e9'); (simp only [List.cons_append, List.nil_append] at N9); (clear l9); (obtain ⟨z1, z2, z3, z4⟩ := white_facts (by assumption) hq9 (by assumption)); (unfold whiteDict at N9); (try dsimp only); (try k_sweep); (try k_fold))))
    | ((with_reducible show wpAny _ (Around.deeper _ _) (call (Value.ref _) _) _ _ _); first | with_reducible (( k_here; (rename StepAt _ _ _ => pS'); (k_dflt (refine' Ctr.use (pieces_ctr ?hn) ?k1 ?k2 ?k3 ?k4 ?k5 ?kK ?kd ?ku ?_; (case hn => exact Nat.le_trans pS'.n (by decide)); (case k1 => k_asm); (case k2 => k_asm); (case k3 => k_asm); (case k4 => k_asm); (case k5 => k_asm); (case kK => exact rfl); (case kd => ktr_room); (case ku => ktr_units))); (intro r9 tl9 h9 tk9 F9 N9 l9 hR9); (obtain ⟨p9, vs9, c9, e9, e9', hI9⟩ := hR9); (subst e9); (subst e9'); (simp only [List.cons_append, List.nil_append] at N9); (clear l9); (try dsimp only); (try k_sweep); (try k_fold))) | (( k_here; (rename StepAt _ _ _ => pS'); (k_dflt (refine' Ctr.use (pieces_ctr ?hn) ?k1 ?k2 ?k3 ?k4 ?k5 ?kK ?kd ?ku ?_; (case hn => exact Nat.le_trans pS'.n (by decide)); (case k1 => k_asm); (case k2 => k_asm); (case k3 => k_asm); (case k4 => k_asm); (case k5 => k_asm); (case kK => exact rfl); (case kd => ktr_room); (case ku => ktr_units))); (intro r9 tl9 h9 tk9 F9 N9 l9 hR9); (obtain ⟨p9, vs9, c9, e9, e9', hI9⟩ := hR9); (subst e9); (subst e9'); (simp only [List.cons_append, List.nil_append] at N9); (clear l9); (try dsimp only); (try k_sweep); (try k_fold))))
    | ((with_reducible show wpAny _ (Around.deeper _ _) (call (Value.ref _) _) _ _ _); first | with_reducible (( k_here; (rename StepAt _ _ _ => pS'); (k_dflt (refine' Ctr.use (parse_ctr ?hn) ?k1 ?k2 ?k3 ?k4 ?k5 ?kK ?kd ?ku ?_; (case hn => exact Nat.le_trans pS'.n (by decide)); (case k1 => k_asm); (case k2 => k_asm); (case k3 => k_asm); (case k4 => k_asm); (case k5 => k_asm); (case kK => exact rfl); (case kd => ktr_room); (case ku => ktr_units))); (intro r9 tl9 h9 tk9 F9 N9 l9 hR9); (obtain ⟨t9, e9, e9'⟩ := hR9); (subst e9); (subst e9'); (simp only [List.nil_append] at N9); (clear l9); (try dsimp only); (try k_sweep); (try k_fold))) | (( k_here; (rename StepAt _ _ _ => pS'); (k_dflt (refine' Ctr.use (parse_ctr ?hn) ?k1 ?k2 ?k3 ?k4 ?k5 ?kK ?kd ?ku ?_; (case hn => exact Nat.le_trans pS'.n (by decide)); (case k1 => k_asm); (case k2 => k_asm); (case k3 => k_asm); (case k4 => k_asm); (case k5 => k_asm); (case kK => exact rfl); (case kd => ktr_room); (case ku => ktr_units))); (intro r9 tl9 h9 tk9 F9 N9 l9 hR9); (obtain ⟨t9, e9, e9'⟩ := hR9); (subst e9); (subst e9'); (simp only [List.nil_append] at N9); (clear l9); (try dsimp only); (try k_sweep); (try k_fold))))
    | ((with_reducible show wpAny _ (Around.deeper _ _) (compareOp .NotEq (Value.ref _) (Value.ref _)) _ _ _); first | with_reducible ((k_here; (rename StepAt _ _ _ => pS'); k_dflt (refine' ne_same ?k1 ?k2 ?k3 ?k4 ?k5 ?k6 ?_; (case k1 => is_list); (case k2 => l_intsC); (case k3 => is_list); (case k4 => l_intsC); (case k5 => ktr_units); (case k6 => first | exact pcs_formE (by assumption) (by decide) | exact pcs_formO (by assumption) (by decide))))) | ((k_here; (rename StepAt _ _ _ => pS'); k_dflt (refine' ne_same ?k1 ?k2 ?k3 ?k4 ?k5 ?k6 ?_; (case k1 => is_list); (case k2 => l_intsC); (case k3 => is_list); (case k4 => l_intsC); (case k5 => ktr_units); (case k6 => first | exact pcs_formE (by assumption) (by decide) | exact pcs_formO (by assumption) (by decide))))))
    | ((with_reducible show wpAny _ _ (call (Value.type "str") [Value.int _ _]) _ _ _); first | with_reducible (k_dflt (first | (refine' str_s (y := Str.ofString "0") ?e ?h ?_; (case e => decide +kernel); (case h => decide +kernel)) | (refine' str_s (y := Str.ofString "1") ?e ?h ?_; (case e => decide +kernel); (case h => decide +kernel)))) | (k_dflt (first | (refine' str_s (y := Str.ofString "0") ?e ?h ?_; (case e => decide +kernel); (case h => decide +kernel)) | (refine' str_s (y := Str.ofString "1") ?e ?h ?_; (case e => decide +kernel); (case h => decide +kernel)))))
    | ((with_reducible show wpAny _ _ (call (Value.builtin "str.count") _) _ _ _); first | with_reducible (((rename StepAt _ _ _ => pS'); k_dflt (refine' cnt_s ?e ?_; (case e => with_reducible assumption)))) | (((rename StepAt _ _ _ => pS'); k_dflt (refine' cnt_s ?e ?_; (case e => with_reducible assumption)))))
    | ((with_reducible show wpAny _ _ (binaryOp .Add (Value.str _ _) (Value.str _ _)) _ _ _); first | with_reducible (((rename StepAt _ _ _ => pS'); k_dflt (refine' add_s ?e ?hz ?_; (case e => first | with_reducible assumption | assumption); (case hz => with_reducible assumption)); (intro _ _))) | (((rename StepAt _ _ _ => pS'); k_dflt (refine' add_s ?e ?hz ?_; (case e => first | with_reducible assumption | assumption); (case hz => with_reducible assumption)); (intro _ _))))
    | ((with_reducible show wpAny _ _ (binaryOp .Mult (Value.str _ _) (Value.int _ _)) _ _ _); first | with_reducible (((rename StepAt _ _ _ => pS'); k_dflt (refine' mul_s ?e ?h1 ?h2 ?h3 ?_; (case e => first | with_reducible assumption | assumption); (case h1 => first | decide | with_reducible assumption); (case h2 => omega); (case h3 => (have := pS'.n; have := pS'.ha; have := pS'.hb; omega))); (intro _ _))) | (((rename StepAt _ _ _ => pS'); k_dflt (refine' mul_s ?e ?h1 ?h2 ?h3 ?_; (case e => first | with_reducible assumption | assumption); (case h1 => first | decide | with_reducible assumption); (case h2 => omega); (case h3 => (have := pS'.n; have := pS'.ha; have := pS'.hb; omega))); (intro _ _))))
    | ((with_reducible show wpAny _ _ (compareOp .NotIn (Value.str _ _) (Value.ref _)) _ _ _); first | with_reducible ((k_here; k_dflt (refine' topNotIn_K ?F ?X ?l ?k ?e ?o ?_; (case F => k_asm); (case X => k_asm); (case l => k_is); (case k => k_keys); (case e => k_is); (case o => decide)))) | ((k_here; k_dflt (refine' topNotIn_K ?F ?X ?l ?k ?e ?o ?_; (case F => k_asm); (case X => k_asm); (case l => k_is); (case k => k_keys); (case e => k_is); (case o => decide)))))
    | ((with_reducible show wpAny _ _ (compareOp .NotEq (Value.str _ _) (Value.str _ _)) _ _ _); first | with_reducible (k_dflt (first | (refine' ne_b (b := true) ?e ?_; (case e => first | with_reducible assumption | decide +kernel)) | (refine' ne_b (b := false) ?e ?_; (case e => first | with_reducible assumption | decide +kernel)))) | (k_dflt (first | (refine' ne_b (b := true) ?e ?_; (case e => first | with_reducible assumption | decide +kernel)) | (refine' ne_b (b := false) ?e ?_; (case e => first | with_reducible assumption | decide +kernel)))))
    | ((with_reducible show wpAny _ _ (compareOp .Eq (Value.str _ _) (Value.str _ _)) _ _ _); first | with_reducible (k_dflt (first | (refine' eq_b (b := true) ?e ?_; (case e => first | with_reducible assumption | decide +kernel)) | (refine' eq_b (b := false) ?e ?_; (case e => first | with_reducible assumption | decide +kernel)))) | (k_dflt (first | (refine' eq_b (b := true) ?e ?_; (case e => first | with_reducible assumption | decide +kernel)) | (refine' eq_b (b := false) ?e ?_; (case e => first | with_reducible assumption | decide +kernel)))))
    | ((with_reducible show wpAny _ _ (subscriptTail (PySem.Expr.Name _ _) (PySem.Expr.Name _ _) (Value.str _ _) (Value.int _ _)) _ _ _); first | with_reducible (( (with_reducible show wpAny _ _ (subscriptTail _ _ (Value.str _ _) (Value.int _ _)) _ _ _); k_dflt (refine' it_s ?e ?h1 ?h2 ?hsz ?_; (case e => with_reducible assumption); (case h1 => omega); (case h2 => omega); (case hsz => with_reducible assumption)))) | (( (with_reducible show wpAny _ _ (subscriptTail _ _ (Value.str _ _) (Value.int _ _)) _ _ _); k_dflt (refine' it_s ?e ?h1 ?h2 ?hsz ?_; (case e => with_reducible assumption); (case h1 => omega); (case h2 => omega); (case hsz => with_reducible assumption)))))
    | ((with_reducible show wpAny _ _ (subscriptTail (PySem.Expr.Name _ _) (PySem.Expr.Slice _ _ _ _) (Value.str _ _) (Value.ref _)) _ _ _); first | with_reducible (((with_reducible rename Fr _ _ _ _ => F'); (with_reducible rename News _ _ _ _ => N'); first | (refine' sl_ns (s := ⟨_, _, _, _, _⟩) ?e ?hsz F' N' ?_; (case e => with_reducible assumption); (case hsz => with_reducible assumption); intro _ _ _ _ _) | (refine' sl_sn (s := ⟨_, _, _, _, _⟩) ?e ?hsz F' N' ?_; (case e => with_reducible assumption); (case hsz => with_reducible assumption); intro _ _ _ _ _) | (refine' sl_ss (s := ⟨_, _, _, _, _⟩) ?e ?hsz F' N' ?_; (case e => with_reducible assumption); (case hsz => with_reducible assumption); intro _ _ _ _ _))) | (((with_reducible rename Fr _ _ _ _ => F'); (with_reducible rename News _ _ _ _ => N'); first | (refine' sl_ns (s := ⟨_, _, _, _, _⟩) ?e ?hsz F' N' ?_; (case e => with_reducible assumption); (case hsz => with_reducible assumption); intro _ _ _ _ _) | (refine' sl_sn (s := ⟨_, _, _, _, _⟩) ?e ?hsz F' N' ?_; (case e => with_reducible assumption); (case hsz => with_reducible assumption); intro _ _ _ _ _) | (refine' sl_ss (s := ⟨_, _, _, _, _⟩) ?e ?hsz F' N' ?_; (case e => with_reducible assumption); (case hsz => with_reducible assumption); intro _ _ _ _ _))))
    | walk1 | (dsimp only; walk1) | (leave1; walk_say "STEP leave1"; try dsimp only))
  all_goals (try exact hret _ [_] _ _ (by k_asm) (by exact (by k_asm : News h₀ L _ (_ :: news))) (above_one (by ktn_lt)) ⟨_, _, _, _, rfl, rfl⟩)
  all_goals (rename StepAt _ _ _ => pS')
  all_goals (rename News _ _ _ _ => nE')
  all_goals refine wend_intro (by assumption) (by exact rfl) (by exact rfl) nE' (by (intro p hp; repeat (first | exact hp | refine List.Mem.tail _ ?_))) rfl (by exact rfl) (by first | exact walk_n_even (by assumption) (by assumption) (by assumption) (by assumption) | exact walk_n_odd (by assumption) pS'.ao pS'.bo (by assumption) (by assumption) (by assumption)) (by (intro z h1 h2 h3 h4 h5 h6 h7; (have g8 := walk_not h4 h5 h6 h7); (repeat (refine ifn (by with_reducible assumption) ?_)); first | exact rfl | ((repeat (refine ifnR (by with_reducible assumption) ?_)); exact rfl)))
end Mine
namespace Mine
open PySem PySem.W PyProof.Rows
noncomputable def ones (l : List Nat) : Int := Txt.count (tx l) (Str.ofString "1")
noncomputable def lterm (r : List Nat) (a b : Int) (j : Nat) : Int := if r[j]? = some 49 then b * 2 ^ (j : Int).toNat * a ^ (ones (r.drop (j + 1))).toNat else 0
noncomputable def lpart (s : Int) (r : List Nat) (a b : Int) : Nat → Int
  | 0 => s * a ^ (ones r).toNat
  | j + 1 => lpart s r a b j + lterm r a b j
noncomputable def lend (s : Int) (r : List Nat) (a b : Int) : Int := lpart s r a b r.length
theorem lit_1 : Str.ofString "1" = tx [49] := by decide +kernel
theorem ones_eq (l : List Nat) : ones l = (l.count 49 : Nat) := by unfold ones; rw [lit_1, tx_count]
theorem ones_bound (l : List Nat) : 0 ≤ ones l ∧ ones l ≤ (l.length : Int) := by
  rw [ones_eq]; have := List.count_le_length (a := 49) (l := l); omega
structure LendAt (s : Int) (r : List Nat) (a b : Int) : Prop where
  len : r.length ≤ 3
  s0 : 0 ≤ s
  s1 : s ≤ 1000
  a0 : 0 ≤ a
  a1 : a ≤ 9
  b0 : 0 ≤ b
  b1 : b ≤ 9
theorem lend_mul {s : Int} {r : List Nat} {a b : Int} (p : LendAt s r a b) {j : Nat} (hj : j < r.length) (c : Int) : IntMulOk (b * 2 ^ (j : Int).toNat) c := by
  have h1 := p.len; have h2 := p.b0; have h3 := p.b1
  have h4 : j = 0 ∨ j = 1 ∨ j = 2 := by omega
  refine IntMulOk.of_left ?_
  rcases h4 with rfl | rfl | rfl
  · exact intBits_le_64 (by simp; omega) (by simp; omega)
  · exact intBits_le_64 (by simp; omega) (by simp; omega)
  · exact intBits_le_64 (by simp; omega) (by simp; omega)
theorem one_yes (c : Nat) : (tx [c] == Str.ofString "1") = decide (c = 49) := by
  rw [lit_1, Bool.eq_iff_iff]; simp [beq_iff_eq]
  exact ⟨fun h => by have := tx_inj h; simpa using this, fun h => by rw [h]⟩
section
variable {prog : Program} {w : World} {A : Around} {E : Value → Shared → Prop} {s : Shared}
theorem pow_K {a n : Int} {t u : Tok} {Q : Value → Shared → Prop} (hn : 0 ≤ n) (hn2 : n ≤ 1000) (h1 : 0 ≤ a) (h2 : a ≤ 1000) (h : Q (.int (a ^ n.toNat) s.toks) { s with toks := s.toks + 1 }) :
    wpAny (model prog w) A (binaryOp .Pow (.int a t) (.int n u)) Q E s := pow_int_small hn (by omega) (by omega) h
end
theorem lend_ways {s : Int} {r : List Nat} {a b : Int} (p : LendAt s r a b) {j : Nat} (hj : j < r.length) :
    j < 3 ∧ ∃ c, Txt.item (tx r) (j : Int) = tx [c] ∧ Txt.slice (tx r) (some ((j : Int) + 1)) none = tx (r.drop (j + 1)) ∧ 0 ≤ Txt.count (tx (r.drop (j + 1))) (Str.ofString "1") ∧ Txt.count (tx (r.drop (j + 1))) (Str.ofString "1") ≤ 3 ∧
      (∀ n, IntMulOk (b * 2 ^ (j : Int).toNat) n) ∧
      (((tx [c] == Str.ofString "1") = true ∧ lpart s r a b j + b * 2 ^ (j : Int).toNat * a ^ (Txt.count (tx (r.drop (j + 1))) (Str.ofString "1")).toNat = lpart s r a b (j + 1)) ∨
       ((tx [c] == Str.ofString "1") = false ∧ lpart s r a b j = lpart s r a b (j + 1))) := by
  have h1 := p.len
  have ob := ones_bound (r.drop (j + 1))
  have hl : (r.drop (j + 1)).length ≤ 3 := by rw [List.length_drop]; omega
  refine ⟨by omega, r[j], tx_item r rfl (List.getElem?_eq_getElem hj), tx_slice1 r (by omega) (by omega), ob.1, Int.le_trans ob.2 (by omega), lend_mul p hj, ?_⟩
  rw [one_yes]
  by_cases h : r[j] = 49
  · refine .inl ⟨by simp [h], ?_⟩
    show _ = lpart s r a b j + lterm r a b j
    unfold lterm
    rw [if_pos (by rw [List.getElem?_eq_getElem hj, h])]
    rfl
  · refine .inr ⟨by simp [h], ?_⟩
    show _ = lpart s r a b j + lterm r a b j
    unfold lterm
    rw [if_neg (by rw [List.getElem?_eq_getElem hj]; simpa using h), Int.add_zero]
theorem lend_ctr {w : World} {st : Int} {r : List Nat} {a b : Int} {t1 t2 t3 t4 : Tok} (hp : LendAt st r a b) :
    Ctr w 143 1 [.int st t1, .str (tx r) t2, .int a t3, .int b t4] (fun v tl => ∃ t', v = .int (lend st r a b) t' ∧ tl = []) := by
  unfold Ctr
  w_top off
  k_fill
  intro loose mean mg mb dp un gd cn cs ad ccd cl outer A₀ base h₀ L m news s Q E B F X N T hk hd hu hret
  have hlen := tx_length r
  have hsz : (tx r).length ≤ sizeLine := by rw [hlen, sizeLine_eq]; have := hp.len; omega
  have q1 := hp.len
  have q2 := hp.s0
  have q3 := hp.s1
  have q4 := hp.a0
  have q5 := hp.a1
  have q6 := hp.b0
  have q7 := hp.b1
  have o1 := ones_bound r
  unfold ones at o1
  obtain ⟨o2, o3⟩ := o1
  refine wpAny_call ?_
  k_dflt ktr_enter
  (rename Fr _ _ _ (fun y => List.lookup y _) => fB9)
  have fC9 := fr_plain [(Str.ofString "b", .int b t4), (Str.ofString "a", .int a t3), (Str.ofString "row", .str (tx r) t2), (Str.ofString "start", .int st t1)] fB9 (by rfl)
  clear fB9
  dsimp only [frOf] at fC9
  refine let_around ?_; intro A9
  refine let_env ?_; intro e9
  repeat' (first
    | ((with_reducible show wpAny _ _ (storeName _ _ (Value.int _ (@HAdd.hAdd _ _ _ _ _ _))) _ _ _); (refine gen_int ?_); (intro t9))
    | ((with_reducible show wpAny _ _ (storeName _ _ (Value.int _ (Shared.toks _))) _ _ _); (refine gen_int ?_); (intro t9))
    | ((with_reducible show wpAny _ _ (storeName _ _ (Value.str _ (@HAdd.hAdd _ _ _ _ _ _))) _ _ _); (refine gen_str ?_); (intro t9))
    | ((with_reducible show wpAny _ _ (storeName _ _ (Value.str _ (Shared.toks _))) _ _ _); (refine gen_str ?_); (intro t9))
    | ((with_reducible show wpAny _ _ (exec _ _) _ _ _); k_fold; (refine let_state ?_); (intro s8))
    | ((with_reducible show wpAny _ _ (execs (_ :: _) _) _ _ _); k_fold)
    | ((with_reducible show wpAny _ _ (isTrue _ _ _) _ _ _); k_fold)
    | ((with_reducible show wpAny _ _ (storeName _ _ _) _ _ _); walk1; (rename Fr _ _ _ _ => lF8); (refine let_fr lF8 ?_); (intro m8 lG8); (clear lF8))
    | (k_unfold; (try dsimp only))
    | (k_end; wrow_close)
    | ((with_reducible show InvEndN _ _ _ _ _ _ _); first | with_reducible ((k_dflt ( (rename News _ _ _ _ => nE'); (refine acc_end (by assumption) (by exact rfl) nE' (by exact fun _ hp => hp) rfl (by assumption) (by (intro z h1 h2; (repeat (refine ifn (by with_reducible assumption) ?_)); first | exact rfl | ((repeat (refine ifnR (by with_reducible assumption) ?_)); exact rfl))))))) | ((k_dflt ( (rename News _ _ _ _ => nE'); (refine acc_end (by assumption) (by exact rfl) nE' (by exact fun _ hp => hp) rfl (by assumption) (by (intro z h1 h2; (repeat (refine ifn (by with_reducible assumption) ?_)); first | exact rfl | ((repeat (refine ifnR (by with_reducible assumption) ?_)); exact rfl))))))))
    | ((with_reducible show wpAny _ _ (pyIter (Value.ref _)) _ _ _); first | with_reducible (( k_here; (rename LendAt _ _ _ _ => pA'); (rename Fr _ _ _ _ => lF'); (rename News _ _ _ _ => lN'); (rename IsRange _ _ _ _ _ _ _ _ => rgX); (rename PySem.Str.length (tx _) = _ => le'); (rw [le'] at rgX); (with_unfolding_all refine' acc_range (f := lpart _ _ _ _) (y := Str.ofString "whole") ?hfit ?hyx ?hh rgX lF' lN' ?k1 ?kturn ?kdone); (case hfit => omega); (case hyx => decide); (case hh => with_unfolding_all rfl); (case k1 => with_unfolding_all rfl); (all_goals (clear lF' lN')); (case' kturn => ( (intro j9 t9 ti9 u9 h9 tk9 own9 l9 o9 F9 N9); (dsimp only [kstB] at F9); (obtain ⟨w1, c9, w2, w3, w4, w5, w6, ⟨w7, w8⟩ | ⟨w7, w8⟩⟩ := lend_ways pA' l9))); (case' kdone => ( (intro v9 ti9 u9 h9 tk9 hv9 F9 N9); (dsimp only [kstB] at F9); (try dsimp only))); (all_goals (try k_fold)))) | (( k_here; (rename LendAt _ _ _ _ => pA'); (rename Fr _ _ _ _ => lF'); (rename News _ _ _ _ => lN'); (rename IsRange _ _ _ _ _ _ _ _ => rgX); (rename PySem.Str.length (tx _) = _ => le'); (rw [le'] at rgX); (with_unfolding_all refine' acc_range (f := lpart _ _ _ _) (y := Str.ofString "whole") ?hfit ?hyx ?hh rgX lF' lN' ?k1 ?kturn ?kdone); (case hfit => omega); (case hyx => decide); (case hh => with_unfolding_all rfl); (case k1 => with_unfolding_all rfl); (all_goals (clear lF' lN')); (case' kturn => ( (intro j9 t9 ti9 u9 h9 tk9 own9 l9 o9 F9 N9); (dsimp only [kstB] at F9); (obtain ⟨w1, c9, w2, w3, w4, w5, w6, ⟨w7, w8⟩ | ⟨w7, w8⟩⟩ := lend_ways pA' l9))); (case' kdone => ( (intro v9 ti9 u9 h9 tk9 hv9 F9 N9); (dsimp only [kstB] at F9); (try dsimp only))); (all_goals (try k_fold)))))
    | ((with_reducible show wpAny _ _ (binaryOp .Mult (Value.int _ _) (Value.int _ _)) _ _ _); first | with_reducible (((rename LendAt _ _ _ _ => pA'); k_dflt (refine' PyProof.Rows.mul_int ?_ ?_; rotate_left; (first | exact PySem.IntMulOk.of_left (PySem.intBits_le_64 (by omega) (by omega)) | (rename ∀ n, IntMulOk _ n => m9; exact m9 _))))) | (((rename LendAt _ _ _ _ => pA'); k_dflt (refine' PyProof.Rows.mul_int ?_ ?_; rotate_left; (first | exact PySem.IntMulOk.of_left (PySem.intBits_le_64 (by omega) (by omega)) | (rename ∀ n, IntMulOk _ n => m9; exact m9 _))))))
    | ((with_reducible show wpAny _ _ (binaryOp .Pow (Value.int _ _) (Value.int _ _)) _ _ _); first | with_reducible (((rename LendAt _ _ _ _ => pA'); k_dflt (refine' pow_K ?h1 ?h2 ?h3 ?h4 ?_; (case h1 => omega); (case h2 => omega); (case h3 => omega); (case h4 => omega)))) | (((rename LendAt _ _ _ _ => pA'); k_dflt (refine' pow_K ?h1 ?h2 ?h3 ?h4 ?_; (case h1 => omega); (case h2 => omega); (case h3 => omega); (case h4 => omega)))))
    | ((with_reducible show wpAny _ _ (compareOp .NotIn (Value.str _ _) (Value.ref _)) _ _ _); first | with_reducible ((k_here; k_dflt (refine' topNotIn_K ?F ?X ?l ?k ?e ?o ?_; (case F => k_asm); (case X => k_asm); (case l => k_is); (case k => k_keys); (case e => k_is); (case o => decide)))) | ((k_here; k_dflt (refine' topNotIn_K ?F ?X ?l ?k ?e ?o ?_; (case F => k_asm); (case X => k_asm); (case l => k_is); (case k => k_keys); (case e => k_is); (case o => decide)))))
    | ((with_reducible show wpAny _ _ (compareOp .NotEq (Value.str _ _) (Value.str _ _)) _ _ _); first | with_reducible (k_dflt (first | (refine' ne_b (b := true) ?e ?_; (case e => first | with_reducible assumption | decide +kernel)) | (refine' ne_b (b := false) ?e ?_; (case e => first | with_reducible assumption | decide +kernel)))) | (k_dflt (first | (refine' ne_b (b := true) ?e ?_; (case e => first | with_reducible assumption | decide +kernel)) | (refine' ne_b (b := false) ?e ?_; (case e => first | with_reducible assumption | decide +kernel)))))
    | ((with_reducible show wpAny _ _ (compareOp .Eq (Value.str _ _) (Value.str _ _)) _ _ _); first | with_reducible (k_dflt (first | (refine' eq_b (b := true) ?e ?_; (case e => first | with_reducible assumption | decide +kernel)) | (refine' eq_b (b := false) ?e ?_; (case e => first | with_reducible assumption | decide +kernel)))) | (k_dflt (first | (refine' eq_b (b := true) ?e ?_; (case e => first | with_reducible assumption | decide +kernel)) | (refine' eq_b (b := false) ?e ?_; (case e => first | with_reducible assumption | decide +kernel)))))
    | ((with_reducible show wpAny _ _ (subscriptTail (PySem.Expr.Name _ _) (PySem.Expr.Name _ _) (Value.str _ _) (Value.int _ _)) _ _ _); first | with_reducible (( (with_reducible show wpAny _ _ (subscriptTail _ _ (Value.str _ _) (Value.int _ _)) _ _ _); k_dflt (refine' it_s ?e ?h1 ?h2 ?hsz ?_; (case e => with_reducible assumption); (case h1 => omega); (case h2 => omega); (case hsz => with_reducible assumption)))) | (( (with_reducible show wpAny _ _ (subscriptTail _ _ (Value.str _ _) (Value.int _ _)) _ _ _); k_dflt (refine' it_s ?e ?h1 ?h2 ?hsz ?_; (case e => with_reducible assumption); (case h1 => omega); (case h2 => omega); (case hsz => with_reducible assumption)))))
    | ((with_reducible show wpAny _ _ (subscriptTail (PySem.Expr.Name _ _) (PySem.Expr.Slice _ _ _ _) (Value.str _ _) (Value.ref _)) _ _ _); first | with_reducible (((with_reducible rename Fr _ _ _ _ => F'); (with_reducible rename News _ _ _ _ => N'); first | (refine' sl_ns (s := ⟨_, _, _, _, _⟩) ?e ?hsz F' N' ?_; (case e => with_reducible assumption); (case hsz => with_reducible assumption); intro _ _ _ _ _) | (refine' sl_sn (s := ⟨_, _, _, _, _⟩) ?e ?hsz F' N' ?_; (case e => with_reducible assumption); (case hsz => with_reducible assumption); intro _ _ _ _ _) | (refine' sl_ss (s := ⟨_, _, _, _, _⟩) ?e ?hsz F' N' ?_; (case e => with_reducible assumption); (case hsz => with_reducible assumption); intro _ _ _ _ _))) | (((with_reducible rename Fr _ _ _ _ => F'); (with_reducible rename News _ _ _ _ => N'); first | (refine' sl_ns (s := ⟨_, _, _, _, _⟩) ?e ?hsz F' N' ?_; (case e => with_reducible assumption); (case hsz => with_reducible assumption); intro _ _ _ _ _) | (refine' sl_sn (s := ⟨_, _, _, _, _⟩) ?e ?hsz F' N' ?_; (case e => with_reducible assumption); (case hsz => with_reducible assumption); intro _ _ _ _ _) | (refine' sl_ss (s := ⟨_, _, _, _, _⟩) ?e ?hsz F' N' ?_; (case e => with_reducible assumption); (case hsz => with_reducible assumption); intro _ _ _ _ _))))
    | walk1 | (dsimp only; walk1) | (leave1; walk_say "STEP leave1"; try dsimp only))
  (rename _ = lpart _ _ _ _ _ => hv)
  exact hret _ [] _ _ (by k_asm) (by exact (by k_asm : News h₀ L _ news)) above_nil ⟨_, by rw [hv]; rfl, rfl⟩
end Mine
namespace Mine
open PySem PySem.W PyProof.Rows
noncomputable def ltermC (r : List Nat) (a b : Int) (j : Nat) : Int := if r[j]? = some 49 then b * 2 ^ j * a ^ ((r.drop (j + 1)).count 49) else 0
noncomputable def lpartC (s : Int) (r : List Nat) (a b : Int) : Nat → Int
  | 0 => s * a ^ (r.count 49)
  | j + 1 => lpartC s r a b j + ltermC r a b j
noncomputable def lendC (s : Int) (r : List Nat) (a b : Int) : Int := lpartC s r a b r.length
theorem lterm_eqC (r : List Nat) (a b : Int) (j : Nat) : lterm r a b j = ltermC r a b j := by
  unfold lterm ltermC; rw [ones_eq, Int.toNat_natCast, Int.toNat_natCast]
theorem lpart_eqC (s : Int) (r : List Nat) (a b : Int) : ∀ j, lpart s r a b j = lpartC s r a b j
  | 0 => by show s * a ^ (ones r).toNat = s * a ^ (r.count 49); rw [ones_eq, Int.toNat_natCast]
  | j + 1 => by show lpart s r a b j + lterm r a b j = lpartC s r a b j + ltermC r a b j; rw [lpart_eqC s r a b j, lterm_eqC]
theorem lend_eqC (s : Int) (r : List Nat) (a b : Int) : lend s r a b = lendC s r a b := lpart_eqC s r a b _
noncomputable def rowsC (a b k : Nat) : List (List Nat) := (List.range (2 ^ k)).map (rowOf a b k)
noncomputable def okOne (a b k s : Nat) : Bool := (rowsC a b k).count (rowOf a b k s) == 1 && ((2 ^ k * iter a b k s : Nat) : Int) == lendC s (rowOf a b k s) a b
noncomputable def okTwo (a b k m n : Nat) : Bool := rowOf a b k (n + 2 ^ k * m) == rowOf a b k n && iter a b k (n + 2 ^ k * m) == iter a b k n + m * a ^ ((rowOf a b k n).count 49)
theorem ok_one2 : ∀ a ∈ [1, 3, 5], ∀ b ∈ [1, 3, 5, 7], ∀ s ∈ List.range 4, okOne a b 2 s = true := by decide +kernel
theorem ok_one3 : ∀ a ∈ [1, 3, 5], ∀ b ∈ [1, 3, 5, 7], ∀ s ∈ List.range 8, okOne a b 3 s = true := by decide +kernel
theorem ok_two2 : ∀ a ∈ [1, 3, 5], ∀ b ∈ [1, 3, 5, 7], ∀ m ∈ [1, 2], ∀ n ∈ List.range 4, okTwo a b 2 m n = true := by decide +kernel
theorem ok_two3 : ∀ a ∈ [1, 3, 5], ∀ b ∈ [1, 3, 5, 7], ∀ m ∈ [1], ∀ n ∈ List.range 8, okTwo a b 3 m n = true := by decide +kernel
theorem a_all : ∀ a ∈ List.range 6, a % 2 = 1 → a ∈ [1, 3, 5] := by decide
theorem b_all : ∀ a ∈ List.range 8, a % 2 = 1 → a ∈ [1, 3, 5, 7] := by decide
theorem a_mem {a : Nat} (h : a ≤ 5) (ho : a % 2 = 1) : a ∈ [1, 3, 5] := a_all a (List.mem_range.mpr (Nat.lt_succ_of_le h)) ho
theorem b_mem {b : Nat} (h : b ≤ 7) (ho : b % 2 = 1) : b ∈ [1, 3, 5, 7] := b_all b (List.mem_range.mpr (Nat.lt_succ_of_le h)) ho
theorem one_of {a b k s : Nat} (hk : k = 2 ∨ k = 3) (ha : a ≤ 5) (hao : a % 2 = 1) (hb : b ≤ 7) (hbo : b % 2 = 1) (hs : s < 2 ^ k) :
    (rowsC a b k).count (rowOf a b k s) = 1 ∧ ((2 ^ k * iter a b k s : Nat) : Int) = lend s (rowOf a b k s) a b := by
  have h : okOne a b k s = true := by
    rcases hk with rfl | rfl
    · exact ok_one2 a (a_mem ha hao) b (b_mem hb hbo) s (List.mem_range.mpr hs)
    · exact ok_one3 a (a_mem ha hao) b (b_mem hb hbo) s (List.mem_range.mpr hs)
  unfold okOne at h
  rw [Bool.and_eq_true, beq_iff_eq, beq_iff_eq] at h
  rw [lend_eqC]; exact h
theorem two_of {a b k m n : Nat} (hk : (k = 2 ∧ m ≤ 2) ∨ (k = 3 ∧ m ≤ 1)) (hm : 1 ≤ m) (ha : a ≤ 5) (hao : a % 2 = 1) (hb : b ≤ 7) (hbo : b % 2 = 1) (hn : n < 2 ^ k) :
    rowOf a b k (n + 2 ^ k * m) = rowOf a b k n ∧ iter a b k (n + 2 ^ k * m) = iter a b k n + m * a ^ ((rowOf a b k n).count 49) := by
  have h : okTwo a b k m n = true := by
    rcases hk with ⟨rfl, h⟩ | ⟨rfl, h⟩
    · exact ok_two2 a (a_mem ha hao) b (b_mem hb hbo) m (by have : m = 1 ∨ m = 2 := by omega
                                                            rcases this with rfl | rfl <;> simp) n (List.mem_range.mpr hn)
    · exact ok_two3 a (a_mem ha hao) b (b_mem hb hbo) m (by have : m = 1 := by omega
                                                            subst this; simp) n (List.mem_range.mpr hn)
  unfold okTwo at h
  rw [Bool.and_eq_true, beq_iff_eq, beq_iff_eq] at h
  exact h
theorem rowOf_digit (a b n : Nat) : ∀ k, ∀ c ∈ rowOf a b k n, c = 48 ∨ c = 49
  | 0, c, h => nomatch h
  | k + 1, c, h => by
    rw [rowOf] at h
    rcases List.mem_append.mp h with h | h
    · exact rowOf_digit a b n k c h
    · rw [List.mem_singleton.mp h]; omega
theorem row_no {a b k n : Nat} (hk : 1 ≤ k) : (tx (rowOf a b k n) == Str.ofString "no") = false := by
  rw [show Str.ofString "no" = tx [110, 111] from by decide +kernel]
  rw [beq_eq_false_iff_ne]
  intro e
  have e' := tx_inj e
  have := rowOf_digit a b n k 110 (by rw [e']; simp)
  omega
end Mine
namespace Mine
open PySem PySem.W PyProof.Rows PySem.Calls PySem.Spec
section
variable {prog : Program} {w : World} {A : Around} {E : Value → Shared → Prop} {s : Shared} {env : Env} {h₀ : Heap} {x : Str} {body : List Stmt} {Q : Flow → Shared → Prop}
noncomputable def EachJ (news : List (Addr × Obj)) (x : Str) (m₀ : Str → Option Value) (m : Str → Option Value) (nx : List (Addr × Obj)) : Prop := nx = news ∧ ∀ z, z ≠ x → m z = m₀ z
/-- a loop over range(n) that keeps nothing from turn to turn -/
theorem each_range {n : Nat} {r : Addr} {b : Int} {t₀ u₀ v₀ : Tok} {m₀ : Str → Option Value} {news : List (Addr × Obj)} (hb : b = (n : Int)) (hfit : n ≤ 1000000) (hh : A.handled = none) (hr : IsRange s.heap r 0 b 1 t₀ u₀ v₀)
    (F : Fr h₀ env.locals s.heap m₀) (N : News h₀ env.locals s.heap news)
    (turn : ∀ (j : Nat) (t : Tok) h tk own, j < n → OwnOff own (news.map (·.1)) →
      Fr h₀ env.locals h (fun z => if z = x then some (.int (j : Int) t) else m₀ z) → News h₀ env.locals h (news ++ own) →
      wpAny (model prog w) A (execs body env) (InvPostN h₀ env.locals (EachJ news x m₀) own (news.map (·.1)) { s with heap := h, toks := tk } Q) E { s with heap := h, toks := tk })
    (done : ∀ (u : Str → Option Value) h tk, Fr h₀ env.locals h (fun z => if z = x then u z else m₀ z) → News h₀ env.locals h news → Q .next { s with heap := h, toks := tk }) :
    wpAny (model prog w) A (pyIter (.ref r)) (fun it s₂ => LoopAtV prog w A h₀ env x body Q E it s₂) E s := by
  subst hb
  have hn : Builtin.Range.rangeSize 0 (n : Int) 1 = (n : Int) := (rangeSize_nat _ _).trans (by simp)
  have em : ∀ (u : Str → Option Value) (g : Str → Option Value), (fun z => if z = x then g z else kstB (fun z => if ([] : List Str).contains z then u z else m₀ z) [] z) = fun z => if z = x then g z else m₀ z := by
    intro u g; funext z; simp [kstB]
  refine kst_range (σ := Unit) (n := n) (fun _ => news) (fun _ => []) (fun _ => True) [] (fun _ _ => True) () hh hr
    (small_one (by omega) (by omega) (by omega) (by omega)) hn F N True.intro (List.forall_mem_nil _) True.intro ?_ ?_
  · rintro ⟨⟩ pre k t u h tk own hk hlt hoff - - F₁ N₁
    have hj : k = (pre.length : Int) := by omega
    subst hj
    rw [em u (fun _ => some (.int (pre.length : Int) t))] at F₁
    refine wpAny_mono (turn pre.length t h tk own hlt hoff F₁ N₁) (fun fl s₂ p => ?_) fun _ _ x => x
    have up : InvEndN h₀ env.locals (EachJ news x m₀) own (news.map (·.1)) { s with heap := h, toks := tk } s₂ →
        InvEndN h₀ env.locals (KstS (fun _ => news) (fun _ : Unit => []) (fun _ => True) x [] m₀ (fun _ _ => True) (pre ++ [(pre.length : Int)])) own (news.map (·.1)) { s with heap := h, toks := tk } s₂ := by
      rintro ⟨h', tk', m', news', nx, e, F', N', hn', ho', ha, hnx, h3⟩
      exact ⟨h', tk', m', news', nx, e, F', N', hn', ho', ha, (), hnx, True.intro, List.forall_mem_nil _, fun z hz _ _ => h3 z hz, True.intro⟩
    cases fl with
    | ret v => exact p
    | brk => exact p
    | next => exact up p
    | cont => exact up p
  · rintro ⟨⟩ u h tk - - F₁ N₁
    rw [em u u] at F₁
    exact done u h tk F₁ N₁
theorem each_end {news own news' : List (Addr × Obj)} {adr : List Addr} {m₀ m' : Str → Option Value} {s₁ : Shared} {h' : Heap} {L : Addr} {tk : Nat}
    (F : Fr h₀ L h' m') (N : News h₀ L h' news') (hin : ∀ p ∈ news ++ own, p ∈ news') (ha : news.map (·.1) = adr) (h3 : ∀ z, z ≠ x → m' z = m₀ z) :
    InvEndN h₀ L (EachJ news x m₀) own adr s₁ { s₁ with heap := h', toks := tk } :=
  InvEndN.intro F N ⟨rfl, h3⟩ ha (fun p hp => hin p (List.mem_append.mpr (.inl hp))) (fun p hp => hin p (List.mem_append.mpr (.inr hp)))
end
/-- the list's items from number i on are the texts f i, f (i + 1) .. -/
noncomputable def RowFrom (f : Nat → Str) : Nat → List Value → Prop
  | _, [] => True
  | i, v :: r => (∃ t, v = .str (f i) t) ∧ RowFrom f (i + 1) r
theorem RowFrom.at {f : Nat → Str} : ∀ {vs : List Value} {i j : Nat}, RowFrom f i vs → j < vs.length → ∃ t, vs[j]? = some (.str (f (i + j)) t)
  | [], _, _, _, h => absurd h (Nat.not_lt_zero _)
  | v :: r, i, 0, h, _ => by obtain ⟨⟨t, rfl⟩, _⟩ := h; exact ⟨t, rfl⟩
  | v :: r, i, j + 1, h, hj => by
    obtain ⟨t, e⟩ := RowFrom.at h.2 (show j < r.length from Nat.lt_of_succ_lt_succ hj)
    exact ⟨t, by rw [show i + (j + 1) = i + 1 + j by omega]; exact e⟩
theorem RowFrom.strs {f : Nat → Str} : ∀ {vs : List Value} {i : Nat}, RowFrom f i vs → StrsAre vs ((List.range' i vs.length).map f)
  | [], _, _ => .nil
  | v :: r, i, h => by
    obtain ⟨⟨t, rfl⟩, h⟩ := h
    show StrsAre _ ((List.range' i (r.length + 1)).map f)
    rw [List.range'_succ]
    exact .cons _ t (RowFrom.strs h)
/-- the list's items from number i on are pairs of f i and g i, in the ledger -/
noncomputable def TupFrom (news : List (Addr × Obj)) (f : Nat → Str) (g : Nat → Int) : Nat → List Value → Prop
  | _, [] => True
  | i, v :: r => (∃ D o, v = .ref D ∧ (D, o) ∈ news ∧ ∃ t u c, o = { cls := .type "tuple", data := .seq #[.str (f i) t, .int (g i) u] c }) ∧ TupFrom news f g (i + 1) r
theorem TupFrom.at {news : List (Addr × Obj)} {f : Nat → Str} {g : Nat → Int} : ∀ {vs : List Value} {i j : Nat}, TupFrom news f g i vs → j < vs.length →
    ∃ D o, vs[j]? = some (.ref D) ∧ (D, o) ∈ news ∧ ∃ t u c, o = { cls := .type "tuple", data := .seq #[.str (f (i + j)) t, .int (g (i + j)) u] c }
  | [], _, _, _, h => absurd h (Nat.not_lt_zero _)
  | v :: r, i, 0, h, _ => by obtain ⟨⟨D, o, rfl, hm, e⟩, _⟩ := h; exact ⟨D, o, rfl, hm, e⟩
  | v :: r, i, j + 1, h, hj => by
    obtain ⟨D, o, e, q⟩ := TupFrom.at h.2 (show j < r.length from Nat.lt_of_succ_lt_succ hj)
    refine ⟨D, o, e, ?_⟩
    rw [show i + (j + 1) = i + 1 + j by omega]; exact q
section
variable {prog : Program} {w : World} {A : Around} {E : Value → Shared → Prop} {s : Shared} {value slice : PySem.Expr} {h₀ : Heap} {L : Addr} {news : List (Addr × Obj)} {Q : Value → Shared → Prop}
theorem pow_range {k : Nat} (hk : k = 2 ∨ k = 3) : 2 ^ k ≤ 8 ∧ 4 ≤ 2 ^ k := by rcases hk with rfl | rfl <;> decide
theorem item_row {R : Addr} {vs : List Value} {a b k j : Nat} {u : Tok} (hk : k = 2 ∨ k = 3) (N : News h₀ L s.heap news) (hm : (R, LCg.lst vs) ∈ news) (hR : RowFrom (fun i => tx (rowOf a b k i)) 0 vs) (hl : vs.length = 2 ^ k) (hj : j < 2 ^ k) (h : ∀ t, Q (.str (tx (rowOf a b k j)) t) s)
    (hs : subscripted slice false (.ref R) (.int (j : Int) u) = operate [.ref R, .int (j : Int) u] (getItem (.ref R) (.int (j : Int) u)) := by with_unfolding_all rfl) (hg : ∀ r, letTemporaryGo value (.ref R) r = pure () := by intro _; with_unfolding_all rfl) :
    wpAny (model prog w) A (subscriptTail value slice (.ref R) (.int (j : Int) u)) Q E s := by
  have hp := pow_range hk
  obtain ⟨t, e⟩ := hR.at (j := j) (by omega)
  rw [Nat.zero_add] at e
  have hl : s.heap.IsList R vs.toArray := ⟨_, (N _ hm).1, rfl, _, rfl⟩
  exact item_listL hl (by omega) (by omega) (by rw [Int.toNat_natCast]; exact e) (h t) hs hg
theorem item_tup {R : Addr} {vs : List Value} {a b k j : Nat} {u : Tok} {tl : List (Addr × Obj)} (hk : k = 2 ∨ k = 3) (N : News h₀ L s.heap news) (hm : (R, LCg.lst vs) ∈ news) (hT : TupFrom tl (fun i => tx (rowOf a b k i)) (fun i => ((iter a b k i : Nat) : Int)) 0 vs) (hs : ∀ p ∈ tl, p ∈ news) (hl : vs.length = 2 ^ k) (hj : j < 2 ^ k)
    (h : ∀ D t u, IsTup s.heap D #[.str (tx (rowOf a b k j)) t, .int ((iter a b k j : Nat) : Int) u] → Q (.ref D) s)
    (hsb : subscripted slice false (.ref R) (.int (j : Int) u) = operate [.ref R, .int (j : Int) u] (getItem (.ref R) (.int (j : Int) u)) := by with_unfolding_all rfl) (hg : ∀ r, letTemporaryGo value (.ref R) r = pure () := by intro _; with_unfolding_all rfl) :
    wpAny (model prog w) A (subscriptTail value slice (.ref R) (.int (j : Int) u)) Q E s := by
  have hp := pow_range hk
  obtain ⟨D, o, e, hD, t, v, c, rfl⟩ := hT.at (j := j) (by omega)
  rw [Nat.zero_add] at hD
  have hl : s.heap.IsList R vs.toArray := ⟨_, (N _ hm).1, rfl, _, rfl⟩
  exact item_listL hl (by omega) (by omega) (by rw [Int.toNat_natCast]; exact e) (h D t v ⟨_, (N _ (hs _ hD)).1, rfl, _, rfl⟩) hsb hg
theorem item_one {D : Addr} {x : Str} {y : Int} {t u v : Tok} (T : IsTup s.heap D #[.str x t, .int y u]) (h : Q (.int y u) s)
    (hs : subscripted slice false (.ref D) (.int 1 v) = operate [.ref D, .int 1 v] (getItem (.ref D) (.int 1 v)) := by with_unfolding_all rfl) :
    wpAny (model prog w) A (subscriptTail value slice (.ref D) (.int 1 v)) Q E s :=
  kba_turn (value' := PySem.Expr.Name (Str.ofString "_") ⟨0, 0, 0, 0⟩) (fun _ => rfl) (item_tuple T (by decide) (by decide) (j := 1) (by show seqIndex? 1 2 = some 1; decide) rfl h hs (fun _ => rfl))
theorem countIn_map {r : List Nat} : ∀ {l : List (List Nat)}, countIn (.str (tx r)) ((l.map tx).map PyData.str) = ((l.count r : Nat) : Int)
  | [] => rfl
  | x :: l => by
    rw [List.map_cons, List.map_cons, PySem.Spec.countIn, countIn_map (l := l), List.count_cons]
    show (if (tx x == tx r) = true then (1 : Int) else 0) + _ = _
    by_cases e : x = r
    · subst e; simp; omega
    · have h1 : (tx x == tx r) = false := beq_eq_false_iff_ne.mpr fun h => e (tx_inj h)
      have h2 : (x == r) = false := beq_eq_false_iff_ne.mpr e
      rw [h1, h2]; simp
theorem count_row {R : Addr} {vs : List Value} {a b k j : Nat} {t : Tok} (N : News h₀ L s.heap news) (hm : (R, LCg.lst vs) ∈ news) (hR : RowFrom (fun i => tx (rowOf a b k i)) 0 vs) (hl : vs.length = 2 ^ k) (c : (rowsC a b k).count (rowOf a b k j) = 1)
    (h : Q (.int 1 s.toks) { s with toks := s.toks + 1 }) : wpAny (model prog w) A (call (.builtin "list.count") [.ref R, .str (tx (rowOf a b k j)) t]) Q E s := by
  refine count_list_strs ⟨_, (N _ hm).1, rfl, _, rfl⟩ hR.strs ?_
  have e : (List.range' 0 vs.length).map (fun i => tx (rowOf a b k i)) = (rowsC a b k).map tx := by
    rw [hl, rowsC, List.map_map, List.range_eq_range']; rfl
  rw [e, countIn_map, c]; exact h
theorem ne_same_int {x y : Int} {t u : Tok} (e : x = y) (h : Q (.bool false) s) : wpAny (model prog w) A (compareOp .NotEq (.int x t) (.int y u)) Q E s := by
  refine ne_int ?_
  subst e; rw [show (x != x) = false from by simp]; exact h
theorem cnt_ones {r : List Nat} {t u : Tok} (h : Q (.int ((r.count 49 : Nat) : Int) s.toks) { s with toks := s.toks + 1 }) : wpAny (model prog w) A (call (.builtin "str.count") [.str (tx r) t, .str (Str.ofString "1") u]) Q E s :=
  cnt_s (by show ones r = _; rw [ones_eq]) h
theorem pow_row {a b k n : Nat} {t u : Tok} (hk : k = 2 ∨ k = 3) (ha : a ≤ 5) (h : Q (.int ((a ^ ((rowOf a b k n).count 49) : Nat) : Int) s.toks) { s with toks := s.toks + 1 }) : wpAny (model prog w) A (binaryOp .Pow (.int (a : Int) t) (.int (((rowOf a b k n).count 49 : Nat) : Int) u)) Q E s := by
  have := List.count_le_length (a := 49) (l := rowOf a b k n)
  rw [rowOf_len] at this
  refine pow_K (by omega) (by omega) (by omega) (by omega) ?_
  rw [Int.toNat_natCast]
  rw [Int.natCast_pow] at h
  exact h
theorem pow_two {k : Nat} {t u : Tok} (hk : k = 2 ∨ k = 3) (h : Q (.int ((2 ^ k : Nat) : Int) s.toks) { s with toks := s.toks + 1 }) : wpAny (model prog w) A (binaryOp .Pow (.int 2 t) (.int (k : Int) u)) Q E s := by
  refine pow_K (by omega) (by omega) (by omega) (by omega) ?_
  rw [Int.toNat_natCast]
  rw [Int.natCast_pow] at h
  exact h
theorem mul_nat {a : Nat} {c : Int} {t u : Tok} (ha : a ≤ 8) (h : Q (.int ((a : Int) * c) s.toks) { s with toks := s.toks + 1 }) : wpAny (model prog w) A (binaryOp .Mult (.int (a : Int) t) (.int c u)) Q E s :=
  PyProof.Rows.mul_int h (IntMulOk.of_left (intBits_le_64 (by omega) (by omega)))
theorem shaped_pair {x : Str} (hx : PyData.strOk x = true) (y : Int) : SeqAt.shaped (PyData.tuple [PyData.str x, PyData.int y]) = true := by
  simp [SeqAt.shaped, PyData.canLay0, PyData.canLayAll0, PyData.depth, PyData.depthAll, hx]
theorem row_ok {a b k n : Nat} : PyData.strOk (tx (rowOf a b k n)) = true := by
  unfold PyData.strOk
  rw [← Array.all_toList, List.all_eq_true]
  intro c hc
  have := rowOf_digit a b n k c hc
  exact decide_eq_true (by omega)
theorem eq_pairs {a b : Addr} {x x' : Str} {y y' : Int} {t u t' u' : Tok} (h1 : IsTup s.heap a #[.str x t, .int y u]) (h2 : IsTup s.heap b #[.str x' t', .int y' u']) (hx : PyData.strOk x = true) (e1 : x = x') (e2 : y = y') (hu : A.units + 64 < cLine) (h : Q (.bool true) s) :
    wpAny (model prog w) A (compareOp .Eq (.ref a) (.ref b)) Q E s := by
  subst e1; subst e2
  obtain ⟨o1, g1, c1, n1, d1⟩ := h1
  obtain ⟨o2, g2, c2, n2, d2⟩ := h2
  refine eq_dataH (reads_tuple_at g1 c1 d1 (.cons (.str _ _) (.cons (.int _ _) .nil))) (reads_tuple_at g2 c2 d2 (.cons (.str _ _) (.cons (.int _ _) .nil))) (shaped_pair hx _) (shaped_pair hx _) hu ?_
  simpa [PyData.eqv, PyData.eqvAll] using h
end
structure AOk (a : Nat) : Prop where
  le : a ≤ 5
  odd : a % 2 = 1
structure BOk (b : Nat) : Prop where
  le : b ≤ 7
  odd : b % 2 = 1
theorem one_facts {a b k j : Nat} (hk : k = 2 ∨ k = 3) (hA : AOk a) (hB : BOk b) (hs : j < 2 ^ k) :
    (tx (rowOf a b k j) == Str.ofString "no") = false ∧ (rowsC a b k).count (rowOf a b k j) = 1 ∧ ((2 ^ k : Nat) : Int) * ((iter a b k j : Nat) : Int) = lend (j : Int) (rowOf a b k j) (a : Int) (b : Int) ∧ LendAt (j : Int) (rowOf a b k j) (a : Int) (b : Int) := by
  obtain ⟨ha, hao⟩ := hA
  obtain ⟨hb, hbo⟩ := hB
  obtain ⟨h1, h2⟩ := one_of hk ha hao hb hbo hs
  have hp := pow_range hk
  refine ⟨row_no (by omega), h1, ?_, ?_⟩
  · rw [← h2]; push_cast; rfl
  · exact ⟨by rw [rowOf_len]; omega, by omega, by omega, by omega, by omega, by omega, by omega⟩
/-- what a walk hands back -/
noncomputable def WalkRet (a b k n : Nat) (r : Value) (tl : List (Addr × Obj)) : Prop :=
  ∃ D c t5 t6, r = .ref D ∧ tl = [(D, ({ cls := .type "tuple", data := .seq #[.str (tx (rowOf a b k n)) t5, .int ((iter a b k n : Nat) : Int) t6] c } : Obj))]
theorem walk_at {w : World} {st k a b : Nat} {t1 t2 t3 t4 : Tok} (hk : k = 2 ∨ k = 3) (hst : st < 2 ^ k) (hA : AOk a) (hB : BOk b) :
    Ctr w 136 12 [.int (st : Int) t1, .int (k : Int) t2, .int (a : Int) t3, .int (b : Int) t4] (WalkRet a b k st) :=
  walk_ctr ⟨by omega, by have := pow_range hk; omega, hA.le, hB.le, hA.odd, hB.odd⟩
theorem fin_le {k n m : Nat} (hk : k = 2 ∨ k = 3) (hn : n < 2 ^ k) (hm : m ≤ 4 - k) : n + 2 ^ k * m ≤ 15 := by
  rcases hk with rfl | rfl
  · have : n < 4 := hn
    show n + 4 * m ≤ 15; omega
  · have : n < 8 := hn
    show n + 8 * m ≤ 15; omega
theorem walk_fin {w : World} {n m k a b : Nat} {t1 t2 t3 t4 : Tok} (hk : k = 2 ∨ k = 3) (hn : n < 2 ^ k) (hm : m ≤ 4 - k) (hA : AOk a) (hB : BOk b) :
    Ctr w 136 12 [.int ((n : Int) + ((2 ^ k : Nat) : Int) * (m : Int)) t1, .int (k : Int) t2, .int (a : Int) t3, .int (b : Int) t4] (WalkRet a b k (n + 2 ^ k * m)) := by
  have h : Ctr w 136 12 [.int ((n + 2 ^ k * m : Nat) : Int) t1, .int (k : Int) t2, .int (a : Int) t3, .int (b : Int) t4] (WalkRet a b k (n + 2 ^ k * m)) := walk_ctr ⟨by omega, fin_le hk hn hm, hA.le, hB.le, hA.odd, hB.odd⟩
  rwa [show ((n + 2 ^ k * m : Nat) : Int) = (n : Int) + ((2 ^ k : Nat) : Int) * (m : Int) by push_cast; rfl] at h
theorem k_m {k m : Nat} (hk : k = 2 ∨ k = 3) (hm : m ≤ 4 - k) : (k = 2 ∧ m ≤ 2) ∨ (k = 3 ∧ m ≤ 1) := by
  rcases hk with rfl | rfl
  · exact .inl ⟨rfl, hm⟩
  · exact .inr ⟨rfl, hm⟩
theorem two_row {a b k m n : Nat} (hk : k = 2 ∨ k = 3) (hm1 : 1 ≤ m) (hm : m ≤ 4 - k) (hA : AOk a) (hB : BOk b) (hn : n < 2 ^ k) :
    tx (rowOf a b k (n + 2 ^ k * m)) = tx (rowOf a b k n) := congrArg tx (two_of (k_m hk hm) hm1 hA.le hA.odd hB.le hB.odd hn).1
theorem two_end {a b k m n : Nat} (hk : k = 2 ∨ k = 3) (hm1 : 1 ≤ m) (hm : m ≤ 4 - k) (hA : AOk a) (hB : BOk b) (hn : n < 2 ^ k) :
    ((iter a b k (n + 2 ^ k * m) : Nat) : Int) = ((iter a b k n : Nat) : Int) + (m : Int) * ((a ^ ((rowOf a b k n).count 49) : Nat) : Int) := by
  rw [(two_of (k_m hk hm) hm1 hA.le hA.odd hB.le hB.odd hn).2]; push_cast; rfl
theorem fmod_nat (x : Int) {d : Int} {D : Nat} (hd : d = (D : Int)) (hD : 0 < D) : ∃ n : Nat, Int.fmod x d = (n : Int) ∧ n < D := by
  subst hd
  have h1 := fmod_lo x (n := (D : Int)) (by omega)
  have h2 := fmod_hi x (n := (D : Int)) (by omega)
  exact ⟨(Int.fmod x (D : Int)).toNat, by omega, by omega⟩
/-- facts that omega is not to meet -/
structure Nz (x : Int) : Prop where
  out : x ≠ 0
structure K23 (k : Nat) : Prop where
  out : k = 2 ∨ k = 3
theorem split_k {P : Int → Prop} (x : Int) (h : ∀ k : Nat, K23 k → 2 ^ k ≤ 8 → Nz ((2 ^ k : Nat) : Int) → Nz ((5 : Int) - (k : Int)) → Nz ((4 : Int) - (k : Int)) → P (k : Int)) : P (2 + Int.fmod x 2) := by
  obtain ⟨n, e, hn⟩ := fmod_nat x (d := 2) (D := 2) rfl (by decide)
  rw [e]
  have hk : 2 + n = 2 ∨ 2 + n = 3 := by omega
  have hp := pow_range hk
  have := h (2 + n) ⟨hk⟩ hp.1 ⟨by omega⟩ ⟨by omega⟩ ⟨by omega⟩
  rwa [show ((2 + n : Nat) : Int) = 2 + (n : Int) by omega] at this
theorem split_n {P : Int → Prop} (x : Int) {k : Nat} (h : ∀ n : Nat, n < 2 ^ k → P (n : Int)) : P (Int.fmod x ((2 ^ k : Nat) : Int)) := by
  obtain ⟨n, e, hn⟩ := fmod_nat x (D := 2 ^ k) rfl (Nat.two_pow_pos k)
  rw [e]; exact h n hn
theorem split_b {P : Int → Prop} (x : Int) (h : ∀ b : Nat, BOk b → P (b : Int)) : P (1 + Int.fmod x 4 * 2) := by
  obtain ⟨n, e, hn⟩ := fmod_nat x (d := 4) (D := 4) rfl (by decide)
  rw [e]
  have := h (1 + n * 2) ⟨by omega, by omega⟩
  rwa [show ((1 + n * 2 : Nat) : Int) = 1 + (n : Int) * 2 by omega] at this
theorem split_a {P : Int → Prop} (x : Int) {k : Nat} (hk : k = 2 ∨ k = 3) (h : ∀ a : Nat, AOk a → P (a : Int)) : P (1 + Int.fmod x (5 - (k : Int)) * 2) := by
  obtain ⟨n, e, hn⟩ := fmod_nat x (d := 5 - (k : Int)) (D := 5 - k) (by omega) (by omega)
  rw [e]
  have := h (1 + n * 2) ⟨by omega, by omega⟩
  rwa [show ((1 + n * 2 : Nat) : Int) = 1 + (n : Int) * 2 by omega] at this
theorem split_m {P : Int → Prop} (x : Int) {k : Nat} (hk : k = 2 ∨ k = 3) (h : ∀ m : Nat, 1 ≤ m → m ≤ 4 - k → m ≤ 8 → P (m : Int)) : P (1 + Int.fmod x (4 - (k : Int))) := by
  obtain ⟨n, e, hn⟩ := fmod_nat x (d := 4 - (k : Int)) (D := 4 - k) (by omega) (by omega)
  rw [e]
  have := h (1 + n) (by omega) (by omega) (by omega)
  rwa [show ((1 + n : Nat) : Int) = 1 + (n : Int) by omega] at this
theorem ne_keep {a b : Addr} (h : a ≠ b) : @Ne Nat a b := h
theorem TupFrom.mono {l l' : List (Addr × Obj)} (hs : ∀ p ∈ l, p ∈ l') {f : Nat → Str} {g : Nat → Int} : ∀ {vs : List Value} {i : Nat}, TupFrom l f g i vs → TupFrom l' f g i vs
  | [], _, _ => True.intro
  | _ :: _, _, ⟨⟨D, o, e, hm, q⟩, h⟩ => ⟨⟨D, o, e, hs _ hm, q⟩, TupFrom.mono hs h⟩
theorem TupFrom.snoc {l : List (Addr × Obj)} {f : Nat → Str} {g : Nat → Int} {D : Addr} {t u : Tok} {c : Nat} : ∀ {vs : List Value} {i : Nat}, TupFrom l f g i vs → (D, ({ cls := .type "tuple", data := .seq #[.str (f (i + vs.length)) t, .int (g (i + vs.length)) u] c } : Obj)) ∈ l → TupFrom l f g i (vs ++ [.ref D])
  | [], _, _, hm => ⟨⟨D, _, rfl, hm, t, u, c, rfl⟩, True.intro⟩
  | v :: r, i, ⟨h1, h2⟩, hm => ⟨h1, TupFrom.snoc h2 (by rw [List.length_cons, show i + (r.length + 1) = i + 1 + r.length by omega] at hm; exact hm)⟩
theorem RowFrom.snoc {f : Nat → Str} {t : Tok} : ∀ {vs : List Value} {i : Nat}, RowFrom f i vs → RowFrom f i (vs ++ [.str (f (i + vs.length)) t])
  | [], _, _ => ⟨⟨t, rfl⟩, True.intro⟩
  | v :: r, i, ⟨h1, h2⟩ => ⟨h1, by rw [List.length_cons, show i + (r.length + 1) = i + 1 + r.length by omega]; exact RowFrom.snoc h2⟩
theorem off_ne {a b : Nat} (h : b < a) : @Ne Nat a b := fun e => absurd (e ▸ h) (Nat.lt_irrefl _)
noncomputable def WalkElt (news tl : List (Addr × Obj)) (a b k i : Nat) (y : Value) (news' : List (Addr × Obj)) : Prop :=
  ∃ D t u c, y = .ref D ∧ news' = news ++ (tl ++ [(D, ({ cls := .type "tuple", data := .seq #[.str (tx (rowOf a b k i)) t, .int ((iter a b k i : Nat) : Int) u] c } : Obj))])
theorem off3_snoc {I C D : Addr} {l l' : List (Addr × Obj)} {p : Addr × Obj} (h : LCg.Off3 I C D (l ++ l')) (h1 : p.1 ≠ I) (h2 : p.1 ≠ C) (h3 : p.1 ≠ D) : LCg.Off3 I C D (l ++ (l' ++ [p])) := by
  refine LCg.Off3.of fun q hq => ?_
  rw [← List.append_assoc] at hq
  rcases List.mem_append.mp hq with hq | hq
  · exact h.mem q hq
  · rw [List.mem_singleton.mp hq]; exact ⟨h1, h2, h3⟩
theorem comp_endW {h₀ : Heap} {L I C D D9 : Addr} {m : Str → Option Value} {s₁ : Shared} {oI oC oD : Obj} {a b k i : Nat} {t u : Tok} {c : Nat} {h' : Heap} {tk : Nat} {news tl : List (Addr × Obj)}
    (F : Fr h₀ L h' m) (N : News h₀ L h' ((D9, ({ cls := .type "tuple", data := .seq #[.str (tx (rowOf a b k i)) t, .int ((iter a b k i : Nat) : Int) u] c } : Obj)) :: (I, oI) :: (C, oC) :: (D, oD) :: (news ++ tl)))
    (off : LCg.Off3 I C D (news ++ tl)) (lt : ∀ q ∈ (I, oI) :: (C, oC) :: (D, oD) :: (news ++ tl), ∀ p ∈ [(D9, ({ cls := .type "tuple", data := .seq #[.str (tx (rowOf a b k i)) t, .int ((iter a b k i : Nat) : Int) u] c } : Obj))], q.1 < p.1) :
    LCg.CompEnd h₀ L m s₁ I oI C oC D oD (fun _ => True) (WalkElt news tl a b k i) (.ref D9) { s₁ with heap := h', toks := tk } := by
  have l := fun q hq => lt q hq _ (List.Mem.head _)
  refine LCg.CompEnd.intro F N _ ?_ (off3_snoc off (off_ne (l _ (.head _))) (off_ne (l _ (.tail _ (.head _)))) (off_ne (l _ (.tail _ (.tail _ (.head _)))))) True.intro ⟨D9, t, u, c, rfl, rfl⟩
  intro p hp
  simp only [List.mem_cons, List.mem_append, List.not_mem_nil, or_false] at hp ⊢
  rcases hp with h | h | h | h | h | h <;> simp [h]
section
variable {prog : Program} {w : World} {A : Around} {E : Value → Shared → Prop} {s₁ : Shared} {h₀ : Heap} {L : Addr} {m : Str → Option Value} {env : Env}
theorem walks_src {elt : PySem.Expr} {x : Str} {scope : Scope} {cl : List (Str × Addr)} {Fin : Shared → List Value → List (Addr × Obj) → Prop} {r : Addr} {p : Int} {t u v : Tok} {news : List (Addr × Obj)} {a b k : Nat} (hk : k = 2 ∨ k = 3) (hp : p = ((2 ^ k : Nat) : Int)) (hh : A.handled = none)
    (F : Fr h₀ L s₁.heap m) (N : News h₀ L s₁.heap news) (hr : IsRange s₁.heap r 0 p 1 t u v)
    (step : ∀ (i : Nat) (t : Tok) ys tl I oI C oC D m₂ h tk (E' : Value → Shared → Prop), i < 2 ^ k → LCg.NsObj oC m₂ → m₂ x = some (.int (i : Int) t) → Fr h₀ L h m → News h₀ L h ((I, oI) :: (C, oC) :: (D, LCg.lst ys) :: (news ++ tl)) → LCg.Off3 I C D (news ++ tl) →
      wpAny (model prog w) A (eval elt (compEnvC scope cl C env)) (LCg.CompEnd h₀ L m { s₁ with heap := h, toks := tk } I oI C oC D (LCg.lst ys) (fun _ => True) (WalkElt news tl a b k i)) E' { s₁ with heap := h, toks := tk })
    (fin : ∀ ys tl g, TupFrom tl (fun i => tx (rowOf a b k i)) (fun i => ((iter a b k i : Nat) : Int)) 0 ys → ys.length = 2 ^ k → Fin { s₁ with heap := g } ys (news ++ tl)) :
    LCg.CompSrc prog w A h₀ L m env elt x scope cl Fin (.ref r) s₁ := by
  subst hp
  have hp8 := pow_range hk
  have gen : ∀ n : Nat, Builtin.Range.rangeSize 0 (n : Int) 1 = (n : Int) := fun n => (rangeSize_nat _ _).trans (by simp)
  have hn := gen (2 ^ k)
  refine LCg.CompSrc.range hh F N hr (small_one (by omega) (by omega) (by omega) (by omega)) hn (by rw [sizeLine_eq]; omega) fun g => ?_
  have all : ∀ j i ys tl, TupFrom tl (fun i => tx (rowOf a b k i)) (fun i => ((iter a b k i : Nat) : Int)) 0 ys → ys.length = i → i + j = 2 ^ k →
      LCg.CompRest prog w A h₀ L m env elt x scope cl { s₁ with heap := g } (fun _ => True) (fun i v => ∃ t, v = .int (0 + (i : Int)) t) (Fin { s₁ with heap := g }) j i ys (news ++ tl) := by
    intro j
    induction j with
    | zero =>
      intro i ys tl hT hl hi
      exact LCg.CompRest.zero (fin ys tl g hT (by omega))
    | succ j ih =>
      intro i ys tl hT hl hi
      refine LCg.CompRest.succ ?_
      intro v I oI C oC D m₂ h tk E' hv hC hx F N off ne
      obtain ⟨t, rfl⟩ := hv
      rw [Int.zero_add] at hx
      refine wpAny_mono (step i t ys tl I oI C oC D m₂ h tk E' (by omega) hC hx F N off) (fun y s₂ hq => ?_) fun _ _ e => e
      obtain ⟨h', tk', news', e, F', N', off', hS, D9, t9, u9, c9, hy, hn'⟩ := hq
      subst hy; subst hn'
      refine ⟨h', tk', _, e, F', N', off', hS, ih (i + 1) (ys ++ [.ref D9]) (tl ++ [_]) ?_ (by rw [List.length_append, hl]; rfl) (by omega)⟩
      refine TupFrom.snoc (t := t9) (u := u9) (c := c9) (TupFrom.mono (fun p hp => List.mem_append_left _ hp) hT) ?_
      rw [hl, Nat.zero_add]
      exact List.mem_append_right _ (List.mem_singleton.mpr rfl)
  have := all (2 ^ k) 0 [] [] True.intro rfl (by omega)
  rwa [List.append_nil] at this
theorem rows_src {x x₂ : Str} {pos : Pos} {scope : Scope} {cl : List (Str × Addr)} {Fin : Shared → List Value → List (Addr × Obj) → Prop} {ax : Addr} {ys : List Value} {news tl : List (Addr × Obj)} {f : Nat → Str} {g : Nat → Int}
    (hh : A.handled = none) (F : Fr h₀ L s₁.heap m) (N : News h₀ L s₁.heap news) (hm : (ax, LCg.lst ys) ∈ news) (hT : TupFrom tl f g 0 ys) (hs : ∀ p ∈ tl, p ∈ news) (hsz : ys.length ≤ 8)
    (hk : ∀ C, (compEnvC scope cl C env).scope.kind = .function) (hl : ∀ C, (compEnvC scope cl C env).kindOf x = some .local) (hd : (x == ("__debug__" : Str)) = false)
    (fin : ∀ rs g, RowFrom f 0 rs → rs.length = ys.length → Fin { s₁ with heap := g } rs news) :
    LCp.SrcLP prog w A h₀ L m env (.Name x pos) x x₂ scope cl Fin (.ref ax) s₁ := by
  refine LCp.SrcLP.ledger hh F N hm (by rw [List.size_toArray, sizeLine_eq]; omega) fun g₀ => ?_
  have hS : LCg.SrcAt h₀ ax ys.toArray news := .inr ⟨_, hm, rfl, _, rfl⟩
  have hT' := TupFrom.mono hs hT
  have all : ∀ j i rs, RowFrom f 0 rs → rs.length = i → i + j = ys.length →
      LCp.CompRestP prog w A h₀ L m env (.Name x pos) x x₂ scope cl { s₁ with heap := g₀ } (LCg.SrcAt h₀ ax ys.toArray) (fun i v => ys.toArray[i]? = some v) (Fin { s₁ with heap := g₀ }) j i rs news := by
    intro j
    induction j with
    | zero => intro i rs hR hi hj; exact LCp.CompRestP.zero (fin rs g₀ hR (by omega))
    | succ j ih =>
      intro i rs hR hi hj
      refine LCp.CompRestP.succ fun v hv => ?_
      obtain ⟨D, o, e, hD, t, u, c, rfl⟩ := hT'.at (j := i) (by omega)
      rw [Nat.zero_add] at hD
      have hv' : ys[i]? = some v := by simpa using hv
      rw [e] at hv'
      cases hv'
      refine ⟨D, _, _, _, _, rfl, hD, rfl, rfl, ?_⟩
      intro I oI C oC Dl m₂ h tk E' hC hx hx2 F₁ N₁ off ne
      refine LCgL.ld_own N₁ (.tail _ (.head _)) hC hx ?_ (hk C) (hl C) hd
      refine LCg.CompEnd.intro F₁ N₁ news (fun _ hp => hp) off hS (ih (i + 1) _ ?_ (by rw [List.length_append, hi]; rfl) (by omega))
      have := RowFrom.snoc (t := t) hR
      rw [hi, Nat.zero_add] at this
      exact this
  exact all _ 0 [] True.intro rfl (by rw [Nat.zero_add, List.size_toArray])
end
end Mine
namespace Mine
open PySem PySem.W PyProof.Rows PySem.Calls PySem.Spec
section
variable {prog : Program} {w : World} {A : Around} {E : Value → Shared → Prop} {s : Shared} {h₀ : Heap} {L : Addr} {m : Str → Option Value} {env : Env}
/-- the source of a comprehension of ints over a range by steps of c -/
noncomputable def Src2 (prog : Program) (w : World) (A : Around) (h₀ : Heap) (L : Addr) (m : Str → Option Value) (env : Env) (elt : PySem.Expr) (x : Str) (scope : Scope) (cl : List (Str × Addr)) (Q : Value → Shared → Prop) (xv : Value) (s₁ : Shared) : Prop :=
  ∃ r a b c t u v n news, xv = .ref r ∧ A.handled = none ∧ Fr h₀ L s₁.heap m ∧ News h₀ L s₁.heap news ∧ IsRange s₁.heap r a b c t u v ∧ Builtin.Range.small a b c = true ∧ Builtin.Range.rangeSize a b c = ((n : Nat) : Int) ∧ n ≤ sizeLine ∧
    ∀ s₂ : Shared, (∃ h, s₂ = { s₁ with heap := h }) → LCg.CompRest prog w A h₀ L m env elt x scope cl s₂ (fun _ => True) (fun i v => ∃ t, v = .int (a + (i : Int) * c) t) (LCg.FinE h₀ L m s₂ Q) n 0 [] news
theorem range_stc {I : Addr} {a c : Int} {n : Nat} : ∀ i (h h' : Heap) (o : Obj) (nw : List (Addr × Obj)), IsRangeIter h I (a + (i : Nat) * c) ((n : Int) - (i : Nat)) c → h.get? I = some o → h'.get? I = some o → (∀ b o, h₀.get? b = some o → h'.get? b = some o) → News h₀ L h' nw → True → IsRangeIter h' I (a + (i : Nat) * c) ((n : Int) - (i : Nat)) c :=
  fun i h h' o nw st e e' _ _ _ => by
    have st' : h.get? I = some _ := st
    show h'.get? I = some _
    rw [e', ← e]; exact st'
theorem ListComp_two {elt iter : PySem.Expr} {x : Str} {px : Pos} {scope : Scope} {cl : List (Str × Addr)} {pos : Pos} {Q : Value → Shared → Prop} (_F₀ : Fr h₀ L s.heap m)
    (hclos : closureFor scope env = pure cl) (hcell : ∀ y ∈ scope.names, y.2 ≠ .cell) (hkind : scope.kind = .function)
    (hnames : ∀ y ∈ scope.names, y.2 = .local → scope.names.lookup y.1 = some .local) (hx : scope.names.lookup x = some .local)
    (h : wpAny (model prog w) A (eval iter env) (Src2 prog w A h₀ L m env elt x scope cl Q) E s)
    (hs : ∀ x, foldedSetIterable iter env x = pure x := by intro _; rfl) :
    wpAny (model prog w) A (eval (.ListComp elt [⟨.Name x px, iter, [], 0⟩] scope pos) env) Q E s := by
  rw [eval_ListComp]
  refine wpAny_comprehension_free (use := none) rfl hs hclos hkind hnames (wpAny_mono h (fun xv s₁ h₁ => ?_) fun _ _ e => e)
  obtain ⟨r, a, b, c, t, u, v, n, news, rfl, hh, F, N, hr, hsm, hn, hsz, R⟩ := h₁
  refine wpAny_pyIter_range hr hsm ?_
  refine LCg.block_U (Walks.range hh s₁.heap.objs.size a c n) hsz (fun i h st => ⟨_, st⟩) range_stc hcell hkind hx (by show IsRangeIter _ _ _ _ _; rw [hn]; simpa using Heap.get?_push_size _ rfl) (fun b hb => ?_)
    (F.keeps fun _ _ e => Heap.get?_push_of_some _ e) (N.grown fun _ _ e => Heap.get?_push_of_some _ e) (Nat.ne_of_lt F.ns.lt) (next_is_new F) (fun p hp => Nat.ne_of_lt (Heap.lt_size (N p hp).1)) trivial (R _ ⟨_, rfl⟩) ?_
  · rw [List.mem_singleton.mp hb]
    show s₁.heap.objs.size < (s₁.heap.push _).objs.size
    rw [Heap.size_push]; exact Nat.lt_succ_self _
  · intro D C h tk m' ys news' F' N' o1 hn hC₀ hD₀ hCL hDL hCD offC fin
    refine ⟨m', hn, fun h'' hs'' => fin D h'' tk (F'.change hs'' hCL hC₀) (fun p hp => ?_) o1⟩
    refine ⟨hs''.extBut _ _ ?_ (N' p hp).1, (N' p hp).2⟩
    rcases List.mem_cons.mp hp with rfl | hp
    · exact Ne.symm hCD
    · exact offC p hp
noncomputable def hand (v : Value) : Sem Value := pure v
theorem hand_ {v : Value} {Q : Value → Shared → Prop} {s : Shared} (h : Q v s) : wpAny (model prog w) A (hand v) Q E s := wpAny_pure h
theorem ListComp_twoH {elt iter : PySem.Expr} {x : Str} {px : Pos} {scope : Scope} {cl : List (Str × Addr)} {pos : Pos} {Q : Value → Shared → Prop} (F₀ : Fr h₀ L s.heap m)
    (hclos : closureFor scope env = pure cl) (hcell : ∀ y ∈ scope.names, y.2 ≠ .cell) (hkind : scope.kind = .function)
    (hnames : ∀ y ∈ scope.names, y.2 = .local → scope.names.lookup y.1 = some .local) (hx : scope.names.lookup x = some .local)
    (h : wpAny (model prog w) A (eval iter env) (fun xv s₁ => wpAny (model prog w) A (hand xv) (Src2 prog w A h₀ L m env elt x scope cl Q) E s₁) E s)
    (hs : ∀ x, foldedSetIterable iter env x = pure x := by intro _; rfl) :
    wpAny (model prog w) A (eval (.ListComp elt [⟨.Name x px, iter, [], 0⟩] scope pos) env) Q E s := by
  intro Γ p hΓ
  exact ListComp_two F₀ hclos hcell hkind hnames hx (wpAny_mono h (fun xv s₁ h₁ => h₁ Γ p hΓ) fun _ _ e => e) hs Γ p hΓ
/-- a comprehension whose elements are ints and make nothing: any of its turns -/
noncomputable def IntElt (news : List (Addr × Obj)) (y : Value) (news' : List (Addr × Obj)) : Prop := news' = news ∧ ∃ k t, y = .int k t
theorem comp_ints {elt : PySem.Expr} {x : Str} {scope : Scope} {cl : List (Str × Addr)} {a c : Int} {n : Nat} {news : List (Addr × Obj)} {Q : Value → Shared → Prop}
    (step : ∀ (i : Nat) (t : Tok) ys I oI C oC D m₂ h tk (E' : Value → Shared → Prop), i < n → LCg.NsObj oC m₂ → m₂ x = some (.int (a + (i : Int) * c) t) → Fr h₀ L h m → News h₀ L h ((I, oI) :: (C, oC) :: (D, LCg.lst ys) :: news) → LCg.Off3 I C D news → ((@Ne Nat I C) ∧ (@Ne Nat I D) ∧ (@Ne Nat C D)) →
      wpAny (model prog w) A (eval elt (compEnvC scope cl C env)) (LCg.CompEnd h₀ L m { s with heap := h, toks := tk } I oI C oC D (LCg.lst ys) (fun _ => True) (IntElt news)) E' { s with heap := h, toks := tk })
    (fin : ∀ ys xs D h tk, IntsAre ys xs → xs.length = n → Fr h₀ L h m → News h₀ L h ((D, LCg.lst ys) :: news) → LCg.Off1 D news → Q (.ref D) { s with heap := h, toks := tk }) :
    LCg.CompRest prog w A h₀ L m env elt x scope cl s (fun _ => True) (fun i v => ∃ t, v = .int (a + (i : Int) * c) t) (LCg.FinE h₀ L m s Q) n 0 [] news := by
  have all : ∀ k i ys xs, IntsAre ys xs → xs.length = i → i + k = n → LCg.CompRest prog w A h₀ L m env elt x scope cl s (fun _ => True) (fun i v => ∃ t, v = .int (a + (i : Int) * c) t) (LCg.FinE h₀ L m s Q) k i ys news := by
    intro k
    induction k with
    | zero =>
      intro i ys xs hI hl hk
      refine LCg.CompRest.zero ?_
      intro D h tk F N o1
      exact fin ys xs D h tk hI (by omega) F N o1
    | succ k ih =>
      intro i ys xs hI hl hk
      refine LCg.CompRest.succ ?_
      intro v I oI C oC D m₂ h tk E' hv hC hx F N off ne
      obtain ⟨t, rfl⟩ := hv
      refine wpAny_mono (step i t ys I oI C oC D m₂ h tk E' (by omega) hC hx F N off ne) (fun y s₂ hq => ?_) fun _ _ e => e
      obtain ⟨h', tk', news', e, F', N', off', hS, hn', y', t', rfl⟩ := hq
      subst hn'
      exact ⟨h', tk', news', e, F', N', off', hS, ih (i + 1) (ys ++ [.int y' t']) (xs ++ [y']) (hI.append (.cons _ _ .nil)) (by rw [List.length_append, hl]; rfl) (by omega)⟩
  exact all n 0 [] [] .nil rfl (by omega)
end
noncomputable def twoOk (a b : Nat) : Bool := Builtin.Range.small a b 2 && (Builtin.Range.rangeSize a b 2 == ((Builtin.Range.rangeSize a b 2).toNat : Int)) && decide ((Builtin.Range.rangeSize a b 2).toNat ≤ 6) && (List.range (Builtin.Range.rangeSize a b 2).toNat).all fun i => decide ((a : Int) + (i : Int) * 2 < b)
theorem two_ok : ∀ a ∈ [0, 1], ∀ b ∈ List.range 13, twoOk a b = true := by decide +kernel
theorem two_at {a b : Int} (ha : a = 0 ∨ a = 1) (h0 : 0 ≤ b) (h1 : b ≤ 12) : ∃ a' b' : Nat, a = (a' : Int) ∧ b = (b' : Int) ∧ twoOk a' b' = true := by
  refine ⟨a.toNat, b.toNat, ?_, (Int.toNat_of_nonneg h0).symm, two_ok _ ?_ _ (List.mem_range.mpr (by omega))⟩
  · rcases ha with rfl | rfl <;> rfl
  · rcases ha with rfl | rfl <;> decide
theorem two_small {a b : Int} (ha : a = 0 ∨ a = 1) (h0 : 0 ≤ b) (h1 : b ≤ 12) : Builtin.Range.small a b 2 = true := by
  obtain ⟨a', b', rfl, rfl, h⟩ := two_at ha h0 h1
  exact (Bool.and_eq_true_iff.mp (Bool.and_eq_true_iff.mp (Bool.and_eq_true_iff.mp h).1).1).1
theorem two_size {a b : Int} (ha : a = 0 ∨ a = 1) (h0 : 0 ≤ b) (h1 : b ≤ 12) : ∃ n : Nat, Builtin.Range.rangeSize a b 2 = (n : Int) ∧ n ≤ 6 ∧ ∀ i : Nat, i < n → 0 ≤ a + (i : Int) * 2 ∧ a + (i : Int) * 2 < b := by
  obtain ⟨a', b', rfl, rfl, h⟩ := two_at ha h0 h1
  obtain ⟨h, h4⟩ := Bool.and_eq_true_iff.mp h
  obtain ⟨h, h3⟩ := Bool.and_eq_true_iff.mp h
  obtain ⟨_, h2⟩ := Bool.and_eq_true_iff.mp h
  exact ⟨_, eq_of_beq h2, of_decide_eq_true h3, fun i hi => ⟨Int.add_nonneg (Int.natCast_nonneg _) (Int.mul_nonneg (Int.natCast_nonneg _) (by decide)), of_decide_eq_true (List.all_eq_true.mp h4 i (List.mem_range.mpr hi))⟩⟩
section
variable {prog : Program} {w : World} {A : Around} {E : Value → Shared → Prop} {s₁ : Shared} {h₀ : Heap} {L : Addr} {m : Str → Option Value} {env : Env}
theorem src2_of {elt : PySem.Expr} {x : Str} {scope : Scope} {cl : List (Str × Addr)} {Q : Value → Shared → Prop} {r : Addr} {a : Int} {xs : List Int} {t u v : Tok} {news : List (Addr × Obj)} (ha : a = 0 ∨ a = 1) (hl : xs.length ≤ 12) (hh : A.handled = none)
    (F : Fr h₀ L s₁.heap m) (N : News h₀ L s₁.heap news) (hr : IsRange s₁.heap r a (xs.length : Int) 2 t u v)
    (step : ∀ (k : Int) (t : Tok) ys I oI C oC D m₂ h tk (E' : Value → Shared → Prop), 0 ≤ k → k < (xs.length : Int) → LCg.NsObj oC m₂ → m₂ x = some (.int k t) → Fr h₀ L h m → News h₀ L h ((I, oI) :: (C, oC) :: (D, LCg.lst ys) :: news) → LCg.Off3 I C D news → ((@Ne Nat I C) ∧ (@Ne Nat I D) ∧ (@Ne Nat C D)) →
      wpAny (model prog w) A (eval elt (compEnvC scope cl C env)) (LCg.CompEnd h₀ L m { s₁ with heap := h, toks := tk } I oI C oC D (LCg.lst ys) (fun _ => True) (IntElt news)) E' { s₁ with heap := h, toks := tk })
    (fin : ∀ ys zs D h tk, IntsAre ys zs → zs.length ≤ 6 → Fr h₀ L h m → News h₀ L h ((D, LCg.lst ys) :: news) → LCg.Off1 D news → Q (.ref D) { s₁ with heap := h, toks := tk }) :
    Src2 prog w A h₀ L m env elt x scope cl Q (.ref r) s₁ := by
  obtain ⟨n, hn, h6, hb⟩ := two_size (b := (xs.length : Int)) ha (by omega) (by omega)
  refine ⟨r, a, _, 2, t, u, v, n, news, rfl, hh, F, N, hr, two_small ha (by omega) (by omega), hn, by rw [sizeLine_eq]; omega, ?_⟩
  rintro s₂ ⟨g, rfl⟩
  refine comp_ints (s := { s₁ with heap := g }) ?_ ?_
  · intro i t ys I oI C oC D m₂ h tk E' hi hC hx F N off ne
    exact step _ t ys I oI C oC D m₂ h tk E' (hb i hi).1 (hb i hi).2 hC hx F N off ne
  · intro ys zs D h tk hI hz F N o1
    exact fin ys zs D h tk hI (by omega) F N o1
end
theorem marks_len {f : Int → Int} {ns : List Int} : (List.map f (List.take 12 ns)).length ≤ 12 := by
  rw [List.length_map]; exact List.length_take_le _ _
end Mine
namespace Mine
open PySem PySem.W PyProof.Rows
/-- the end of a turn that has made nothing -/
theorem comp_end0 {h₀ : Heap} {L I C D : Addr} {m : Str → Option Value} {s₁ : Shared} {oI oC oD : Obj} {S : List (Addr × Obj) → Prop} {rest : Value → List (Addr × Obj) → Prop} {y : Value} {h' : Heap} {tk : Nat} {news : List (Addr × Obj)}
    (F : Fr h₀ L h' m) (N : News h₀ L h' ((I, oI) :: (C, oC) :: (D, oD) :: news)) (off : LCg.Off3 I C D news) (hS : S news) (r : rest y news) :
    LCg.CompEnd h₀ L m s₁ I oI C oC D oD S rest y { s₁ with heap := h', toks := tk } := LCg.CompEnd.intro F N news (fun _ h => h) off hS r
theorem law_top : PySem.Challenge.rw_tp0045_01.Holds := Mine.hd (by
  w_top off
  k_go0
  (all_goals try k_fold)
  repeat' (first
    | ((with_reducible show wpAny _ _ (storeName _ _ (Value.int _ (@HAdd.hAdd _ _ _ _ _ _))) _ _ _); (refine gen_int ?_); (intro t9))
    | ((with_reducible show wpAny _ _ (storeName _ _ (Value.int _ (Shared.toks _))) _ _ _); (refine gen_int ?_); (intro t9))
    | ((with_reducible show wpAny _ _ (storeName _ _ (Value.str _ (@HAdd.hAdd _ _ _ _ _ _))) _ _ _); (refine gen_str ?_); (intro t9))
    | ((with_reducible show wpAny _ _ (storeName _ _ (Value.str _ (Shared.toks _))) _ _ _); (refine gen_str ?_); (intro t9))
    | ((with_reducible show wpAny _ _ (exec _ _) _ _ _); k_fold; (refine let_state ?_); (intro s8))
    | ((with_reducible show wpAny _ _ (execs (_ :: _) _) _ _ _); k_fold)
    | ((with_reducible show wpAny _ _ (isTrue _ _ _) _ _ _); k_fold)
    | (k_unfold; (try dsimp only))
    | ((with_reducible show wpAny _ _ (storeName _ (Str.ofString "u") _) _ _ _); (rename News _ _ _ _ => nO7); (have nN7 := news_drop nO7); (clear nO7); (clear o7); walk1; (rename Fr _ _ _ _ => lF8); (refine let_fr lF8 ?_); (intro m8 lG8); (clear lF8))
    | ((with_reducible show wpAny _ _ (storeName _ (Str.ofString "w") _) _ _ _); (rename News _ _ _ _ => nO7); (have nN7 := news_drop (news_drop nO7)); (clear nO7); (clear o7); walk1; (rename Fr _ _ _ _ => lF8); (refine let_fr lF8 ?_); (intro m8 lG8); (clear lF8))
    | ((with_reducible show wpAny _ _ (storeName _ _ (Value.int _ _)) _ _ _); first
        | ((with_reducible show wpAny _ _ (storeName _ (Str.ofString "k") _) _ _ _); (refine split_k (P := fun v => wpAny _ _ (storeName _ (Str.ofString "k") (Value.int v _)) _ _ _) _ ?_); (intro k9 hk9 hp9 hq9 h59 h49); (try dsimp only))
        | ((with_reducible show wpAny _ _ (storeName _ (Str.ofString "n") (Value.int (Int.fmod _ _) _)) _ _ _); (refine split_n (P := fun v => wpAny _ _ (storeName _ (Str.ofString "n") (Value.int v _)) _ _ _) _ ?_); (intro n9 hn9); (try dsimp only))
        | ((with_reducible show wpAny _ _ (storeName _ (Str.ofString "b") (Value.int (1 + Int.fmod _ 4 * 2) _)) _ _ _); (refine split_b (P := fun v => wpAny _ _ (storeName _ (Str.ofString "b") (Value.int v _)) _ _ _) _ ?_); (intro b9 hB9); (try dsimp only))
        | ((with_reducible show wpAny _ _ (storeName _ (Str.ofString "a") (Value.int (1 + Int.fmod _ _ * 2) _)) _ _ _); (refine split_a (P := fun v => wpAny _ _ (storeName _ (Str.ofString "a") (Value.int v _)) _ _ _) _ hk9.out ?_); (intro a9 hA9); (try dsimp only))
        | ((with_reducible show wpAny _ _ (storeName _ (Str.ofString "m") (Value.int (1 + Int.fmod _ _) _)) _ _ _); (refine split_m (P := fun v => wpAny _ _ (storeName _ (Str.ofString "m") (Value.int v _)) _ _ _) _ hk9.out ?_); (intro m9 hm19 hm9 hm8); (try dsimp only)))
    | ((with_reducible show wpAny _ _ (eval (PySem.Expr.ListComp (PySem.Expr.Subscript _ _ _) _ _ _) _) _ _ _); (refine ListComp_twoH (F₀ := by k_asm) (by rfl) (by decide) (by rfl) (by decide) (by rfl) ?_))
    | ((with_reducible show wpAny _ _ (hand _) _ _ _); (refine hand_ ?_); (rename Fr _ _ _ _ => lF'); (rename News _ _ _ _ => lN'); (rename IsRange _ _ _ _ _ _ _ _ => rgX);
        (with_unfolding_all refine' src2_of ?ha ?hl ?hh lF' lN' rgX ?_ ?_); (case ha => decide); (case hl => exact marks_len); (case hh => with_unfolding_all rfl);
        (all_goals (clear lF' lN'));
        (all_goals first
          | ((intro ys7 zs7 D7 h7 tk7 I7 l7 F7 N7 o7); (simp only [LCg.Off1, and_true] at o7); (try dsimp only))
          | (intro i7 t7 ys7 I7 oI7 C7 oC7 D7 m7 h7 tk7 E7 g7 l7 n7 x7 F7 N7 o7 e7));
        (all_goals (try k_fold)))
    | ((with_reducible show IntElt _ _ _); (exact ⟨rfl, _, _, rfl⟩))
    | ((with_reducible show LCg.CompEnd _ _ _ _ _ _ _ _ _ _ _ _ _ _); first
        | (exact comp_endW (by k_asm) (by k_asm) (by assumption) (by assumption))
        | (refine comp_end0 (by k_asm) (by k_asm) (by assumption) True.intro ?_))
    | ((with_reducible show wpAny _ _ (exec (PySem.Stmt.Assign [_] (PySem.Expr.ListComp (PySem.Expr.Call _ _ _ _) _ _ _) _) _) _ _ _);
        (refine LCg.Assign_ListComp_U (F₀ := by k_asm) (by rfl) (by with_unfolding_all rfl) (by with_unfolding_all rfl) (by decide) (by rfl) (by decide) (by rfl) (by rfl) (by rfl) ?_))
    | ((with_reducible show LCg.CompSrc _ _ _ _ _ _ _ _ _ _ _ _ _ _); (rename Fr _ _ _ _ => lF'); (rename News _ _ _ _ => lN'); (rename IsRange _ _ _ _ _ _ _ _ => rgX);
        (refine' walks_src (a := a9) (b := b9) hk9.out rfl ?hh lF' lN' rgX ?_ ?_); (case hh => with_unfolding_all rfl); (all_goals (clear lF' lN'));
        (all_goals first
          | ((intro i8 t8 ys8 tl8 I8 oI8 C8 oC8 D8 m8 h8 tk8 E8 li8 n8 x8 F8 N8 o8); (simp only [List.cons_append, List.nil_append] at N8))
          | (intro ys8 tl8 g8 T8 len8));
        (all_goals (try k_fold)))
    | ((with_reducible show wpAny _ _ (exec (PySem.Stmt.Assign [_] (PySem.Expr.ListComp (PySem.Expr.Name _ _) _ _ _) _) _) _ _ _);
        (refine LCp.Assign_ListComp_P (F₀ := by k_asm) (by rfl) (by with_unfolding_all rfl) (by with_unfolding_all rfl) (by decide) (by rfl) (by decide) (by rfl) (by rfl) (by decide) (by rfl) (by rfl) ?_))
    | ((with_reducible show LCp.SrcLP _ _ _ _ _ _ _ _ _ _ _ _ _ _ _);
        (refine rows_src (by with_unfolding_all rfl) (by k_asm) (by k_asm) (by k_mem) T8 (by (intro p hp; repeat' first | exact hp | exact List.mem_append_left _ hp | refine List.mem_cons_of_mem _ ?_)) (by rw [len8]; exact hp9) (fun _ => rfl) (fun _ => rfl) (by decide) ?_); (intro rs8 g9 R8 lr8))
    | ((with_reducible show wpAny _ _ (call _ [Value.int (Nat.cast _) _]) _ _ _); (rename Fr _ _ _ _ => lF'); (rename News _ _ _ _ => lN'); (with_unfolding_all refine range1_rows lF' lN' ?_); (intro _ _ _ _ _ _ _ _ _); (clear lF' lN'); (try dsimp only))
    | ((with_reducible show wpAny _ _ (pyIter (Value.ref _)) _ _ _); (rename Fr _ _ _ _ => lF'); (rename News _ _ _ _ => lN'); (rename IsRange _ _ _ _ _ _ _ _ => rgX);
        (with_unfolding_all refine' each_range (n := 2 ^ k9) rfl (Nat.le_trans hp9 (by decide)) ?hh rgX lF' lN' ?_ ?_); (case hh => with_unfolding_all rfl); (all_goals (clear lF' lN'));
        (all_goals first
          | ((intro j9 t9 h9 tk9 own9 l9 o9 F9 N9); (simp only [List.cons_append, List.nil_append] at N9); (obtain ⟨f19, f29, f39, f49⟩ := one_facts hk9.out hA9 hB9 l9))
          | ((intro u9 h9 tk9 F9 N9); (try dsimp only)));
        (all_goals (try k_fold)))
    | ((with_reducible show InvEndN _ _ _ _ _ _ _); (rename News _ _ _ _ => nE'); (refine each_end (by assumption) nE' (by exact fun _ hp => hp) rfl (by (intro z h1; (repeat (refine ifn (by with_reducible assumption) ?_)); first | exact rfl | ((repeat (refine ifnR (by with_reducible assumption) ?_)); exact rfl)))))
    | ((with_reducible show wpAny _ _ (call (Value.ref _) _) _ _ _);
        (first
          | (refine' Ctr.use (walk_at hk9.out li8 hA9 hB9) ?k1 ?k2 ?k3 ?k4 ?k5 ?kK ?kd ?ku ?_)
          | (refine' Ctr.use (lend_ctr f49) ?k1 ?k2 ?k3 ?k4 ?k5 ?kK ?kd ?ku ?_)
          | (refine' Ctr.use (walk_fin hk9.out hn9 hm9 hA9 hB9) ?k1 ?k2 ?k3 ?k4 ?k5 ?kK ?kd ?ku ?_));
        (case k1 => k_asm); (case k2 => k_asm); (case k3 => k_asm); (case k4 => k_asm); (case k5 => k_asm); (case kK => exact rfl); (case kd => ktr_room); (case ku => ktr_units);
        (intro r9 tl9 h9 tk9 F9 N9 l9 hR9);
        (first
          | ((obtain ⟨t59, e9, e9'⟩ := hR9); (subst e9); (subst e9'); (clear l9))
          | ((obtain ⟨D9, c9, t59, t69, e9, e9'⟩ := hR9); (subst e9); (subst e9')));
        (simp only [List.cons_append, List.nil_append] at N9); (try dsimp only); (try k_sweep); (try k_fold))
    | ((with_reducible show wpAny _ _ (call (Value.builtin _) _) _ _ _); first
        | (refine count_row (by k_asm) (by k_mem) R8 (lr8.trans len8) f29 ?_)
        | (refine cnt_ones ?_))
    | ((with_reducible show wpAny _ _ (subscriptTail _ _ (Value.ref _) (Value.int _ _)) _ _ _); first
        | ((with_reducible show wpAny _ _ (subscriptTail (PySem.Expr.Subscript _ _ _) _ _ _) _ _ _); (refine item_one (by assumption) ?_))
        | ((with_reducible show wpAny _ _ (subscriptTail _ _ _ (Value.int (Nat.cast _) _)) _ _ _); first
          | ((refine item_row hk9.out (by k_asm) (by k_mem) R8 (lr8.trans len8) (by assumption) ?_); (intro t9))
          | ((refine item_tup hk9.out (by k_asm) (by k_mem) T8 (by (intro p hp; repeat' first | exact hp | exact List.mem_append_left _ hp | refine List.mem_cons_of_mem _ ?_)) len8 (by assumption) ?_); (intro D9 t9 u9 T9))))
    | ((with_reducible show wpAny _ _ (binaryOp _ (Value.int _ _) (Value.int _ _)) _ _ _); first
        | ((with_reducible show wpAny _ _ (binaryOp .Pow _ (Value.int (Nat.cast (List.count _ _)) _)) _ _ _); (refine pow_row hk9.out hA9.le ?_))
        | ((with_reducible show wpAny _ _ (binaryOp .Pow _ (Value.int (Nat.cast _) _)) _ _ _); (refine pow_two hk9.out ?_))
        | ((with_reducible show wpAny _ _ (binaryOp .Mult (Value.int (Nat.cast _) _) _) _ _ _); (refine mul_nat (by assumption) ?_))
        | ((with_reducible show wpAny _ _ (binaryOp .Mod _ _) _ _ _); (refine mod_int' (Nz.out (by with_reducible assumption)) ?_)))
    | ((with_reducible show wpAny _ _ (compareOp _ _ _) _ _ _); first
        | ((with_reducible show wpAny _ _ (compareOp .Eq (Value.str _ _) (Value.str _ _)) _ _ _); (refine eq_b f19 ?_))
        | ((with_reducible show wpAny _ _ (compareOp .NotEq (Value.int (HMul.hMul _ _) _) (Value.int _ _)) _ _ _); (refine ne_same_int f39 ?_))
        | ((with_reducible show wpAny _ _ (compareOp .Eq (Value.ref _) (Value.ref _)) _ _ _); refine eq_pairs ⟨_, News.get (by k_asm) (by k_mem), rfl, _, rfl⟩ ⟨_, News.get (by k_asm) (by k_mem), rfl, _, rfl⟩ row_ok (two_row hk9.out hm19 hm9 hA9 hB9 hn9) (two_end hk9.out hm19 hm9 hA9 hB9 hn9) (by ke_room) ?_))
    | ((with_reducible show wpAny _ _ (storeName _ _ _) _ _ _); walk1; (rename Fr _ _ _ _ => lF8); (refine let_fr lF8 ?_); (intro m8 lG8); (clear lF8))
    | walk1 | (dsimp only; walk1)
    | (k_end; kc_close)))
end Mine
theorem PySem.Challenge.cw_tp0045_01_holds : PySem.Challenge.rw_tp0045_01.Holds := by
  exact Mine.law_top
