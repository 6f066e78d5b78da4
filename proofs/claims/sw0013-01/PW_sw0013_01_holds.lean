import PyProof.Rows.All
import Wide.All
import OpenK.AllK
import Wide.FinOn
import PySem.Builtin.Re_Pattern.W2All
import PySem.Challenge.RW_sw0013_01
set_option Elab.async false
set_option maxRecDepth 100000
set_option maxHeartbeats 40000000
set_option compiler.extract_closed false
section
open PySem PySem.W PyProof.Rows
open_top hd for PySem.Challenge.rw_sw0013_01
end
section
open PySem PySem.W PyProof.Rows PySem.Calls PySem.Spec
namespace Mine
/-- a call of the text's def at f, in any frame: n is the room it wants -/
abbrev SpecOf (f : Addr) (n : Nat) (w : World) (mean : ExcName → Option Value) (mg mb : Str → Option Value) (news : List (Addr × Obj)) (vs : List Value)
    (Ret : Heap → Addr → (Str → Option Value) → Shared → (Value → Shared → Prop) → Prop) : Prop :=
  ∀ (dp un : Nat) (gd : Option (List Code)) (cn : Str) (cs : Scope) (a : Addr) (ccd : Value) (cl : List (Str × Addr)) (outer : List Env) (A₀ : Around) (base h₀ : Heap) (L : Addr) (m : Str → Option Value) (s : Shared) (Q E : Value → Shared → Prop),
    Below A₀ base outer h₀ → Fr h₀ L s.heap m → (hd.heap_39 w.params).In h₀ → News h₀ L s.heap news → Top hd.view_39 (looseW hd.view_39 [Str.ofString "_twin_re_1", Str.ofString "_twin_re_2"]) mean mg mb h₀ → cs.kind = .function →
    dp + n < recursionLimit → un + 8 * n < cLine → Ret h₀ L m s Q → wpAny (model PySem.Challenge.rw_sw0013_01.row.prog w) (ktrTop dp un gd cn cs L a ccd cl outer) (call (.ref f) vs) Q E s
/-- it makes nothing and hands back the value R -/
abbrev Claim (f : Addr) (n : Nat) (w : World) (mean : ExcName → Option Value) (mg mb : Str → Option Value) (news : List (Addr × Obj)) (vs : List Value) (R : Tok → Value) : Prop :=
  SpecOf f n w mean mg mb news vs (fun h₀ L m s Q => ∀ (t : Tok) (h' : Heap) (tk' : Nat), Fr h₀ L h' m → News h₀ L h' news → Q (R t) { s with heap := h', toks := tk' })

noncomputable def subCost (a b : Str) : Int := if a = b then 0 else if Txt.lower a = Txt.lower b then 1 else 2

local macro_rules | `(tactic| walk_at "call builtin:str.lower") => `(tactic| (k_here; (with_reducible show wpAny _ _ (call (Value.builtin "str.lower") [Value.str _ _]) _ _ _); (refine SCL.lower (by omega) ?_); intro _))

theorem subst_walk (w : World) (mean : ExcName → Option Value) (mg mb : Str → Option Value) (news : List (Addr × Obj)) (a b : Str) (ta tb : Tok) (ha : a.length ≤ 40) (hb : b.length ≤ 40) :
   Claim 97 1 w mean mg mb news [.str a ta, .str b tb] (fun t => .int (subCost a b) t) := by
  w_top off
  dsimp only [Claim, SpecOf]
  k_fill
  intros; rename_i hret
  refine wpAny_call ?_
  k_dflt cell_enter
  k_steps
  all_goals (refine cb_retI hret ?_ ?_ ?_ <;> first | assumption | (simp_all [subCost]; done))
end Mine
end
section
open PySem PySem.W PyProof.Rows PySem.Calls PySem.Spec PySem.Builtin PySem.Builtin.Str
namespace Mine
section
variable {prog : Program} {w : World} {A : Around} {E : Value → Shared → Prop} {Q : Flow → Shared → Prop} {s : Shared} {env : Env} {h₀ : Heap} {L : Addr} {x : Str} {m₀ : Str → Option Value} {news : List (Addr × Obj)}
noncomputable def WiEnd (h₀ : Heap) (L : Addr) (s : Shared) (x : Str) (m₀ : Str → Option Value) (news : List (Addr × Obj)) (R : Int → Prop) (s₂ : Shared) : Prop :=
  ∃ (i : Int) (t : Tok) (h' : Heap) (tk : Nat) (m' : Str → Option Value), s₂ = { s with heap := h', toks := tk } ∧ Fr h₀ L h' m' ∧ News h₀ L h' news ∧ m' x = some (.int i t) ∧ (∀ z, z ≠ x → m' z = m₀ z) ∧ R i
noncomputable def WiPost (h₀ : Heap) (L : Addr) (s : Shared) (x : Str) (m₀ : Str → Option Value) (news : List (Addr × Obj)) (R : Int → Prop) (f : Flow) (s₂ : Shared) : Prop :=
  match f with
  | .ret _ => False
  | .brk => False
  | _ => WiEnd h₀ L s x m₀ news R s₂
theorem wi_fr {h : Heap} {m : Str → Option Value} {v : Value} (F : Fr h₀ L h m) (h1 : m x = some v) (h2 : ∀ z, z ≠ x → m z = m₀ z) : Fr h₀ L h (fun y => if y = x then some v else m₀ y) := by
  have e : m = fun y => if y = x then some v else m₀ y := by
    funext y
    by_cases hy : y = x
    · rw [if_pos hy, hy, h1]
    · rw [if_neg hy, h2 y hy]
  exact e ▸ F
theorem while_int {test : Expr} {body : List Stmt} {pos : Pos} (x : Str) (P R : Int → Prop) (μ : Int → Nat) {i₀ : Int} {t₀ : Tok}
    (F : Fr h₀ L s.heap m₀) (N : News h₀ L s.heap news) (hx : m₀ x = some (.int i₀ t₀)) (hp : P i₀)
    (turn : ∀ (i : Int) t h tk, P i → Fr h₀ L h (fun y => if y = x then some (.int i t) else m₀ y) → News h₀ L h news →
      wpAny (model prog w) A (isTrue test env (eval test env)) (fun b s₂ =>
        if b = true then wpAny (model prog w) A (execs body env) (WiPost h₀ L s x m₀ news (fun j => P j ∧ μ j < μ i)) E s₂ else WiEnd h₀ L s x m₀ news R s₂) E { s with heap := h, toks := tk })
    (done : ∀ (i : Int) t h tk, R i → Fr h₀ L h (fun y => if y = x then some (.int i t) else m₀ y) → News h₀ L h news → Q .next { s with heap := h, toks := tk })
    (hE : PassesOwn (model prog w) A env E := by passes_own) :
    wpAny (model prog w) A (exec (.While test body [] pos) env) Q E s := by
  have H : wpAny (model prog w) A (exec (.While test body [] pos) env) (fun fl s₂ => fl = .next ∧ WiEnd h₀ L s x m₀ news R s₂) E s := by
    refine While_inv2 (fun n m nx => nx = news ∧ ∃ (i : Int) (t : Tok), μ i = n ∧ P i ∧ m x = some (.int i t) ∧ (∀ z, z ≠ x → m z = m₀ z)) F N ⟨rfl, i₀, t₀, rfl, hp, hx, fun _ _ => rfl⟩ ?_ hE
    rintro n m₁ nx h tk F₁ N₁ ⟨rfl, i, t, rfl, hp, h1, h2⟩
    refine wpAny_mono (turn i t h tk hp (wi_fr F₁ h1 h2) N₁) (fun b s₂ p => ?_) fun _ _ x => x
    cases b with
    | false => simpa using p
    | true =>
      simp only [if_true] at p ⊢
      refine wpAny_mono p (fun f s₃ q => ?_) fun _ _ x => x
      cases f with
      | ret v => exact q.elim
      | brk => exact q.elim
      | next =>
        obtain ⟨j, t', h', tk', m', rfl, F', N', h3, h4, hp', hm⟩ := q
        exact ⟨h', tk', m', nx, μ j, rfl, F', N', hm, rfl, j, t', rfl, hp', h3, h4⟩
      | cont =>
        obtain ⟨j, t', h', tk', m', rfl, F', N', h3, h4, hp', hm⟩ := q
        exact ⟨h', tk', m', nx, μ j, rfl, F', N', hm, rfl, j, t', rfl, hp', h3, h4⟩
  refine wpAny_mono H (fun fl s₂ p => ?_) fun _ _ x => x
  obtain ⟨rfl, i, t, h', tk, m', rfl, F', N', h1, h2, hR⟩ := p
  exact done i t h' tk hR (wi_fr F' h1 h2) N'
theorem wi_end {R : Int → Prop} {i : Int} {t : Tok} {h' : Heap} {tk : Nat} {m' : Str → Option Value}
    (F : Fr h₀ L h' m') (N : News h₀ L h' news) (h1 : m' x = some (.int i t)) (h2 : ∀ z, z ≠ x → m' z = m₀ z) (hR : R i) : WiEnd h₀ L s x m₀ news R { s with heap := h', toks := tk } := ⟨i, t, h', tk, m', rfl, F, N, h1, h2, hR⟩
end


theorem len_sn {x : Str} {i : Int} (h0 : 0 ≤ i) (h1 : i ≤ x.length) : ((Txt.slice x (some i) none).length : Int) = x.length - i := by
  have h := eq_of_beq (slice_closes_from (x := x) (i := i) ⟨h0, h1⟩)
  have hx : x.cps.toList.length = x.length := by simp [Str.length]
  rw [h]
  simp only [Str.length, List.size_toArray, List.length_take, List.length_drop, Array.length_toList] at *
  omega
theorem len_ns {x : Str} {j : Int} (h0 : j < 0) (h1 : -(x.length : Int) ≤ j) : ((Txt.slice x none (some j)).length : Int) = x.length + j := by
  have h := eq_of_beq (slice_closes_to_neg (x := x) (j := j) (k := j + x.length) h0 h1 rfl)
  have hx : x.cps.toList.length = x.length := by simp [Str.length]
  rw [h]
  simp only [Str.length, List.size_toArray, List.length_take, List.length_drop, Array.length_toList] at *
  omega
theorem slice_nn {x : Str} : Txt.slice x none none = x := by
  have e : (strSliceIndices none none 1 x.length).length = x.length := by
    unfold strSliceIndices sliceRange
    simp
    split <;> omega
  unfold Txt.slice
  rw [e]
  simp
section
variable {prog : Program} {w : World} {A : Around} {E : Value → Shared → Prop} {s : Shared} {value slice : Expr} {x : Str} {t : Tok} {h₀ : Heap} {L : Addr} {m : Str → Option Value} {news : List (Addr × Obj)} {Q : Value → Shared → Prop}
theorem my_nn (hF : Fr h₀ L s.heap m) (hN : News h₀ L s.heap news) (hz : x.length ≤ 1000) (h : ∀ h' t' k, Fr h₀ L h' m → News h₀ L h' news → Q (.str x t') { s with heap := h', toks := k })
    (hs : subscripted slice false (.str x t) (.ref s.heap.objs.size) = operate [.ref s.heap.objs.size, .str x t] (getItem (.str x t) (.ref s.heap.objs.size)) := by with_unfolding_all rfl)
    (ht : ∀ r, letTemporaryGo value (.str x t) r = pure () := by intro _; with_unfolding_all rfl) :
    wpAny (model prog w) A (subscriptTail value slice (.str x t) (.ref s.heap.objs.size)) Q E { s with heap := s.heap.push { cls := .type "slice", data := .fields #[.none, .none, .none] } } :=
  slice_strN_nn hF hN (fun h' t' k a b => by rw [slice_nn]; exact h h' t' k a b) hs ht (by rw [sizeLine_eq]; omega)
theorem my_ns {j : Int} {uj : Tok} (hF : Fr h₀ L s.heap m) (hN : News h₀ L s.heap news) (hz : x.length ≤ 1000) (h0 : j < 0) (h1 : -(x.length : Int) ≤ j) (h : ∀ h' t' k, Fr h₀ L h' m → News h₀ L h' news → ((Txt.slice x none (some j)).length : Int) = x.length + j → Q (.str (Txt.slice x none (some j)) t') { s with heap := h', toks := k })
    (hs : subscripted slice false (.str x t) (.ref s.heap.objs.size) = operate [.ref s.heap.objs.size, .str x t] (getItem (.str x t) (.ref s.heap.objs.size)) := by with_unfolding_all rfl)
    (ht : ∀ r, letTemporaryGo value (.str x t) r = pure () := by intro _; with_unfolding_all rfl) :
    wpAny (model prog w) A (subscriptTail value slice (.str x t) (.ref s.heap.objs.size)) Q E { s with heap := s.heap.push { cls := .type "slice", data := .fields #[.none, .int j uj, .none] } } :=
  slice_strN_ns hF hN (fun h' t' k a b => h h' t' k a b (len_ns h0 h1)) hs ht (by rw [sizeLine_eq]; omega)
theorem my_sn {i : Int} {ui : Tok} (hF : Fr h₀ L s.heap m) (hN : News h₀ L s.heap news) (hz : x.length ≤ 1000) (h0 : 0 ≤ i) (h1 : i ≤ x.length) (h : ∀ h' t' k, Fr h₀ L h' m → News h₀ L h' news → ((Txt.slice x (some i) none).length : Int) = x.length - i → Q (.str (Txt.slice x (some i) none) t') { s with heap := h', toks := k })
    (hs : subscripted slice false (.str x t) (.ref s.heap.objs.size) = operate [.ref s.heap.objs.size, .str x t] (getItem (.str x t) (.ref s.heap.objs.size)) := by with_unfolding_all rfl)
    (ht : ∀ r, letTemporaryGo value (.str x t) r = pure () := by intro _; with_unfolding_all rfl) :
    wpAny (model prog w) A (subscriptTail value slice (.str x t) (.ref s.heap.objs.size)) Q E { s with heap := s.heap.push { cls := .type "slice", data := .fields #[.int i ui, .none, .none] } } :=
  slice_strN_sn hF hN (fun h' t' k a b => h h' t' k a b (len_sn h0 h1)) hs ht (by rw [sizeLine_eq]; omega)
theorem my_item {i : Int} {u : Tok} (h1 : -(x.length : Int) ≤ i) (h2 : i < x.length) (hz : x.length ≤ 1000)
    (h : ∀ t' k, (Txt.item x i).length = 1 → Q (.str (Txt.item x i) t') { s with toks := k })
    (hs : subscripted slice false (.str x t) (.int i u) = operate [.str x t, .int i u] (getItem (.str x t) (.int i u)) := by with_unfolding_all rfl)
    (ht : ∀ r, letTemporaryGo value (.str x t) r = pure () := by intro _; with_unfolding_all rfl) :
    wpAny (model prog w) A (subscriptTail value slice (.str x t) (.int i u)) Q E s :=
  item_str (fitsSsize_of (N := 9223372036854775808) (by omega) (by omega) (Int.le_refl _)) h1 h2 (fun hl => h _ _ (by omega)) hs ht
end

noncomputable def preL (a b : Str) : Nat → Int → Int
  | 0, i => i
  | n + 1, i => if (Txt.slice a (some i) none).length ≠ 0 ∧ (Txt.slice b (some i) none).length ≠ 0 ∧ Txt.item a i = Txt.item b i then preL a b n (i + 1) else i
noncomputable def PreI (a b : Str) (i : Int) : Prop := preL a b (41 - i).toNat i = preL a b 41 0
theorem pre_stop {a b : Str} {i : Int} (ha : i ≤ 40) (h : PreI a b i) (hc : ¬ ((Txt.slice a (some i) none).length ≠ 0 ∧ (Txt.slice b (some i) none).length ≠ 0 ∧ Txt.item a i = Txt.item b i)) : i = preL a b 41 0 := by
  unfold PreI at h
  rw [← h]
  obtain ⟨n, hn⟩ : ∃ n, (41 - i).toNat = n + 1 := ⟨(40 - i).toNat, by omega⟩
  rw [hn, preL, if_neg hc]
theorem pre_turn {a b : Str} {i : Int} (ha : i + 1 ≤ 40) (h : PreI a b i) (hc : (Txt.slice a (some i) none).length ≠ 0 ∧ (Txt.slice b (some i) none).length ≠ 0 ∧ Txt.item a i = Txt.item b i) : PreI a b (i + 1) := by
  unfold PreI at h
  obtain ⟨n, hn⟩ : ∃ n, (41 - i).toNat = n + 1 := ⟨(40 - i).toNat, by omega⟩
  have hn' : (41 - (i + 1)).toNat = n := by omega
  rw [hn, preL, if_pos hc] at h
  unfold PreI
  rw [hn']
  exact h
noncomputable def cutS (a : Str) (i : Int) : Str := if i = 0 then a else Txt.slice a none (some i)
noncomputable def postL (a b : Str) : Nat → Int → Int
  | 0, i => i
  | n + 1, i => if (cutS a i).length ≠ 0 ∧ (cutS b i).length ≠ 0 ∧ Txt.item a (i - 1) = Txt.item b (i - 1) then postL a b n (i - 1) else i
noncomputable def PostI (a b : Str) (i : Int) : Prop := postL a b (41 + i).toNat i = postL a b 41 0
theorem post_stop {a b : Str} {i : Int} (ha : -40 ≤ i) (h : PostI a b i) (hc : ¬ ((cutS a i).length ≠ 0 ∧ (cutS b i).length ≠ 0 ∧ Txt.item a (i - 1) = Txt.item b (i - 1))) : i = postL a b 41 0 := by
  unfold PostI at h
  rw [← h]
  obtain ⟨n, hn⟩ : ∃ n, (41 + i).toNat = n + 1 := ⟨(40 + i).toNat, by omega⟩
  rw [hn, postL, if_neg hc]
theorem post_turn {a b : Str} {i : Int} (ha : -40 ≤ i - 1) (h : PostI a b i) (hc : (cutS a i).length ≠ 0 ∧ (cutS b i).length ≠ 0 ∧ Txt.item a (i - 1) = Txt.item b (i - 1)) : PostI a b (i - 1) := by
  unfold PostI at h
  obtain ⟨n, hn⟩ : ∃ n, (41 + i).toNat = n + 1 := ⟨(40 + i).toNat, by omega⟩
  have hn' : (41 + (i - 1)).toNat = n := by omega
  rw [hn, postL, if_pos hc] at h
  unfold PostI
  rw [hn']
  exact h

section
variable {prog : Program} {w : World} {A : Around} {E : Value → Shared → Prop} {s : Shared} {h₀ : Heap} {L : Addr} {m : Str → Option Value} {Q : Value → Shared → Prop}
theorem list_range_K {r : Addr} {a b c : Int} {t u v : Tok} {n : Nat} {news : List (Addr × Obj)} (hh : A.handled = none) (F : Fr h₀ L s.heap m) (N : News h₀ L s.heap news)
    (hr : IsRange s.heap r a b c t u v) (hsmall : Builtin.Range.small a b c = true) (hn : Builtin.Range.rangeSize a b c = (n : Int)) (hlen : n ≤ 2 ^ 24)
    (hQ : ∀ l h' tk (ys : List Value) cnt, Fr h₀ L h' m → News h₀ L h' ((l, listOf ys.toArray cnt) :: news) → IntsAre ys (rangeInts a c n) → (∀ p ∈ news, p.1 < l) → Q (.ref l) { s with heap := h', toks := tk }) :
    wpAny (model prog w) A (call (.type "list") [.ref r]) Q E s := by
  refine list_rangeD hh F N hr hsmall hn hlen fun h' tk ys F' N' hk hf _ hP hC => ?_
  obtain ⟨⟨cnt, hc⟩, hne⟩ := hP
  refine hQ _ h' tk ys cnt F' ?_ ?_ ?_
  · intro p hp
    rcases List.mem_cons.mp hp with rfl | hp
    · refine ⟨hc, ?_, hf⟩
      intro e
      exact absurd F.ns.lt (e ▸ Nat.lt_irrefl _)
    · exact N' p hp
  · have := CarriedAll.intsOf (f := id) (as := rangeInts a c n) (vs := ys) (by simpa using hC)
    simpa using this
  · intro p hp
    exact Heap.lt_size (N p hp).1
end
theorem range2 (n : Nat) : Builtin.Range.rangeSize 2 (2 * ((n : Int) + 1)) 2 = (n : Int) := by
  unfold Builtin.Range.rangeSize
  simp
  omega
theorem small2 (n : Nat) (h : n ≤ 40) : Builtin.Range.small 2 (2 * ((n : Int) + 1)) 2 = true := by
  have : ∀ n : Nat, n < 41 → Builtin.Range.small 2 (2 * ((n : Int) + 1)) 2 = true := by decide +kernel
  exact this n (by omega)
theorem cut_len {a : Str} {i : Int} (h0 : i ≤ 0) (h1 : -(a.length : Int) ≤ i) : ((cutS a i).length : Int) = a.length + i := by
  unfold cutS
  split
  · omega
  · exact len_ns (by omega) h1

noncomputable def stepD (a bc : Str) (st : Int × Int × Int × List Int) (i : Int) : Int × Int × Int × List Int :=
  let sub := st.1 + subCost bc (Txt.item a i)
  let d' := st.2.2.2.getD i.toNat 0
  let ins := (if d' < st.2.1 then d' else st.2.1) + 2
  let r' := if sub < ins then sub else ins
  (d', r', if r' < st.2.2.1 then r' else st.2.2.1, st.2.2.2.set i.toNat r')
noncomputable def innerD (a bc : Str) (d0 : Int) (row : List Int) (pre : List Int) : Int × Int × Int × List Int := pre.foldl (stepD a bc) (d0, d0, 9223372036854775807, row)
noncomputable def outerD (a b : Str) (c : Int) : Nat → Int → Int → List Int → Int
  | 0, _, res, _ => res
  | n + 1, i, _, row => if c < (innerD a (Txt.item b i) (i * 2) row (rangeKs 0 a.length)).2.2.1 then c + 1 else outerD a b c n (i + 1) (innerD a (Txt.item b i) (i * 2) row (rangeKs 0 a.length)).2.1 (innerD a (Txt.item b i) (i * 2) row (rangeKs 0 a.length)).2.2.2
noncomputable def levDP (a b : Str) (c : Int) : Int := outerD a b c b.length 0 0 (rangeInts 2 2 a.length)
section
variable {a b bc : Str} {c d res mn d0 i : Int} {row row0 pre : List Int}
theorem dp_start : (rangeInts 2 2 a.length).length = a.length ∧ outerD a b c (b.length - ([] : List Int).length) (([] : List Int).length : Int) 0 (rangeInts 2 2 a.length) = levDP a b c := ⟨rangeInts_length .., rfl⟩
theorem in_start (h : row.length = a.length) : row.length = a.length ∧ (d0, d0, (9223372036854775807 : Int), row) = innerD a bc d0 row [] := ⟨h, rfl⟩
theorem in_lt {r : Int} (hr : r = (stepD a bc (d, res, mn, row) i).2.1) (hl : row.length = a.length) (h : (d, res, mn, row) = innerD a bc d0 row0 pre) (hlt : r < mn) :
    (row.set i.toNat r).length = a.length ∧ (row.getD i.toNat 0, r, r, row.set i.toNat r) = innerD a bc d0 row0 (pre ++ [i]) := by
  refine ⟨by rw [List.length_set, hl], ?_⟩
  have e : innerD a bc d0 row0 (pre ++ [i]) = stepD a bc (d, res, mn, row) i := by rw [h]; unfold innerD; rw [List.foldl_append]; rfl
  rw [e]
  subst hr
  unfold stepD at hlt ⊢
  dsimp only at hlt ⊢
  rw [if_pos hlt]
theorem in_ge {r : Int} (hr : r = (stepD a bc (d, res, mn, row) i).2.1) (hl : row.length = a.length) (h : (d, res, mn, row) = innerD a bc d0 row0 pre) (hlt : ¬ r < mn) :
    (row.set i.toNat r).length = a.length ∧ (row.getD i.toNat 0, r, mn, row.set i.toNat r) = innerD a bc d0 row0 (pre ++ [i]) := by
  refine ⟨by rw [List.length_set, hl], ?_⟩
  have e : innerD a bc d0 row0 (pre ++ [i]) = stepD a bc (d, res, mn, row) i := by rw [h]; unfold innerD; rw [List.foldl_append]; rfl
  rw [e]
  subst hr
  unfold stepD at hlt ⊢
  dsimp only at hlt ⊢
  rw [if_neg hlt]
theorem out_step {n : Nat} {res0 : Int} (hn : pre.length < ((b.length : Int) - 0).toNat) (hi : i = 0 + (pre.length : Int)) (h : outerD a b c (b.length - pre.length) (pre.length : Int) res0 row0 = levDP a b c)
    (hin : (d, res, mn, row) = innerD a (Txt.item b i) (i * 2) row0 (rangeKs 0 ((a.length : Int) - 0).toNat)) :
    levDP a b c = if c < mn then c + 1 else outerD a b c (b.length - (pre ++ [i]).length) ((pre ++ [i]).length : Int) res row := by
  have hi' : i = (pre.length : Int) := by omega
  obtain ⟨k, hk⟩ : ∃ k, b.length - pre.length = k + 1 := ⟨b.length - pre.length - 1, by omega⟩
  have hk' : b.length - (pre ++ [i]).length = k := by rw [List.length_append, List.length_singleton]; omega
  have hl : ((pre ++ [i]).length : Int) = i + 1 := by rw [List.length_append, List.length_singleton]; omega
  have ha : ((a.length : Int) - 0).toNat = a.length := by omega
  rw [ha] at hin
  rw [← h, hk, hk', hl, ← hi', outerD, ← hin]
theorem out_turn {res0 : Int} (hl : row.length = a.length) (hn : pre.length < ((b.length : Int) - 0).toNat) (hi : i = 0 + (pre.length : Int)) (h : outerD a b c (b.length - pre.length) (pre.length : Int) res0 row0 = levDP a b c)
    (hin : (d, res, mn, row) = innerD a (Txt.item b i) (i * 2) row0 (rangeKs 0 ((a.length : Int) - 0).toNat)) (hc : ¬ c < mn) :
    row.length = a.length ∧ outerD a b c (b.length - (pre ++ [i]).length) ((pre ++ [i]).length : Int) res row = levDP a b c := by
  refine ⟨hl, ?_⟩
  rw [out_step (n := 0) hn hi h hin, if_neg hc]
theorem out_exit {res0 : Int} (hn : pre.length < ((b.length : Int) - 0).toNat) (hi : i = 0 + (pre.length : Int)) (h : outerD a b c (b.length - pre.length) (pre.length : Int) res0 row0 = levDP a b c)
    (hin : (d, res, mn, row) = innerD a (Txt.item b i) (i * 2) row0 (rangeKs 0 ((a.length : Int) - 0).toNat)) (hc : c < mn) : c + 1 = levDP a b c := by
  rw [out_step (n := 0) hn hi h hin, if_pos hc]
theorem out_end (h : outerD a b c (b.length - (rangeKs 0 ((b.length : Int) - 0).toNat).length) ((rangeKs 0 ((b.length : Int) - 0).toNat).length : Int) res row = levDP a b c) : res = levDP a b c := by
  have e : b.length - (rangeKs 0 ((b.length : Int) - 0).toNat).length = 0 := by rw [rangeKs_length]; omega
  rw [e] at h
  exact h
end
end Mine
end
section
open PySem PySem.W PyProof.Rows PySem.Calls PySem.Spec PySem.Builtin PySem.Builtin.Str
namespace Mine
local macro_rules | `(tactic| walk_at "subscriptTail Name Slice str ref") => `(tactic| (k_here; (with_reducible rename Fr _ _ _ _ => F'); (with_reducible rename News _ _ _ _ => N'); first
  | (refine my_sn (s := ⟨_, _, _, _, _⟩) F' N' (by omega) (by omega) (by omega) ?_; intro _ _ _ _ _ _)
  | (refine my_ns (s := ⟨_, _, _, _, _⟩) F' N' (by omega) (by omega) (by omega) ?_; intro _ _ _ _ _ _)
  | (refine my_nn (s := ⟨_, _, _, _, _⟩) F' N' (by omega) ?_; intro _ _ _ _ _)))
local macro_rules | `(tactic| walk_at "subscriptTail Name Name str int") => `(tactic| (k_here; refine my_item (by omega) (by omega) (by omega) ?_; intro _ _ _))
local macro_rules | `(tactic| walk_at "subscriptTail Name BinOp str int") => `(tactic| (k_here; refine my_item (by omega) (by omega) (by omega) ?_; intro _ _ _))
local macro_rules | `(tactic| walk_at "call type:list cons nil") => `(tactic| (k_here; (rename IsRange _ _ _ _ _ _ _ _ => R'); (rename Fr _ _ _ _ => F'); (rename News _ _ _ _ => N'); (with_unfolding_all refine list_range_K rfl F' N' R' (small2 _ (by omega)) (range2 _) (by omega) ?_); clear R'; intro l' h' tk' ys cnt' F' N' hys l1))
local macro_rules | `(tactic| walk_at "call ref cons nil") => `(tactic| (k_here; (refine' subst_walk _ _ _ _ _ _ _ _ _ ?kp1 ?kp2 _ _ _ _ _ _ _ _ _ _ _ _ _ _ _ _ _ ?k1 ?k2 ?k3 ?k4 ?k5 ?kK ?kd ?ku ?kR); (case kp1 => omega); (case kp2 => omega); (case k1 => k_asm); (case k2 => k_asm); (case k3 => k_asm); (case k4 => k_asm); (case k5 => k_asm); (case kK => first | exact rfl | assumption); (case kd => ktr_room); (case ku => ktr_units); intro t9 h9 tk9 F9 N9; (try dsimp only); (try k_fold)))
section
variable {prog : Program} {w : World}
theorem Fr.re {g h : Heap} {L : Addr} {m : Str → Option Value} {x : Str} {v : Value} (F : Fr g L h m) (hx : m x = some v) : Fr g L h (fun y => if y = x then some v else m y) := wi_fr F hx fun _ _ => rfl
end
theorem dp_walk (w : World) (mean : ExcName → Option Value) (mg mb : Str → Option Value) (news : List (Addr × Obj)) (a b : Str) (c : Int) (ta tb tc : Tok)
  {dp un : Nat} {gd : Option (List Code)} {cn : Str} {cs : Scope} {L₀ a₀ : Addr} {ccd : Value} {cl : List (Str × Addr)} {outer : List Env} {base h₀ g : Heap} {m₀ m : Str → Option Value} {L' : Addr} {s : Shared} {R : Result → Shared → Prop}
  {oc dV kV doc pm cdv ct : Value} {od an : Option Addr} {osl : Array (Option Value)} {name qual : Str} {params : Arguments} {body : List Stmt} {scope : Scope}
  (hb : (hd.heap_39 w.params).lookup 104 = some ⟨oc, od, .func (fnOf name qual params body scope dV kV doc pm an cdv ct), osl⟩)
  (FG : Fr h₀ L₀ g m₀) (X₀ : (hd.heap_39 w.params).In h₀)
  (T₀ : Top hd.view_39 (looseW hd.view_39 [Str.ofString "_twin_re_1", Str.ofString "_twin_re_2"]) mean mg mb h₀)
  (hB : Below (ktrTop dp un gd cn cs L₀ a₀ ccd cl outer) base (envX cn cs L₀ a₀ ccd cl :: outer) g) (X : (hd.heap_39 w.params).In g)
  (T : Top hd.view_39 (looseW hd.view_39 [Str.ofString "_twin_re_1", Str.ofString "_twin_re_2"]) mean mg mb g)
  (hcs : cs.kind = .function) (hdp : dp + 2 < recursionLimit) (hun : un + 8 * 2 < cLine)
  (F : Fr g L' s.heap (fun y => if y = Str.ofString "a" then some (.str a ta) else if y = Str.ofString "b" then some (.str b tb) else if y = Str.ofString "max_cost" then some (.int c tc) else m y))
  (N : News g L' s.heap news)
  (ha : a.length ≤ 40) (hb' : b.length ≤ 40) (hab : a.length ≤ b.length) (ha0 : a.length ≠ 0) (hc0 : 0 ≤ c) (hc1 : c ≤ 100)
  (hret : ∀ (t : Tok) (h' : Heap) (tk' : Nat), Fr h₀ L₀ h' m₀ → News h₀ L₀ h' news → R (.ok (.ret (.int (if c < ((b.length : Int) - a.length) * 2 then c + 1 else levDP a b c) t))) { s with heap := h', toks := tk' }) :
  wpAny (model PySem.Challenge.rw_sw0013_01.row.prog w) ((ktrTop dp un gd cn cs L₀ a₀ ccd cl outer).deeper (envOf qual scope L' 104 cdv)) (execs (body.drop 12) (envOf qual scope L' 104 cdv))
    (fun fl s' => LeaveK h₀ L₀ m₀ g R (match fl with | .ret v => v | _ => .none) s')
    (fun e s' => wpAny (model PySem.Challenge.rw_sw0013_01.row.prog w) ((ktrTop dp un gd cn cs L₀ a₀ ccd cl outer).deeper (envOf qual scope L' 104 cdv)) (leaving (envOf qual scope L' 104 cdv) e) (fun _ s'' => R (.error e) s'') (fun e' s'' => R (.error e') s'') s') s := by
  w_top off
  revert hb
  k_fill
  intro hb
  cases hb
  dsimp only [List.drop]
  k_with_none
  k_with "state" => first
    | exact dp_start
    | exact in_start (by assumption)
    | (refine in_lt ?_ (by assumption) (by assumption) (by assumption); rfl)
    | (refine in_ge ?_ (by assumption) (by assumption) (by assumption); rfl)
    | exact out_turn (by assumption) (by assumption) (by assumption) (by assumption) (by assumption) (by assumption)
  k_with "pyIter ref" => (k_of "bindex" => k_state (fun pre res row => row.length = a.length ∧ outerD a b c (b.length - pre.length) (pre.length : Int) res row = levDP a b c) "result" "row")
  k_with "pyIter ref" => (k_of "index" => k_state_given ["bchar", "row!", "result!"] (fun bc row0 d0 pre dist res mn row => row.length = a.length ∧ (dist, res, mn, row) = innerD a bc d0 row0 pre) "distance" "result" "minimum" "row")
  k_steps
  all_goals (refine cb_retI (Q := fun v s' => R (.ok (.ret v)) s') hret ?_ (by assumption) (by first | assumption | exact cb_drop (by assumption) (by intro p hp; simp [hp])))
  all_goals first
    | (rw [if_pos (by assumption)]; done)
    | (rw [if_neg (by assumption)]; first | exact out_end (by assumption) | exact out_exit (by assumption) (by assumption) (by assumption) (by assumption) (by assumption))

end Mine
end
section
open PySem PySem.W PyProof.Rows PySem.Calls PySem.Spec PySem.Builtin PySem.Builtin.Str
namespace Mine
local macro_rules | `(tactic| walk_at "subscriptTail Name Slice str ref") => `(tactic| (k_here; (with_reducible rename Fr _ _ _ _ => F'); (with_reducible rename News _ _ _ _ => N'); first
  | (refine my_sn (s := ⟨_, _, _, _, _⟩) F' N' (by omega) (by omega) (by omega) ?_; intro _ _ _ _ _ _)
  | (refine my_ns (s := ⟨_, _, _, _, _⟩) F' N' (by omega) (by omega) (by omega) ?_; intro _ _ _ _ _ _)
  | (refine my_nn (s := ⟨_, _, _, _, _⟩) F' N' (by omega) ?_; intro _ _ _ _ _)))
local macro_rules | `(tactic| walk_at "subscriptTail Name Name str int") => `(tactic| (k_here; refine my_item (by omega) (by omega) (by omega) ?_; intro _ _ _))
local macro_rules | `(tactic| walk_at "subscriptTail Name BinOp str int") => `(tactic| (k_here; refine my_item (by omega) (by omega) (by omega) ?_; intro _ _ _))
local macro_rules | `(tactic| walk_at "call type:list cons nil") => `(tactic| (k_here; (rename IsRange _ _ _ _ _ _ _ _ => R'); (rename Fr _ _ _ _ => F'); (rename News _ _ _ _ => N'); (with_unfolding_all refine list_range_K rfl F' N' R' (small2 _ (by omega)) (range2 _) (by omega) ?_); clear R'; intro l' h' tk' ys cnt' F' N' hys l1))
local macro_rules | `(tactic| walk_at "call ref cons nil") => `(tactic| (k_here; (refine' subst_walk _ _ _ _ _ _ _ _ _ ?kp1 ?kp2 _ _ _ _ _ _ _ _ _ _ _ _ _ _ _ _ _ ?k1 ?k2 ?k3 ?k4 ?k5 ?kK ?kd ?ku ?kR); (case kp1 => omega); (case kp2 => omega); (case k1 => k_asm); (case k2 => k_asm); (case k3 => k_asm); (case k4 => k_asm); (case k5 => k_asm); (case kK => first | exact rfl | assumption); (case kd => ktr_room); (case ku => ktr_units); intro t9 h9 tk9 F9 N9; (try dsimp only); (try k_fold)))

noncomputable def levQ (a b : Str) (c : Int) : Int := if c < ((b.length : Int) - a.length) * 2 then c + 1 else levDP a b c
noncomputable def levT (a b : Str) (c : Int) : Int := if a.length = 0 ∨ b.length = 0 then 2 * ((a.length : Int) + b.length) else if (b.length : Int) < a.length then levQ b a c else levQ a b c
noncomputable def lev2 (a b : Str) (c : Int) : Int := levT (cutS a (postL a b 41 0)) (cutS b (postL a b 41 0)) c
noncomputable def lev (a b : Str) (c : Int) : Int := if a = b then 0 else lev2 (Txt.slice a (some (preL a b 41 0)) none) (Txt.slice b (some (preL a b 41 0)) none) c
theorem lev_of {a b a1 b1 : Str} {c i j : Int} (h : (a == b) = false) (hi : i = preL a b 41 0) (hA : Txt.slice a (some i) none = a1) (hB : Txt.slice b (some i) none = b1) (hj : j = postL a1 b1 41 0) :
    lev a b c = levT (cutS a1 j) (cutS b1 j) c := by
  rw [lev, if_neg (ne_of_beq_false h), ← hi, lev2, hA, hB, ← hj]
theorem cut_pos {a : Str} {j : Int} (h : j ≠ 0) : cutS a j = Txt.slice a none (some j) := by rw [cutS, if_neg h]
theorem cut_zero {a : Str} {j : Int} (h : j = 0) : cutS a j = a := by rw [cutS, if_pos h]
theorem levT_nil {a b : Str} {c : Int} (h : a.length = 0 ∨ b.length = 0) : levT a b c = 2 * ((a.length : Int) + b.length) := by rw [levT, if_pos h]
theorem levT_lt {a b : Str} {c : Int} (h : ¬ (a.length = 0 ∨ b.length = 0)) (h' : (b.length : Int) < a.length) : levT a b c = levQ b a c := by rw [levT, if_neg h, if_pos h']
theorem levT_ge {a b : Str} {c : Int} (h : ¬ (a.length = 0 ∨ b.length = 0)) (h' : ¬ (b.length : Int) < a.length) : levT a b c = levQ a b c := by rw [levT, if_neg h, if_neg h']
local macro_rules | `(tactic| walk_at "WiPost") => `(tactic| dsimp only [WiPost])

theorem lev_walk (w : World) (mean : ExcName → Option Value) (mg mb : Str → Option Value) (news : List (Addr × Obj)) (a b : Str) (c : Int) (ta tb tc : Tok) (ha : a.length ≤ 40) (hb : b.length ≤ 40) (hc0 : 0 ≤ c) (hc1 : c ≤ 100) :
   Claim 104 2 w mean mg mb news [.str a ta, .str b tb, .int c tc] (fun t => .int (lev a b c) t) := by
  w_top off
  dsimp only [Claim, SpecOf]
  k_fill
  k_with_none
  intros; rename_i hret
  k_with "WiEnd" => (refine wi_end (by assumption) (by assumption) (by rfl) (by intro z hz; simp [hz]) ?_; first
    | ((with_reducible rename PostI _ _ _ => hPx); first
      | (refine ⟨?_, post_stop ?_ hPx ?_⟩; rotate_left 2; (rintro ⟨h1, h2, h3⟩; first | exact absurd h3 (ne_of_beq_false (by assumption)) | omega); (all_goals omega))
      | (refine ⟨⟨?_, post_turn ?_ hPx ⟨?_, ?_, eq_of_beq (by assumption)⟩⟩, ?_⟩ <;> omega))
    | ((with_reducible rename PreI _ _ _ => hPx); first
      | (refine ⟨?_, pre_stop ?_ hPx ?_⟩; rotate_left 2; (rintro ⟨h1, h2, h3⟩; first | exact absurd h3 (ne_of_beq_false (by assumption)) | omega); (all_goals omega))
      | (refine ⟨⟨?_, pre_turn ?_ hPx ⟨?_, ?_, eq_of_beq (by assumption)⟩⟩, ?_⟩ <;> omega))
    | (exfalso; omega))
  k_with "exec While BoolOp cons nil" => (
    refine while_int (Str.ofString "pre") (fun i => (0 ≤ i ∧ i ≤ a.length ∧ i ≤ b.length) ∧ PreI a b i) (fun i => (0 ≤ i ∧ i ≤ a.length ∧ i ≤ b.length) ∧ i = preL a b 41 0) (fun i => (41 - i).toNat) (by assumption) (by assumption) (by rfl) ⟨by omega, by rfl⟩ ?turnA ?doneA
    case' turnA =>
      intro i t h tk hP F' N'
      obtain ⟨⟨hP0, hP1, hP2⟩, hP⟩ := hP
    case' doneA =>
      intro i t h tk hR F' N'
      obtain ⟨⟨hR0, hR1, hR2⟩, hR⟩ := hR)
  k_with "exec While BoolOp cons nil" => (
    generalize hA : Txt.slice a (some i) none = a1 at *
    generalize hB : Txt.slice b (some i) none = b1 at *
    refine while_int (Str.ofString "post") (fun j => (j ≤ 0 ∧ -(a1.length : Int) ≤ j ∧ -(b1.length : Int) ≤ j) ∧ PostI a1 b1 j) (fun j => (j ≤ 0 ∧ -(a1.length : Int) ≤ j ∧ -(b1.length : Int) ≤ j) ∧ j = postL a1 b1 41 0) (fun i => (41 + i).toNat) (by assumption) (by assumption) (by rfl) ⟨by omega, by rfl⟩ ?turnB ?doneB
    case' turnB =>
      intro j t h tk hP F' N'
      obtain ⟨⟨hP0, hP1, hP2⟩, hP⟩ := hP
      have hca := cut_len hP0 hP1
      have hcb := cut_len hP0 hP2
    case' doneB =>
      intro j t h tk hR F' N'
      obtain ⟨⟨hS0, hS1, hS2⟩, hS⟩ := hR
      have hca := cut_len hS0 hS1
      have hcb := cut_len hS0 hS2)
  k_with "execs cons If cons" => ((with_reducible show wpAny _ _ (PySem.execs (Stmt.If (Expr.Compare (Expr.BinOp _ _ _ _) _ _ _) _ _ _ :: _) _) _ _ _); refine dp_walk w mean mg mb _ _ _ _ _ _ _ rfl (by assumption) (by assumption) (by assumption) (by assumption) (by assumption) (by assumption) (by assumption) (by ktr_room) (by ktr_units) (Fr.re (Fr.re (Fr.re (by assumption) (by rfl)) (by rfl)) (by rfl)) (by assumption) (by omega) (by omega) (by omega) (by omega) hc0 hc1 (fun t h' tk' F9 N9 => cb_retI hret ?_ F9 (cb_drop N9 (by first | exact fun p hp => hp | exact fun p hp => List.mem_cons_of_mem _ hp))))
  refine wpAny_call ?_
  k_dflt cell_enter
  k_steps
  all_goals (try (refine cb_retI hret ?_ (by assumption) (by first | assumption | exact cb_drop (by assumption) (fun p hp => List.mem_cons_of_mem _ hp))))
  all_goals first
    | (rw [lev, if_pos (eq_of_beq (by assumption))]; done)
    | (rw [lev_of (by assumption) hR hA hB hS]; first
      | (rw [cut_pos (a := a1) (j := j) (by assumption), cut_pos (a := b1) (j := j) (by assumption)]; first
        | exact (levT_nil (by omega)).symm
        | exact (levT_lt (by omega) (by omega)).symm
        | exact (levT_ge (by omega) (by omega)).symm)
      | (rw [cut_zero (a := a1) (j := j) (by assumption), cut_zero (a := b1) (j := j) (by assumption)]; first
        | exact (levT_nil (by omega)).symm
        | exact (levT_lt (by omega) (by omega)).symm
        | exact (levT_ge (by omega) (by omega)).symm))
    | (exfalso; omega)

end Mine
end
section
open PySem PySem.Sre
namespace Mine
noncomputable def code1 : Array Nat := #[14,4,0,1,1,6,1,16,46,1]
noncomputable def code2 : Array Nat := #[14,9,4,1,2,16,10,16,13,0,7,7,16,13,16,10,15,18,5,16,10,15,13,11,16,13,5,5,0,16,10,1,15,2,0,1]

theorem runFor_add (a b : Nat) (m : M) : M.runFor (a + b) m = M.runFor b (M.runFor a m) := by
  induction a generalizing m with
  | zero => rw [Nat.zero_add]; rfl
  | succ a ih =>
    rw [Nat.succ_add, M.runFor, M.runFor]
    split
    · rename_i h
      cases b with
      | zero => rfl
      | succ b => rw [M.runFor, if_pos h]
    · exact ih _

/-- the search's state when it tries at s -/
noncomputable def St (code text : Array Nat) (body lim last s : Nat) (out : Bool) (seen : Seen) : M :=
  { code, text, lim, start := s, lastStart := last, pc := body, pos := s, handed := s, outermost := out, marks := Array.replicate 0 none,
    frames := [{ wait := .nextStart, pc := body, pos := s, outermost := out }], weight := 1, seen }

theorem start1 {text : Array Nat} {lim s : Nat} (h : s + 1 ≤ lim) : ∃ seen, forSearch code1 text 0 s lim false = St code1 text 5 lim lim s true seen := by
  unfold forSearch
  have h1 : ¬ (s > lim ∨ lim - s < 1) := by omega
  simp only [show header code1 = (1, 5) from rfl]
  have h2 : (decide (s > lim) || decide (lim - s < 1)) = false := by simp; omega
  rw [if_neg (by simp; omega)]
  exact ⟨_, rfl⟩
theorem fail1 {text : Array Nat} {lim s : Nat} (h : lim ≤ s) (h' : s ≤ lim) : ∃ N m', N ≤ 100 ∧ M.runFor N (forSearch code1 text 0 s lim false) = m' ∧ m'.outcome = some .failed := by
  unfold forSearch
  simp only [show header code1 = (1, 5) from rfl]
  rw [if_pos (by simp; omega)]
  exact ⟨1, _, by omega, rfl, rfl⟩

noncomputable def lineAt (text : Array Nat) (s : Nat) : Bool := s == 0 || text.getD (s - 1) 0 == 10
noncomputable def hit1 (text : Array Nat) (lim s : Nat) : Bool := decide (s < lim) && lineAt text s && text.getD s 0 == 46


theorem exec1 (text : Array Nat) (lim last s : Nat) (o : Bool) (seen : Seen) : M.step (St code1 text 5 lim last s o seen) =
    if lineAt text s = true then { St code1 text 5 lim last s o ((seen.add 6).add 44) with pc := 7 } else { St code1 text 5 lim last s o ((seen.add 6).add 44) with answer := some false } := rfl
theorem exec2 (text : Array Nat) (lim last s : Nat) (o : Bool) (seen : Seen) (hs : s < lim) : M.step { St code1 text 5 lim last s o seen with pc := 7 } =
    if (text.getD s 0 == 46) = true then { St code1 text 5 lim last s o (seen.add 16) with pc := 9, pos := s + 1 } else { St code1 text 5 lim last s o (seen.add 16) with pc := 7, answer := some false } := by
  have e : M.step { St code1 text 5 lim last s o seen with pc := 7 } = if s ≥ lim then { St code1 text 5 lim last s o (seen.add 16) with pc := 7, answer := some false } else
    (match (Except.ok (text.getD s 0 == 46, seen.add 16) : Except String (Bool × Seen)) with
      | .error why => M.stick { St code1 text 5 lim last s o (seen.add 16) with pc := 7 } why
      | .ok (false, seen) => { St code1 text 5 lim last s o seen with pc := 7, answer := some false }
      | .ok (true, seen) => { St code1 text 5 lim last s o seen with pc := 9, pos := s + 1 }) := by rfl
  rw [e, if_neg (by omega)]
  cases (text.getD s 0 == 46) <;> rfl
theorem exec2_end (text : Array Nat) (lim last s : Nat) (o : Bool) (seen : Seen) (hs : lim ≤ s) : M.step { St code1 text 5 lim last s o seen with pc := 7 } =
    { St code1 text 5 lim last s o (seen.add 16) with pc := 7, answer := some false } := by
  have e : M.step { St code1 text 5 lim last s o seen with pc := 7 } = if s ≥ lim then { St code1 text 5 lim last s o (seen.add 16) with pc := 7, answer := some false } else
    (match (Except.ok (text.getD s 0 == 46, seen.add 16) : Except String (Bool × Seen)) with
      | .error why => M.stick { St code1 text 5 lim last s o (seen.add 16) with pc := 7 } why
      | .ok (false, seen) => { St code1 text 5 lim last s o seen with pc := 7, answer := some false }
      | .ok (true, seen) => { St code1 text 5 lim last s o seen with pc := 9, pos := s + 1 }) := by rfl
  rw [e, if_pos hs]
/-- a try that says no: on to the next place, or the end -/
theorem again1 (text : Array Nat) (lim s pc : Nat) (o : Bool) (seen : Seen) (hs : s < lim) : M.step { St code1 text 5 lim lim s o seen with pc := pc, answer := some false } = St code1 text 5 lim lim (s + 1) false seen := by
  have e : M.step { St code1 text 5 lim lim s o seen with pc := pc, answer := some false } = if s < lim then St code1 text 5 lim lim (s + 1) false seen else
    { St code1 text 5 lim lim s o seen with answer := some false, frames := [], weight := 0 } := by rfl
  rw [e, if_pos hs]
theorem over1 (text : Array Nat) (lim s pc : Nat) (o : Bool) (seen : Seen) (hs : lim ≤ s) : M.step { St code1 text 5 lim lim s o seen with pc := pc, answer := some false } = { St code1 text 5 lim lim s o seen with answer := some false, frames := [], weight := 0 } := by
  have e : M.step { St code1 text 5 lim lim s o seen with pc := pc, answer := some false } = if s < lim then St code1 text 5 lim lim (s + 1) false seen else
    { St code1 text 5 lim lim s o seen with answer := some false, frames := [], weight := 0 } := by rfl
  rw [e, if_neg (by omega)]
theorem runFor_one (m m' : M) (n : Nat) (h : m.outcome.isSome = false) (e : M.step m = m') : M.runFor (n + 1) m = M.runFor n m' := by
  rw [M.runFor, h, e]
  rfl
noncomputable def Ends (m : M) (n : Nat) (P : M → Prop) : Prop := ∃ k, k ≤ n ∧ P (M.runFor k m)
theorem Ends.step {m m' : M} {n : Nat} {P : M → Prop} (h : m.outcome.isSome = false) (e : M.step m = m') (r : Ends m' n P) : Ends m (n + 1) P := by
  obtain ⟨k, hk, hP⟩ := r
  exact ⟨k + 1, by omega, by rw [runFor_one m m' k h e]; exact hP⟩
theorem Ends.mono {m : M} {n n' : Nat} {P : M → Prop} (r : Ends m n P) (h : n ≤ n') : Ends m n' P := by
  obtain ⟨k, hk, hP⟩ := r
  exact ⟨k, by omega, hP⟩
noncomputable def Failed (m : M) : Prop := m.outcome = some .failed
noncomputable def Matched (b e : Nat) (m : M) : Prop := m.outcome = some .matched ∧ m.start = b ∧ m.handed = e
/-- a place that is no hit is passed -/
theorem pass1 {text : Array Nat} {lim s n : Nat} {o : Bool} {seen : Seen} {P : M → Prop} (hs : s < lim) (h : hit1 text lim s = false)
    (r : ∀ seen, Ends (St code1 text 5 lim lim (s + 1) false seen) n P) : Ends (St code1 text 5 lim lim s o seen) (n + 3) P := by
  have hs' : decide (s < lim) = true := decide_eq_true hs
  unfold hit1 at h
  rw [hs', Bool.true_and] at h
  cases hl : lineAt text s with
  | false =>
    refine Ends.mono (Ends.step rfl ((exec1 ..).trans (if_neg (by rw [hl]; decide))) (Ends.step rfl (again1 (hs := hs) ..) (r _))) (by omega)
  | true =>
    rw [hl, Bool.true_and] at h
    exact Ends.step rfl ((exec1 ..).trans (if_pos hl)) (Ends.step rfl ((exec2 (hs := hs) ..).trans (if_neg (by rw [h]; decide))) (Ends.step rfl (again1 (hs := hs) ..) (r _)))
theorem take1 {text : Array Nat} {lim s : Nat} {o : Bool} {seen : Seen} (h : hit1 text lim s = true) : Ends (St code1 text 5 lim lim s o seen) 5 (Matched s (s + 1)) := by
  unfold hit1 at h
  simp only [Bool.and_eq_true, decide_eq_true_eq] at h
  obtain ⟨⟨hs, hl⟩, hd⟩ := h
  refine Ends.step rfl ((exec1 ..).trans (if_pos hl)) (Ends.step rfl ((exec2 (hs := hs) ..).trans (if_pos hd)) ?_)
  cases o
  · exact ⟨3, by omega, rfl, rfl, rfl⟩
  · exact ⟨3, by omega, rfl, rfl, rfl⟩
theorem none1_end {text : Array Nat} {lim : Nat} {o : Bool} {seen : Seen} : Ends (St code1 text 5 lim lim lim o seen) 5 Failed := by
  cases hl : lineAt text lim with
  | false => exact Ends.mono (Ends.step rfl ((exec1 ..).trans (if_neg (by rw [hl]; decide))) (Ends.step rfl (over1 (hs := Nat.le_refl _) ..) ⟨1, Nat.le_refl _, rfl⟩)) (by omega)
  | true => exact Ends.mono (Ends.step rfl ((exec1 ..).trans (if_pos hl)) (Ends.step rfl (exec2_end (hs := Nat.le_refl _) ..) (Ends.step rfl (over1 (hs := Nat.le_refl _) ..) ⟨1, Nat.le_refl _, rfl⟩))) (by omega)
theorem find1 {text : Array Nat} {lim t : Nat} (hh : hit1 text lim t = true) : ∀ (k s : Nat) (o : Bool) (seen : Seen), s + k = t → (∀ p, s ≤ p → p < t → hit1 text lim p = false) → Ends (St code1 text 5 lim lim s o seen) (3 * k + 5) (Matched t (t + 1))
  | 0, s, o, seen, e, _ => by
    subst e
    exact take1 hh
  | k + 1, s, o, seen, e, hn => by
    have ht : t < lim := by unfold hit1 at hh; simp only [Bool.and_eq_true, decide_eq_true_eq] at hh; exact hh.1.1
    exact Ends.mono (pass1 (by omega) (hn s (Nat.le_refl _) (by omega)) fun seen => find1 hh k (s + 1) false seen (by omega) fun p h1 h2 => hn p (by omega) h2) (by omega)
theorem none1 {text : Array Nat} {lim : Nat} : ∀ (k s : Nat) (o : Bool) (seen : Seen), s + k = lim → (∀ p, s ≤ p → p < lim → hit1 text lim p = false) → Ends (St code1 text 5 lim lim s o seen) (3 * k + 5) Failed
  | 0, s, o, seen, e, _ => by
    subst e
    exact none1_end
  | k + 1, s, o, seen, e, hn => by
    exact Ends.mono (pass1 (by omega) (hn s (Nat.le_refl _) (by omega)) fun seen => none1 k (s + 1) false seen (by omega) fun p h1 h2 => hn p (by omega) h2) (by omega)

/-- a search from s finds (b, e), or nothing -/
noncomputable def Finds (code text : Array Nat) (s : Nat) (r : Option (Nat × Nat)) : Prop :=
  Ends (forSearch code text 0 s text.size false) 100000 (fun m => match r with | some (b, e) => Matched b e m | none => Failed m)
theorem finds1 {text : Array Nat} {s t : Nat} (hz : text.size ≤ 1000) (hs : s ≤ t) (hh : hit1 text text.size t = true) (hn : ∀ p, s ≤ p → p < t → hit1 text text.size p = false) : Finds code1 text s (some (t, t + 1)) := by
  have ht : t < text.size := by unfold hit1 at hh; simp only [Bool.and_eq_true, decide_eq_true_eq] at hh; exact hh.1.1
  obtain ⟨seen, e⟩ := start1 (text := text) (lim := text.size) (s := s) (by omega)
  unfold Finds
  rw [e]
  exact Ends.mono (find1 hh (t - s) s true seen (by omega) hn) (by omega)
theorem finds1_none {text : Array Nat} {s : Nat} (hz : text.size ≤ 1000) (hs : s ≤ text.size) (hn : ∀ p, s ≤ p → p < text.size → hit1 text text.size p = false) : Finds code1 text s none := by
  unfold Finds
  by_cases h : s = text.size
  · obtain ⟨N, m', h1, h2, h3⟩ := fail1 (text := text) (lim := text.size) (s := s) (by omega) hs
    exact ⟨N, by omega, by rw [h2]; exact h3⟩
  · obtain ⟨seen, e⟩ := start1 (text := text) (lim := text.size) (s := s) (by omega)
    rw [e]
    exact Ends.mono (none1 (text.size - s) s true seen (by omega) hn) (by omega)

/- the second pattern -/
theorem inSet2 (c : Nat) (seen : Seen) : ∃ seen', inSet code2 c code2.size 5 true seen = .ok (c == 10 || c == 13, seen') := by
  have e : inSet code2 c code2.size 5 true seen = if (c == 10) = true then .ok (true, seen.add 16) else if (c == 13) = true then .ok (true, (seen.add 16).add 16) else .ok (false, ((seen.add 16).add 16).add 0) := rfl
  rw [e]
  cases h1 : (c == 10) <;> cases h2 : (c == 13) <;> exact ⟨_, rfl⟩
noncomputable def nl (text : Array Nat) (s : Nat) : Bool := text.getD s 0 == 10 || text.getD s 0 == 13
theorem adm_hit {m : M} (hm : m.code = code2) {fuel s : Nat} {seen : Seen} (hs : s < m.lim) (h : nl m.text s = true) : ∃ seen', M.admitted m (fuel + 1) s seen = .ok (some s, seen') := by
  obtain ⟨seen', e⟩ := inSet2 (m.text.getD s 0) seen
  refine ⟨seen', ?_⟩
  unfold nl at h
  rw [M.admitted, if_neg (by omega), hm, e, h]
theorem adm_pass {m : M} (hm : m.code = code2) {fuel s : Nat} {seen : Seen} (hs : s < m.lim) (h : nl m.text s = false) : ∃ seen', M.admitted m (fuel + 1) s seen = M.admitted m fuel (s + 1) seen' := by
  obtain ⟨seen', e⟩ := inSet2 (m.text.getD s 0) seen
  refine ⟨seen', ?_⟩
  unfold nl at h
  rw [M.admitted, if_neg (by omega), hm, e, h]
theorem adm_end {m : M} {fuel s : Nat} {seen : Seen} (hs : m.lim ≤ s) : M.admitted m (fuel + 1) s seen = .ok (none, seen) := by
  rw [M.admitted, if_pos (by omega)]
theorem adm_find {m : M} (hm : m.code = code2) {t : Nat} (ht : t < m.lim) (hh : nl m.text t = true) : ∀ (k s fuel : Nat) (seen : Seen), s + k = t → m.lim + 1 ≤ s + fuel → (∀ p, s ≤ p → p < t → nl m.text p = false) → ∃ seen', M.admitted m fuel s seen = .ok (some t, seen')
  | 0, s, fuel, seen, e, hf, _ => by
    obtain ⟨f, rfl⟩ : ∃ f, fuel = f + 1 := ⟨fuel - 1, by omega⟩
    subst e
    exact adm_hit hm ht hh
  | k + 1, s, fuel, seen, e, hf, hn => by
    obtain ⟨f, rfl⟩ : ∃ f, fuel = f + 1 := ⟨fuel - 1, by omega⟩
    obtain ⟨seen', e'⟩ := adm_pass (fuel := f) (s := s) (seen := seen) hm (by omega) (hn s (Nat.le_refl _) (by omega))
    rw [e']
    exact adm_find hm ht hh k (s + 1) f seen' (by omega) (by omega) fun p h1 h2 => hn p (by omega) h2
theorem adm_none {m : M} (hm : m.code = code2) : ∀ (k s fuel : Nat) (seen : Seen), s + k = m.lim → m.lim + 1 ≤ s + fuel → (∀ p, s ≤ p → p < m.lim → nl m.text p = false) → ∃ seen', M.admitted m fuel s seen = .ok (none, seen')
  | 0, s, fuel, seen, e, hf, _ => by
    obtain ⟨f, rfl⟩ : ∃ f, fuel = f + 1 := ⟨fuel - 1, by omega⟩
    exact ⟨_, adm_end (by omega)⟩
  | k + 1, s, fuel, seen, e, hf, hn => by
    obtain ⟨f, rfl⟩ : ∃ f, fuel = f + 1 := ⟨fuel - 1, by omega⟩
    obtain ⟨seen', e'⟩ := adm_pass (fuel := f) (s := s) (seen := seen) hm (by omega) (hn s (Nat.le_refl _) (by omega))
    rw [e']
    exact adm_none hm k (s + 1) f seen' (by omega) (by omega) fun p h1 h2 => hn p (by omega) h2
noncomputable def In2 (text : Array Nat) (lim s : Nat) : M := { code := code2, text, lim, start := s, lastStart := lim, pc := 10, pos := s, handed := s, marks := Array.replicate 0 none, seen := ({} : Seen).add 14 }
theorem search2 {text : Array Nat} {lim s : Nat} (h : s + 1 ≤ lim) : forSearch code2 text 0 s lim false = (match M.admitted (In2 text lim s) (lim + 1 - s) s (In2 text lim s).seen with
    | .ok (some s', seen) => { In2 text lim s with mustAdvance := false, seen }.attemptAt s' true
    | .ok (none, seen) => { In2 text lim s with seen }.say false
    | .error why => (In2 text lim s).stick why) := by
  unfold forSearch
  simp only [show header code2 = (1, 10) from rfl]
  rw [if_neg (by simp; omega)]
  rfl
theorem start2 {text : Array Nat} {lim s t : Nat} (hs : s ≤ t) (ht : t < lim) (hh : nl text t = true) (hn : ∀ p, s ≤ p → p < t → nl text p = false) : ∃ seen, forSearch code2 text 0 s lim false = St code2 text 10 lim lim t true seen := by
  rw [search2 (by omega)]
  obtain ⟨seen', e'⟩ := adm_find (m := In2 text lim s) rfl (t := t) ht hh (t - s) s (lim + 1 - s) (In2 text lim s).seen (by omega) (by show lim + 1 ≤ _; omega) hn
  rw [e']
  exact ⟨_, rfl⟩
theorem finds2_none {text : Array Nat} {s : Nat} (hs : s ≤ text.size) (hn : ∀ p, s ≤ p → p < text.size → nl text p = false) : Finds code2 text s none := by
  unfold Finds
  by_cases h : s = text.size
  · unfold forSearch
    simp only [show header code2 = (1, 10) from rfl]
    rw [if_pos (by simp; omega)]
    exact ⟨1, by omega, rfl⟩
  · rw [search2 (by omega)]
    obtain ⟨seen', e'⟩ := adm_none (m := In2 text text.size s) rfl (text.size - s) s (text.size + 1 - s) (In2 text text.size s).seen (by show _ = text.size; omega) (by show text.size + 1 ≤ _; omega) hn
    rw [e']
    exact ⟨1, by omega, rfl⟩
section
variable (text : Array Nat) (lim t : Nat)
set_option linter.unusedVariables false
abbrev F0 (t : Nat) (o : Bool) : Sre.Frame := { wait := .nextStart, pc := 10, pos := t, outermost := o }
noncomputable def Z (pc p : Nat) (o : Bool) (fs : List Sre.Frame) (wt hd : Nat) (seen : Seen) : M := { code := code2, text, lim, start := t, lastStart := lim, pc, pos := p, handed := hd, outermost := o, marks := Array.replicate 0 none, frames := fs, weight := wt, seen }
abbrev No (m : M) : M := { m with answer := some false }
variable {text lim t} {p hd wt : Nat} {o : Bool} {fs : List Sre.Frame} {seen : Seen}
theorem lit (w : Nat) {m m' : M} {s' : Seen} (e : M.step m = if p ≥ lim then No { m with seen := s' } else (match (Except.ok (text.getD p 0 == w, s') : Except String (Bool × Seen)) with
      | .error why => M.stick { m with seen := s' } why
      | .ok (false, seen) => No { m with seen }
      | .ok (true, seen) => { m' with seen })) : M.step m = if (decide (p < lim) && text.getD p 0 == w) = true then { m' with seen := s' } else No { m with seen := s' } := by
  rw [e]
  by_cases h : p ≥ lim
  · rw [if_pos h]
    have : decide (p < lim) = false := decide_eq_false (by omega)
    rw [this]
    rfl
  · rw [if_neg h]
    have : decide (p < lim) = true := decide_eq_true (by omega)
    rw [this]
    cases (text.getD p 0 == w) <;> rfl
theorem lit12 : M.step (Z text lim t 12 p o fs wt hd seen) = if (decide (p < lim) && text.getD p 0 == 13) = true then Z text lim t 14 (p + 1) o fs wt hd (seen.add 16) else No (Z text lim t 12 p o fs wt hd (seen.add 16)) := lit 13 (m' := Z text lim t 14 (p + 1) o fs wt hd (seen.add 16)) rfl
theorem lit14 : M.step (Z text lim t 14 p o fs wt hd seen) = if (decide (p < lim) && text.getD p 0 == 10) = true then Z text lim t 16 (p + 1) o fs wt hd (seen.add 16) else No (Z text lim t 14 p o fs wt hd (seen.add 16)) := lit 10 (m' := Z text lim t 16 (p + 1) o fs wt hd (seen.add 16)) rfl
theorem lit19 : M.step (Z text lim t 19 p o fs wt hd seen) = if (decide (p < lim) && text.getD p 0 == 10) = true then Z text lim t 21 (p + 1) o fs wt hd (seen.add 16) else No (Z text lim t 19 p o fs wt hd (seen.add 16)) := lit 10 (m' := Z text lim t 21 (p + 1) o fs wt hd (seen.add 16)) rfl
theorem lit24 : M.step (Z text lim t 24 p o fs wt hd seen) = if (decide (p < lim) && text.getD p 0 == 13) = true then Z text lim t 26 (p + 1) o fs wt hd (seen.add 16) else No (Z text lim t 24 p o fs wt hd (seen.add 16)) := lit 13 (m' := Z text lim t 26 (p + 1) o fs wt hd (seen.add 16)) rfl
theorem lit29 : M.step (Z text lim t 29 p o fs wt hd seen) = if (decide (p < lim) && text.getD p 0 == 10) = true then Z text lim t 31 (p + 1) o fs wt hd (seen.add 16) else No (Z text lim t 29 p o fs wt hd (seen.add 16)) := lit 10 (m' := Z text lim t 31 (p + 1) o fs wt hd (seen.add 16)) rfl
theorem branch2 : M.step (St code2 text 10 lim lim t o seen) = Z text lim t 12 t o [{ wait := .nextBranch, pc := 11, pos := t, outermost := o }, F0 t o] 2 t (seen.add 7) := rfl
theorem next18 : M.step (No (Z text lim t p hd o ({ wait := .nextBranch, pc := 11, pos := t, outermost := o } :: [F0 t o]) 2 wt seen)) = Z text lim t 19 t o ({ wait := .nextBranch, pc := 18, pos := t, outermost := o } :: [F0 t o]) 2 t seen := rfl
theorem next23 : M.step (No (Z text lim t p hd o ({ wait := .nextBranch, pc := 18, pos := t, outermost := o } :: [F0 t o]) 2 wt seen)) = Z text lim t 24 t o ({ wait := .nextBranch, pc := 23, pos := t, outermost := o } :: [F0 t o]) 2 t seen := rfl
theorem jump16 : M.step (Z text lim t 16 p o fs wt hd seen) = Z text lim t 35 p o fs wt hd (seen.add 15) := rfl
theorem jump21 : M.step (Z text lim t 21 p o fs wt hd seen) = Z text lim t 35 p o fs wt hd (seen.add 15) := rfl
theorem jump32 : M.step (Z text lim t 32 p o fs wt hd seen) = Z text lim t 35 p o fs wt hd (seen.add 15) := rfl
theorem look26 (k : Nat) : M.step (Z text lim t 26 (p + 1) o ({ wait := .nextBranch, pc := k, pos := t, outermost := o } :: [F0 t o]) 2 hd seen) = Z text lim t 29 (p + 1) false ({ wait := .lookNot, pc := 26, pos := p + 1, outermost := o } :: { wait := .nextBranch, pc := k, pos := t, outermost := o } :: [F0 t o]) 3 (p + 1) (seen.add 5) := rfl
theorem unlook (k : Nat) : M.step (No (Z text lim t 29 (p + 1) false ({ wait := .lookNot, pc := 26, pos := p + 1, outermost := o } :: { wait := .nextBranch, pc := k, pos := t, outermost := o } :: [F0 t o]) 3 (p + 1) seen)) = Z text lim t 32 (p + 1) o ({ wait := .nextBranch, pc := k, pos := t, outermost := o } :: [F0 t o]) 2 (p + 1) seen := rfl
theorem done35 (k : Nat) : Ends (Z text lim t 35 p o ({ wait := .nextBranch, pc := k, pos := t, outermost := o } :: [F0 t o]) 2 hd seen) 4 (Matched t p) := by
  cases o <;> exact ⟨4, Nat.le_refl _, rfl, rfl, rfl⟩
end
theorem finds2_crlf {text : Array Nat} {s t : Nat} (hs : s ≤ t) (ht : t + 1 < text.size) (h1 : text.getD t 0 = 13) (h2 : text.getD (t + 1) 0 = 10) (hn : ∀ p, s ≤ p → p < t → nl text p = false) : Finds code2 text s (some (t, t + 2)) := by
  obtain ⟨seen, e⟩ := start2 (text := text) (lim := text.size) (s := s) (t := t) hs (by omega) (by rw [nl, h1]; rfl) hn
  unfold Finds
  rw [e]
  have a1 : (decide (t < text.size) && text.getD t 0 == 13) = true := by rw [h1]; simp; omega
  have a2 : (decide (t + 1 < text.size) && text.getD (t + 1) 0 == 10) = true := by rw [h2]; simp; omega
  exact Ends.mono (Ends.step rfl branch2 (Ends.step rfl (lit12.trans (if_pos a1)) (Ends.step rfl (lit14.trans (if_pos a2)) (Ends.step rfl jump16 (done35 11))))) (by omega)
theorem finds2_lf {text : Array Nat} {s t : Nat} (hs : s ≤ t) (ht : t < text.size) (h1 : text.getD t 0 = 10) (hn : ∀ p, s ≤ p → p < t → nl text p = false) : Finds code2 text s (some (t, t + 1)) := by
  obtain ⟨seen, e⟩ := start2 (text := text) (lim := text.size) (s := s) (t := t) hs (by omega) (by rw [nl, h1]; rfl) hn
  unfold Finds
  rw [e]
  have a1 : ¬ (decide (t < text.size) && text.getD t 0 == 13) = true := by rw [h1]; simp
  have a2 : (decide (t < text.size) && text.getD t 0 == 10) = true := by rw [h1]; simp; omega
  exact Ends.mono (Ends.step rfl branch2 (Ends.step rfl (lit12.trans (if_neg a1)) (Ends.step rfl next18 (Ends.step rfl (lit19.trans (if_pos a2)) (Ends.step rfl jump21 (done35 18)))))) (by omega)
theorem finds2_cr {text : Array Nat} {s t : Nat} (hs : s ≤ t) (ht : t < text.size) (h1 : text.getD t 0 = 13) (h2 : text.getD (t + 1) 0 ≠ 10) (hn : ∀ p, s ≤ p → p < t → nl text p = false) : Finds code2 text s (some (t, t + 1)) := by
  obtain ⟨seen, e⟩ := start2 (text := text) (lim := text.size) (s := s) (t := t) hs (by omega) (by rw [nl, h1]; rfl) hn
  unfold Finds
  rw [e]
  have a1 : (decide (t < text.size) && text.getD t 0 == 13) = true := by rw [h1]; simp; omega
  have a2 : ¬ (decide (t + 1 < text.size) && text.getD (t + 1) 0 == 10) = true := by
    intro h
    rw [Bool.and_eq_true, beq_iff_eq] at h
    exact h2 h.2
  have a3 : ¬ (decide (t < text.size) && text.getD t 0 == 10) = true := by rw [h1]; simp
  exact Ends.mono (Ends.step rfl branch2 (Ends.step rfl (lit12.trans (if_pos a1)) (Ends.step rfl (lit14.trans (if_neg a2)) (Ends.step rfl next18 (Ends.step rfl (lit19.trans (if_neg a3)) (Ends.step rfl next23 (Ends.step rfl (lit24.trans (if_pos a1)) (Ends.step rfl (look26 23) (Ends.step rfl (lit29.trans (if_neg a2)) (Ends.step rfl (unlook 23) (Ends.step rfl jump32 (done35 23)))))))))))) (by omega)
end Mine
end
section
open PySem PySem.W PyProof.Rows PySem.Calls PySem.Spec
open PySem.Builtin PySem.Builtin.Re
namespace Mine
namespace RF
theorem plain_sub : plainId "re.Pattern.sub" = true := by decide +kernel
theorem entry_sub : entryFor table "re.Pattern.sub" = some Builtin.«re.Pattern.sub» := entryFor_of_fast (by kernel_rfl)
theorem plain_loop : plainId "re.Pattern.sub.loop" = true := by decide +kernel
theorem entry_loop : entryFor table "re.Pattern.sub.loop" = some Builtin.«re.Pattern.sub.loop» := entryFor_of_fast (by kernel_rfl)
theorem slot_sub : Slot "re.Pattern" "sub" "re.Pattern.sub" :=
  .of (owner := "re.Pattern") (n := "sub") (by rw [typeLookup_type, builtinLookup_eq_fast]; kernel_rfl) (by decide +kernel) (by decide +kernel) (by decide +kernel)
    (by first | exact .inl (by decide +kernel) | exact .inr (by decide +kernel)) (by rw [isSubtype_type]; kernel_rfl)
theorem type_sub : typeOf (.builtin "re.Pattern.sub") = pure (.type "method_descriptor") := by show builtinType _ = _; rw [builtinType_eq_fast]; kernel_rfl
theorem args_sub (a b c : Value) : argsOk "re.Pattern.sub" ⟨[a, b, c], []⟩ := by unfold argsOk; kernel_rfl
theorem plainAttrs_pat : PlainAttrs "re.Pattern" :=
  ⟨⟨"object.__getattribute__", by rw [typeLookup_type, builtinLookup_eq_fast]; kernel_rfl, by decide +kernel⟩, by rw [typeLookup_type, builtinLookup_eq_fast]; kernel_rfl⟩
end RF
section
variable {prog : Program} {w : World} {A : Around} {E : Value → Shared → Prop} {s : Shared}
theorem runFor_done {m : Sre.M} (h : m.outcome.isSome = true) (n : Nat) : Sre.M.runFor n m = m := by
  cases n with
  | zero => rfl
  | succ n => rw [Sre.M.runFor, if_pos h]
theorem drive : ∀ (n : Nat) (m : Sre.M) (k : Nat) {Q : Sre.M → Shared → Prop}, (Sre.M.runFor k m).outcome.isSome = true → k ≤ 4 * n → 0 < n → Q (Sre.M.runFor k m) s → wpAny (model prog w) A (reDrive n m) Q E s
  | 0, _, _, _, _, _, h0, _ => absurd h0 (Nat.lt_irrefl _)
  | n + 1, m, k, Q, ho, hk, _, hQ => by
    show wpAny _ _ (if (Sre.M.runFor 4 m).outcome.isSome = true then pure (Sre.M.runFor 4 m) else (do rule "sre.turn"; reDrive n (Sre.M.runFor 4 m))) _ _ _
    cases h : (Sre.M.runFor 4 m).outcome.isSome with
    | true =>
      have e : Sre.M.runFor 4 m = Sre.M.runFor k m := by
        by_cases hk4 : 4 ≤ k
        · obtain ⟨j, rfl⟩ : ∃ j, k = 4 + j := ⟨k - 4, by omega⟩
          rw [runFor_add, runFor_done h]
        · obtain ⟨j, hj⟩ : ∃ j, 4 = k + j := ⟨4 - k, by omega⟩
          rw [hj, runFor_add, runFor_done ho]
      rw [if_pos rfl, e]
      exact wpAny_pure hQ
    | false =>
      rw [if_neg (by decide)]
      refine wpAny_bind (wpAny_rule ?_)
      have hk4 : 4 < k := by
        rcases Nat.lt_or_ge 4 k with h4 | h4
        · exact h4
        · exfalso
          obtain ⟨j, hj⟩ : ∃ j, 4 = k + j := ⟨4 - k, by omega⟩
          rw [hj, runFor_add, runFor_done ho, ho] at h
          cases h
      obtain ⟨j, rfl⟩ : ∃ j, k = 4 + j := ⟨k - 4, by omega⟩
      rw [runFor_add] at ho hQ
      exact drive n _ j ho (by omega) (by omega) hQ
theorem toEnd {m : Sre.M} {k : Nat} {Q : Option Sre.M → Shared → Prop} (hk : k ≤ 100000) (ho : (Sre.M.runFor k m).outcome.isSome = true)
    (h : wpAny (model prog w) A (match (Sre.M.runFor k m).outcome with | some .matched => pure (some (Sre.M.runFor k m)) | some .failed => pure none | some (.stuck why) => unsupported s!"_sre:{why}" | none => unsupported "internal:sre:no-outcome") Q E s) :
    wpAny (model prog w) A (reRunToEnd m) Q E s := by
  unfold reRunToEnd
  refine wpAny_bind (drive _ m k ho (by omega) (by decide) ?_)
  refine wpAny_bind ?_
  refine wpAny_forIn_list _ (fun _ _ s' => s' = s) _ ?_ ?_ _ _ rfl
  · rintro x rest b s' rfl
    split
    · exact wpAny_bind (wpAny_rule (wpAny_pure rfl))
    · exact wpAny_pure rfl
  · rintro b s' rfl
    exact h
end
/-- the pattern's object and its code -/
structure Pat (g : Heap) (p ca : Addr) (code : Array Nat) : Prop where
  obj : ∃ a0 a1 a3 a4 t2 t6, g.get? p = some { cls := .type "re.Pattern", data := .fields #[a0, a1, .int 0 t2, a3, a4, .ref ca, .int 0 t6] }
  code : ∃ items n, g.get? ca = some { cls := .type "tuple", data := .seq items n } ∧ (items.map reRawOf).map (·.toNat) = code
section
variable {prog : Program} {w : World} {A : Around} {E : Value → Shared → Prop} {s : Shared} {p ca : Addr} {code : Array Nat} {T R : Str} {tt tr : Tok}
theorem whole {g : Heap} (hP : Pat g p ca code) (hk : ∀ b o, g.get? b = some o → s.heap.get? b = some o) {Q : ReTarget → Shared → Prop}
    (h : Q { pattern := .ref p, string := .str T tt, code := code, text := T.cps, kind := 0, groups := 0, pos := 0, lim := T.cps.size } s) : wpAny (model prog w) A (reWholeTarget (.ref p) (.str T tt)) Q E s := by
  obtain ⟨a0, a1, a3, a4, t2, t6, ho⟩ := hP.obj
  obtain ⟨items, n, hc, hcode⟩ := hP.code
  unfold reWholeTarget
  refine wpAny_bind (wpAny_fieldsOf (hk _ _ ho) rfl ?_)
  show wpAny (model prog w) A (reRawItems (.ref ca) >>= fun c => pure { pattern := .ref p, string := .str T tt, code := c.map (·.toNat), text := T.cps, kind := 0, groups := 0, pos := 0, lim := T.cps.size }) Q E s
  refine wpAny_bind ?_
  show wpAny (model prog w) A (seqItems? (.ref ca) >>= fun x => pure ((x.getD #[]).map reRawOf)) _ E s
  refine wpAny_bind (wpAny_seqItems (hk _ _ hc) rfl (wpAny_pure ?_))
  subst hcode
  exact wpAny_pure h
end
end Mine
end
section
open PySem PySem.W PyProof.Rows PySem.Calls PySem.Spec
open PySem.Builtin PySem.Builtin.Re
namespace Mine
noncomputable def Chain (code text : Array Nat) : Nat → List (Nat × Nat) → Prop
  | i, [] => Finds code text i none
  | i, (b, e) :: r => Finds code text i (some (b, e)) ∧ i ≤ b ∧ b < e ∧ e ≤ text.size ∧ Chain code text e r
noncomputable def subbed (text : Array Nat) (R : Str) : Nat → List (Nat × Nat) → List Str
  | i, [] => if i < text.size then [⟨text.extract i text.size⟩] else []
  | i, (b, e) :: r => (if i < b then [⟨text.extract i b⟩] else []) ++ R :: subbed text R e r
noncomputable def weight (ys : List Str) : Nat := (ys.map (·.length)).sum + ys.length
section
variable {prog : Program} {w : World} {A : Around} {E : Value → Shared → Prop} {s : Shared} {p ca : Addr} {code : Array Nat} {T R : Str} {tt tr : Tok} {g : Heap} {L : Addr} {m : Str → Option Value} {news : List (Addr × Obj)}
theorem found {i b e : Nat} {Q : Option Sre.M → Shared → Prop} {text : Array Nat} (h : Finds code text i (some (b, e))) (hQ : ∀ m : Sre.M, m.start = b → m.handed = e → Q (some m) s) :
    wpAny (model prog w) A (reRunToEnd (Sre.forSearch code text 0 i text.size false)) Q E s := by
  obtain ⟨k, hk, ho, h1, h2⟩ := h
  refine toEnd hk (by rw [ho]; rfl) ?_
  rw [ho]
  exact wpAny_pure (hQ _ h1 h2)
theorem foundNone {i : Nat} {Q : Option Sre.M → Shared → Prop} {text : Array Nat} (h : Finds code text i none) (hQ : Q none s) :
    wpAny (model prog w) A (reRunToEnd (Sre.forSearch code text 0 i text.size false)) Q E s := by
  obtain ⟨k, hk, ho⟩ := h
  have ho' : (Sre.M.runFor k (Sre.forSearch code text 0 i text.size false)).outcome = some .failed := ho
  refine toEnd hk (by rw [ho']; rfl) ?_
  rw [ho']
  exact wpAny_pure hQ
/-- one more text onto the list -/
theorem push_str {l : Addr} {vs : List Value} {ys : List Str} {c : Nat} {x : Str} {t : Tok} {Q : Unit → Shared → Prop} (F : Fr g L s.heap m) (N : News g L s.heap ((l, listOf vs.toArray c) :: news)) (hne : ∀ q ∈ news, q.1 ≠ l) (hi : StrsAre vs ys) (hz : vs.length ≤ 1000)
    (h : ∀ h', Fr g L h' m → News g L h' ((l, listOf (vs ++ [Value.str x t]).toArray (c + 1)) :: news) → StrsAre (vs ++ [Value.str x t]) (ys ++ [x]) → Q () { s with heap := h' }) :
    wpAny (model prog w) A (updateSeq l (·.push (Value.str x t))) Q E s := by
  have ho := (N _ (.head _)).1
  refine wpAny_updateSeq ho rfl (hz := by rw [sizeLine_eq]; simp; omega) ?_
  have hs := Heap.SameBut.update s.heap l (Obj.mapSeq (·.push (Value.str x t)))
  have hg : (s.heap.update l (Obj.mapSeq (·.push (Value.str x t)))).get? l = some (listOf (vs ++ [Value.str x t]).toArray (c + 1)) := by
    rw [Heap.get?_update_self _ ho (by rw [mapSeq_push]; rfl), mapSeq_push]
    simp
  exact h _ (F.change hs (N _ (.head _)).2.1 (N _ (.head _)).2.2) (N.setHead hne hs hg) (StrsAre.append' hi (.cons x t .nil))
theorem slice_wp {i j : Nat} {Q : Value → Shared → Prop} {text : Array Nat} (hz : text.size ≤ 1000) (h : Q (.str ⟨text.extract i j⟩ s.toks) { s with toks := s.toks + 1 }) : wpAny (model prog w) A (reSlice text 0 i j) Q E s := by
  show wpAny _ _ (mkStr ⟨text.extract i j⟩) _ _ _
  exact wpAny_mkStr h (by rw [sizeLine_eq]; show (text.extract i j).size ≤ _; rw [Array.size_extract]; omega)
/-- the end of it: the texts are joined -/
abbrev tailTree (T : Str) (l : Addr) (n : Int) : Sem Fin := do
  let joiner ← reSlice T.cps 0 0 0
  let x ← seqItems? (Value.ref l)
  if (x.getD #[]).isEmpty = true then do
    let text ← pure joiner
    if false = true then do
      let y ← holding [text] do
        let z ← mkInt n
        newTuple [text, z]
      ret y
    else ret text
  else do
    let text ← call (Value.builtin (if ((0 : Nat) == 0) = true then "str.join" else "bytes.join")) [joiner, Value.ref l]
    if false = true then do
      let y ← holding [text] do
        let z ← mkInt n
        newTuple [text, z]
      ret y
    else ret text
theorem tail_wp {Rr : Result → Shared → Prop} {l : Addr} {B : Around} {c : Nat} {n : Int} {vs : List Value} {ys : List Str} (F : Fr g L s.heap m) (N : News g L s.heap ((l, listOf vs.toArray c) :: news)) (hi : StrsAre vs ys) (hz : T.cps.size ≤ 1000)
    (hw : weight ys ≤ 1048576) (hn0 : ys ≠ []) {E' : Value → Shared → Prop}
    (hR : ∀ t h' tk', Fr g L h' m → News g L h' news → Rr (.ok (.ret (.str (Txt.join ⟨#[]⟩ ys) t))) { s with heap := h', toks := tk' }) :
    wpAny (model prog w) B (tailTree T l n) (fun fin s' => match fin with | .done f => Rr (.ok f) s' | .again c' => c'.quiet = true ∧ codeAny (model prog w) A c' Rr s') E' s := by
  have ho := (N _ (.head _)).1
  refine wpAny_bind (slice_wp hz ?_)
  refine wpAny_bind (wpAny_seqItems ho rfl ?_)
  have hvs : vs ≠ [] := by
    rintro rfl
    cases hi
    exact hn0 rfl
  rw [if_neg (by cases vs <;> simp_all)]
  have e0 : T.cps.extract 0 0 = #[] := by simp
  rw [e0]
  show wpAny _ _ (call (.builtin "str.join") [.str ⟨#[]⟩ _, .ref l] >>= fun text => ret text) _ _ _
  refine wpAny_bind (join_listW (s := { s with toks := s.toks + 1 }) ⟨_, ho, rfl, _, rfl⟩ (by simpa using hi) (by decide) hw fun t' k => ?_)
  exact wpAny_pure (hR t' _ k F fun q hq => N q (.tail _ hq))
theorem loop_nil {Rr : Result → Shared → Prop} {l : Addr} (hP : Pat g p ca code) (hne : ∀ q ∈ news, q.1 ≠ l) (hz : T.cps.size ≤ 1000) {i c : Nat} {n : Int} {vs : List Value} {ys : List Str} (hc : Chain code T.cps i []) (F : Fr g L s.heap m) (N : News g L s.heap ((l, listOf vs.toArray c) :: news)) (hi : StrsAre vs ys) (hv : vs.length ≤ 900)
    (hw : weight (ys ++ subbed T.cps R i []) ≤ 1048576) (hn0 : ys ++ subbed T.cps R i [] ≠ [])
    (hR : ∀ t h' tk', Fr g L h' m → News g L h' news → Rr (.ok (.ret (.str (Txt.join ⟨#[]⟩ (ys ++ subbed T.cps R i [])) t))) { s with heap := h', toks := tk' }) :
    codeAny (model prog w) A (.builtin "re.Pattern.sub.loop" ⟨[.ref p, .str T tt, .str R tr, rawInt 0, rawInt 0, rawInt n, rawInt i, rawInt i, .bool false, .ref l, .bool false], []⟩) Rr s := by
  refine codeAny_builtin RF.entry_loop ?_
  rw [Around.under_plainId RF.plain_loop _]
  show wpAny _ A.in1 (reWholeTarget (.ref p) (.str T tt) >>= _) _ _ s
  refine wpAny_bind (whole hP F.keep ?_)
  show wpAny _ A.in1 (reRunToEnd (Sre.forSearch code T.cps 0 i T.cps.size false) >>= _) _ _ s
  refine wpAny_bind (foundNone hc ?_)
  show wpAny _ A.in1 (if i < T.cps.size then reSlice T.cps 0 i T.cps.size >>= fun v => updateSeq l (·.push v) >>= fun _ => tailTree T l n else tailTree T l n) _ _ s
  by_cases h : i < T.cps.size
  · rw [if_pos h]
    simp only [subbed, if_pos h] at hw hn0 hR
    refine wpAny_bind (slice_wp hz (wpAny_bind ?_))
    refine push_str (s := { s with toks := s.toks + 1 }) F N hne hi (by omega) fun h' F' N' hi' => ?_
    exact tail_wp (s := { s with heap := h', toks := s.toks + 1 }) F' N' hi' hz hw hn0 hR
  · rw [if_neg h]
    simp only [subbed, if_neg h] at hw hn0 hR
    exact tail_wp F N (by simpa using hi) hz hw hn0 hR
theorem loop_wp {Rr : Result → Shared → Prop} {l : Addr} (hP : Pat g p ca code) (hne : ∀ q ∈ news, q.1 ≠ l) (hz : T.cps.size ≤ 1000) : ∀ (ms : List (Nat × Nat)) {i c : Nat} {n : Int} {vs : List Value} {ys : List Str} {s : Shared}, Chain code T.cps i ms → Fr g L s.heap m → News g L s.heap ((l, listOf vs.toArray c) :: news) → StrsAre vs ys → vs.length + 2 * ms.length ≤ 900 →
    weight (ys ++ subbed T.cps R i ms) ≤ 1048576 → ys ++ subbed T.cps R i ms ≠ [] →
    (∀ t h' tk', Fr g L h' m → News g L h' news → Rr (.ok (.ret (.str (Txt.join ⟨#[]⟩ (ys ++ subbed T.cps R i ms)) t))) { s with heap := h', toks := tk' }) →
    codeAny (model prog w) A (.builtin "re.Pattern.sub.loop" ⟨[.ref p, .str T tt, .str R tr, rawInt 0, rawInt 0, rawInt n, rawInt i, rawInt i, .bool false, .ref l, .bool false], []⟩) Rr s
  | [], i, c, n, vs, ys, s, hc, F, N, hi, hv, hw, hn0, hR => loop_nil hP hne hz hc F N hi (by simpa using hv) hw hn0 hR
  | (b, e) :: r, i, c, n, vs, ys, s, hc, F, N, hi, hv, hw, hn0, hR => by
    obtain ⟨hf, h1, h2, h3, hc'⟩ := hc
    refine codeAny_builtin RF.entry_loop ?_
    rw [Around.under_plainId RF.plain_loop _]
    show wpAny _ A.in1 (reWholeTarget (.ref p) (.str T tt) >>= _) _ _ s
    refine wpAny_bind (whole hP F.keep ?_)
    show wpAny _ A.in1 (reRunToEnd (Sre.forSearch code T.cps 0 i T.cps.size false) >>= _) _ _ s
    refine wpAny_bind (found hf fun M hb he => ?_)
    subst hb he
    have hEB : (M.handed == M.start) = false := by simp; omega
    have step : ∀ {c : Nat} {vs : List Value} {ys : List Str} {s : Shared}, Fr g L s.heap m → News g L s.heap ((l, listOf vs.toArray c) :: news) → StrsAre vs ys → vs.length + 2 * r.length + 1 ≤ 900 →
        weight (ys ++ R :: subbed T.cps R M.handed r) ≤ 1048576 → (∀ t h' tk', Fr g L h' m → News g L h' news → Rr (.ok (.ret (.str (Txt.join ⟨#[]⟩ (ys ++ R :: subbed T.cps R M.handed r)) t))) { s with heap := h', toks := tk' }) →
        wpAny (model prog w) A.in1 (updateSeq l (·.push (.str R tr)) >>= fun _ => again (.builtin "re.Pattern.sub.loop" ⟨[.ref p, .str T tt, .str R tr, rawInt 0, rawInt 0, rawInt (n + 1), rawInt M.handed, rawInt M.handed, .bool (M.handed == M.start), .ref l, .bool false], []⟩))
          (fun fin s' => match fin with | .done f => Rr (.ok f) s' | .again c' => c'.quiet = true ∧ codeAny (model prog w) A c' Rr s') (fun e s' => Rr (.error e) s') s := by
      intro c vs ys s F N hi hv hw hR
      refine wpAny_bind (push_str F N hne hi (by omega) fun h' F' N' hi' => ?_)
      refine wpAny_pure ⟨plainId_quiet RF.plain_loop _, ?_⟩
      rw [hEB]
      have ea : ys ++ R :: subbed T.cps R M.handed r = (ys ++ [R]) ++ subbed T.cps R M.handed r := by simp
      rw [ea] at hw hR
      exact loop_wp hP hne hz r (s := { s with heap := h' }) hc' F' N' hi' (by simp; omega) hw (by simp) hR
    show wpAny _ A.in1 (if i < M.start then reSlice T.cps 0 i M.start >>= fun v => updateSeq l (·.push v) >>= fun _ => _ else _) _ _ s
    simp only [List.length_cons] at hv
    by_cases h : i < M.start
    · rw [if_pos h]
      simp only [subbed, if_pos h] at hw hR
      refine wpAny_bind (slice_wp hz (wpAny_bind ?_))
      refine push_str (s := { s with toks := s.toks + 1 }) F N hne hi (by omega) fun h' F' N' hi' => ?_
      have ea : ys ++ ([{ cps := T.cps.extract i M.start }] ++ R :: subbed T.cps R M.handed r) = (ys ++ [{ cps := T.cps.extract i M.start }]) ++ R :: subbed T.cps R M.handed r := by simp
      rw [ea] at hw hR
      exact step (s := { s with heap := h', toks := s.toks + 1 }) F' N' hi' (by simp; omega) hw hR
    · rw [if_neg h]
      simp only [subbed, if_neg h, List.nil_append] at hw hR
      exact step F N hi (by omega) hw hR
end
end Mine
end
section
open PySem PySem.W PyProof.Rows PySem.Calls PySem.Spec
open PySem.Builtin PySem.Builtin.Re
namespace Mine
theorem named (id f : String) (a b : Value) : reNamed id f ["repl", "string", "count"] 2 [a, b] [] = pure [some a, some b, none] := by rfl
theorem str_call (R : Str) (tr : Tok) : specialOf (.str R tr) "__call__" = pure none := by
  show typeLookup (.type "str") "__call__" = _
  rw [typeLookup_type, builtinLookup_eq_fast]; kernel_rfl
section
variable {prog : Program} {w : World} {A : Around} {E : Value → Shared → Prop} {s : Shared} {p ca : Addr} {code : Array Nat} {T R : Str} {tt tr : Tok} {g : Heap} {L : Addr} {m : Str → Option Value} {news : List (Addr × Obj)}
theorem sub_wp {Q : Value → Shared → Prop} (hP : Pat g p ca code) (hR : R.cps.contains 92 = false) (F : Fr g L s.heap m) (N : News g L s.heap news) (hz : T.cps.size ≤ 1000) (ms : List (Nat × Nat)) (hc : Chain code T.cps 0 ms) (hv : 2 * ms.length ≤ 900)
    (hw : weight (subbed T.cps R 0 ms) ≤ 1048576) (hn0 : subbed T.cps R 0 ms ≠ [])
    (h : ∀ t h' tk', Fr g L h' m → News g L h' news → Q (.str (Txt.join ⟨#[]⟩ (subbed T.cps R 0 ms)) t) { s with heap := h', toks := tk' }) :
    wpAny (model prog w) A (call (.builtin "re.Pattern.sub") [.ref p, .str R tr, .str T tt]) Q E s := by
  have hP' := hP
  obtain ⟨a0, a1, a3, a4, t2, t6, ho⟩ := hP'.obj
  have hT : s.TypeIs (.ref p) "re.Pattern" := ⟨_, F.keep _ _ ho, rfl⟩
  refine wpAny_call (codeAny_call_builtin RF.slot_sub.plain RF.entry_sub (RF.slot_sub.check _ _ _ _ _ _ _ _ hT (RF.args_sub _ _ _) ?_))
  show wpAny _ A.in1 (reNamed "re.Pattern.sub" "sub" ["repl", "string", "count"] 2 [.str R tr, .str T tt] [] >>= _) _ _ s
  rw [named]
  refine wpAny_bind (wpAny_pure ?_)
  refine wpAny_bind (wpAny_pure ?_)
  dsimp only
  rw [str_call]
  refine wpAny_bind (wpAny_pure ?_)
  dsimp only [Option.isSome]
  rw [if_neg (by decide)]
  refine wpAny_bind (m := asStr? (.str R tr)) (wpAny_pure ?_)
  dsimp only
  refine wpAny_bind (wpAny_pure ?_)
  rw [if_neg (by decide), hR]
  rw [if_pos (by decide)]
  refine wpAny_bind (wpAny_pure ?_)
  dsimp only
  refine wpAny_bind (wpAny_holding (whole hP F.keep ?_))
  rw [if_neg (by decide)]
  refine wpAny_bind (newList_K F N (fun l h' F' N' l1 => ?_) (by decide))
  refine wpAny_pure ⟨plainId_quiet RF.plain_loop _, ?_⟩
  exact loop_wp (ys := []) hP (fun q hq => Nat.ne_of_lt (l1 q hq)) hz ms hc F' N' .nil (by simpa using hv) hw hn0 h
end
end Mine
end
section
open PySem PySem.W PyProof.Rows PySem.Calls PySem.Spec
namespace Mine
theorem pat1 {P : Params} {g : Heap} (X : (hd.heap_39 P).In g) : Pat g 36 35 code1 := ⟨⟨_, _, _, _, _, _, X 36 _ rfl⟩, ⟨_, _, X 35 _ rfl, by decide +kernel⟩⟩
theorem pat2 {P : Params} {g : Heap} (X : (hd.heap_39 P).In g) : Pat g 41 40 code2 := ⟨⟨_, _, _, _, _, _, X 41 _ rfl⟩, ⟨_, _, X 40 _ rfl, by decide +kernel⟩⟩
section
variable {M : Model} {A : Around} {E : Value → Shared → Prop} {s : Shared} {g : Heap} {L : Addr} {m : Str → Option Value} {P : Params}
theorem meth1 {pl : Sem Bool} {Q : Value × List Value → Shared → Prop} (X : (hd.heap_39 P).In g) (F : Fr g L s.heap m) (h : Q (.builtin "re.Pattern.sub", [.ref 36]) s) : wpAny M A (getMethod (.ref 36) "sub" pl) Q E s :=
  getMethod_builtin (T := "re.Pattern") ⟨_, F.keep _ _ (X 36 _ rfl), rfl⟩ RF.plainAttrs_pat RF.slot_sub RF.type_sub (fun a e => by cases e; exact ⟨_, F.keep _ _ (X 36 _ rfl), rfl⟩) h
theorem meth2 {pl : Sem Bool} {Q : Value × List Value → Shared → Prop} (X : (hd.heap_39 P).In g) (F : Fr g L s.heap m) (h : Q (.builtin "re.Pattern.sub", [.ref 41]) s) : wpAny M A (getMethod (.ref 41) "sub" pl) Q E s :=
  getMethod_builtin (T := "re.Pattern") ⟨_, F.keep _ _ (X 41 _ rfl), rfl⟩ RF.plainAttrs_pat RF.slot_sub RF.type_sub (fun a e => by cases e; exact ⟨_, F.keep _ _ (X 41 _ rfl), rfl⟩) h
end
local macro_rules | `(tactic| walk_at "getMethod ref") => `(tactic| (k_here; first | refine meth1 (by assumption) (by assumption) ?_ | refine meth2 (by assumption) (by assumption) ?_))
/-- what a text is after one pattern: the matches, and the text -/
structure Subs (code : Array Nat) (R : Str) (T : Str) (ms : List (Nat × Nat)) (T' : Str) : Prop where
  chain : Chain code T.cps 0 ms
  size : T.cps.size ≤ 1000
  few : 2 * ms.length ≤ 900
  light : weight (subbed T.cps R 0 ms) ≤ 1048576
  some : subbed T.cps R 0 ms ≠ []
  is : Txt.join ⟨#[]⟩ (subbed T.cps R 0 ms) = T'
theorem quote_walk (w : World) (mean : ExcName → Option Value) (mg mb : Str → Option Value) (news : List (Addr × Obj)) (T T1 T2 : Str) (tt : Tok) (ms2 ms1 : List (Nat × Nat)) (h2 : Subs code2 (Str.ofString "\r\n") T ms2 T1) (h1 : Subs code1 (Str.ofString "..") T1 ms1 T2) :
   Claim 48 1 w mean mg mb news [.str T tt] (fun t => .str T2 t) := by
  w_top off
  dsimp only [Claim, SpecOf]
  k_fill
  k_with_none
  intros; rename_i hret
  k_with "call builtin:re.Pattern.sub cons nil" => first
    | (refine sub_wp (pat2 (by assumption)) (by decide +kernel) (by assumption) (by assumption) h2.size ms2 h2.chain h2.few h2.light h2.some ?_; rw [h2.is]; intro t9 h9 tk9 F9 N9)
    | (refine sub_wp (pat1 (by assumption)) (by decide +kernel) (by assumption) (by assumption) h1.size ms1 h1.chain h1.few h1.light h1.some ?_; rw [h1.is]; intro t9 h9 tk9 F9 N9)
  refine wpAny_call ?_
  k_dflt cell_enter
  k_steps
  all_goals exact cb_retS hret rfl (by assumption) (by assumption)
end Mine
end
section
open PySem PySem.W PyProof.Rows
namespace Mine
noncomputable def tx (l : List Nat) : Str := ⟨l.toArray⟩
theorem getD_tx (l : List Nat) (p : Nat) : (tx l).cps.getD p 0 = l.getD p 0 := by
  simp [tx, Array.getD_eq_getD_getElem?, List.getD_eq_getElem?_getD]
theorem size_tx (l : List Nat) : (tx l).cps.size = l.length := by simp [tx]
theorem ext_tx (l : List Nat) (i j : Nat) : (⟨(tx l).cps.extract i j⟩ : Str) = tx ((l.take j).drop i) := by
  simp [tx, List.extract_toArray, List.extract_eq_take_drop, List.drop_take]
noncomputable def Plain (l : List Nat) : Prop := ∀ c ∈ l, c ≠ 46 ∧ c ≠ 10 ∧ c ≠ 13
theorem at_left {a b : List Nat} {p : Nat} (h : p < a.length) : (a ++ b).getD p 0 = a.getD p 0 := by
  simp only [List.getD_eq_getElem?_getD, List.getElem?_append_left h]
theorem at_right {a b : List Nat} {p : Nat} (h : a.length ≤ p) : (a ++ b).getD p 0 = b.getD (p - a.length) 0 := by
  simp only [List.getD_eq_getElem?_getD, List.getElem?_append_right h]
theorem tx_app (a b : List Nat) : tx a ++ tx b = tx (a ++ b) := by
  show (⟨_⟩ : Str) = _
  simp [tx]
theorem join_tx : ∀ ls : List (List Nat), Txt.join ⟨#[]⟩ (ls.map tx) = tx ls.flatten := by
  intro ls
  show Builtin.Str.glued _ _ = _
  rw [StrLaws.glued_eq_join]
  have h0 : (⟨#[]⟩ : Str) = tx [] := rfl
  rw [h0]
  induction ls with
  | nil => rfl
  | cons a r ih =>
    cases r with
    | nil => simp [Str.join]
    | cons b r =>
      rw [List.map_cons, List.map_cons, Str.join, ← List.map_cons, ih, tx_app, tx_app]
      · simp
      · simp
theorem weight_tx (ls : List (List Nat)) : weight (ls.map tx) = (ls.map List.length).sum + ls.length := by
  unfold weight
  have : ((ls.map tx).map (·.length)) = ls.map List.length := by simp [tx, Str.length, Function.comp_def]
  rw [this, List.length_map]
noncomputable def NoNl (l : List Nat) : Prop := ∀ c ∈ l, c ≠ 10 ∧ c ≠ 13
theorem getD_mem {l : List Nat} {p : Nat} (h : p < l.length) : l.getD p 0 ∈ l := by
  rw [List.getD_eq_getElem?_getD, List.getElem?_eq_getElem h]
  exact List.getElem_mem h
theorem nl_left {X R : List Nat} (hX : NoNl X) {p : Nat} (h : p < X.length) : nl (tx (X ++ R)).cps p = false := by
  have := hX _ (getD_mem h)
  unfold nl
  rw [getD_tx, at_left h, beq_false_of_ne this.1, beq_false_of_ne this.2]
  rfl
theorem nl_right {X Y : List Nat} (hY : NoNl Y) {p : Nat} (h0 : X.length ≤ p) (h : p < (X ++ Y).length) : nl (tx (X ++ Y)).cps p = false := by
  have := hY _ (getD_mem (l := Y) (p := p - X.length) (by rw [List.length_append] at h; omega))
  unfold nl
  rw [getD_tx, at_right h0, beq_false_of_ne this.1, beq_false_of_ne this.2]
  rfl
/-- one feed between two lines -/
theorem subs2 {X S Y : List Nat} (hX : NoNl X) (hY : NoNl Y) (hX0 : X ≠ []) (hY0 : Y ≠ []) (hS : S = [10] ∨ S = [13] ∨ S = [13, 10]) (hz : X.length + Y.length ≤ 500) :
    Subs code2 (Str.ofString "\r\n") (tx (X ++ S ++ Y)) [(X.length, X.length + S.length)] (tx (X ++ [13, 10] ++ Y)) := by
  have hXl : 0 < X.length := List.length_pos_iff.mpr hX0
  have hYl : 0 < Y.length := List.length_pos_iff.mpr hY0
  have hs : (tx (X ++ S ++ Y)).cps.size = X.length + S.length + Y.length := by rw [size_tx]; simp; omega
  have hS0 : 0 < S.length ∧ S.length ≤ 2 := by rcases hS with rfl | rfl | rfl <;> decide
  have hcr : Str.ofString "\r\n" = tx [13, 10] := by decide +kernel
  have hsub : subbed (tx (X ++ S ++ Y)).cps (Str.ofString "\r\n") 0 [(X.length, X.length + S.length)] = [X, [13, 10], Y].map tx := by
    simp only [subbed]
    rw [if_pos hXl, if_pos (by rw [hs]; omega), ext_tx, ext_tx, hcr, hs]
    have e1 : (List.take X.length (X ++ S ++ Y)).drop 0 = X := by simp [List.append_assoc]
    have e2 : (List.take (X.length + S.length + Y.length) (X ++ S ++ Y)).drop (X.length + S.length) = Y := by
      rw [List.take_of_length_le (by simp; omega)]
      rw [List.append_assoc, ← List.drop_drop]
      simp
    rw [e1, e2]
    rfl
  have hleft : ∀ p, 0 ≤ p → p < X.length → nl (tx (X ++ S ++ Y)).cps p = false := fun p _ h => by
    rw [List.append_assoc]; exact nl_left hX h
  have hright : ∀ p, X.length + S.length ≤ p → p < (tx (X ++ S ++ Y)).cps.size → nl (tx (X ++ S ++ Y)).cps p = false := fun p h1 h2 =>
    nl_right hY (by simpa using h1) (by rw [size_tx] at h2; exact h2)
  refine ⟨⟨?_, Nat.zero_le _, by omega, by rw [hs]; omega, finds2_none (by rw [hs]; omega) hright⟩, by rw [hs]; omega, by simp, ?_, ?_, ?_⟩
  · rcases hS with rfl | rfl | rfl
    · refine finds2_lf (Nat.zero_le _) (by rw [hs]; simp; omega) ?_ hleft
      rw [getD_tx, List.append_assoc, at_right (Nat.le_refl _)]; simp
    · refine finds2_cr (Nat.zero_le _) (by rw [hs]; simp; omega) ?_ ?_ hleft
      · rw [getD_tx, List.append_assoc, at_right (Nat.le_refl _)]; simp
      · rw [getD_tx, at_right (by simp)]
        have := (hY _ (getD_mem (l := Y) (p := 0) hYl)).1
        simpa using this
    · refine finds2_crlf (Nat.zero_le _) (by rw [hs]; simp; omega) ?_ ?_ hleft
      · rw [getD_tx, List.append_assoc, at_right (Nat.le_refl _)]; simp
      · rw [getD_tx, List.append_assoc, at_right (by omega)]; simp
  · rw [hsub, weight_tx]; simp; omega
  · rw [hsub]; simp
  · rw [hsub, join_tx]; simp
/- the dots -/
noncomputable def stuff : List Nat → List Nat
  | 46 :: r => 46 :: 46 :: r
  | l => l
noncomputable def dotted (l : List Nat) : Bool := l.getD 0 0 == 46
theorem hit_left {X Y : List Nat} (hX : NoNl X) (hX0 : X ≠ []) {p : Nat} (hp : 0 < p) (h : p < X.length + 2) (lim : Nat) : hit1 (tx (X ++ [13, 10] ++ Y)).cps lim p = false := by
  have hl : lineAt (tx (X ++ [13, 10] ++ Y)).cps p = false := by
    unfold lineAt
    rw [getD_tx, List.append_assoc]
    have e0 : (p == 0) = false := beq_false_of_ne (by omega)
    rw [e0, Bool.false_or]
    refine beq_false_of_ne ?_
    rcases Nat.lt_or_ge (p - 1) X.length with h1 | h1
    · rw [at_left h1]; exact (hX _ (getD_mem h1)).1
    · have e : p - 1 = X.length := by omega
      rw [at_right h1, e]; simp
  unfold hit1
  rw [hl]
  simp
theorem hit_right {X Y : List Nat} (hY : NoNl Y) {p : Nat} (hp : X.length + 2 < p) (h : p < (X ++ [13, 10] ++ Y).length) (lim : Nat) : hit1 (tx (X ++ [13, 10] ++ Y)).cps lim p = false := by
  have hl : lineAt (tx (X ++ [13, 10] ++ Y)).cps p = false := by
    unfold lineAt
    rw [getD_tx]
    have e0 : (p == 0) = false := beq_false_of_ne (by omega)
    rw [e0, Bool.false_or]
    refine beq_false_of_ne ?_
    have hle : (X ++ [13, 10]).length ≤ p - 1 := by simp; omega
    rw [at_right hle]
    exact (hY _ (getD_mem (by simp at h hle ⊢; omega))).1
  unfold hit1
  rw [hl]
  simp
theorem hit_zero {X Y : List Nat} (hX0 : X ≠ []) : hit1 (tx (X ++ [13, 10] ++ Y)).cps (tx (X ++ [13, 10] ++ Y)).cps.size 0 = dotted X := by
  have hXl : 0 < X.length := List.length_pos_iff.mpr hX0
  unfold hit1 lineAt dotted
  have e : decide (0 < (tx (X ++ [13, 10] ++ Y)).cps.size) = true := decide_eq_true (by rw [size_tx]; simp; omega)
  rw [e, getD_tx, List.append_assoc, at_left hXl]
  simp
theorem hit_second {X Y : List Nat} (hY0 : Y ≠ []) : hit1 (tx (X ++ [13, 10] ++ Y)).cps (tx (X ++ [13, 10] ++ Y)).cps.size (X.length + 2) = dotted Y := by
  have hYl : 0 < Y.length := List.length_pos_iff.mpr hY0
  unfold hit1 lineAt dotted
  have e : decide (X.length + 2 < (tx (X ++ [13, 10] ++ Y)).cps.size) = true := decide_eq_true (by rw [size_tx]; simp; omega)
  have e1 : (tx (X ++ [13, 10] ++ Y)).cps.getD (X.length + 2 - 1) 0 = 10 := by
    rw [getD_tx, List.append_assoc, at_right (by omega)]
    have : X.length + 2 - 1 - X.length = 1 := by omega
    rw [this]; simp
  have e2 : (tx (X ++ [13, 10] ++ Y)).cps.getD (X.length + 2) 0 = Y.getD 0 0 := by
    rw [getD_tx, at_right (by simp)]
    simp
  rw [e, e1, e2]
  simp
noncomputable def hits (X Y : List Nat) : List (Nat × Nat) := (if dotted X then [(0, 1)] else []) ++ (if dotted Y then [(X.length + 2, X.length + 3)] else [])
theorem dotted_true {l : List Nat} (h : dotted l = true) : ∃ r, l = 46 :: r := by
  cases l with
  | nil => simp [dotted] at h
  | cons a r => exact ⟨r, by simp [dotted] at h; rw [h]⟩
theorem stuff_false {l : List Nat} (h : dotted l = false) : stuff l = l := by
  unfold stuff
  split
  · simp [dotted] at h
  · rfl
theorem subs1 {X Y : List Nat} (hX : NoNl X) (hY : NoNl Y) (hX1 : 1 < X.length) (hY1 : 1 < Y.length) (hz : X.length + Y.length ≤ 500) :
    Subs code1 (Str.ofString "..") (tx (X ++ [13, 10] ++ Y)) (hits X Y) (tx (stuff X ++ [13, 10] ++ stuff Y)) := by
  have hX0 : X ≠ [] := by rintro rfl; simp at hX1
  have hY0 : Y ≠ [] := by rintro rfl; simp at hY1
  have hs : (tx (X ++ [13, 10] ++ Y)).cps.size = X.length + 2 + Y.length := by rw [size_tx]; simp; omega
  have hl : (X ++ [13, 10] ++ Y).length = X.length + 2 + Y.length := by simp; omega
  have hdd : Str.ofString ".." = tx [46, 46] := by decide +kernel
  have nohit : ∀ p, 0 < p → p ≠ X.length + 2 → p < X.length + 2 + Y.length → hit1 (tx (X ++ [13, 10] ++ Y)).cps (tx (X ++ [13, 10] ++ Y)).cps.size p = false := by
    intro p h0 h1 h2
    rcases Nat.lt_or_ge p (X.length + 2) with h | h
    · exact hit_left hX hX0 h0 h _
    · exact hit_right hY (by omega) (by rw [hl]; exact h2) _
  have z0 := hit_zero (X := X) (Y := Y) hX0
  have z1 := hit_second (X := X) (Y := Y) hY0
  have tail : ∀ i, i ≤ X.length + 2 + Y.length → (∀ p, i ≤ p → p < X.length + 2 + Y.length → hit1 (tx (X ++ [13, 10] ++ Y)).cps (tx (X ++ [13, 10] ++ Y)).cps.size p = false) → Finds code1 (tx (X ++ [13, 10] ++ Y)).cps i none := fun i h1 h2 =>
    finds1_none (by rw [hs]; omega) (by rw [hs]; exact h1) (by rw [hs] at h2 ⊢; exact h2)
  have hit : ∀ i t, i ≤ t → hit1 (tx (X ++ [13, 10] ++ Y)).cps (tx (X ++ [13, 10] ++ Y)).cps.size t = true → (∀ p, i ≤ p → p < t → hit1 (tx (X ++ [13, 10] ++ Y)).cps (tx (X ++ [13, 10] ++ Y)).cps.size p = false) → Finds code1 (tx (X ++ [13, 10] ++ Y)).cps i (some (t, t + 1)) := fun i t h1 h2 h3 =>
    finds1 (by rw [hs]; omega) h1 h2 h3
  have take_all : List.take (X.length + 2 + Y.length) (X ++ [13, 10] ++ Y) = X ++ [13, 10] ++ Y := List.take_of_length_le (by rw [hl]; exact Nat.le_refl _)
  have take_q : List.take (X.length + 2) (X ++ [13, 10] ++ Y) = X ++ [13, 10] := by
    have : X.length + 2 = (X ++ [13, 10]).length := by simp
    rw [this, List.take_left]
  have drop_q : List.drop (X.length + 3) (X ++ [13, 10] ++ Y) = Y.drop 1 := by
    have : X.length + 3 = (X ++ [13, 10]).length + 1 := by simp
    rw [this, ← List.drop_drop, List.drop_left]
  unfold hits
  cases dX : dotted X with
  | false =>
    cases dY : dotted Y with
    | false =>
      have hsub : subbed (tx (X ++ [13, 10] ++ Y)).cps (Str.ofString "..") 0 [] = [X ++ [13, 10] ++ Y].map tx := by
        simp only [subbed]; rw [if_pos (by rw [hs]; omega), ext_tx, hs, take_all]; rfl
      rw [stuff_false dX, stuff_false dY]
      refine ⟨tail 0 (by omega) fun p _ h2 => ?_, by rw [hs]; omega, by simp, ?_, ?_, ?_⟩
      · rcases Nat.eq_zero_or_pos p with rfl | h0
        · rw [z0, dX]
        · by_cases e : p = X.length + 2
          · rw [e, z1, dY]
          · exact nohit p h0 e h2
      · simp only [Bool.false_eq_true, if_false, List.nil_append]; rw [hsub, weight_tx]; simp; omega
      · simp only [Bool.false_eq_true, if_false, List.nil_append]; rw [hsub]; simp
      · simp only [Bool.false_eq_true, if_false, List.nil_append]; rw [hsub, join_tx]; simp
    | true =>
      obtain ⟨y, rfl⟩ := dotted_true dY
      have hsub : subbed (tx (X ++ [13, 10] ++ 46 :: y)).cps (Str.ofString "..") 0 [(X.length + 2, X.length + 3)] = [X ++ [13, 10], [46, 46], y].map tx := by
        simp only [subbed]; rw [if_pos (by omega), if_pos (by rw [hs]; omega), ext_tx, ext_tx, hs, take_all, take_q, hdd, drop_q]; rfl
      rw [stuff_false dX]
      refine ⟨⟨hit 0 _ (by omega) (by rw [z1, dY]) fun p _ h2 => ?_, by omega, by omega, by rw [hs]; have : (46 :: y).length = y.length + 1 := rfl; omega, tail _ (by have : (46 :: y).length = y.length + 1 := rfl; omega) fun p h1 h2 => nohit p (by omega) (by omega) h2⟩, by rw [hs]; omega, by simp, ?_, ?_, ?_⟩
      · rcases Nat.eq_zero_or_pos p with rfl | h0
        · rw [z0, dX]
        · exact nohit p h0 (by omega) (by omega)
      · simp only [Bool.false_eq_true, if_false, if_true, List.nil_append]; rw [hsub, weight_tx]; simp at hz ⊢; omega
      · simp only [Bool.false_eq_true, if_false, if_true, List.nil_append]; rw [hsub]; simp
      · simp only [Bool.false_eq_true, if_false, if_true, List.nil_append]; rw [hsub, join_tx]; simp [stuff]
  | true =>
    obtain ⟨x, rfl⟩ := dotted_true dX
    cases dY : dotted Y with
    | false =>
      have hsub : subbed (tx (46 :: x ++ [13, 10] ++ Y)).cps (Str.ofString "..") 0 [(0, 1)] = [[46, 46], x ++ [13, 10] ++ Y].map tx := by
        simp only [subbed]; rw [if_neg (by omega), if_pos (by rw [hs]; omega), ext_tx, hs, take_all, hdd]; simp
      rw [stuff_false dY]
      refine ⟨⟨hit 0 0 (by omega) (by rw [z0, dX]) fun p _ h2 => by omega, by omega, by omega, by rw [hs]; omega, tail _ (by omega) fun p h1 h2 => ?_⟩, by rw [hs]; omega, by simp, ?_, ?_, ?_⟩
      · by_cases e : p = (46 :: x).length + 2
        · rw [e, z1, dY]
        · exact nohit p (by omega) e h2
      · simp only [Bool.false_eq_true, if_false, if_true, List.append_nil]; rw [hsub, weight_tx]; simp at hz ⊢; omega
      · simp only [Bool.false_eq_true, if_false, if_true, List.append_nil]; rw [hsub]; simp
      · simp only [Bool.false_eq_true, if_false, if_true, List.append_nil]; rw [hsub, join_tx]; simp [stuff]
    | true =>
      obtain ⟨y, rfl⟩ := dotted_true dY
      have hsub : subbed (tx (46 :: x ++ [13, 10] ++ 46 :: y)).cps (Str.ofString "..") 0 [(0, 1), ((46 :: x).length + 2, (46 :: x).length + 3)] = [[46, 46], x ++ [13, 10], [46, 46], y].map tx := by
        simp only [subbed]; rw [if_neg (by omega), if_pos (by omega), if_pos (by rw [hs]; omega), ext_tx, ext_tx, hs, take_all, take_q, hdd, drop_q]; simp
      refine ⟨⟨hit 0 0 (by omega) (by rw [z0, dX]) fun p _ h2 => by omega, by omega, by omega, by rw [hs]; omega, hit 1 _ (by omega) (by rw [z1, dY]) fun p h1 h2 => nohit p (by omega) (by omega) (by omega), by omega, by omega, by rw [hs]; have : (46 :: y).length = y.length + 1 := rfl; omega, tail _ (by have : (46 :: y).length = y.length + 1 := rfl; omega) fun p h1 h2 => nohit p (by omega) (by omega) h2⟩, by rw [hs]; omega, by simp, ?_, ?_, ?_⟩
      · simp only [if_true, List.singleton_append]; rw [hsub, weight_tx]; simp at hz ⊢; omega
      · simp only [if_true, List.singleton_append]; rw [hsub]; simp
      · simp only [if_true, List.singleton_append]; rw [hsub, join_tx]; simp [stuff]
end Mine
end
section
open PySem PySem.W PyProof.Rows PySem.Calls PySem.Spec
namespace Mine
section
variable (w : World) (mean : ExcName → Option Value) (mg mb : Str → Option Value) (news : List (Addr × Obj)) (a b : Int) (ta tb : Tok)
theorem add_walk : Claim 55 1 w mean mg mb news [.int a ta, .int b tb] (fun t => .int (a + b) t) := by
  w_top off
  dsimp only [Claim, SpecOf]
  k_fill
  k_with_none
  intros; rename_i hret
  refine wpAny_call ?_
  k_dflt cell_enter
  k_steps
  all_goals exact cb_retI hret rfl (by assumption) (by assumption)
theorem sub_walk : Claim 83 1 w mean mg mb news [.int a ta, .int b tb] (fun t => .int (a - b) t) := by
  w_top off
  dsimp only [Claim, SpecOf]
  k_fill
  intros; rename_i hret
  refine wpAny_call ?_
  k_dflt cell_enter
  k_steps
  all_goals exact cb_retI hret rfl (by assumption) (by assumption)
theorem xor_walk : Claim 90 1 w mean mg mb news [.int a ta, .int b tb] (fun t => .int (Builtin.bitXor a b) t) := by
  w_top off
  dsimp only [Claim, SpecOf]
  k_fill
  intros; rename_i hret
  refine wpAny_call ?_
  k_dflt cell_enter
  k_steps
  all_goals exact cb_retI hret rfl (by assumption) (by assumption)
theorem and_walk : Claim 62 1 w mean mg mb news [.int a ta, .int b tb] (fun t => .int (Builtin.bitAnd a b) t) := by
  w_top off
  dsimp only [Claim, SpecOf]
  k_fill
  intros; rename_i hret
  refine wpAny_call ?_
  k_dflt cell_enter
  k_steps
  all_goals exact cb_retI hret rfl (by assumption) (by assumption)
theorem mod_walk (hb : b = 2) : Claim 76 1 w mean mg mb news [.int a ta, .int b tb] (fun t => .int (Int.fmod a b) t) := by
  w_top off
  dsimp only [Claim, SpecOf]
  subst hb
  k_fill
  intros; rename_i hret
  refine wpAny_call ?_
  k_dflt cell_enter
  k_steps
  all_goals exact cb_retI hret rfl (by assumption) (by assumption)
theorem floordiv_walk (hb : b = 2) : Claim 69 1 w mean mg mb news [.int a ta, .int b tb] (fun t => .int (Int.fdiv a b) t) := by
  w_top off
  dsimp only [Claim, SpecOf]
  subst hb
  k_fill
  intros; rename_i hret
  refine wpAny_call ?_
  k_dflt cell_enter
  k_steps
  all_goals exact cb_retI hret rfl (by assumption) (by assumption)
end
end Mine
end
section
open PySem PySem.W PyProof.Rows PySem.Calls PySem.Spec
namespace Mine

theorem letter {k b : Int} (hk : 0 ≤ k ∧ k < 5) (hb : 0 ≤ b ∧ b ≤ 1) : Builtin.bitXor (97 + k) (32 * b) = 97 + k - 32 * b := by
  have h1 : k = 0 ∨ k = 1 ∨ k = 2 ∨ k = 3 ∨ k = 4 := by omega
  have h2 : b = 0 ∨ b = 1 := by omega
  rcases h1 with rfl | rfl | rfl | rfl | rfl <;> rcases h2 with rfl | rfl <;> decide +kernel
noncomputable def Bits (b0 b1 b2 b3 b4 : Int) : Prop := (0 ≤ b0 ∧ b0 ≤ 1) ∧ (0 ≤ b1 ∧ b1 ≤ 1) ∧ (0 ≤ b2 ∧ b2 ≤ 1) ∧ (0 ≤ b3 ∧ b3 ≤ 1) ∧ (0 ≤ b4 ∧ b4 ≤ 1)
theorem bits_getD {b0 b1 b2 b3 b4 : Int} (h : Bits b0 b1 b2 b3 b4) (n : Nat) : 0 ≤ [b0, b1, b2, b3, b4].getD n 0 ∧ [b0, b1, b2, b3, b4].getD n 0 ≤ 1 := by
  obtain ⟨h0, h1, h2, h3, h4⟩ := h
  match n with
  | 0 => exact h0
  | 1 => exact h1
  | 2 => exact h2
  | 3 => exact h3
  | 4 => exact h4
  | n + 5 => exact ⟨by simp, by simp⟩
section
variable {prog : Program} {w : World} {A : Around} {E : Value → Shared → Prop} {s : Shared}
theorem chr_letter {b0 b1 b2 b3 b4 k : Int} {t : Tok} {Q : Value → Shared → Prop} (hb : Bits b0 b1 b2 b3 b4) (hk : 0 ≤ k ∧ k < 5) (h : Q (.str ⟨#[(97 + k - 32 * [b0, b1, b2, b3, b4].getD k.toNat 0).toNat]⟩ s.toks) { s with toks := s.toks + 1 }) :
    wpAny (model prog w) A (call (.builtin "chr") [.int (Builtin.bitXor (97 + k) (32 * [b0, b1, b2, b3, b4].getD k.toNat 0)) t]) Q E s := by
  have := bits_getD hb k.toNat
  rw [letter hk this]
  exact chr_of_range (by omega) (by omega) h
end
section
variable (w : World) (mean : ExcName → Option Value) (mg mb : Str → Option Value) (news : List (Addr × Obj))
end
noncomputable def wordL (b0 b1 b2 b3 b4 : Int) : List Nat := [(97 - 32 * b0).toNat, (98 - 32 * b1).toNat, (99 - 32 * b2).toNat, (100 - 32 * b3).toNat, (101 - 32 * b4).toNat]
theorem word_is (b0 b1 b2 b3 b4 : Int) : Txt.join (Str.ofString "") (List.map (fun a : Int => ({ cps := #[(97 + a - 32 * [b0, b1, b2, b3, b4].getD a.toNat 0).toNat] } : Str)) (rangeKs 0 (5 - 0 : Int).toNat)) = tx (wordL b0 b1 b2 b3 b4) := by
  have e0 : Str.ofString "" = ⟨#[]⟩ := by decide +kernel
  have e1 : rangeKs 0 (5 - 0 : Int).toNat = [0, 1, 2, 3, 4] := by decide +kernel
  rw [e0, e1]
  have e2 : List.map (fun a : Int => ({ cps := #[(97 + a - 32 * [b0, b1, b2, b3, b4].getD a.toNat 0).toNat] } : Str)) [0, 1, 2, 3, 4] =
      List.map tx [[(97 - 32 * b0).toNat], [(98 - 32 * b1).toNat], [(99 - 32 * b2).toNat], [(100 - 32 * b3).toNat], [(101 - 32 * b4).toNat]] := rfl
  rw [e2, join_tx]
  rfl
section
variable (w : World) (mean : ExcName → Option Value) (mg mb : Str → Option Value) (news : List (Addr × Obj))
local macro_rules | `(tactic| walk_at "CompSrc") => `(tactic| (k_here; k_dflt (refine LCg.CompSrc.range (by rfl) (by k_asm) (by k_asm) (by assumption) (by decide) (by exact rangeSize_nat _ _) (by exact Nat.le_of_ble_eq_true rfl) ?_; intro g'; (refine' kct_range _ (fun k' t' I' oI' C' oC' D' m' ys' h' tk' E' hlo' hhi' hC' hx' F' N' off' ne' => ?_) ?_); (all_goals (try (simp only [LCg.Off3, and_true] at off'))); (all_goals (try ((show KPfMark → _); intro hMark'))); kcf_last)))
local macro_rules | `(tactic| walk_at "CompEnd") => `(tactic| (k_here; (refine' LCg.CompEnd.intro ?ca ?cb _ ?cc ?cd ?ce ?cf); (case cf => ((refine kct_el ?kce (by with_unfolding_all rfl) (by with_unfolding_all rfl)); (case kce => kpf_eq))); (case ca => assumption); (case cb => assumption); (case cc => kcf_all); (case cd => first | assumption | (simp only [LCg.Off3, and_true]; done) | (simp only [LCg.Off3, and_true]; assumption)); (case ce => first | lcg_src | assumption)))
theorem word_walk (l : Addr) (c : Nat) (b0 b1 b2 b3 b4 : Int) (t0 t1 t2 t3 t4 : Tok) (hb : Bits b0 b1 b2 b3 b4) :
   Claim 114 2 w mean mg mb ((l, listOf #[.int b0 t0, .int b1 t1, .int b2 t2, .int b3 t3, .int b4 t4] c) :: news) [.ref l] (fun t => .str (tx (wordL b0 b1 b2 b3 b4)) t) := by
  w_top off
  dsimp only [Claim, SpecOf]
  k_fill
  intros; rename_i hret
  k_with_none
  k_with "call builtin:chr cons nil" => (refine chr_letter hb (by omega) ?_)
  k_with "call ref cons nil" => ((refine' xor_walk _ _ _ _ _ _ _ _ _ _ _ _ _ _ _ _ _ _ _ _ _ _ _ _ _ _ ?k1 ?k2 ?k3 ?k4 ?k5 ?kK ?kd ?ku ?kR); (case k1 => k_asm); (case k2 => k_asm); (case k3 => k_asm); (case k4 => k_asm); (case k5 => k_asm); (case kK => first | exact rfl | assumption); (case kd => ktr_room); (case ku => ktr_units); intro t9 h9 tk9 F9 N9; (try dsimp only); (try k_fold))
  refine wpAny_call ?_
  k_dflt (refine' code_defC ?k1 ?k2 ?k3 ?k4 ?k5 ?kA ?kF ?kK ?k6 ?k7 ?k8 ?k9 ?kB ?kD ?_ ?c2 ?c3 ?c4; (case kA => exact rfl); (case kF => exact rfl); (case kK => assumption); (case k1 => k_asm); (case k2 => k_asm); (case k3 => k_asm); (case k4 => k_asm); (case k5 => k_asm); (case k6 => k_is); (case k7 => k_is); (case k8 => ktr_room); (case k9 => exact BindsTo.of_eq rfl); (case kB => exact rfl); (case kD => decide +kernel); (case c2 => exact rfl); (case c3 => exact rfl); (case c4 => exact rfl); k_whole; intro g' L' h' tk' cells' FG' F' N' Y' B' X' T' l1; (try k_lt l1); k_cells Y'; (try simp only [List.cons_append, List.nil_append] at N'); (try dsimp only); (try k_lift B'); (try k_fold))
  k_steps
  all_goals first
    | (refine cb_retS hret (word_is ..) (by assumption) (by first | assumption | exact cb_drop (by assumption) (by intro p hp; kcf_m)))
end
end Mine
end
section
open PySem PySem.W PyProof.Rows PySem.Calls PySem.Spec
namespace Mine
theorem drawn_bound (a : Int) : 0 ≤ a.fmod (10 ^ Int.toNat 6) ∧ a.fmod (10 ^ Int.toNat 6) < 1000000 := by
  have e : (10 ^ Int.toNat 6 : Int) = 1000000 := by decide +kernel
  rw [e]
  exact ⟨Int.fmod_nonneg_of_pos a (by omega), Int.fmod_lt_of_pos a (by omega)⟩
theorem split2 {ys : List Value} {ns : List Int} (h : IntsAre ys (List.map (fun k' => k'.fmod (10 ^ Int.toNat 6)) (List.take 2 ns))) :
    ys = [] ∨ (∃ d : Int, ∃ t, (0 ≤ d ∧ d < 1000000) ∧ ys = [.int d t]) ∨ ∃ d : Int, ∃ t, ∃ e : Int, ∃ u, (0 ≤ d ∧ d < 1000000) ∧ (0 ≤ e ∧ e < 1000000) ∧ ys = [.int d t, .int e u] := by
  match ns, h with
  | [], h => cases h; exact .inl rfl
  | [a], h => cases h with | cons _ t r => cases r; exact .inr (.inl ⟨_, t, drawn_bound a, rfl⟩)
  | a :: b :: _, h => cases h with | cons _ t r => cases r with | cons _ u r => cases r; exact .inr (.inr ⟨_, t, _, u, drawn_bound a, drawn_bound b, rfl⟩)
/-- a call of the text's def at f, in any frame, of a list that stood before; n is the room it wants -/
abbrev SpecOn (f : Addr) (n : Nat) (w : World) (mean : ExcName → Option Value) (mg mb : Str → Option Value) (P : Heap → Prop) (news : List (Addr × Obj)) (vs : List Value)
    (Ret : Heap → Addr → (Str → Option Value) → Shared → (Value → Shared → Prop) → Prop) : Prop :=
  ∀ (dp un : Nat) (gd : Option (List Code)) (cn : Str) (cs : Scope) (a : Addr) (ccd : Value) (cl : List (Str × Addr)) (outer : List Env) (A₀ : Around) (base h₀ : Heap) (L : Addr) (m : Str → Option Value) (s : Shared) (Q E : Value → Shared → Prop),
    Below A₀ base outer h₀ → Fr h₀ L s.heap m → (hd.heap_39 w.params).In h₀ → News h₀ L s.heap news → Top hd.view_39 (looseW hd.view_39 [Str.ofString "_twin_re_1", Str.ofString "_twin_re_2"]) mean mg mb h₀ → P base → cs.kind = .function →
    dp + n < recursionLimit → un + 8 * n < cLine → Ret h₀ L m s Q → wpAny (model PySem.Challenge.rw_sw0013_01.row.prog w) (ktrTop dp un gd cn cs L a ccd cl outer) (call (.ref f) vs) Q E s
theorem drawn_end {h₀ h' : Heap} {L r : Addr} {m : Str → Option Value} {s : Shared} {Q : Value → Shared → Prop} {d0 d1 : Int} {t0 t1 : Tok} {tk' : Nat} {news big : List (Addr × Obj)}
    (hret : ∀ (r : Addr) (d0 d1 : Int) (t0 t1 : Tok) (h' : Heap) (tk' : Nat), 0 ≤ d0 ∧ d0 < 1000000 → 0 ≤ d1 ∧ d1 < 1000000 → AllLt r news → Fr h₀ L h' m → News h₀ L h' ((r, listOf #[.int d0 t0, .int d1 t1] 0) :: news) → Q (.ref r) { s with heap := h', toks := tk' })
    (F : Fr h₀ L h' m) (N : News h₀ L h' ((r, listOf #[.int d0 t0, .int d1 t1] 0) :: big)) (b0 : 0 ≤ d0 ∧ d0 < 1000000) (b1 : 0 ≤ d1 ∧ d1 < 1000000) (lt : AllLt r news) (sub : ∀ p ∈ news, p ∈ big) : Q (.ref r) { s with heap := h', toks := tk' } :=
  hret r d0 d1 t0 t1 h' tk' b0 b1 lt F (fun p hp => by
    rcases List.mem_cons.mp hp with rfl | hp
    · exact N _ List.mem_cons_self
    · exact N _ (List.mem_cons_of_mem _ (sub p hp)))
local macro_rules | `(tactic| walk_at "exec Return some") => `(tactic| (k_here; (rename IntsAre _ (List.map _ (List.filter _ (List.take 2 _))) => hq9); (rw [List.filter_eq_self.mpr (fun _ _ => rfl)] at hq9); (rcases split2 hq9 with hy9 | ⟨a9, t9, hb9, hy9⟩ | ⟨a9, t9, b9, u9, hb9, hc9, hy9⟩) <;> (clear hq9; subst hy9; (try (rename CarriedAll _ _ => hqc9; clear hqc9)))))
theorem drawn_walk (w : World) (mean : ExcName → Option Value) (mg mb : Str → Option Value) (news : List (Addr × Obj)) (l : Addr) (vs : List Value) (ns : List Int) (hI : IntsAre vs ns) (hlen : ns.length ≤ 63) :
   SpecOn 109 2 w mean mg mb (fun h => h.IsList l vs.toArray) news [.ref l] (fun h₀ L m s Q => ∀ (r : Addr) (d0 d1 : Int) (t0 t1 : Tok) (h' : Heap) (tk' : Nat), 0 ≤ d0 ∧ d0 < 1000000 → 0 ≤ d1 ∧ d1 < 1000000 → AllLt r news → Fr h₀ L h' m → News h₀ L h' ((r, listOf #[.int d0 t0, .int d1 t1] 0) :: news) → Q (.ref r) { s with heap := h', toks := tk' }) := by
  w_top off
  dsimp only [SpecOn]
  k_fill
  intros; rename_i hret
  refine wpAny_call ?_
  k_dflt cell_enter
  k_steps
  all_goals (refine' drawn_end hret ?kF ?kN ?kb ?kc ?kl ?ks; (case kF => assumption); (case kN => assumption); (case kb => first | assumption | omega); (case kc => first | assumption | omega); (case kl => simp_all only [AllLt, and_true]); (case ks => intro p hp; kcf_m))
end Mine
end
section
open PySem PySem.W PyProof.Rows PySem.Calls PySem.Spec
namespace Mine
/-- a block whose target is a cell: it bears the iterator I, the names C, the cell c, the list D -/
noncomputable def Off4 (I C c D : Addr) : List (Addr × Obj) → Prop
  | [] => True
  | p :: r => ((@Ne Nat p.1 I) ∧ (@Ne Nat p.1 C) ∧ (@Ne Nat p.1 c) ∧ (@Ne Nat p.1 D)) ∧ Off4 I C c D r
theorem off4_iff {I C c D : Addr} : ∀ {l : List (Addr × Obj)}, Off4 I C c D l ↔ ∀ p ∈ l, p.1 ≠ I ∧ p.1 ≠ C ∧ p.1 ≠ c ∧ p.1 ≠ D
  | [] => ⟨fun _ _ hp => (nomatch hp), fun _ => trivial⟩
  | q :: r => by
    rw [List.forall_mem_cons]
    exact and_congr Iff.rfl off4_iff
theorem off1_of {D : Addr} : ∀ {l : List (Addr × Obj)}, (∀ p ∈ l, p.1 ≠ D) → LCg.Off1 D l
  | [], _ => trivial
  | _ :: _, h => ⟨h _ List.mem_cons_self, off1_of fun p hp => h p (List.mem_cons_of_mem _ hp)⟩
noncomputable def CellEnd (h₀ : Heap) (L : Addr) (m : Str → Option Value) (s₁ : Shared) (I C c D : Addr) (oI oC oc oD : Obj) (src : Addr × Obj) (rest : Value → List (Addr × Obj) → Prop) (y : Value) (s₂ : Shared) : Prop :=
  ∃ h' tk news', s₂ = { s₁ with heap := h', toks := tk } ∧ Fr h₀ L h' m ∧ News h₀ L h' ((I, oI) :: (C, oC) :: (c, oc) :: (D, oD) :: news') ∧ Off4 I C c D news' ∧ src ∈ news' ∧ rest y news'
noncomputable def CellTurns (prog : Program) (w : World) (A : Around) (h₀ : Heap) (L : Addr) (m : Str → Option Value) (env : Env) (elt : Expr) (x : Str) (scope : Scope) (cl : List (Str × Addr)) (s : Shared) (src : Addr × Obj) (Fin : List Value → List (Addr × Obj) → Prop) :
    List Value → List Value → List (Addr × Obj) → Prop
  | [], ys, news => Fin ys news
  | v :: r, ys, news => ∀ (I C c D : Addr) (oI oC oc : Obj) (h : Heap) (tk : Nat) (E' : Value → Shared → Prop), oc.data = .cell (some v) → Fr h₀ L h m → News h₀ L h ((I, oI) :: (C, oC) :: (c, oc) :: (D, LCg.lst ys) :: news) → Off4 I C c D news →
      ((@Ne Nat I C) ∧ (@Ne Nat I c) ∧ (@Ne Nat I D) ∧ (@Ne Nat C c) ∧ (@Ne Nat C D) ∧ (@Ne Nat c D)) →
      wpAny (model prog w) A (eval elt (compEnvC scope ((x, c) :: cl) C env)) (CellEnd h₀ L m { s with heap := h, toks := tk } I C c D oI oC oc (LCg.lst ys) src (fun y news' => CellTurns prog w A h₀ L m env elt x scope cl s src Fin r (ys ++ [y]) news')) E' { s with heap := h, toks := tk }
section
variable {prog : Program} {w : World} {A : Around} {E : Value → Shared → Prop} {s : Shared} {h₀ : Heap} {L : Addr} {m : Str → Option Value} {env : Env}

structure Held (h₀ : Heap) (L : Addr) (m : Str → Option Value) (I C c D : Addr) (its : List Value) (ax : Addr) (k i : Nat) (h : Heap) (ys : List Value) (news : List (Addr × Obj)) : Prop where
  it : h.IsListIter I ax i
  fr : Fr h₀ L h m
  ns : ∃ m', h.Ns C m'
  cell : ∃ v, h.IsCell c v
  nw : News h₀ L h ((D, LCg.lst ys) :: news)
  off : Off4 I C c D news
  has : (ax, ({ cls := .type "list", data := .seq its.toArray k } : Obj)) ∈ news

theorem fr_keep {h h' : Heap} {d : Addr} (F : Fr h₀ L h m) (hk : ∀ b o, b ≠ d → h.get? b = some o → h'.get? b = some o) (hL : L ≠ d) (hd : h₀.get? d = none) : Fr h₀ L h' m :=
  ⟨F.ns.at' fun o e => hk L o hL e, fun b o e => hk b o (fun q => by rw [q, hd] at e; cases e) (F.keep b o e), F.above⟩
theorem news_keep {h h' : Heap} {d : Addr} {news : List (Addr × Obj)} (N : News h₀ L h news) (hk : ∀ b o, b ≠ d → h.get? b = some o → h'.get? b = some o) (off : ∀ p ∈ news, p.1 ≠ d) : News h₀ L h' news :=
  fun p hp => ⟨hk _ _ (off p hp) (N p hp).1, (N p hp).2⟩

theorem cells_loop {elt iter : Expr} {x : Str} {px : Pos} {scope : Scope} {cl : List (Str × Addr)} {pos : Pos} {s₂ : Shared} {I C c D ax : Addr} {its : List Value} {k : Nat}
    {Fin : List Value → List (Addr × Obj) → Prop} {R : Result → Shared → Prop} (hh : A.handled = none) (hkx : (compEnvC scope ((x, c) :: cl) C env).kindOf x = some .cell) (hkind : scope.kind = .function)
    (nI : h₀.get? I = none ∧ I ≠ L) (nC : h₀.get? C = none ∧ C ≠ L) (nc : h₀.get? c = none ∧ c ≠ L) (nD : h₀.get? D = none ∧ D ≠ L)
    (ne : I ≠ C ∧ I ≠ c ∧ I ≠ D ∧ C ≠ c ∧ C ≠ D ∧ c ≠ D) (hsz : its.length ≤ sizeLine)
    (RR : ∀ (h : Heap) (tk : Nat) (ys : List Value) (news : List (Addr × Obj)), Fr h₀ L h m → News h₀ L h ((D, LCg.lst ys) :: news) → Off4 I C c D news → (∃ m', h.Ns C m') → Fin ys news → R (.ok .next) { s₂ with heap := h, toks := tk })
    {h : Heap} {tk : Nat} {news : List (Addr × Obj)} (H : Held h₀ L m I C c D its ax k 0 h [] news)
    (T : CellTurns prog w A h₀ L m env elt x scope cl s₂ (ax, { cls := .type "list", data := .seq its.toArray k }) Fin its [] news) :
    codeAny (model prog w) A (.compLoop (.ListComp elt [⟨.Name x px, iter, [], 0⟩] scope pos) 0 (.ref I) (.ref D) (compEnvC scope ((x, c) :: cl) C env)) R { s₂ with heap := h, toks := tk } := by
  obtain ⟨n1, n2, n3, n4, n5, n6⟩ := ne
  have W := Walks.list (prog := prog) (w := w) (A := A) hh I ax (off4_iff.mp H.off _ H.has).1 its.toArray
  refine codeAny_compLoop_tests
    (fun j s' => ∃ h' tk i ys news rest, s' = { s₂ with heap := h', toks := tk } ∧ j = rest.length ∧ its.drop i = rest ∧ i ≤ its.length ∧ ys.length = i ∧ Held h₀ L m I C c D its ax k i h' ys news ∧
      CellTurns prog w A h₀ L m env elt x scope cl s₂ (ax, { cls := .type "list", data := .seq its.toArray k }) Fin rest ys news) ?_ its.length ⟨h, tk, 0, [], news, its, rfl, rfl, rfl, Nat.zero_le _, rfl, H, T⟩
  rintro j s' ⟨h', tk', i, ys, news', rest, rfl, rfl, hdr, hi, hyl, H', T'⟩
  have isL : h'.IsList ax its.toArray := News.isList H'.nw (List.mem_cons_of_mem _ H'.has)
  have off := off4_iff.mp H'.off
  have nwI : ∀ p ∈ (D, LCg.lst ys) :: news', p.1 ≠ I := fun p hp => by
    rcases List.mem_cons.mp hp with rfl | hp
    · exact Ne.symm n3
    · exact (off p hp).1
  cases rest with
  | nil =>
    have hi' : i = its.toArray.size := by
      rw [List.size_toArray]
      have := congrArg List.length hdr
      rw [List.length_drop, List.length_nil] at this
      omega
    refine W.done _ _ _ (hi' ▸ ⟨H'.it, isL⟩) fun h₂ tk₂ hk₂ => ?_
    have hk : ∀ b o, b ≠ I → h'.get? b = some o → h₂.get? b = some o := fun b o hb e => hk₂ b o (by simpa using hb) e
    obtain ⟨m', hn⟩ := H'.ns
    exact RR h₂ tk₂ ys news' (fr_keep H'.fr hk (Ne.symm nI.2) nI.1) (news_keep H'.nw hk nwI) H'.off ⟨m', hn.at' fun o e => hk C o (Ne.symm n1) e⟩ T'
  | cons v r =>
    have hlt : i < its.length := by
      have := congrArg List.length hdr
      rw [List.length_drop, List.length_cons] at this
      omega
    refine W.item i _ _ _ (by rw [List.size_toArray]; exact hlt) ⟨H'.it, isL⟩ fun v' h₂ tk₂ hv st₂ hk₂ => ?_
    have hvv : v' = v := by
      have e1 : its[i]? = some v := by
        have := congrArg (fun l : List Value => l[0]?) hdr
        simpa using this
      have e2 : its[i]? = some v' := by simpa using hv
      exact Option.some.inj (e2.symm.trans e1)
    subst hvv
    have hk : ∀ b o, b ≠ I → h'.get? b = some o → h₂.get? b = some o := fun b o hb e => hk₂ b o (by simpa using hb) e
    have F₂ : Fr h₀ L h₂ m := fr_keep H'.fr hk (Ne.symm nI.2) nI.1
    have N₂ := news_keep H'.nw hk nwI
    obtain ⟨m', hn⟩ := H'.ns
    have hn₂ : h₂.Ns C m' := hn.at' fun o e => hk C o (Ne.symm n1) e
    obtain ⟨cv, oc, hoc, hcd⟩ := H'.cell
    have hc₂ : h₂.IsCell c cv := ⟨oc, hk c oc (Ne.symm n2) hoc, hcd⟩
    refine wpAny_assign_Name (wpAny_storeName_cell hkind hkx (by simp [compEnvC]) hc₂ fun h₃ hc₃ hs₃ => ?_)
    refine wpAny_tests_nil ?_
    simp only [if_true]
    have k3 : ∀ b o, b ≠ c → h₂.get? b = some o → h₃.get? b = some o := fun b o hb e => (hs₃.2 b hb).trans e
    have F₃ : Fr h₀ L h₃ m := fr_keep F₂ k3 (Ne.symm nc.2) nc.1
    obtain ⟨oI, heI, hcI, hdI⟩ := st₂.1
    obtain ⟨oC, heC, hoC⟩ := LCg.ns_obj (hn₂.at' fun o e => k3 C o n4 e)
    obtain ⟨oc₃, hec, hdc⟩ := hc₃
    have N₃ : News h₀ L h₃ ((I, oI) :: (C, oC) :: (c, oc₃) :: (D, LCg.lst ys) :: news') := fun p hp => by
      rcases List.mem_cons.mp hp with rfl | hp
      · exact ⟨k3 I oI n2 heI, nI.2, nI.1⟩
      rcases List.mem_cons.mp hp with rfl | hp
      · exact ⟨heC, nC.2, nC.1⟩
      rcases List.mem_cons.mp hp with rfl | hp
      · exact ⟨hec, nc.2, nc.1⟩
      refine ⟨k3 _ _ ?_ (N₂ p hp).1, (N₂ p hp).2⟩
      rcases List.mem_cons.mp hp with rfl | hp
      · exact Ne.symm n6
      · exact (off p hp).2.2.1
    refine wpAny_mono (T' I C c D oI oC oc₃ h₃ _ _ hdc F₃ N₃ H'.off ⟨n1, n2, n3, n4, n5, n6⟩) (fun y s₄ h₄ => ?_) fun _ _ e => e
    obtain ⟨h₄, tk₄, news₄, rfl, F₄, N₄, off₄, has₄, T₄⟩ := h₄
    have zI := (N₄ (I, oI) List.mem_cons_self).1
    have zC := (N₄ (C, oC) (List.mem_cons_of_mem _ List.mem_cons_self)).1
    have zc := (N₄ (c, oc₃) (List.mem_cons_of_mem _ (List.mem_cons_of_mem _ List.mem_cons_self))).1
    have zD := (N₄ (D, LCg.lst ys) (List.mem_cons_of_mem _ (List.mem_cons_of_mem _ (List.mem_cons_of_mem _ List.mem_cons_self)))).1
    have N₄' : News h₀ L h₄ news₄ := fun p hp => N₄ p (List.mem_cons_of_mem _ (List.mem_cons_of_mem _ (List.mem_cons_of_mem _ (List.mem_cons_of_mem _ hp))))
    refine append_at (hsz := by show ys.toArray.size ≤ sizeLine; rw [List.size_toArray, hyl]; exact Nat.le_trans hi hsz) zD fun h₅ hs₅ hD₅ => ?_
    have k5 : ∀ b o, b ≠ D → h₄.get? b = some o → h₅.get? b = some o := fun b o hb e => (hs₅.2 b hb).trans e
    have off4 := off4_iff.mp off₄
    refine ⟨r.length, by rw [List.length_cons]; omega, h₅, tk₄, i + 1, ys ++ [y], news₄, r, rfl, rfl, ?_, hlt, by rw [List.length_append, List.length_singleton, hyl], ⟨⟨oI, k5 I oI n3 zI, hcI, hdI⟩, fr_keep F₄ k5 (Ne.symm nD.2) nD.1, ?_, ⟨_, oc₃, k5 c oc₃ n6 zc, hdc⟩, ?_, off₄, has₄⟩, T₄⟩
    · have := congrArg (List.drop 1) hdr
      rw [List.drop_drop] at this
      simpa using this
    · exact ⟨_, (hoC.ns zC).at' fun o e => k5 C o n5 e⟩
    · intro p hp
      rcases List.mem_cons.mp hp with rfl | hp
      · exact ⟨hD₅.trans (congrArg some (LCg.lst_snoc ys y)), nD.2, nD.1⟩
      · exact ⟨k5 _ _ (off4 p hp).2.2.2 (N₄' p hp).1, (N₄' p hp).2⟩

theorem newEnv_cell {scope : Scope} {g : Addr} {cl : List (Str × Addr)} {qual : Str} {M : Model} {Q : Env → Shared → Prop}
    (h : Q { scope, locals := s.heap.objs.size, globals := g, cells := cellsFrom (s.heap.objs.size + 1) scope.names cl, qual, func := none, code := env.code, frame := env.frame, builtins := env.builtins }
      { s with heap := pushCells (s.heap.push { cls := .type "dict", data := .dict #[] }) scope.names }) :
    wpAny M A (newFunctionEnv scope g cl [] qual none .none (some env)) Q E s := by
  simp only [newFunctionEnv, Option.isSome_some, if_true]
  refine wpAny_bind (wpAny_alloc ?_)
  refine wpAny_bind (wpAny_layCells _ (fun name kind cells => by cases hkc : kind == NameKind.cell <;> simp [hkc]) _ _ _ _ ?_)
  rw [Heap.size_push]
  exact wpAny_bind (wpAny_pure (wpAny_pure h))

noncomputable def CellSrc (prog : Program) (w : World) (A : Around) (h₀ : Heap) (L : Addr) (m : Str → Option Value) (env : Env) (elt : Expr) (x : Str) (scope : Scope) (cl : List (Str × Addr)) (Fin : Shared → List Value → List (Addr × Obj) → Prop) (xv : Value) (s₁ : Shared) : Prop :=
  ∃ ax its k news, xv = .ref ax ∧ A.handled = none ∧ Fr h₀ L s₁.heap m ∧ News h₀ L s₁.heap news ∧ (ax, ({ cls := .type "list", data := .seq (List.toArray its) k } : Obj)) ∈ news ∧ its.length ≤ sizeLine ∧
    ∀ s₂ : Shared, (∃ h, s₂ = { s₁ with heap := h }) → CellTurns prog w A h₀ L m env elt x scope cl s₂ (ax, { cls := .type "list", data := .seq (List.toArray its) k }) (Fin s₂) its [] news
theorem CellSrc.mk {elt : Expr} {x : Str} {scope : Scope} {cl : List (Str × Addr)} {Fin : Shared → List Value → List (Addr × Obj) → Prop} {ax : Addr} {its : List Value} {k : Nat} {news : List (Addr × Obj)} {s₁ : Shared}
    (hh : A.handled = none) (F : Fr h₀ L s₁.heap m) (N : News h₀ L s₁.heap news) (hm : (ax, ({ cls := .type "list", data := .seq (List.toArray its) k } : Obj)) ∈ news) (hsz : its.length ≤ sizeLine)
    (h : ∀ g, CellTurns prog w A h₀ L m env elt x scope cl { s₁ with heap := g } (ax, { cls := .type "list", data := .seq (List.toArray its) k }) (Fin { s₁ with heap := g }) its [] news) :
    CellSrc prog w A h₀ L m env elt x scope cl Fin (.ref ax) s₁ := ⟨ax, its, k, news, rfl, hh, F, N, hm, hsz, fun _ ⟨g, e⟩ => e ▸ h g⟩

theorem cells_assign {elt iter : Expr} {x y g n0 : Str} {px py : Pos} {scope : Scope} {cl : List (Str × Addr)} {pos spos : Pos} {Q : Flow → Shared → Prop} (F₀ : Fr h₀ L s.heap m) (hLe : env.locals = L)
    (hsw : swapsWith (.ListComp elt [⟨.Name x px, iter, [], 0⟩] scope pos) (some (.Name y py)) spos.line env = pure true)
    (hclos : closureFor scope env = pure cl) (hsc : scope.names = [(n0, .local), (x, .cell), (g, .globalImplicit)]) (hkind : scope.kind = .function)
    (hnames : ∀ z ∈ scope.names, z.2 = .local → scope.names.lookup z.1 = some .local) (hkx : (relabel scope env).names.lookup x = some .cell)
    (hy : env.kindOf y = some .local) (hp : (env.scope.kind == .class || (env.scope.kind == .module && env.locals != env.globals)) = false)
    (h : wpAny (model prog w) A (eval iter env) (CellSrc prog w A h₀ L m env elt x scope cl (fun s₂ => LCg.FinA h₀ L m s₂ y Q)) E s)
    (hs : ∀ x, foldedSetIterable iter env x = pure x := by intro _; rfl) :
    wpAny (model prog w) A (exec (.Assign [.Name y py] (.ListComp elt [⟨.Name x px, iter, [], 0⟩] scope pos) spos) env) Q E s := by
  subst hLe
  rw [exec_Assign_Name_used _ _ _ _ hsw]
  refine wpAny_bind (wpAny_standAt (wpAny_bind ?_))
  show wpAny _ A (do let _ ← comprehension (.ListComp elt [⟨.Name x px, iter, [], 0⟩] scope pos) scope env _ (newList []) false (eval iter env) (some (assign (.Name y py) env))) _ _ s
  refine wpAny_bind (wpAny_mono (wpAny_comprehension_free (use := some (assign (.Name y py) env)) (Q := fun _ s' => Q .next s') rfl hs hclos hkind hnames
    (wpAny_mono h (fun xv s₁ h₁ => ?_) fun _ _ e => e)) (fun _ s' hq => wpAny_pure (wpAny_pure hq)) fun _ _ e => e)
  obtain ⟨ax, its, k, news, rfl, hh, F, N, hm, hsz, T⟩ := h₁
  have hl : s₁.heap.IsList ax its.toArray := News.isList N hm
  refine wpAny_pyIter_list hl (wpAny_newObj_type (newEnv_cell ?_))
  dsimp only
  rw [hsc]
  generalize hI : s₁.heap.objs.size = I
  generalize hH1 : s₁.heap.push { cls := .type "list_iterator", data := .fields #[.ref ax, .int 0 0] } = H1
  generalize hH2 : H1.push { cls := .type "list", dict := none, data := .seq ([] : List Value).toArray } = H2
  generalize hH3 : H2.push { cls := .type "dict", data := .dict #[] } = H3
  have s1 : H1.objs.size = I + 1 := by rw [← hH1, Heap.size_push, hI]
  have s2 : H2.objs.size = I + 2 := by rw [← hH2, Heap.size_push, s1]
  have s3 : H3.objs.size = I + 3 := by rw [← hH3, Heap.size_push, s2]
  have ep : pushCells H3 [(n0, NameKind.local), (x, NameKind.cell), (g, NameKind.globalImplicit)] = H3.push { cls := .type "cell", data := .cell none } := rfl
  have ec : cellsFrom (H2.objs.size + 1) [(n0, NameKind.local), (x, NameKind.cell), (g, NameKind.globalImplicit)] cl = (x, H2.objs.size + 1) :: cl := rfl
  rw [ep, ec]
  have up : ∀ b o, s₁.heap.get? b = some o → (H3.push { cls := .type "cell", data := .cell none }).get? b = some o := fun b o e =>
    Heap.get?_push_of_some _ (hH3 ▸ Heap.get?_push_of_some _ (hH2 ▸ Heap.get?_push_of_some _ (hH1 ▸ Heap.get?_push_of_some _ e)))
  have fresh : ∀ b, I ≤ b → h₀.get? b = none := fun b hb => by
    cases e : h₀.get? b with
    | none => rfl
    | some o => exact absurd (Heap.lt_size (F.keep b o e)) (by rw [hI]; exact Nat.not_lt.mpr hb)
  have hLI : @LT.lt Nat _ env.locals I := by rw [← hI]; exact F.ns.lt
  have below : ∀ p ∈ news, @LT.lt Nat _ p.1 I := fun p hp => by rw [← hI]; exact Heap.lt_size (N p hp).1
  have oI : (H3.push { cls := .type "cell", data := .cell none }).get? I = some { cls := .type "list_iterator", data := .fields #[.ref ax, .int 0 0] } :=
    Heap.get?_push_of_some _ (hH3 ▸ Heap.get?_push_of_some _ (hH2 ▸ Heap.get?_push_of_some _ (hH1 ▸ hI ▸ Heap.get?_push_size _ rfl)))
  have oD : (H3.push { cls := .type "cell", data := .cell none }).get? (I + 1) = some (LCg.lst []) :=
    Heap.get?_push_of_some _ (hH3 ▸ Heap.get?_push_of_some _ (hH2 ▸ s1 ▸ Heap.get?_push_size _ rfl))
  have oC : (H3.push { cls := .type "cell", data := .cell none }).get? (I + 2) = some { cls := .type "dict", data := .dict #[] } :=
    Heap.get?_push_of_some _ (hH3 ▸ s2 ▸ Heap.get?_push_size _ rfl)
  have oc : (H3.push { cls := .type "cell", data := .cell none }).get? (I + 3) = some { cls := .type "cell", data := .cell none } := s3 ▸ Heap.get?_push_size _ rfl
  generalize hH4 : H3.push { cls := .type "cell", data := .cell none } = H4 at up oI oD oC oc ⊢
  rw [s2, s1]
  have nsC : H4.Ns (I + 2) (fun _ => none) := ⟨_, _, _, oC, rfl, by intro e he; simp at he, fun name => rfl⟩
  have off : Off4 I (I + 2) (I + 3) (I + 1) news := off4_iff.mpr fun p hp => by
    have := below p hp
    exact ⟨Nat.ne_of_lt this, Nat.ne_of_lt (by omega), Nat.ne_of_lt (by omega), Nat.ne_of_lt (by omega)⟩
  have hd4 : Held h₀ env.locals m I (I + 2) (I + 3) (I + 1) its ax k 0 H4 [] news :=
    ⟨⟨_, oI, rfl, rfl⟩, F.keeps up, ⟨_, nsC⟩, ⟨none, _, oc, rfl⟩, fun p hp => by
      rcases List.mem_cons.mp hp with rfl | hp
      · exact ⟨oD, Nat.ne_of_gt (by omega), fresh _ (by omega)⟩
      · exact (N.grown up) p hp, off, hm⟩
  have loop : codeAny (model prog w) A (.compLoop (.ListComp elt [⟨.Name x px, iter, [], 0⟩] scope pos) 0 (.ref I) (.ref (I + 1)) (compEnvC scope ((x, I + 3) :: cl) (I + 2) env))
      (compPost (model prog w) A E (some (assign (.Name y py) env)) (fun _ s' => Q .next s') (.ref (I + 1)) (I + 2)) { s₁ with heap := H4 } := by
    refine cells_loop (s₂ := { s₁ with heap := H4 }) hh (by simpa [compEnvC, Env.kindOf] using hkx) hkind ⟨fresh _ (Nat.le_refl _), Nat.ne_of_gt hLI⟩ ⟨fresh _ (by omega), Nat.ne_of_gt (by omega)⟩ ⟨fresh _ (by omega), Nat.ne_of_gt (by omega)⟩ ⟨fresh _ (by omega), Nat.ne_of_gt (by omega)⟩
      ⟨Nat.ne_of_lt (by omega), Nat.ne_of_lt (by omega), Nat.ne_of_lt (by omega), Nat.ne_of_lt (by omega), Nat.ne_of_gt (by omega), Nat.ne_of_gt (by omega)⟩ hsz ?_ hd4 (T _ ⟨_, rfl⟩)
    intro h' tk ys news' F' N' off' hn' fin
    obtain ⟨m', hn⟩ := hn'
    have o4 := off4_iff.mp off'
    show wpAny _ A (assign (.Name y py) env (.ref (I + 1))) _ _ _
    refine wpAny_assign_Name (wpAny_storeName_local hy F'.ns (fun h₂ hn₂ hs₂ => ?_) hp)
    have hL₀ : h₀.get? env.locals = none := Heap.get?_none_of_le F'.above
    have F₂ : Fr h₀ env.locals h₂ (fun z => if z = y then some (.ref (I + 1)) else m z) := ⟨hn₂, fun b o e => hs₂.extBut b o (fun q => by rw [q, hL₀] at e; cases e) (F'.keep b o e), F'.above⟩
    have hCL : I + 2 ≠ env.locals := Nat.ne_of_gt (by omega)
    refine ⟨m', hn.sameBut hs₂ hCL, fun h'' hs'' => fin _ h'' _ (F₂.change hs'' hCL (fresh _ (by omega))) (fun p hp => ?_) (off1_of fun p hp => (o4 p hp).2.2.2)⟩
    have z : h₂.get? p.1 = some p.2 := hs₂.extBut _ _ (N' p hp).2.1 (N' p hp).1
    refine ⟨hs''.extBut _ _ ?_ z, (N' p hp).2⟩
    rcases List.mem_cons.mp hp with rfl | hp
    · exact Nat.ne_of_lt (Nat.lt_succ_self _)
    · exact (o4 p hp).2.1
  exact codeAny_compStart_list loop (wpAny_pyIter_listiter hd4.it loop)
theorem cellTurns_nil {elt : Expr} {x : Str} {scope : Scope} {cl : List (Str × Addr)} {src : Addr × Obj} {Fin : List Value → List (Addr × Obj) → Prop} {ys : List Value} {news : List (Addr × Obj)} (h : Fin ys news) :
    CellTurns prog w A h₀ L m env elt x scope cl s src Fin [] ys news := h
theorem cellTurns_cons {elt : Expr} {x : Str} {scope : Scope} {cl : List (Str × Addr)} {src : Addr × Obj} {Fin : List Value → List (Addr × Obj) → Prop} {v : Value} {r ys : List Value} {news : List (Addr × Obj)}
    (h : ∀ (I C c D : Addr) (oI oC oc : Obj) (h : Heap) (tk : Nat) (E' : Value → Shared → Prop), oc.data = .cell (some v) → Fr h₀ L h m → News h₀ L h ((I, oI) :: (C, oC) :: (c, oc) :: (D, LCg.lst ys) :: news) → Off4 I C c D news → Off4 I C c D news →
      ((@Ne Nat I C) ∧ (@Ne Nat I c) ∧ (@Ne Nat I D) ∧ (@Ne Nat C c) ∧ (@Ne Nat C D) ∧ (@Ne Nat c D)) →
      wpAny (model prog w) A (eval elt (compEnvC scope ((x, c) :: cl) C env)) (CellEnd h₀ L m { s with heap := h, toks := tk } I C c D oI oC oc (LCg.lst ys) src (fun y news' => CellTurns prog w A h₀ L m env elt x scope cl s src Fin r (ys ++ [y]) news')) E' { s with heap := h, toks := tk }) :
    CellTurns prog w A h₀ L m env elt x scope cl s src Fin (v :: r) ys news := fun I C c D oI oC oc h' tk E' a b d e f => h I C c D oI oC oc h' tk E' a b d e e f
theorem cellEnd_of {h' : Heap} {tk : Nat} {s₁ : Shared} {I C c D r : Addr} {oI oC oc oD o : Obj} {src : Addr × Obj} {rest : Value → List (Addr × Obj) → Prop} {all news : List (Addr × Obj)}
    (F : Fr h₀ L h' m) (N : News h₀ L h' all) (off : Off4 I C c D news) (hr : (r, o) ∈ all) (own : (I, oI) ∈ all ∧ (C, oC) ∈ all ∧ (c, oc) ∈ all ∧ (D, oD) ∈ all) (old : ∀ p ∈ news, p ∈ all)
    (hne : (@Ne Nat r I) ∧ (@Ne Nat r C) ∧ (@Ne Nat r c) ∧ (@Ne Nat r D)) (hs : src ∈ (r, o) :: news) (hrest : rest (.ref r) ((r, o) :: news)) :
    CellEnd h₀ L m s₁ I C c D oI oC oc oD src rest (.ref r) { s₁ with heap := h', toks := tk } :=
  ⟨h', tk, (r, o) :: news, rfl, F, fun p hp => by
    obtain ⟨w1, w2, w3, w4⟩ := own
    rcases List.mem_cons.mp hp with rfl | hp
    · exact N _ w1
    rcases List.mem_cons.mp hp with rfl | hp
    · exact N _ w2
    rcases List.mem_cons.mp hp with rfl | hp
    · exact N _ w3
    rcases List.mem_cons.mp hp with rfl | hp
    · exact N _ w4
    rcases List.mem_cons.mp hp with rfl | hp
    · exact N _ hr
    · exact N _ (old p hp), ⟨hne, off⟩, hs, hrest⟩
theorem fmod3 (a : Int) : 0 ≤ a.fmod 3 ∧ a.fmod 3 ≤ 2 := ⟨Int.fmod_nonneg_of_pos a (by omega), by have := Int.fmod_lt_of_pos a (show (0 : Int) < 3 by omega); omega⟩
theorem fmod2 (a : Int) : 0 ≤ a.fmod 2 ∧ a.fmod 2 ≤ 1 := ⟨Int.fmod_nonneg_of_pos a (by omega), by have := Int.fmod_lt_of_pos a (show (0 : Int) < 2 by omega); omega⟩
theorem five_bits {g : Int → Int} {ys : List Value} {n : Nat} (hn : n = 5) (h : CarriedAll ys (List.map (fun a => PyData.int ((g a).fmod 2)) (List.filter (fun _ => true) (rangeInts 0 1 n)))) :
    ∃ b0 b1 b2 b3 b4 : Int, ∃ t0 t1 t2 t3 t4 : Tok, ((0 ≤ b0 ∧ b0 ≤ 1) ∧ (0 ≤ b1 ∧ b1 ≤ 1) ∧ (0 ≤ b2 ∧ b2 ≤ 1) ∧ (0 ≤ b3 ∧ b3 ≤ 1) ∧ (0 ≤ b4 ∧ b4 ≤ 1)) ∧ ys = [.int b0 t0, .int b1 t1, .int b2 t2, .int b3 t3, .int b4 t4] := by
  rw [List.filter_eq_self.mpr (fun _ _ => rfl), hn] at h
  have h2 : IntsAre ys (List.map (fun a => (g a).fmod 2) (rangeInts 0 1 5)) := CarriedAll.intsOf h
  have e : rangeInts 0 1 5 = [0, 1, 2, 3, 4] := by decide +kernel
  rw [e] at h2
  cases h2 with | cons _ t0 h2 => cases h2 with | cons _ t1 h2 => cases h2 with | cons _ t2 h2 => cases h2 with | cons _ t3 h2 => cases h2 with | cons _ t4 h2 =>
  cases h2
  exact ⟨_, _, _, _, _, t0, t1, t2, t3, t4, ⟨fmod2 _, fmod2 _, fmod2 _, fmod2 _, fmod2 _⟩, rfl⟩
theorem row_add {a b : Addr} {news : List (Addr × Obj)} {ys : List Value} {x : Int} {t : Tok} {g : Int → Int} {n : Nat} {Q : Value → Shared → Prop} (F : Fr h₀ L s.heap m) (N : News h₀ L s.heap news) (ha : (a, listOf #[.int (x.fmod 3) t] 0) ∈ news)
    (hb : s.heap.IsList b ys.toArray) (hc : CarriedAll ys (List.map (fun a => PyData.int ((g a).fmod 2)) (List.filter (fun _ => true) (rangeInts 0 1 n)))) (hn : n = 5)
    (h : ∀ (q b0 b1 b2 b3 b4 : Int) (t0 t1 t2 t3 t4 : Tok) (D : Addr) (h' : Heap), 0 ≤ q ∧ q ≤ 2 → ((0 ≤ b0 ∧ b0 ≤ 1) ∧ (0 ≤ b1 ∧ b1 ≤ 1) ∧ (0 ≤ b2 ∧ b2 ≤ 1) ∧ (0 ≤ b3 ∧ b3 ≤ 1) ∧ (0 ≤ b4 ∧ b4 ≤ 1)) →
      Fr h₀ L h' m → News h₀ L h' ((D, listOf #[.int q t, .int b0 t0, .int b1 t1, .int b2 t2, .int b3 t3, .int b4 t4] 0) :: news) → (∀ p ∈ news, p.1 < D) → Q (.ref D) { s with heap := h' }) :
    wpAny (model prog w) A (binaryOp .Add (.ref a) (.ref b)) Q E s := by
  obtain ⟨b0, b1, b2, b3, b4, t0, t1, t2, t3, t4, hbits, rfl⟩ := five_bits hn hc
  exact kmk_add_lit F N (News.isList N ha) hb rfl (fun D h' F' N' hlt => h _ _ _ _ _ _ _ _ _ _ _ D h' (fmod3 x) hbits F' N' hlt) (Nat.le_of_ble_eq_true rfl)
theorem pick3 {value slice : Expr} {D : Addr} {x y z : Str} {t0 t1 t2 u : Tok} {i : Int} {k : Nat} {news : List (Addr × Obj)} {Q : Value → Shared → Prop} (N : News h₀ L s.heap news) (hm : (D, listOf #[.str x t0, .str y t1, .str z t2] k) ∈ news) (hi : 0 ≤ i ∧ i ≤ 2)
    (h : ∀ v t, (v = x ∨ v = y ∨ v = z) → Q (.str v t) s)
    (hs : subscripted slice false (.ref D) (.int i u) = operate [.ref D, .int i u] (getItem (.ref D) (.int i u)) := by with_unfolding_all rfl) (hg : ∀ r, letTemporaryGo value (.ref D) r = pure () := by intro _; with_unfolding_all rfl) :
    wpAny (model prog w) A (subscriptTail value slice (.ref D) (.int i u)) Q E s := by
  have hl := News.isList N hm
  have h3 : i = 0 ∨ i = 1 ∨ i = 2 := by omega
  rcases h3 with rfl | rfl | rfl
  · exact item_list hl (by omega) (by omega) (x := .str x t0) rfl (h _ _ (.inl rfl)) hs hg
  · exact item_list hl (by omega) (by omega) (x := .str y t1) rfl (h _ _ (.inr (.inl rfl))) hs hg
  · exact item_list hl (by omega) (by omega) (x := .str z t2) rfl (h _ _ (.inr (.inr rfl))) hs hg
theorem item0 {value slice : Expr} {D : Addr} {v0 : Value} {r : List Value} {u : Tok} {k : Nat} {news : List (Addr × Obj)} {Q : Value → Shared → Prop} (N : News h₀ L s.heap news) (hm : (D, listOf (List.toArray (v0 :: r)) k) ∈ news) (h : Q v0 s)
    (hs : subscripted slice false (.ref D) (.int 0 u) = operate [.ref D, .int 0 u] (getItem (.ref D) (.int 0 u))) (hg : ∀ r, letTemporaryGo value (.ref D) r = pure ()) :
    wpAny (model prog w) A (subscriptTail value slice (.ref D) (.int 0 u)) Q E s := item_listL (News.isList N hm) (by omega) (by omega) rfl h hs hg
theorem item1 {value slice : Expr} {D : Addr} {v0 v1 : Value} {r : List Value} {u : Tok} {k : Nat} {news : List (Addr × Obj)} {Q : Value → Shared → Prop} (N : News h₀ L s.heap news) (hm : (D, listOf (List.toArray (v0 :: v1 :: r)) k) ∈ news) (h : Q v1 s)
    (hs : subscripted slice false (.ref D) (.int 1 u) = operate [.ref D, .int 1 u] (getItem (.ref D) (.int 1 u))) (hg : ∀ r, letTemporaryGo value (.ref D) r = pure ()) :
    wpAny (model prog w) A (subscriptTail value slice (.ref D) (.int 1 u)) Q E s := item_listL (News.isList N hm) (by omega) (by omega) rfl h hs hg
theorem item2 {value slice : Expr} {D : Addr} {v0 v1 v2 : Value} {r : List Value} {u : Tok} {k : Nat} {news : List (Addr × Obj)} {Q : Value → Shared → Prop} (N : News h₀ L s.heap news) (hm : (D, listOf (List.toArray (v0 :: v1 :: v2 :: r)) k) ∈ news) (h : Q v2 s)
    (hs : subscripted slice false (.ref D) (.int 2 u) = operate [.ref D, .int 2 u] (getItem (.ref D) (.int 2 u))) (hg : ∀ r, letTemporaryGo value (.ref D) r = pure ()) :
    wpAny (model prog w) A (subscriptTail value slice (.ref D) (.int 2 u)) Q E s := item_listL (News.isList N hm) (by omega) (by omega) rfl h hs hg
theorem item3 {value slice : Expr} {D : Addr} {v0 v1 v2 v3 : Value} {r : List Value} {u : Tok} {k : Nat} {news : List (Addr × Obj)} {Q : Value → Shared → Prop} (N : News h₀ L s.heap news) (hm : (D, listOf (List.toArray (v0 :: v1 :: v2 :: v3 :: r)) k) ∈ news) (h : Q v3 s)
    (hs : subscripted slice false (.ref D) (.int 3 u) = operate [.ref D, .int 3 u] (getItem (.ref D) (.int 3 u))) (hg : ∀ r, letTemporaryGo value (.ref D) r = pure ()) :
    wpAny (model prog w) A (subscriptTail value slice (.ref D) (.int 3 u)) Q E s := item_listL (News.isList N hm) (by omega) (by omega) rfl h hs hg
end
end Mine
end
section
open PySem PySem.W PyProof.Rows PySem.Calls PySem.Spec
namespace Mine
noncomputable def lineL (q b0 b1 b2 b3 b4 : Int) : List Nat := List.replicate q.toNat 46 ++ wordL b0 b1 b2 b3 b4
theorem word_noNl {b0 b1 b2 b3 b4 : Int} (hb : Bits b0 b1 b2 b3 b4) : NoNl (wordL b0 b1 b2 b3 b4) := by
  obtain ⟨h0, h1, h2, h3, h4⟩ := hb
  intro c hc
  simp only [wordL, List.mem_cons, List.not_mem_nil, or_false] at hc
  omega
theorem line_len (q b0 b1 b2 b3 b4 : Int) : (lineL q b0 b1 b2 b3 b4).length = q.toNat + 5 := by
  rw [lineL, List.length_append, List.length_replicate]; rfl
theorem line_noNl {q b0 b1 b2 b3 b4 : Int} (hb : Bits b0 b1 b2 b3 b4) : NoNl (lineL q b0 b1 b2 b3 b4) := by
  intro c hc
  rcases List.mem_append.mp hc with h | h
  · have := (List.mem_replicate.mp h).2
    omega
  · exact word_noNl hb c h
theorem head_word {b0 b1 b2 b3 b4 : Int} (hb : Bits b0 b1 b2 b3 b4) : dotted (wordL b0 b1 b2 b3 b4) = false := by
  obtain ⟨h0, _⟩ := hb
  show ((97 - 32 * b0).toNat == 46) = false
  rw [beq_eq_false_iff_ne]
  omega
theorem line_stuff {q b0 b1 b2 b3 b4 : Int} (hb : Bits b0 b1 b2 b3 b4) (hq : 0 ≤ q) : stuff (lineL q b0 b1 b2 b3 b4) = lineL (if 0 < q then q + 1 else q) b0 b1 b2 b3 b4 := by
  by_cases h : 0 < q
  · rw [if_pos h]
    obtain ⟨n, hn⟩ : ∃ n : Nat, q = (n : Int) + 1 := ⟨(q - 1).toNat, by omega⟩
    subst hn
    have e1 : ((n : Int) + 1).toNat = n + 1 := by omega
    have e2 : ((n : Int) + 1 + 1).toNat = n + 2 := by omega
    rw [lineL, lineL, e1, e2]
    rfl
  · rw [if_neg h]
    have : q = 0 := by omega
    subst this
    exact stuff_false (head_word hb)
theorem mul_dots {q : Int} (hq : 0 ≤ q ∧ q ≤ 2) : Txt.mul (Str.ofString ".") q = tx (List.replicate q.toNat 46) := by
  have : q = 0 ∨ q = 1 ∨ q = 2 := by omega
  rcases this with rfl | rfl | rfl <;> decide +kernel
theorem crlf_tx : Str.ofString "\r\n" = tx [13, 10] := by decide +kernel
theorem at_crlf {X Y : List Nat} (hX : NoNl X) (hY : NoNl Y) {k : Nat} (h : StrLaws.At (tx (X ++ [13, 10] ++ Y)) (tx [13, 10]) (tx (X ++ [13, 10] ++ Y)).length k) : k = X.length := by
  obtain ⟨h1, h2⟩ := h
  have h3 : ((X ++ [13, 10] ++ Y).take (k + 2)).drop k = [13, 10] := by
    have := eq_of_beq h2
    have e : (⟨(tx (X ++ [13, 10] ++ Y)).cps.extract k (k + 2)⟩ : Str) = tx (((X ++ [13, 10] ++ Y).take (k + 2)).drop k) := ext_tx _ _ _
    have e2 : (tx (((X ++ [13, 10] ++ Y).take (k + 2)).drop k)).cps = (tx [13, 10]).cps := by rw [← e]; exact this
    simpa [tx] using e2
  have h4 : (X ++ [13, 10] ++ Y)[k]? = some 13 := by
    have := congrArg (fun l : List Nat => l[0]?) h3
    simpa using this
  by_cases a : k < X.length
  · rw [List.append_assoc, List.getElem?_append_left a] at h4
    exact absurd rfl (hX 13 (List.mem_of_getElem? h4)).2
  · by_cases b : k = X.length
    · exact b
    · exfalso
      rw [List.append_assoc, List.getElem?_append_right (by omega)] at h4
      obtain ⟨j, hj⟩ : ∃ j, k - X.length = j + 1 := ⟨k - X.length - 1, by omega⟩
      rw [hj] at h4
      cases j with
      | zero => simp at h4
      | succ j =>
        have h5 : Y[j]? = some 13 := by simpa using h4
        exact absurd rfl (hY 13 (List.mem_of_getElem? h5)).2
theorem at_crlf_is {X Y : List Nat} : StrLaws.At (tx (X ++ [13, 10] ++ Y)) (tx [13, 10]) (tx (X ++ [13, 10] ++ Y)).length X.length := by
  refine ⟨by simp [tx, Str.length], ?_⟩
  have e : (⟨(tx (X ++ [13, 10] ++ Y)).cps.extract X.length (X.length + 2)⟩ : Str) = tx (((X ++ [13, 10] ++ Y).take (X.length + 2)).drop X.length) := ext_tx _ _ _
  have e2 : ((X ++ [13, 10] ++ Y).take (X.length + 2)).drop X.length = [13, 10] := by
    rw [List.take_append_of_le_length (by simp), List.take_of_length_le (by simp), List.drop_left]
  rw [e2] at e
  show ((tx (X ++ [13, 10] ++ Y)).cps.extract X.length (X.length + 2) == (tx [13, 10]).cps) = true
  have := congrArg Str.cps e
  rw [show (tx (X ++ [13, 10] ++ Y)).cps.extract X.length (X.length + 2) = (tx [13, 10]).cps from this]
  exact beq_self_eq_true _
theorem occ_crlf {X Y : List Nat} (hX : NoNl X) (hY : NoNl Y) : Builtin.Str.occurrences (tx (X ++ [13, 10] ++ Y)) (tx [13, 10]) 0 (tx (X ++ [13, 10] ++ Y)).length ((tx (X ++ [13, 10] ++ Y)).length + 1) = [X.length] := by
  obtain ⟨f, hc, hn⟩ := StrLaws.occ_tight (tx (X ++ [13, 10] ++ Y)) (tx [13, 10]) (by decide)
  generalize Builtin.Str.occurrences (tx (X ++ [13, 10] ++ Y)) (tx [13, 10]) 0 (tx (X ++ [13, 10] ++ Y)).length ((tx (X ++ [13, 10] ++ Y)).length + 1) = O at hc
  cases O with
  | nil =>
    have e : f = 0 := hc
    exact absurd at_crlf_is (hn X.length (by omega))
  | cons c r =>
    obtain ⟨_, h1, _, h2⟩ := hc
    have e := at_crlf hX hY h1
    cases r with
    | nil => rw [e]
    | cons d r =>
      obtain ⟨h3, h4, _⟩ := h2
      have e2 := at_crlf hX hY h4
      have : (tx [13, 10]).length = 2 := rfl
      omega
theorem split_tx {X Y : List Nat} (hX : NoNl X) (hY : NoNl Y) : Txt.split (tx (X ++ [13, 10] ++ Y)) (tx [13, 10]) = [tx X, tx Y] := by
  have hk : ∀ x : Str, ¬ Builtin.Str.strKind x < Builtin.Str.strKind (tx [13, 10]) := fun x => by
    have e1 : Builtin.Str.strKind (tx [13, 10]) = 1 := by decide +kernel
    rw [e1]
    unfold Builtin.Str.strKind
    split
    · omega
    · split <;> omega
  have hl : ¬ (tx (X ++ [13, 10] ++ Y)).length < (tx [13, 10]).length := by simp [tx, Str.length]; omega
  rw [Txt.split, occ_crlf hX hY, decide_eq_false hl, decide_eq_false (hk _)]
  have el : (tx (X ++ [13, 10] ++ Y)).length = X.length + 2 + Y.length := by simp [tx, Str.length]; omega
  have e1 : Builtin.Str.strSub (tx (X ++ [13, 10] ++ Y)) 0 X.length = tx X := by
    show (⟨(tx (X ++ [13, 10] ++ Y)).cps.extract 0 X.length⟩ : Str) = _
    rw [ext_tx, List.drop_zero, List.append_assoc, List.take_left]
  have e2 : Builtin.Str.strSub (tx (X ++ [13, 10] ++ Y)) (X.length + 2) (tx (X ++ [13, 10] ++ Y)).length = tx Y := by
    show (⟨(tx (X ++ [13, 10] ++ Y)).cps.extract (X.length + 2) (tx (X ++ [13, 10] ++ Y)).length⟩ : Str) = _
    rw [ext_tx, List.take_of_length_le (by rw [el]; simp; omega), List.drop_append_of_le_length (by simp), List.drop_of_length_le (by simp), List.nil_append]
  show [Builtin.Str.strSub (tx (X ++ [13, 10] ++ Y)) 0 X.length, Builtin.Str.strSub (tx (X ++ [13, 10] ++ Y)) (X.length + 2) (tx (X ++ [13, 10] ++ Y)).length] = _
  rw [e1, e2]
end Mine
end
section
open PySem PySem.W PyProof.Rows PySem.Calls PySem.Spec
namespace Mine
noncomputable def upQ (n : Nat) (q : Int) : Int := if 0 < q then q + n else q
noncomputable def sepN (S : List Nat) : Nat → List Nat
  | 0 => S
  | _ + 1 => [13, 10]
noncomputable def textL (S : List Nat) (q b0 b1 b2 b3 b4 r c0 c1 c2 c3 c4 : Int) (n : Nat) : Str := tx (lineL (upQ n q) b0 b1 b2 b3 b4 ++ sepN S n ++ lineL (upQ n r) c0 c1 c2 c3 c4)
theorem upQ_succ (n : Nat) (q : Int) : (if 0 < upQ n q then upQ n q + 1 else upQ n q) = upQ (n + 1) q := by
  unfold upQ
  by_cases h : 0 < q
  · rw [if_pos h, if_pos h, if_pos (by omega)]; omega
  · rw [if_neg h, if_neg h, if_neg h]
theorem upQ_ge {q : Int} (n : Nat) (h : 0 ≤ q ∧ q ≤ 2) : 0 ≤ upQ n q ∧ upQ n q ≤ n + 2 := by
  unfold upQ
  split <;> omega
theorem textL_zero (S : List Nat) (q b0 b1 b2 b3 b4 r c0 c1 c2 c3 c4 : Int) : textL S q b0 b1 b2 b3 b4 r c0 c1 c2 c3 c4 0 = tx (lineL q b0 b1 b2 b3 b4 ++ S ++ lineL r c0 c1 c2 c3 c4) := by
  have e : ∀ z : Int, upQ 0 z = z := fun z => by unfold upQ; split <;> omega
  rw [textL, e, e]; rfl
theorem quote_text {S : List Nat} {q b0 b1 b2 b3 b4 r c0 c1 c2 c3 c4 : Int} (hS : S = [10] ∨ S = [13] ∨ S = [13, 10]) (hq : 0 ≤ q ∧ q ≤ 2) (hr : 0 ≤ r ∧ r ≤ 2) (hb : Bits b0 b1 b2 b3 b4) (hc : Bits c0 c1 c2 c3 c4) (n : Nat) (hn : n ≤ 5) :
    ∃ T1 ms2 ms1, Subs code2 (Str.ofString "\r\n") (textL S q b0 b1 b2 b3 b4 r c0 c1 c2 c3 c4 n) ms2 T1 ∧ Subs code1 (Str.ofString "..") T1 ms1 (textL S q b0 b1 b2 b3 b4 r c0 c1 c2 c3 c4 (n + 1)) := by
  have hS' : sepN S n = [10] ∨ sepN S n = [13] ∨ sepN S n = [13, 10] := by
    cases n with
    | zero => exact hS
    | succ n => exact .inr (.inr rfl)
  have hqn := upQ_ge n hq
  have hrn := upQ_ge n hr
  have l1 := line_len (upQ n q) b0 b1 b2 b3 b4
  have l2 := line_len (upQ n r) c0 c1 c2 c3 c4
  have n1 : lineL (upQ n q) b0 b1 b2 b3 b4 ≠ [] := fun e => by rw [e] at l1; simp at l1
  have n2 : lineL (upQ n r) c0 c1 c2 c3 c4 ≠ [] := fun e => by rw [e] at l2; simp at l2
  have h := subs1 (line_noNl (q := upQ n q) hb) (line_noNl (q := upQ n r) hc) (by omega) (by omega) (by omega)
  rw [line_stuff hb hqn.1, line_stuff hc hrn.1, upQ_succ, upQ_succ] at h
  exact ⟨_, _, _, subs2 (line_noNl hb) (line_noNl hc) n1 n2 hS' (by omega), h⟩
section
variable {prog : Program} {w : World} {A : Around} {E : Value → Shared → Prop} {s : Shared} {h₀ : Heap} {L : Addr} {m : Str → Option Value}
theorem dots_word {q b0 b1 b2 b3 b4 : Int} {t u : Tok} {Q : Value → Shared → Prop} (hq : 0 ≤ q ∧ q ≤ 2) (h : ∀ t' k, Q (.str (tx (lineL q b0 b1 b2 b3 b4)) t') { s with toks := k }) :
    wpAny (model prog w) A (binaryOp .Add (.str (Txt.mul (Str.ofString ".") q) t) (.str (tx (wordL b0 b1 b2 b3 b4)) u)) Q E s := by
  rw [mul_dots hq]
  refine SB.add (fun t' k => ?_) ?_
  · rw [tx_app]; exact h t' k
  · have e1 : (tx (List.replicate q.toNat 46)).length = q.toNat := by simp [tx, Str.length]
    have e2 : (tx (wordL b0 b1 b2 b3 b4)).length = 5 := rfl
    rw [e1, e2, sizeLine_eq]
    omega
theorem join2 {v : Str} {X Y : List Nat} {tv t u : Tok} {D : Addr} {news : List (Addr × Obj)} {Q : Value → Shared → Prop} (N : News h₀ L s.heap news) (hm : (D, LCg.lst [.str (tx X) t, .str (tx Y) u]) ∈ news)
    (hv : v = Str.ofString "\n" ∨ v = Str.ofString "\x0d" ∨ v = Str.ofString "\x0d\n") (hX : X.length ≤ 100) (hY : Y.length ≤ 100) (h : ∀ S t' k, (S = [10] ∨ S = [13] ∨ S = [13, 10]) → Q (.str (tx (X ++ S ++ Y)) t') { s with toks := k }) :
    wpAny (model prog w) A (call (.builtin "str.join") [.str v tv, .ref D]) Q E s := by
  have key : ∃ S, (S = [10] ∨ S = [13] ∨ S = [13, 10]) ∧ v = tx S := by
    rcases hv with rfl | rfl | rfl
    · exact ⟨[10], .inl rfl, by decide +kernel⟩
    · exact ⟨[13], .inr (.inl rfl), by decide +kernel⟩
    · exact ⟨[13, 10], .inr (.inr rfl), by decide +kernel⟩
  obtain ⟨S, hS, rfl⟩ := key
  have lS : S.length ≤ 2 := by rcases hS with rfl | rfl | rfl <;> decide
  refine SC.join (l := [(tx X, t), (tx Y, u)]) (texts := [tx X, tx Y]) (News.isList N hm) rfl (joinOk_of_weight ?_ ?_) (fun t' k => ?_)
  · simp [tx, Str.length]; omega
  · simp [tx, Str.length]; omega
  · have e : Txt.join (tx S) [tx X, tx Y] = tx (X ++ S ++ Y) := by simp [Txt.join, Builtin.Str.glued, tx]
    rw [e]; exact h S t' k hS
theorem split2tx {X Y : List Nat} {t u : Tok} {news : List (Addr × Obj)} {Q : Value → Shared → Prop} (F : Fr h₀ L s.heap m) (N : News h₀ L s.heap news) (hX : NoNl X) (hY : NoNl Y) (hXl : X.length ≤ 100) (hYl : Y.length ≤ 100)
    (h : ∀ (D : Addr) (t0 t1 : Tok) (h' : Heap) (k : Nat), Fr h₀ L h' m → News h₀ L h' ((D, listOf #[.str (tx X) t0, .str (tx Y) t1] 0) :: news) → (∀ p ∈ news, p.1 < D) → Q (.ref D) { s with heap := h', toks := k }) :
    wpAny (model prog w) A (call (.builtin "str.split") [.str (tx (X ++ [13, 10] ++ Y)) t, .str (Str.ofString "\x0d\n") u]) Q E s := by
  have e0 : Str.ofString "\x0d\n" = tx [13, 10] := by decide +kernel
  rw [e0]
  refine KSpl.split1 F N rfl (fun D l h' k hl _ F' N' lt => ?_) ?_
  · rw [split_tx hX hY] at hl
    obtain ⟨a, l, rfl⟩ : ∃ a r, l = a :: r := by cases l with | nil => (simp at hl) | cons a r => exact ⟨a, r, rfl⟩
    obtain ⟨b, l, rfl⟩ : ∃ a r, l = a :: r := by cases l with | nil => (simp at hl) | cons a r => exact ⟨a, r, rfl⟩
    obtain rfl : l = [] := by cases l with | nil => rfl | cons a r => (simp at hl)
    obtain ⟨a, ta⟩ := a
    obtain ⟨b, tb⟩ := b
    simp only [List.map_cons, List.map_nil, List.cons.injEq, and_true] at hl
    obtain ⟨rfl, rfl⟩ := hl
    exact h D ta tb h' k F' N' lt
  · simp [tx, Str.length, sizeLine_eq]; omega
end
end Mine
end
section
open PySem PySem.W PyProof.Rows PySem.Calls PySem.Spec
namespace Mine
theorem quote_text1 {S : List Nat} {q b0 b1 b2 b3 b4 r c0 c1 c2 c3 c4 : Int} {T : Str} {n : Nat} (hS : S = [10] ∨ S = [13] ∨ S = [13, 10]) (hq : 0 ≤ q ∧ q ≤ 2) (hr : 0 ≤ r ∧ r ≤ 2) (hb : Bits b0 b1 b2 b3 b4) (hc : Bits c0 c1 c2 c3 c4)
    (hT : T = textL S q b0 b1 b2 b3 b4 r c0 c1 c2 c3 c4 n) (hn : n ≤ 5) :
    ∃ T1 ms2 ms1, Subs code2 (Str.ofString "\r\n") T ms2 T1 ∧ Subs code1 (Str.ofString "..") T1 ms1 (textL S q b0 b1 b2 b3 b4 r c0 c1 c2 c3 c4 (n + 1)) := hT ▸ quote_text hS hq hr hb hc n hn
theorem sent_walk (w : World) (mean : ExcName → Option Value) (mg mb : Str → Option Value) (news : List (Addr × Obj)) (S : List Nat) (q b0 b1 b2 b3 b4 r c0 c1 c2 c3 c4 times : Int) (tt tu : Tok)
   (hS : S = [10] ∨ S = [13] ∨ S = [13, 10]) (hq : 0 ≤ q ∧ q ≤ 2) (hr : 0 ≤ r ∧ r ≤ 2) (hb : Bits b0 b1 b2 b3 b4) (hc : Bits c0 c1 c2 c3 c4) (ht : 1 ≤ times ∧ times ≤ 2) :
   Claim 121 2 w mean mg mb news [.str (tx (lineL q b0 b1 b2 b3 b4 ++ S ++ lineL r c0 c1 c2 c3 c4)) tt, .int times tu] (fun t => .str (textL S q b0 b1 b2 b3 b4 r c0 c1 c2 c3 c4 times.toNat) t) := by
  w_top off
  dsimp only [Claim, SpecOf]
  k_fill
  k_with_none
  intros; rename_i hret
  k_with "state" => first
    | exact (textL_zero ..).symm
    | (rw [List.length_append]; rfl)
  k_with "call ref cons nil" => ((rename (_ = textL _ _ _ _ _ _ _ _ _ _ _ _ _ _) => kInv9); (obtain ⟨T1, ms2, ms1, hs2, hs1⟩ := quote_text1 hS hq hr hb hc kInv9 (by omega)); (refine' quote_walk _ _ _ _ _ _ _ _ _ _ _ hs2 hs1 _ _ _ _ _ _ _ _ _ _ _ _ _ _ _ _ _ ?k1 ?k2 ?k3 ?k4 ?k5 ?kK ?kd ?ku ?_); (case k1 => k_asm); (case k2 => k_asm); (case k3 => k_asm); (case k4 => k_asm); (case k5 => k_asm); (case kK => first | exact rfl | assumption); (case kd => ktr_room); (case ku => ktr_units); intro t9 h9 tk9 F9 N9; (try dsimp only); (try k_fold))
  refine wpAny_call ?_
  k_dflt cell_enter
  iterate 10 (first | (k_unfold; (try dsimp only)) | walk1 | (dsimp only; walk1))
  k_of "turn" => k_state (fun pre mail => mail = textL S q b0 b1 b2 b3 b4 r c0 c1 c2 c3 c4 pre.length) "mail"
  all_goals k_steps
  all_goals (refine cb_retS hret ?_ (by assumption) (by assumption); rename (_ = textL _ _ _ _ _ _ _ _ _ _ _ _ _ _) => kInv9; rw [kInv9]; congr 1; simp [rangeKs])
end Mine
end
section
open PySem PySem.W PyProof.Rows PySem.Calls PySem.Spec PySem.Builtin
namespace Mine
noncomputable def lowS (a : Str) : Str := if a.cps.size = 1 ∧ a.cps.getD 0 0 < 128 then ⟨#[if 65 ≤ a.cps.getD 0 0 ∧ a.cps.getD 0 0 ≤ 90 then a.cps.getD 0 0 + 32 else a.cps.getD 0 0]⟩ else Txt.lower a
theorem low_ascii : ∀ c < 128, Txt.lower ⟨#[c]⟩ = (⟨#[if 65 ≤ c ∧ c ≤ 90 then c + 32 else c]⟩ : Str) := by decide +kernel
theorem lowS_is (a : Str) : lowS a = Txt.lower a := by
  unfold lowS
  split
  · rename_i h
    obtain ⟨⟨l⟩⟩ := a
    obtain ⟨h1, h2⟩ := h
    match l, h1 with
    | [c], _ => exact (low_ascii c h2).symm
  · rfl
noncomputable def subF (a b : Str) : Int := if a = b then 0 else if lowS a = lowS b then 1 else 2
noncomputable def stepF (a bc : Str) (st : Int × Int × Int × List Int) (i : Int) : Int × Int × Int × List Int :=
  let sub := st.1 + subF bc (Txt.item a i)
  let d' := st.2.2.2.getD i.toNat 0
  let ins := (if d' < st.2.1 then d' else st.2.1) + 2
  let r' := if sub < ins then sub else ins
  (d', r', if r' < st.2.2.1 then r' else st.2.2.1, st.2.2.2.set i.toNat r')
noncomputable def innerF (a bc : Str) (d0 : Int) (row : List Int) (pre : List Int) : Int × Int × Int × List Int := pre.foldl (stepF a bc) (d0, d0, 9223372036854775807, row)
noncomputable def outerF (a b : Str) (c : Int) : Nat → Int → Int → List Int → Int
  | 0, _, res, _ => res
  | n + 1, i, _, row => if c < (innerF a (Txt.item b i) (i * 2) row (rangeKs 0 a.length)).2.2.1 then c + 1 else outerF a b c n (i + 1) (innerF a (Txt.item b i) (i * 2) row (rangeKs 0 a.length)).2.1 (innerF a (Txt.item b i) (i * 2) row (rangeKs 0 a.length)).2.2.2
noncomputable def levDPF (a b : Str) (c : Int) : Int := outerF a b c b.length 0 0 (rangeInts 2 2 a.length)
theorem subF_is : subF = subCost := by
  funext a b
  unfold subF subCost
  rw [lowS_is, lowS_is]
theorem stepF_is : stepF = stepD := by
  funext a bc st i
  unfold stepF stepD
  rw [subF_is]
theorem innerF_is : innerF = innerD := by
  funext a bc d row pre
  unfold innerF innerD
  rw [stepF_is]
theorem outerF_is (a b : Str) (c : Int) : ∀ (n : Nat) (i res : Int) (row : List Int), outerF a b c n i res row = outerD a b c n i res row
  | 0, _, _, _ => rfl
  | n + 1, i, res, row => by
    unfold outerF outerD
    rw [innerF_is, outerF_is a b c n]
theorem levDPF_is : levDPF = levDP := by
  funext a b c
  exact outerF_is a b c _ _ _ _
noncomputable def levQF (a b : Str) (c : Int) : Int := if c < ((b.length : Int) - a.length) * 2 then c + 1 else levDPF a b c
noncomputable def levTF (a b : Str) (c : Int) : Int := if a.length = 0 ∨ b.length = 0 then 2 * ((a.length : Int) + b.length) else if (b.length : Int) < a.length then levQF b a c else levQF a b c
noncomputable def lev2F (a b : Str) (c : Int) : Int := levTF (cutS a (postL a b 41 0)) (cutS b (postL a b 41 0)) c
noncomputable def levF (a b : Str) (c : Int) : Int := if a = b then 0 else lev2F (Txt.slice a (some (preL a b 41 0)) none) (Txt.slice b (some (preL a b 41 0)) none) c
theorem levF_is (a b : Str) (c : Int) : levF a b c = lev a b c := by
  unfold levF lev lev2F lev2 levTF levT levQF levQ
  rw [levDPF_is]
noncomputable def bitsAll : List (Int × Int × Int × Int × Int) := [0, 1].flatMap fun a => [0, 1].flatMap fun b => [0, 1].flatMap fun c => [0, 1].flatMap fun d => [0, 1].map fun e => (a, b, c, d, e)
noncomputable def formula (q b0 b1 b2 b3 b4 w0 w1 w2 w3 w4 : Int) : Int := 2 * q + (b0 + w0 - 2 * b0 * w0) + (b1 + w1 - 2 * b1 * w1) + (b2 + w2 - 2 * b2 * w2) + (b3 + w3 - 2 * b3 * w3) + (b4 + w4 - 2 * b4 * w4)
noncomputable def tabOk (wd : List Nat) (t : List (List Nat × Int)) : Bool := t.all fun p => decide (levF (tx p.1) (tx wd) 13 = p.2)
noncomputable def tabOf (q w0 w1 w2 w3 w4 : Int) : List (List Nat × Int) := bitsAll.map fun x => (lineL q x.1 x.2.1 x.2.2.1 x.2.2.2.1 x.2.2.2.2, formula q x.1 x.2.1 x.2.2.1 x.2.2.2.1 x.2.2.2.2 w0 w1 w2 w3 w4)
noncomputable def okRow (q w0 w1 w2 w3 w4 : Int) : Bool := tabOk (wordL w0 w1 w2 w3 w4) (tabOf q w0 w1 w2 w3 w4)
theorem row_of {q w0 w1 w2 w3 w4 : Int} {wd : List Nat} {t : List (List Nat × Int)} (hw : wordL w0 w1 w2 w3 w4 = wd) (ht : tabOf q w0 w1 w2 w3 w4 = t) (h : tabOk wd t = true) : okRow q w0 w1 w2 w3 w4 = true := by
  rw [okRow, hw, ht]; exact h
noncomputable def Okw (w0 w1 w2 w3 w4 : Int) : Prop := ∀ q : Int, q = 0 ∨ q = 2 ∨ q = 3 ∨ q = 4 → okRow q w0 w1 w2 w3 w4 = true
theorem okw_of {w0 w1 w2 w3 w4 : Int} (h0 : okRow 0 w0 w1 w2 w3 w4 = true) (h2 : okRow 2 w0 w1 w2 w3 w4 = true) (h3 : okRow 3 w0 w1 w2 w3 w4 = true) (h4 : okRow 4 w0 w1 w2 w3 w4 = true) : Okw w0 w1 w2 w3 w4 := by
  intro q hq
  rcases hq with rfl | rfl | rfl | rfl
  · exact h0
  · exact h2
  · exact h3
  · exact h4
noncomputable def lit0a : List (List Nat × Int) := [([97, 98, 99, 100, 101], 0), ([97, 98, 99, 100, 69], 1), ([97, 98, 99, 68, 101], 1), ([97, 98, 99, 68, 69], 2), ([97, 98, 67, 100, 101], 1), ([97, 98, 67, 100, 69], 2), ([97, 98, 67, 68, 101], 2), ([97, 98, 67, 68, 69], 3), ([97, 66, 99, 100, 101], 1), ([97, 66, 99, 100, 69], 2), ([97, 66, 99, 68, 101], 2), ([97, 66, 99, 68, 69], 3), ([97, 66, 67, 100, 101], 2), ([97, 66, 67, 100, 69], 3), ([97, 66, 67, 68, 101], 3), ([97, 66, 67, 68, 69], 4), ([65, 98, 99, 100, 101], 1), ([65, 98, 99, 100, 69], 2), ([65, 98, 99, 68, 101], 2), ([65, 98, 99, 68, 69], 3), ([65, 98, 67, 100, 101], 2), ([65, 98, 67, 100, 69], 3), ([65, 98, 67, 68, 101], 3), ([65, 98, 67, 68, 69], 4), ([65, 66, 99, 100, 101], 2), ([65, 66, 99, 100, 69], 3), ([65, 66, 99, 68, 101], 3), ([65, 66, 99, 68, 69], 4), ([65, 66, 67, 100, 101], 3), ([65, 66, 67, 100, 69], 4), ([65, 66, 67, 68, 101], 4), ([65, 66, 67, 68, 69], 5)]
theorem tab0a : tabOk [97, 98, 99, 100, 101] lit0a = true := by decide +kernel
theorem ok0a : okRow 0 0 0 0 0 0 = true := row_of (by decide +kernel) (show tabOf 0 0 0 0 0 0 = lit0a by decide +kernel) tab0a
noncomputable def lit0b : List (List Nat × Int) := [([97, 98, 99, 100, 101], 3), ([97, 98, 99, 100, 69], 4), ([97, 98, 99, 68, 101], 2), ([97, 98, 99, 68, 69], 3), ([97, 98, 67, 100, 101], 4), ([97, 98, 67, 100, 69], 5), ([97, 98, 67, 68, 101], 3), ([97, 98, 67, 68, 69], 4), ([97, 66, 99, 100, 101], 2), ([97, 66, 99, 100, 69], 3), ([97, 66, 99, 68, 101], 1), ([97, 66, 99, 68, 69], 2), ([97, 66, 67, 100, 101], 3), ([97, 66, 67, 100, 69], 4), ([97, 66, 67, 68, 101], 2), ([97, 66, 67, 68, 69], 3), ([65, 98, 99, 100, 101], 2), ([65, 98, 99, 100, 69], 3), ([65, 98, 99, 68, 101], 1), ([65, 98, 99, 68, 69], 2), ([65, 98, 67, 100, 101], 3), ([65, 98, 67, 100, 69], 4), ([65, 98, 67, 68, 101], 2), ([65, 98, 67, 68, 69], 3), ([65, 66, 99, 100, 101], 1), ([65, 66, 99, 100, 69], 2), ([65, 66, 99, 68, 101], 0), ([65, 66, 99, 68, 69], 1), ([65, 66, 67, 100, 101], 2), ([65, 66, 67, 100, 69], 3), ([65, 66, 67, 68, 101], 1), ([65, 66, 67, 68, 69], 2)]
theorem tab0b : tabOk [65, 66, 99, 68, 101] lit0b = true := by decide +kernel
theorem ok0b : okRow 0 1 1 0 1 0 = true := row_of (by decide +kernel) (show tabOf 0 1 1 0 1 0 = lit0b by decide +kernel) tab0b
noncomputable def lit0c : List (List Nat × Int) := [([97, 98, 99, 100, 101], 3), ([97, 98, 99, 100, 69], 4), ([97, 98, 99, 68, 101], 2), ([97, 98, 99, 68, 69], 3), ([97, 98, 67, 100, 101], 2), ([97, 98, 67, 100, 69], 3), ([97, 98, 67, 68, 101], 1), ([97, 98, 67, 68, 69], 2), ([97, 66, 99, 100, 101], 4), ([97, 66, 99, 100, 69], 5), ([97, 66, 99, 68, 101], 3), ([97, 66, 99, 68, 69], 4), ([97, 66, 67, 100, 101], 3), ([97, 66, 67, 100, 69], 4), ([97, 66, 67, 68, 101], 2), ([97, 66, 67, 68, 69], 3), ([65, 98, 99, 100, 101], 2), ([65, 98, 99, 100, 69], 3), ([65, 98, 99, 68, 101], 1), ([65, 98, 99, 68, 69], 2), ([65, 98, 67, 100, 101], 1), ([65, 98, 67, 100, 69], 2), ([65, 98, 67, 68, 101], 0), ([65, 98, 67, 68, 69], 1), ([65, 66, 99, 100, 101], 3), ([65, 66, 99, 100, 69], 4), ([65, 66, 99, 68, 101], 2), ([65, 66, 99, 68, 69], 3), ([65, 66, 67, 100, 101], 2), ([65, 66, 67, 100, 69], 3), ([65, 66, 67, 68, 101], 1), ([65, 66, 67, 68, 69], 2)]
theorem tab0c : tabOk [65, 98, 67, 68, 101] lit0c = true := by decide +kernel
theorem ok0c : okRow 0 1 0 1 1 0 = true := row_of (by decide +kernel) (show tabOf 0 1 0 1 1 0 = lit0c by decide +kernel) tab0c
noncomputable def lit0d : List (List Nat × Int) := [([97, 98, 99, 100, 101], 3), ([97, 98, 99, 100, 69], 4), ([97, 98, 99, 68, 101], 2), ([97, 98, 99, 68, 69], 3), ([97, 98, 67, 100, 101], 2), ([97, 98, 67, 100, 69], 3), ([97, 98, 67, 68, 101], 1), ([97, 98, 67, 68, 69], 2), ([97, 66, 99, 100, 101], 2), ([97, 66, 99, 100, 69], 3), ([97, 66, 99, 68, 101], 1), ([97, 66, 99, 68, 69], 2), ([97, 66, 67, 100, 101], 1), ([97, 66, 67, 100, 69], 2), ([97, 66, 67, 68, 101], 0), ([97, 66, 67, 68, 69], 1), ([65, 98, 99, 100, 101], 4), ([65, 98, 99, 100, 69], 5), ([65, 98, 99, 68, 101], 3), ([65, 98, 99, 68, 69], 4), ([65, 98, 67, 100, 101], 3), ([65, 98, 67, 100, 69], 4), ([65, 98, 67, 68, 101], 2), ([65, 98, 67, 68, 69], 3), ([65, 66, 99, 100, 101], 3), ([65, 66, 99, 100, 69], 4), ([65, 66, 99, 68, 101], 2), ([65, 66, 99, 68, 69], 3), ([65, 66, 67, 100, 101], 2), ([65, 66, 67, 100, 69], 3), ([65, 66, 67, 68, 101], 1), ([65, 66, 67, 68, 69], 2)]
theorem tab0d : tabOk [97, 66, 67, 68, 101] lit0d = true := by decide +kernel
theorem ok0d : okRow 0 0 1 1 1 0 = true := row_of (by decide +kernel) (show tabOf 0 0 1 1 1 0 = lit0d by decide +kernel) tab0d
noncomputable def lit2a : List (List Nat × Int) := [([46, 46, 97, 98, 99, 100, 101], 4), ([46, 46, 97, 98, 99, 100, 69], 5), ([46, 46, 97, 98, 99, 68, 101], 5), ([46, 46, 97, 98, 99, 68, 69], 6), ([46, 46, 97, 98, 67, 100, 101], 5), ([46, 46, 97, 98, 67, 100, 69], 6), ([46, 46, 97, 98, 67, 68, 101], 6), ([46, 46, 97, 98, 67, 68, 69], 7), ([46, 46, 97, 66, 99, 100, 101], 5), ([46, 46, 97, 66, 99, 100, 69], 6), ([46, 46, 97, 66, 99, 68, 101], 6), ([46, 46, 97, 66, 99, 68, 69], 7), ([46, 46, 97, 66, 67, 100, 101], 6), ([46, 46, 97, 66, 67, 100, 69], 7), ([46, 46, 97, 66, 67, 68, 101], 7), ([46, 46, 97, 66, 67, 68, 69], 8), ([46, 46, 65, 98, 99, 100, 101], 5), ([46, 46, 65, 98, 99, 100, 69], 6), ([46, 46, 65, 98, 99, 68, 101], 6), ([46, 46, 65, 98, 99, 68, 69], 7), ([46, 46, 65, 98, 67, 100, 101], 6), ([46, 46, 65, 98, 67, 100, 69], 7), ([46, 46, 65, 98, 67, 68, 101], 7), ([46, 46, 65, 98, 67, 68, 69], 8), ([46, 46, 65, 66, 99, 100, 101], 6), ([46, 46, 65, 66, 99, 100, 69], 7), ([46, 46, 65, 66, 99, 68, 101], 7), ([46, 46, 65, 66, 99, 68, 69], 8), ([46, 46, 65, 66, 67, 100, 101], 7), ([46, 46, 65, 66, 67, 100, 69], 8), ([46, 46, 65, 66, 67, 68, 101], 8), ([46, 46, 65, 66, 67, 68, 69], 9)]
theorem tab2a : tabOk [97, 98, 99, 100, 101] lit2a = true := by decide +kernel
theorem ok2a : okRow 2 0 0 0 0 0 = true := row_of (by decide +kernel) (show tabOf 2 0 0 0 0 0 = lit2a by decide +kernel) tab2a
noncomputable def lit2b : List (List Nat × Int) := [([46, 46, 97, 98, 99, 100, 101], 7), ([46, 46, 97, 98, 99, 100, 69], 8), ([46, 46, 97, 98, 99, 68, 101], 6), ([46, 46, 97, 98, 99, 68, 69], 7), ([46, 46, 97, 98, 67, 100, 101], 8), ([46, 46, 97, 98, 67, 100, 69], 9), ([46, 46, 97, 98, 67, 68, 101], 7), ([46, 46, 97, 98, 67, 68, 69], 8), ([46, 46, 97, 66, 99, 100, 101], 6), ([46, 46, 97, 66, 99, 100, 69], 7), ([46, 46, 97, 66, 99, 68, 101], 5), ([46, 46, 97, 66, 99, 68, 69], 6), ([46, 46, 97, 66, 67, 100, 101], 7), ([46, 46, 97, 66, 67, 100, 69], 8), ([46, 46, 97, 66, 67, 68, 101], 6), ([46, 46, 97, 66, 67, 68, 69], 7), ([46, 46, 65, 98, 99, 100, 101], 6), ([46, 46, 65, 98, 99, 100, 69], 7), ([46, 46, 65, 98, 99, 68, 101], 5), ([46, 46, 65, 98, 99, 68, 69], 6), ([46, 46, 65, 98, 67, 100, 101], 7), ([46, 46, 65, 98, 67, 100, 69], 8), ([46, 46, 65, 98, 67, 68, 101], 6), ([46, 46, 65, 98, 67, 68, 69], 7), ([46, 46, 65, 66, 99, 100, 101], 5), ([46, 46, 65, 66, 99, 100, 69], 6), ([46, 46, 65, 66, 99, 68, 101], 4), ([46, 46, 65, 66, 99, 68, 69], 5), ([46, 46, 65, 66, 67, 100, 101], 6), ([46, 46, 65, 66, 67, 100, 69], 7), ([46, 46, 65, 66, 67, 68, 101], 5), ([46, 46, 65, 66, 67, 68, 69], 6)]
theorem tab2b : tabOk [65, 66, 99, 68, 101] lit2b = true := by decide +kernel
theorem ok2b : okRow 2 1 1 0 1 0 = true := row_of (by decide +kernel) (show tabOf 2 1 1 0 1 0 = lit2b by decide +kernel) tab2b
noncomputable def lit2c : List (List Nat × Int) := [([46, 46, 97, 98, 99, 100, 101], 7), ([46, 46, 97, 98, 99, 100, 69], 8), ([46, 46, 97, 98, 99, 68, 101], 6), ([46, 46, 97, 98, 99, 68, 69], 7), ([46, 46, 97, 98, 67, 100, 101], 6), ([46, 46, 97, 98, 67, 100, 69], 7), ([46, 46, 97, 98, 67, 68, 101], 5), ([46, 46, 97, 98, 67, 68, 69], 6), ([46, 46, 97, 66, 99, 100, 101], 8), ([46, 46, 97, 66, 99, 100, 69], 9), ([46, 46, 97, 66, 99, 68, 101], 7), ([46, 46, 97, 66, 99, 68, 69], 8), ([46, 46, 97, 66, 67, 100, 101], 7), ([46, 46, 97, 66, 67, 100, 69], 8), ([46, 46, 97, 66, 67, 68, 101], 6), ([46, 46, 97, 66, 67, 68, 69], 7), ([46, 46, 65, 98, 99, 100, 101], 6), ([46, 46, 65, 98, 99, 100, 69], 7), ([46, 46, 65, 98, 99, 68, 101], 5), ([46, 46, 65, 98, 99, 68, 69], 6), ([46, 46, 65, 98, 67, 100, 101], 5), ([46, 46, 65, 98, 67, 100, 69], 6), ([46, 46, 65, 98, 67, 68, 101], 4), ([46, 46, 65, 98, 67, 68, 69], 5), ([46, 46, 65, 66, 99, 100, 101], 7), ([46, 46, 65, 66, 99, 100, 69], 8), ([46, 46, 65, 66, 99, 68, 101], 6), ([46, 46, 65, 66, 99, 68, 69], 7), ([46, 46, 65, 66, 67, 100, 101], 6), ([46, 46, 65, 66, 67, 100, 69], 7), ([46, 46, 65, 66, 67, 68, 101], 5), ([46, 46, 65, 66, 67, 68, 69], 6)]
theorem tab2c : tabOk [65, 98, 67, 68, 101] lit2c = true := by decide +kernel
theorem ok2c : okRow 2 1 0 1 1 0 = true := row_of (by decide +kernel) (show tabOf 2 1 0 1 1 0 = lit2c by decide +kernel) tab2c
noncomputable def lit2d : List (List Nat × Int) := [([46, 46, 97, 98, 99, 100, 101], 7), ([46, 46, 97, 98, 99, 100, 69], 8), ([46, 46, 97, 98, 99, 68, 101], 6), ([46, 46, 97, 98, 99, 68, 69], 7), ([46, 46, 97, 98, 67, 100, 101], 6), ([46, 46, 97, 98, 67, 100, 69], 7), ([46, 46, 97, 98, 67, 68, 101], 5), ([46, 46, 97, 98, 67, 68, 69], 6), ([46, 46, 97, 66, 99, 100, 101], 6), ([46, 46, 97, 66, 99, 100, 69], 7), ([46, 46, 97, 66, 99, 68, 101], 5), ([46, 46, 97, 66, 99, 68, 69], 6), ([46, 46, 97, 66, 67, 100, 101], 5), ([46, 46, 97, 66, 67, 100, 69], 6), ([46, 46, 97, 66, 67, 68, 101], 4), ([46, 46, 97, 66, 67, 68, 69], 5), ([46, 46, 65, 98, 99, 100, 101], 8), ([46, 46, 65, 98, 99, 100, 69], 9), ([46, 46, 65, 98, 99, 68, 101], 7), ([46, 46, 65, 98, 99, 68, 69], 8), ([46, 46, 65, 98, 67, 100, 101], 7), ([46, 46, 65, 98, 67, 100, 69], 8), ([46, 46, 65, 98, 67, 68, 101], 6), ([46, 46, 65, 98, 67, 68, 69], 7), ([46, 46, 65, 66, 99, 100, 101], 7), ([46, 46, 65, 66, 99, 100, 69], 8), ([46, 46, 65, 66, 99, 68, 101], 6), ([46, 46, 65, 66, 99, 68, 69], 7), ([46, 46, 65, 66, 67, 100, 101], 6), ([46, 46, 65, 66, 67, 100, 69], 7), ([46, 46, 65, 66, 67, 68, 101], 5), ([46, 46, 65, 66, 67, 68, 69], 6)]
theorem tab2d : tabOk [97, 66, 67, 68, 101] lit2d = true := by decide +kernel
theorem ok2d : okRow 2 0 1 1 1 0 = true := row_of (by decide +kernel) (show tabOf 2 0 1 1 1 0 = lit2d by decide +kernel) tab2d
noncomputable def lit3a : List (List Nat × Int) := [([46, 46, 46, 97, 98, 99, 100, 101], 6), ([46, 46, 46, 97, 98, 99, 100, 69], 7), ([46, 46, 46, 97, 98, 99, 68, 101], 7), ([46, 46, 46, 97, 98, 99, 68, 69], 8), ([46, 46, 46, 97, 98, 67, 100, 101], 7), ([46, 46, 46, 97, 98, 67, 100, 69], 8), ([46, 46, 46, 97, 98, 67, 68, 101], 8), ([46, 46, 46, 97, 98, 67, 68, 69], 9), ([46, 46, 46, 97, 66, 99, 100, 101], 7), ([46, 46, 46, 97, 66, 99, 100, 69], 8), ([46, 46, 46, 97, 66, 99, 68, 101], 8), ([46, 46, 46, 97, 66, 99, 68, 69], 9), ([46, 46, 46, 97, 66, 67, 100, 101], 8), ([46, 46, 46, 97, 66, 67, 100, 69], 9), ([46, 46, 46, 97, 66, 67, 68, 101], 9), ([46, 46, 46, 97, 66, 67, 68, 69], 10), ([46, 46, 46, 65, 98, 99, 100, 101], 7), ([46, 46, 46, 65, 98, 99, 100, 69], 8), ([46, 46, 46, 65, 98, 99, 68, 101], 8), ([46, 46, 46, 65, 98, 99, 68, 69], 9), ([46, 46, 46, 65, 98, 67, 100, 101], 8), ([46, 46, 46, 65, 98, 67, 100, 69], 9), ([46, 46, 46, 65, 98, 67, 68, 101], 9), ([46, 46, 46, 65, 98, 67, 68, 69], 10), ([46, 46, 46, 65, 66, 99, 100, 101], 8), ([46, 46, 46, 65, 66, 99, 100, 69], 9), ([46, 46, 46, 65, 66, 99, 68, 101], 9), ([46, 46, 46, 65, 66, 99, 68, 69], 10), ([46, 46, 46, 65, 66, 67, 100, 101], 9), ([46, 46, 46, 65, 66, 67, 100, 69], 10), ([46, 46, 46, 65, 66, 67, 68, 101], 10), ([46, 46, 46, 65, 66, 67, 68, 69], 11)]
theorem tab3a : tabOk [97, 98, 99, 100, 101] lit3a = true := by decide +kernel
theorem ok3a : okRow 3 0 0 0 0 0 = true := row_of (by decide +kernel) (show tabOf 3 0 0 0 0 0 = lit3a by decide +kernel) tab3a
noncomputable def lit3b : List (List Nat × Int) := [([46, 46, 46, 97, 98, 99, 100, 101], 9), ([46, 46, 46, 97, 98, 99, 100, 69], 10), ([46, 46, 46, 97, 98, 99, 68, 101], 8), ([46, 46, 46, 97, 98, 99, 68, 69], 9), ([46, 46, 46, 97, 98, 67, 100, 101], 10), ([46, 46, 46, 97, 98, 67, 100, 69], 11), ([46, 46, 46, 97, 98, 67, 68, 101], 9), ([46, 46, 46, 97, 98, 67, 68, 69], 10), ([46, 46, 46, 97, 66, 99, 100, 101], 8), ([46, 46, 46, 97, 66, 99, 100, 69], 9), ([46, 46, 46, 97, 66, 99, 68, 101], 7), ([46, 46, 46, 97, 66, 99, 68, 69], 8), ([46, 46, 46, 97, 66, 67, 100, 101], 9), ([46, 46, 46, 97, 66, 67, 100, 69], 10), ([46, 46, 46, 97, 66, 67, 68, 101], 8), ([46, 46, 46, 97, 66, 67, 68, 69], 9), ([46, 46, 46, 65, 98, 99, 100, 101], 8), ([46, 46, 46, 65, 98, 99, 100, 69], 9), ([46, 46, 46, 65, 98, 99, 68, 101], 7), ([46, 46, 46, 65, 98, 99, 68, 69], 8), ([46, 46, 46, 65, 98, 67, 100, 101], 9), ([46, 46, 46, 65, 98, 67, 100, 69], 10), ([46, 46, 46, 65, 98, 67, 68, 101], 8), ([46, 46, 46, 65, 98, 67, 68, 69], 9), ([46, 46, 46, 65, 66, 99, 100, 101], 7), ([46, 46, 46, 65, 66, 99, 100, 69], 8), ([46, 46, 46, 65, 66, 99, 68, 101], 6), ([46, 46, 46, 65, 66, 99, 68, 69], 7), ([46, 46, 46, 65, 66, 67, 100, 101], 8), ([46, 46, 46, 65, 66, 67, 100, 69], 9), ([46, 46, 46, 65, 66, 67, 68, 101], 7), ([46, 46, 46, 65, 66, 67, 68, 69], 8)]
theorem tab3b : tabOk [65, 66, 99, 68, 101] lit3b = true := by decide +kernel
theorem ok3b : okRow 3 1 1 0 1 0 = true := row_of (by decide +kernel) (show tabOf 3 1 1 0 1 0 = lit3b by decide +kernel) tab3b
noncomputable def lit3c : List (List Nat × Int) := [([46, 46, 46, 97, 98, 99, 100, 101], 9), ([46, 46, 46, 97, 98, 99, 100, 69], 10), ([46, 46, 46, 97, 98, 99, 68, 101], 8), ([46, 46, 46, 97, 98, 99, 68, 69], 9), ([46, 46, 46, 97, 98, 67, 100, 101], 8), ([46, 46, 46, 97, 98, 67, 100, 69], 9), ([46, 46, 46, 97, 98, 67, 68, 101], 7), ([46, 46, 46, 97, 98, 67, 68, 69], 8), ([46, 46, 46, 97, 66, 99, 100, 101], 10), ([46, 46, 46, 97, 66, 99, 100, 69], 11), ([46, 46, 46, 97, 66, 99, 68, 101], 9), ([46, 46, 46, 97, 66, 99, 68, 69], 10), ([46, 46, 46, 97, 66, 67, 100, 101], 9), ([46, 46, 46, 97, 66, 67, 100, 69], 10), ([46, 46, 46, 97, 66, 67, 68, 101], 8), ([46, 46, 46, 97, 66, 67, 68, 69], 9), ([46, 46, 46, 65, 98, 99, 100, 101], 8), ([46, 46, 46, 65, 98, 99, 100, 69], 9), ([46, 46, 46, 65, 98, 99, 68, 101], 7), ([46, 46, 46, 65, 98, 99, 68, 69], 8), ([46, 46, 46, 65, 98, 67, 100, 101], 7), ([46, 46, 46, 65, 98, 67, 100, 69], 8), ([46, 46, 46, 65, 98, 67, 68, 101], 6), ([46, 46, 46, 65, 98, 67, 68, 69], 7), ([46, 46, 46, 65, 66, 99, 100, 101], 9), ([46, 46, 46, 65, 66, 99, 100, 69], 10), ([46, 46, 46, 65, 66, 99, 68, 101], 8), ([46, 46, 46, 65, 66, 99, 68, 69], 9), ([46, 46, 46, 65, 66, 67, 100, 101], 8), ([46, 46, 46, 65, 66, 67, 100, 69], 9), ([46, 46, 46, 65, 66, 67, 68, 101], 7), ([46, 46, 46, 65, 66, 67, 68, 69], 8)]
theorem tab3c : tabOk [65, 98, 67, 68, 101] lit3c = true := by decide +kernel
theorem ok3c : okRow 3 1 0 1 1 0 = true := row_of (by decide +kernel) (show tabOf 3 1 0 1 1 0 = lit3c by decide +kernel) tab3c
noncomputable def lit3d : List (List Nat × Int) := [([46, 46, 46, 97, 98, 99, 100, 101], 9), ([46, 46, 46, 97, 98, 99, 100, 69], 10), ([46, 46, 46, 97, 98, 99, 68, 101], 8), ([46, 46, 46, 97, 98, 99, 68, 69], 9), ([46, 46, 46, 97, 98, 67, 100, 101], 8), ([46, 46, 46, 97, 98, 67, 100, 69], 9), ([46, 46, 46, 97, 98, 67, 68, 101], 7), ([46, 46, 46, 97, 98, 67, 68, 69], 8), ([46, 46, 46, 97, 66, 99, 100, 101], 8), ([46, 46, 46, 97, 66, 99, 100, 69], 9), ([46, 46, 46, 97, 66, 99, 68, 101], 7), ([46, 46, 46, 97, 66, 99, 68, 69], 8), ([46, 46, 46, 97, 66, 67, 100, 101], 7), ([46, 46, 46, 97, 66, 67, 100, 69], 8), ([46, 46, 46, 97, 66, 67, 68, 101], 6), ([46, 46, 46, 97, 66, 67, 68, 69], 7), ([46, 46, 46, 65, 98, 99, 100, 101], 10), ([46, 46, 46, 65, 98, 99, 100, 69], 11), ([46, 46, 46, 65, 98, 99, 68, 101], 9), ([46, 46, 46, 65, 98, 99, 68, 69], 10), ([46, 46, 46, 65, 98, 67, 100, 101], 9), ([46, 46, 46, 65, 98, 67, 100, 69], 10), ([46, 46, 46, 65, 98, 67, 68, 101], 8), ([46, 46, 46, 65, 98, 67, 68, 69], 9), ([46, 46, 46, 65, 66, 99, 100, 101], 9), ([46, 46, 46, 65, 66, 99, 100, 69], 10), ([46, 46, 46, 65, 66, 99, 68, 101], 8), ([46, 46, 46, 65, 66, 99, 68, 69], 9), ([46, 46, 46, 65, 66, 67, 100, 101], 8), ([46, 46, 46, 65, 66, 67, 100, 69], 9), ([46, 46, 46, 65, 66, 67, 68, 101], 7), ([46, 46, 46, 65, 66, 67, 68, 69], 8)]
theorem tab3d : tabOk [97, 66, 67, 68, 101] lit3d = true := by decide +kernel
theorem ok3d : okRow 3 0 1 1 1 0 = true := row_of (by decide +kernel) (show tabOf 3 0 1 1 1 0 = lit3d by decide +kernel) tab3d
noncomputable def lit4a : List (List Nat × Int) := [([46, 46, 46, 46, 97, 98, 99, 100, 101], 8), ([46, 46, 46, 46, 97, 98, 99, 100, 69], 9), ([46, 46, 46, 46, 97, 98, 99, 68, 101], 9), ([46, 46, 46, 46, 97, 98, 99, 68, 69], 10), ([46, 46, 46, 46, 97, 98, 67, 100, 101], 9), ([46, 46, 46, 46, 97, 98, 67, 100, 69], 10), ([46, 46, 46, 46, 97, 98, 67, 68, 101], 10), ([46, 46, 46, 46, 97, 98, 67, 68, 69], 11), ([46, 46, 46, 46, 97, 66, 99, 100, 101], 9), ([46, 46, 46, 46, 97, 66, 99, 100, 69], 10), ([46, 46, 46, 46, 97, 66, 99, 68, 101], 10), ([46, 46, 46, 46, 97, 66, 99, 68, 69], 11), ([46, 46, 46, 46, 97, 66, 67, 100, 101], 10), ([46, 46, 46, 46, 97, 66, 67, 100, 69], 11), ([46, 46, 46, 46, 97, 66, 67, 68, 101], 11), ([46, 46, 46, 46, 97, 66, 67, 68, 69], 12), ([46, 46, 46, 46, 65, 98, 99, 100, 101], 9), ([46, 46, 46, 46, 65, 98, 99, 100, 69], 10), ([46, 46, 46, 46, 65, 98, 99, 68, 101], 10), ([46, 46, 46, 46, 65, 98, 99, 68, 69], 11), ([46, 46, 46, 46, 65, 98, 67, 100, 101], 10), ([46, 46, 46, 46, 65, 98, 67, 100, 69], 11), ([46, 46, 46, 46, 65, 98, 67, 68, 101], 11), ([46, 46, 46, 46, 65, 98, 67, 68, 69], 12), ([46, 46, 46, 46, 65, 66, 99, 100, 101], 10), ([46, 46, 46, 46, 65, 66, 99, 100, 69], 11), ([46, 46, 46, 46, 65, 66, 99, 68, 101], 11), ([46, 46, 46, 46, 65, 66, 99, 68, 69], 12), ([46, 46, 46, 46, 65, 66, 67, 100, 101], 11), ([46, 46, 46, 46, 65, 66, 67, 100, 69], 12), ([46, 46, 46, 46, 65, 66, 67, 68, 101], 12), ([46, 46, 46, 46, 65, 66, 67, 68, 69], 13)]
theorem tab4a : tabOk [97, 98, 99, 100, 101] lit4a = true := by decide +kernel
theorem ok4a : okRow 4 0 0 0 0 0 = true := row_of (by decide +kernel) (show tabOf 4 0 0 0 0 0 = lit4a by decide +kernel) tab4a
noncomputable def lit4b : List (List Nat × Int) := [([46, 46, 46, 46, 97, 98, 99, 100, 101], 11), ([46, 46, 46, 46, 97, 98, 99, 100, 69], 12), ([46, 46, 46, 46, 97, 98, 99, 68, 101], 10), ([46, 46, 46, 46, 97, 98, 99, 68, 69], 11), ([46, 46, 46, 46, 97, 98, 67, 100, 101], 12), ([46, 46, 46, 46, 97, 98, 67, 100, 69], 13), ([46, 46, 46, 46, 97, 98, 67, 68, 101], 11), ([46, 46, 46, 46, 97, 98, 67, 68, 69], 12), ([46, 46, 46, 46, 97, 66, 99, 100, 101], 10), ([46, 46, 46, 46, 97, 66, 99, 100, 69], 11), ([46, 46, 46, 46, 97, 66, 99, 68, 101], 9), ([46, 46, 46, 46, 97, 66, 99, 68, 69], 10), ([46, 46, 46, 46, 97, 66, 67, 100, 101], 11), ([46, 46, 46, 46, 97, 66, 67, 100, 69], 12), ([46, 46, 46, 46, 97, 66, 67, 68, 101], 10), ([46, 46, 46, 46, 97, 66, 67, 68, 69], 11), ([46, 46, 46, 46, 65, 98, 99, 100, 101], 10), ([46, 46, 46, 46, 65, 98, 99, 100, 69], 11), ([46, 46, 46, 46, 65, 98, 99, 68, 101], 9), ([46, 46, 46, 46, 65, 98, 99, 68, 69], 10), ([46, 46, 46, 46, 65, 98, 67, 100, 101], 11), ([46, 46, 46, 46, 65, 98, 67, 100, 69], 12), ([46, 46, 46, 46, 65, 98, 67, 68, 101], 10), ([46, 46, 46, 46, 65, 98, 67, 68, 69], 11), ([46, 46, 46, 46, 65, 66, 99, 100, 101], 9), ([46, 46, 46, 46, 65, 66, 99, 100, 69], 10), ([46, 46, 46, 46, 65, 66, 99, 68, 101], 8), ([46, 46, 46, 46, 65, 66, 99, 68, 69], 9), ([46, 46, 46, 46, 65, 66, 67, 100, 101], 10), ([46, 46, 46, 46, 65, 66, 67, 100, 69], 11), ([46, 46, 46, 46, 65, 66, 67, 68, 101], 9), ([46, 46, 46, 46, 65, 66, 67, 68, 69], 10)]
theorem tab4b : tabOk [65, 66, 99, 68, 101] lit4b = true := by decide +kernel
theorem ok4b : okRow 4 1 1 0 1 0 = true := row_of (by decide +kernel) (show tabOf 4 1 1 0 1 0 = lit4b by decide +kernel) tab4b
noncomputable def lit4c : List (List Nat × Int) := [([46, 46, 46, 46, 97, 98, 99, 100, 101], 11), ([46, 46, 46, 46, 97, 98, 99, 100, 69], 12), ([46, 46, 46, 46, 97, 98, 99, 68, 101], 10), ([46, 46, 46, 46, 97, 98, 99, 68, 69], 11), ([46, 46, 46, 46, 97, 98, 67, 100, 101], 10), ([46, 46, 46, 46, 97, 98, 67, 100, 69], 11), ([46, 46, 46, 46, 97, 98, 67, 68, 101], 9), ([46, 46, 46, 46, 97, 98, 67, 68, 69], 10), ([46, 46, 46, 46, 97, 66, 99, 100, 101], 12), ([46, 46, 46, 46, 97, 66, 99, 100, 69], 13), ([46, 46, 46, 46, 97, 66, 99, 68, 101], 11), ([46, 46, 46, 46, 97, 66, 99, 68, 69], 12), ([46, 46, 46, 46, 97, 66, 67, 100, 101], 11), ([46, 46, 46, 46, 97, 66, 67, 100, 69], 12), ([46, 46, 46, 46, 97, 66, 67, 68, 101], 10), ([46, 46, 46, 46, 97, 66, 67, 68, 69], 11), ([46, 46, 46, 46, 65, 98, 99, 100, 101], 10), ([46, 46, 46, 46, 65, 98, 99, 100, 69], 11), ([46, 46, 46, 46, 65, 98, 99, 68, 101], 9), ([46, 46, 46, 46, 65, 98, 99, 68, 69], 10), ([46, 46, 46, 46, 65, 98, 67, 100, 101], 9), ([46, 46, 46, 46, 65, 98, 67, 100, 69], 10), ([46, 46, 46, 46, 65, 98, 67, 68, 101], 8), ([46, 46, 46, 46, 65, 98, 67, 68, 69], 9), ([46, 46, 46, 46, 65, 66, 99, 100, 101], 11), ([46, 46, 46, 46, 65, 66, 99, 100, 69], 12), ([46, 46, 46, 46, 65, 66, 99, 68, 101], 10), ([46, 46, 46, 46, 65, 66, 99, 68, 69], 11), ([46, 46, 46, 46, 65, 66, 67, 100, 101], 10), ([46, 46, 46, 46, 65, 66, 67, 100, 69], 11), ([46, 46, 46, 46, 65, 66, 67, 68, 101], 9), ([46, 46, 46, 46, 65, 66, 67, 68, 69], 10)]
theorem tab4c : tabOk [65, 98, 67, 68, 101] lit4c = true := by decide +kernel
theorem ok4c : okRow 4 1 0 1 1 0 = true := row_of (by decide +kernel) (show tabOf 4 1 0 1 1 0 = lit4c by decide +kernel) tab4c
noncomputable def lit4d : List (List Nat × Int) := [([46, 46, 46, 46, 97, 98, 99, 100, 101], 11), ([46, 46, 46, 46, 97, 98, 99, 100, 69], 12), ([46, 46, 46, 46, 97, 98, 99, 68, 101], 10), ([46, 46, 46, 46, 97, 98, 99, 68, 69], 11), ([46, 46, 46, 46, 97, 98, 67, 100, 101], 10), ([46, 46, 46, 46, 97, 98, 67, 100, 69], 11), ([46, 46, 46, 46, 97, 98, 67, 68, 101], 9), ([46, 46, 46, 46, 97, 98, 67, 68, 69], 10), ([46, 46, 46, 46, 97, 66, 99, 100, 101], 10), ([46, 46, 46, 46, 97, 66, 99, 100, 69], 11), ([46, 46, 46, 46, 97, 66, 99, 68, 101], 9), ([46, 46, 46, 46, 97, 66, 99, 68, 69], 10), ([46, 46, 46, 46, 97, 66, 67, 100, 101], 9), ([46, 46, 46, 46, 97, 66, 67, 100, 69], 10), ([46, 46, 46, 46, 97, 66, 67, 68, 101], 8), ([46, 46, 46, 46, 97, 66, 67, 68, 69], 9), ([46, 46, 46, 46, 65, 98, 99, 100, 101], 12), ([46, 46, 46, 46, 65, 98, 99, 100, 69], 13), ([46, 46, 46, 46, 65, 98, 99, 68, 101], 11), ([46, 46, 46, 46, 65, 98, 99, 68, 69], 12), ([46, 46, 46, 46, 65, 98, 67, 100, 101], 11), ([46, 46, 46, 46, 65, 98, 67, 100, 69], 12), ([46, 46, 46, 46, 65, 98, 67, 68, 101], 10), ([46, 46, 46, 46, 65, 98, 67, 68, 69], 11), ([46, 46, 46, 46, 65, 66, 99, 100, 101], 11), ([46, 46, 46, 46, 65, 66, 99, 100, 69], 12), ([46, 46, 46, 46, 65, 66, 99, 68, 101], 10), ([46, 46, 46, 46, 65, 66, 99, 68, 69], 11), ([46, 46, 46, 46, 65, 66, 67, 100, 101], 10), ([46, 46, 46, 46, 65, 66, 67, 100, 69], 11), ([46, 46, 46, 46, 65, 66, 67, 68, 101], 9), ([46, 46, 46, 46, 65, 66, 67, 68, 69], 10)]
theorem tab4d : tabOk [97, 66, 67, 68, 101] lit4d = true := by decide +kernel
theorem ok4d : okRow 4 0 1 1 1 0 = true := row_of (by decide +kernel) (show tabOf 4 0 1 1 1 0 = lit4d by decide +kernel) tab4d
theorem okwa : Okw 0 0 0 0 0 := okw_of ok0a ok2a ok3a ok4a
theorem okwb : Okw 1 1 0 1 0 := okw_of ok0b ok2b ok3b ok4b
theorem okwc : Okw 1 0 1 1 0 := okw_of ok0c ok2c ok3c ok4c
theorem okwd : Okw 0 1 1 1 0 := okw_of ok0d ok2d ok3d ok4d
theorem bits_mem {b0 b1 b2 b3 b4 : Int} (hb : Bits b0 b1 b2 b3 b4) : (b0, b1, b2, b3, b4) ∈ bitsAll := by
  obtain ⟨h0, h1, h2, h3, h4⟩ := hb
  have two : ∀ x : Int, 0 ≤ x ∧ x ≤ 1 → x ∈ [(0 : Int), 1] := fun x hx => by
    have : x = 0 ∨ x = 1 := by omega
    rcases this with rfl | rfl <;> simp
  unfold bitsAll
  refine List.mem_flatMap.mpr ⟨b0, two b0 h0, List.mem_flatMap.mpr ⟨b1, two b1 h1, List.mem_flatMap.mpr ⟨b2, two b2 h2, List.mem_flatMap.mpr ⟨b3, two b3 h3, List.mem_map.mpr ⟨b4, two b4 h4, rfl⟩⟩⟩⟩⟩
theorem tab_use (F : List Nat → Int) {t : List (List Nat × Int)} (h : (t.all fun p => decide (F p.1 = p.2)) = true) {a : List Nat} {v : Int} (hm : (a, v) ∈ t) : F a = v := of_decide_eq_true (List.all_eq_true.mp h (a, v) hm)
theorem tabOk_use {wd : List Nat} {t : List (List Nat × Int)} (h : tabOk wd t = true) {a : List Nat} {v : Int} (hm : (a, v) ∈ t) : levF (tx a) (tx wd) 13 = v := tab_use (fun l => levF (tx l) (tx wd) 13) h hm
theorem tabOf_mem {q b0 b1 b2 b3 b4 w0 w1 w2 w3 w4 : Int} (hb : Bits b0 b1 b2 b3 b4) : (lineL q b0 b1 b2 b3 b4, formula q b0 b1 b2 b3 b4 w0 w1 w2 w3 w4) ∈ tabOf q w0 w1 w2 w3 w4 := by
  unfold tabOf
  exact List.mem_map.mpr ⟨(b0, b1, b2, b3, b4), bits_mem hb, rfl⟩
theorem okRow_tab {q w0 w1 w2 w3 w4 : Int} (h : okRow q w0 w1 w2 w3 w4 = true) : tabOk (wordL w0 w1 w2 w3 w4) (tabOf q w0 w1 w2 w3 w4) = true := by
  unfold okRow at h
  exact h
theorem lev_row {q b0 b1 b2 b3 b4 w0 w1 w2 w3 w4 : Int} (ok : Okw w0 w1 w2 w3 w4) (hq : q = 0 ∨ q = 2 ∨ q = 3 ∨ q = 4) (hb : Bits b0 b1 b2 b3 b4) :
    lev (tx (lineL q b0 b1 b2 b3 b4)) (tx (wordL w0 w1 w2 w3 w4)) 13 = formula q b0 b1 b2 b3 b4 w0 w1 w2 w3 w4 :=
  (levF_is _ _ _).symm.trans (tabOk_use (okRow_tab (ok q hq)) (tabOf_mem hb))
end Mine
end
section
open PySem PySem.W PyProof.Rows PySem.Calls PySem.Spec
namespace Mine
section
variable (w : World) (mean : ExcName → Option Value) (mg mb : Str → Option Value) (news : List (Addr × Obj))
/-- an int that some word is true of comes back -/
abbrev Gives (f : Addr) (n : Nat) (w : World) (mean : ExcName → Option Value) (mg mb : Str → Option Value) (news : List (Addr × Obj)) (vs : List Value) (P : Int → Prop) : Prop :=
  SpecOf f n w mean mg mb news vs (fun h₀ L m s Q => ∀ (v : Int) (t : Tok) (h' : Heap) (tk' : Nat), P v → Fr h₀ L h' m → News h₀ L h' news → Q (.int v t) { s with heap := h', toks := tk' })
theorem gives_of {f : Addr} {n : Nat} {vs : List Value} {P : Int → Prop} {v : Int} (c : Claim f n w mean mg mb news vs (fun t => .int v t)) (h : P v) : Gives f n w mean mg mb news vs P :=
  fun dp un gd cn cs a ccd cl outer A₀ base h₀ L m s Q E k1 k2 k3 k4 k5 kK kd ku kR => c dp un gd cn cs a ccd cl outer A₀ base h₀ L m s Q E k1 k2 k3 k4 k5 kK kd ku (fun t h' tk' F N => kR v t h' tk' h F N)
theorem lev_gives (q b0 b1 b2 b3 b4 w0 w1 w2 w3 w4 : Int) (ta tb tc : Tok) (ok : Okw w0 w1 w2 w3 w4) (hq : q = 0 ∨ q = 2 ∨ q = 3 ∨ q = 4) (hb : Bits b0 b1 b2 b3 b4) :
    Gives 104 2 w mean mg mb news [.str (tx (lineL q b0 b1 b2 b3 b4)) ta, .str (tx (wordL w0 w1 w2 w3 w4)) tb, .int 13 tc] (fun f => f = formula q b0 b1 b2 b3 b4 w0 w1 w2 w3 w4) :=
  gives_of w mean mg mb news (lev_walk w mean mg mb news _ _ 13 ta tb tc
    (by have := line_len q b0 b1 b2 b3 b4; have e : (tx (lineL q b0 b1 b2 b3 b4)).length = (lineL q b0 b1 b2 b3 b4).length := by simp [tx, Str.length]
        rw [e, this]; omega) (by show 5 ≤ 40; omega) (by omega) (by omega)) (lev_row ok hq hb)
theorem mod_gives (a : Int) (ta tb : Tok) (h : a % 2 = 0) : Claim 76 1 w mean mg mb news [.int a ta, .int 2 tb] (fun t => .int 0 t) := by
  have e : Int.fmod a 2 = 0 := by rw [Int.fmod_eq_emod_of_nonneg _ (by omega)]; exact h
  have c := mod_walk w mean mg mb news a 2 ta tb rfl
  rw [e] at c
  exact c
theorem floordiv_gives (a : Int) (ta tb : Tok) : Gives 69 1 w mean mg mb news [.int a ta, .int 2 tb] (fun v => v = a / 2) :=
  gives_of w mean mg mb news (floordiv_walk w mean mg mb news a 2 ta tb rfl) (by rw [Int.fdiv_eq_ediv_of_nonneg _ (by omega)])
theorem and_one (x : Int) : Builtin.bitAnd x 1 = x % 2 := by
  by_cases h : 0 ≤ x
  · obtain ⟨n, rfl⟩ : ∃ n : Nat, x = (n : Int) := ⟨x.toNat, by omega⟩
    have e : Builtin.bitAnd (n : Int) 1 = ((n &&& 1 : Nat) : Int) := by
      unfold Builtin.bitAnd
      rw [decide_eq_true h]
      rfl
    rw [e, Nat.and_one_is_mod]
    omega
  · obtain ⟨n, rfl⟩ : ∃ n : Nat, x = -((n : Int) + 1) := ⟨(-x - 1).toNat, by omega⟩
    have e : Builtin.bitAnd (-((n : Int) + 1)) 1 = 1 - ((1 &&& n : Nat) : Int) := by
      unfold Builtin.bitAnd
      rw [decide_eq_false h]
      have e2 : (Builtin.bitNot (-((n : Int) + 1))).toNat = n := by unfold Builtin.bitNot; omega
      show 1 - (((1 : Int).toNat &&& (Builtin.bitNot (-((n : Int) + 1))).toNat : Nat) : Int) = _
      rw [e2]
      rfl
    rw [e, Nat.and_comm, Nat.and_one_is_mod]
    omega
theorem and_gives (a : Int) (ta tb : Tok) : Gives 62 1 w mean mg mb news [.int a ta, .int 1 tb] (fun v => v = a % 2) :=
  gives_of w mean mg mb news (and_walk w mean mg mb news a 1 ta tb) (and_one a)
end
/-- the dots of a row behind the sendings -/
noncomputable def upT (times q : Int) : Int := if 0 < q then q + times else 0
theorem upT_is {times q : Int} (ht : 1 ≤ times ∧ times ≤ 2) (hq : 0 ≤ q ∧ q ≤ 2) : upQ times.toNat q = upT times q := by
  unfold upQ upT
  split <;> omega
theorem upT_four {times q : Int} (ht : 1 ≤ times ∧ times ≤ 2) (hq : 0 ≤ q ∧ q ≤ 2) : upT times q = 0 ∨ upT times q = 2 ∨ upT times q = 3 ∨ upT times q = 4 := by
  unfold upT
  split <;> omega
theorem upT_or {times q : Int} (hq : 0 ≤ q ∧ q ≤ 2) : (q ≤ 0 ∨ upT times q = q + times) ∧ (0 < q ∨ upT times q = 0) := by
  unfold upT
  split <;> omega
theorem sent_gives (w : World) (mean : ExcName → Option Value) (mg mb : Str → Option Value) (news : List (Addr × Obj)) (S : List Nat) (q b0 b1 b2 b3 b4 r c0 c1 c2 c3 c4 times : Int) (tt tu : Tok)
   (hS : S = [10] ∨ S = [13] ∨ S = [13, 10]) (hq : 0 ≤ q ∧ q ≤ 2) (hr : 0 ≤ r ∧ r ≤ 2) (hb : Bits b0 b1 b2 b3 b4) (hc : Bits c0 c1 c2 c3 c4) (ht : 1 ≤ times ∧ times ≤ 2) :
   SpecOf 121 2 w mean mg mb news [.str (tx (lineL q b0 b1 b2 b3 b4 ++ S ++ lineL r c0 c1 c2 c3 c4)) tt, .int times tu]
     (fun h₀ L m s Q => ∀ (x y : Int) (t : Tok) (h' : Heap) (tk' : Nat), (x = 0 ∨ x = 2 ∨ x = 3 ∨ x = 4) → (y = 0 ∨ y = 2 ∨ y = 3 ∨ y = 4) → ((q ≤ 0 ∨ x = q + times) ∧ (0 < q ∨ x = 0)) → ((r ≤ 0 ∨ y = r + times) ∧ (0 < r ∨ y = 0)) → Fr h₀ L h' m → News h₀ L h' news →
       Q (.str (tx (lineL x b0 b1 b2 b3 b4 ++ [13, 10] ++ lineL y c0 c1 c2 c3 c4)) t) { s with heap := h', toks := tk' }) :=
  fun dp un gd cn cs a ccd cl outer A₀ base h₀ L m s Q E k1 k2 k3 k4 k5 kK kd ku kR => sent_walk w mean mg mb news S q b0 b1 b2 b3 b4 r c0 c1 c2 c3 c4 times tt tu hS hq hr hb hc ht dp un gd cn cs a ccd cl outer A₀ base h₀ L m s Q E k1 k2 k3 k4 k5 kK kd ku (fun t h' tk' F N => by
    have e : sepN S times.toNat = [13, 10] := by
      obtain ⟨n, hn⟩ : ∃ n, times.toNat = n + 1 := ⟨times.toNat - 1, by omega⟩
      rw [hn]; rfl
    have h := kR (upT times q) (upT times r) t h' tk' (upT_four ht hq) (upT_four ht hr) (upT_or hq) (upT_or hr) F N
    rw [textL, upT_is ht hq, upT_is ht hr, e]
    exact h)
theorem news_dup {h₀ h : Heap} {L : Addr} {news : List (Addr × Obj)} {p : Addr × Obj} (N : News h₀ L h news) (hm : p ∈ news) : News h₀ L h (p :: news) := fun z hz => by
  rcases List.mem_cons.mp hz with rfl | hz
  · exact N _ hm
  · exact N _ hz
theorem news_tail {h₀ h : Heap} {L : Addr} {news : List (Addr × Obj)} {p : Addr × Obj} (N : News h₀ L h (p :: news)) : News h₀ L h news := fun z hz => N z (List.mem_cons_of_mem _ hz)
theorem times_two (x : Int) : 1 ≤ 1 + x.fmod 2 ∧ 1 + x.fmod 2 ≤ 2 := by
  have h1 := Int.fmod_nonneg_of_pos x (show (0 : Int) < 2 by omega)
  have h2 := Int.fmod_lt_of_pos x (show (0 : Int) < 2 by omega)
  omega
end Mine
end
section
open PySem PySem.W PyProof.Rows PySem.Calls PySem.Spec
namespace Mine
section
variable {prog : Program} {w : World} {A : Around} {E : Value → Shared → Prop} {s : Shared} {h₀ : Heap} {L : Addr} {m : Str → Option Value}
theorem reads_row {h : Heap} {news : List (Addr × Obj)} (N : News h₀ L h news) {a : Addr} {k : Nat} {x0 x1 x2 x3 x4 x5 : Int} {t0 t1 t2 t3 t4 t5 : Tok}
    (hm : (a, ({ cls := .type "list", data := .seq #[.int x0 t0, .int x1 t1, .int x2 t2, .int x3 t3, .int x4 t4, .int x5 t5] k } : Obj)) ∈ news) :
    Reads h (.ref a) (.list [.int x0, .int x1, .int x2, .int x3, .int x4, .int x5]) [a] :=
  reads_newData (News.isList N hm) (ke_carried (ns := [x0, x1, x2, x3, x4, x5]) (.cons _ _ (.cons _ _ (.cons _ _ (.cons _ _ (.cons _ _ (.cons _ _ .nil)))))))
theorem reads_rows {h : Heap} {news : List (Addr × Obj)} (N : News h₀ L h news) {A1 a0 a1 : Addr} {k : Nat} {d0 d1 : PyData} {as bs : List Addr}
    (hm : (A1, ({ cls := .type "list", data := .seq #[.ref a0, .ref a1] k } : Obj)) ∈ news) (r0 : Reads h (.ref a0) d0 as) (r1 : Reads h (.ref a1) d1 bs) :
    ∃ cs, Reads h (.ref A1) (.list [d0, d1]) cs := ⟨_, reads_list_at (N.get hm) rfl rfl (.cons r0 (.cons r1 .nil))⟩
theorem eq_rows {news : List (Addr × Obj)} {A1 B1 a0 a1 b0 b1 : Addr} {kA kB k0 k1 l0 l1 : Nat} {x0 x1 x2 x3 x4 x5 z0 z1 z2 z3 z4 z5 : Int} {x0' x1' x2' x3' x4' x5' z0' z1' z2' z3' z4' z5' : Int}
    {t0 t1 t2 t3 t4 t5 u0 u1 u2 u3 u4 u5 v0 v1 v2 v3 v4 v5 w0 w1 w2 w3 w4 w5 : Tok} {Q : Value → Shared → Prop} (N : News h₀ L s.heap news)
    (hA : (A1, ({ cls := .type "list", data := .seq #[.ref a0, .ref a1] kA } : Obj)) ∈ news) (hB : (B1, ({ cls := .type "list", data := .seq #[.ref b0, .ref b1] kB } : Obj)) ∈ news)
    (ha0 : (a0, ({ cls := .type "list", data := .seq #[.int x0 t0, .int x1 t1, .int x2 t2, .int x3 t3, .int x4 t4, .int x5 t5] k0 } : Obj)) ∈ news)
    (ha1 : (a1, ({ cls := .type "list", data := .seq #[.int z0 u0, .int z1 u1, .int z2 u2, .int z3 u3, .int z4 u4, .int z5 u5] k1 } : Obj)) ∈ news)
    (hb0 : (b0, ({ cls := .type "list", data := .seq #[.int x0' v0, .int x1' v1, .int x2' v2, .int x3' v3, .int x4' v4, .int x5' v5] l0 } : Obj)) ∈ news)
    (hb1 : (b1, ({ cls := .type "list", data := .seq #[.int z0' w0, .int z1' w1, .int z2' w2, .int z3' w3, .int z4' w4, .int z5' w5] l1 } : Obj)) ∈ news)
    (hu : A.units + 64 < cLine) (e : (x0 = x0' ∧ x1 = x1' ∧ x2 = x2' ∧ x3 = x3' ∧ x4 = x4' ∧ x5 = x5') ∧ (z0 = z0' ∧ z1 = z1' ∧ z2 = z2' ∧ z3 = z3' ∧ z4 = z4' ∧ z5 = z5')) (h : Q (.bool true) s) :
    wpAny (model prog w) A (compareOp .Eq (.ref A1) (.ref B1)) Q E s := by
  obtain ⟨⟨rfl, rfl, rfl, rfl, rfl, rfl⟩, ⟨rfl, rfl, rfl, rfl, rfl, rfl⟩⟩ := e
  obtain ⟨ca, ra⟩ := reads_rows N hA (reads_row N ha0) (reads_row N ha1)
  obtain ⟨cb, rb⟩ := reads_rows N hB (reads_row N hb0) (reads_row N hb1)
  refine eq_dataH ra rb ?_ ?_ hu ?_
  · simp [SeqAt.shaped, PyData.canLay0, PyData.canLayAll0, PyData.depth, PyData.depthAll]
  · simp [SeqAt.shaped, PyData.canLay0, PyData.canLayAll0, PyData.depth, PyData.depthAll]
  · simp only [PyData.eqv, PyData.eqvAll, beq_self_eq_true, Bool.and_true]
    exact h
end
theorem off1_ne' {D a : Addr} {o : Obj} : ∀ {news : List (Addr × Obj)}, LCg.Off1 D news → (a, o) ∈ news → @Ne Nat D a
  | _ :: _, x, hm => by
    rcases List.mem_cons.mp hm with e | hm
    · cases e; exact Ne.symm x.1
    · exact off1_ne' x.2 hm
theorem lt_ne {D a : Addr} {o : Obj} {news : List (Addr × Obj)} (x : ∀ p ∈ news, p.1 < D) (hm : (a, o) ∈ news) : @Ne Nat D a := Nat.ne_of_gt (x _ hm)
end Mine
end
section
open PySem PyProof.Rows
namespace Mine
theorem lin1 (x b0 b1 b2 b3 b4 : Int) : (2 * x + (b0 + 0 - 2 * b0 * 0) + (b1 + 0 - 2 * b1 * 0) + (b2 + 0 - 2 * b2 * 0) + (b3 + 0 - 2 * b3 * 0) + (b4 + 0 - 2 * b4 * 0)) + 3 - (2 * x + (b0 + 1 - 2 * b0 * 1) + (b1 + 1 - 2 * b1 * 1) + (b2 + 0 - 2 * b2 * 0) + (b3 + 1 - 2 * b3 * 1) + (b4 + 0 - 2 * b4 * 0)) = 2 * (b0 + b1 + b3) := by omega
theorem lin2 (x b0 b1 b2 b3 b4 : Int) : (2 * x + (b0 + 0 - 2 * b0 * 0) + (b1 + 0 - 2 * b1 * 0) + (b2 + 0 - 2 * b2 * 0) + (b3 + 0 - 2 * b3 * 0) + (b4 + 0 - 2 * b4 * 0)) + 3 - (2 * x + (b0 + 1 - 2 * b0 * 1) + (b1 + 0 - 2 * b1 * 0) + (b2 + 1 - 2 * b2 * 1) + (b3 + 1 - 2 * b3 * 1) + (b4 + 0 - 2 * b4 * 0)) = 2 * (b0 + b2 + b3) := by omega
theorem lin3 (x b0 b1 b2 b3 b4 : Int) : (2 * x + (b0 + 0 - 2 * b0 * 0) + (b1 + 0 - 2 * b1 * 0) + (b2 + 0 - 2 * b2 * 0) + (b3 + 0 - 2 * b3 * 0) + (b4 + 0 - 2 * b4 * 0)) + 3 - (2 * x + (b0 + 0 - 2 * b0 * 0) + (b1 + 1 - 2 * b1 * 1) + (b2 + 1 - 2 * b2 * 1) + (b3 + 1 - 2 * b3 * 1) + (b4 + 0 - 2 * b4 * 0)) = 2 * (b1 + b2 + b3) := by omega
theorem half {a k s : Int} (h : s = a / 2) (ha : a = 2 * k) : s = k := by omega
theorem par {S e p b : Int} (h : e = S % 2) (hS : S = 2 * p + b) (hb : 0 ≤ b ∧ b ≤ 1) : e = b := by omega
theorem half1 {a k b s : Int} (h : s = a / 2) (ha : a = 2 * k + b) (hb : 0 ≤ b ∧ b ≤ 1) : s = k := by omega
theorem read_end {x b0 b1 b2 b3 b4 f0 f1 f2 f3 s0 s1 s2 e first v r2 odd : Int} (hr : r2 = (f0 - v) / 2) (ho : odd = (f0 - v) % 2) (hv : v = first + (s0 - e - first) + (s1 - e - first) + e)
    (hf : first = (s0 - e + (s1 - e) - (s2 - e)) / 2) (he : e = (s0 + s1 + s2) % 2) (hs0 : s0 = (f0 + 3 - f1) / 2) (hs1 : s1 = (f0 + 3 - f2) / 2) (hs2 : s2 = (f0 + 3 - f3) / 2)
    (h0 : f0 = 2 * x + (b0 + 0 - 2 * b0 * 0) + (b1 + 0 - 2 * b1 * 0) + (b2 + 0 - 2 * b2 * 0) + (b3 + 0 - 2 * b3 * 0) + (b4 + 0 - 2 * b4 * 0))
    (h1 : f1 = 2 * x + (b0 + 1 - 2 * b0 * 1) + (b1 + 1 - 2 * b1 * 1) + (b2 + 0 - 2 * b2 * 0) + (b3 + 1 - 2 * b3 * 1) + (b4 + 0 - 2 * b4 * 0))
    (h2 : f2 = 2 * x + (b0 + 1 - 2 * b0 * 1) + (b1 + 0 - 2 * b1 * 0) + (b2 + 1 - 2 * b2 * 1) + (b3 + 1 - 2 * b3 * 1) + (b4 + 0 - 2 * b4 * 0))
    (h3 : f3 = 2 * x + (b0 + 0 - 2 * b0 * 0) + (b1 + 1 - 2 * b1 * 1) + (b2 + 1 - 2 * b2 * 1) + (b3 + 1 - 2 * b3 * 1) + (b4 + 0 - 2 * b4 * 0))
    (hb : (0 ≤ b0 ∧ b0 ≤ 1) ∧ (0 ≤ b1 ∧ b1 ≤ 1) ∧ (0 ≤ b2 ∧ b2 ≤ 1) ∧ (0 ≤ b3 ∧ b3 ≤ 1) ∧ (0 ≤ b4 ∧ b4 ≤ 1)) :
    r2 = x ∧ first = b0 ∧ s0 - e - first = b1 ∧ s1 - e - first = b2 ∧ e = b3 ∧ odd = b4 := by
  obtain ⟨_, _, _, hb3, hb4⟩ := hb
  have a0 : s0 = b0 + b1 + b3 := half hs0 (by rw [h0, h1]; exact lin1 x b0 b1 b2 b3 b4)
  have a1 : s1 = b0 + b2 + b3 := half hs1 (by rw [h0, h2]; exact lin2 x b0 b1 b2 b3 b4)
  have a2 : s2 = b1 + b2 + b3 := half hs2 (by rw [h0, h3]; exact lin3 x b0 b1 b2 b3 b4)
  clear hs0 hs1 hs2 h1 h2 h3
  subst a0 a1 a2
  have ae : e = b3 := par (p := b0 + b1 + b2 + b3) he (by omega) hb3
  clear he
  subst ae
  have af : first = b0 := half hf (by omega)
  clear hf
  subst af
  have av : f0 - v = 2 * x + b4 := by rw [h0, hv]; omega
  have ar : r2 = x := half1 hr av hb4
  have ao : odd = b4 := par ho av hb4
  exact ⟨ar, rfl, by omega, by omega, rfl, ao⟩
theorem xpos {q x times : Int} (h : (q ≤ 0 ∨ x = q + times) ∧ (0 < q ∨ x = 0)) (hq : 0 < q) : x = q + times := by omega
theorem xzero {q x times : Int} (h : (q ≤ 0 ∨ x = q + times) ∧ (0 < q ∨ x = 0)) (hq : ¬ 0 < q) : x = 0 := by omega
theorem row_eq {r x y : Int} {R : Prop} (h : r = x ∧ R) (e : x = y) : r = y ∧ R := ⟨h.1.trans e, h.2⟩
end Mine
end
section
open PySem PySem.W PyProof.Rows PySem.Calls PySem.Spec
namespace Mine
local macro_rules | `(tactic| walk_at "subscriptTail Name Constant ref int") => `(tactic| (k_here; first
  | ((with_reducible show wpAny _ _ (subscriptTail _ _ (Value.ref _) (Value.int 0 _)) _ _ _); k_dflt (refine' item0 ?nl ?nm ?_ ?ns ?ng; (case nl => k_asm); (case nm => k_mem); (case ns => with_unfolding_all rfl); (case ng => intro _; with_unfolding_all rfl)))
  | ((with_reducible show wpAny _ _ (subscriptTail _ _ (Value.ref _) (Value.int 1 _)) _ _ _); k_dflt (refine' item1 ?nl ?nm ?_ ?ns ?ng; (case nl => k_asm); (case nm => k_mem); (case ns => with_unfolding_all rfl); (case ng => intro _; with_unfolding_all rfl)))
  | ((with_reducible show wpAny _ _ (subscriptTail _ _ (Value.ref _) (Value.int 2 _)) _ _ _); k_dflt (refine' item2 ?nl ?nm ?_ ?ns ?ng; (case nl => k_asm); (case nm => k_mem); (case ns => with_unfolding_all rfl); (case ng => intro _; with_unfolding_all rfl)))
  | ((with_reducible show wpAny _ _ (subscriptTail _ _ (Value.ref _) (Value.int 3 _)) _ _ _); k_dflt (refine' item3 ?nl ?nm ?_ ?ns ?ng; (case nl => k_asm); (case nm => k_mem); (case ns => with_unfolding_all rfl); (case ng => intro _; with_unfolding_all rfl)))))
local macro_rules | `(tactic| walk_at "subscriptTail Name Name ref int") => `(tactic| (k_here; first
  | ((with_reducible show wpAny _ _ (subscriptTail _ _ (Value.ref _) (Value.int 0 _)) _ _ _); k_dflt (refine' item0 ?nl ?nm ?_ ?ns ?ng; (case nl => k_asm); (case nm => k_mem); (case ns => with_unfolding_all rfl); (case ng => intro _; with_unfolding_all rfl)))
  | ((with_reducible show wpAny _ _ (subscriptTail _ _ (Value.ref _) (Value.int 1 _)) _ _ _); k_dflt (refine' item1 ?nl ?nm ?_ ?ns ?ng; (case nl => k_asm); (case nm => k_mem); (case ns => with_unfolding_all rfl); (case ng => intro _; with_unfolding_all rfl)))
  | ((with_reducible show wpAny _ _ (subscriptTail _ _ (Value.ref _) (Value.int 2 _)) _ _ _); k_dflt (refine' item2 ?nl ?nm ?_ ?ns ?ng; (case nl => k_asm); (case nm => k_mem); (case ns => with_unfolding_all rfl); (case ng => intro _; with_unfolding_all rfl)))
  | ((with_reducible show wpAny _ _ (subscriptTail _ _ (Value.ref _) (Value.int 3 _)) _ _ _); k_dflt (refine' item3 ?nl ?nm ?_ ?ns ?ng; (case nl => k_asm); (case nm => k_mem); (case ns => with_unfolding_all rfl); (case ng => intro _; with_unfolding_all rfl)))))
local macro_rules | `(tactic| walk_at "call ref cons nil") => `(tactic| (k_here; (with_reducible show wpAny _ _ (call (Value.ref 121) _) _ _ _); (refine' sent_gives _ _ _ _ _ _ _ _ _ _ _ _ _ _ _ _ _ _ _ _ _ ?gS ?gq ?gr ?gb ?gc ?gt _ _ _ _ _ _ _ _ _ _ _ _ _ _ _ _ _ ?k1 ?k2 ?k3 ?k4 ?k5 ?kK ?kd ?ku ?_); (case k1 => k_asm); (case k2 => k_asm); (case k3 => k_asm); (case k4 => k_asm); (case k5 => k_asm); (case gS => assumption); (case gq => assumption); (case gr => assumption); (case gb => assumption); (case gc => assumption); (case gt => assumption); (case kK => first | exact rfl | assumption); (case kd => ktr_room); (case ku => ktr_units); intro x9 y9 t9 h9 tk9 hx9 hy9 ex9 ey9 F9 N9; (try dsimp only); (try k_fold)))
local macro_rules | `(tactic| walk_at "call ref cons nil") => `(tactic| (k_here; (with_reducible show wpAny _ _ (call (Value.ref 104) _) _ _ _); (refine' lev_gives _ _ _ _ _ _ _ _ _ _ _ _ _ _ _ _ _ _ _ ?ok ?gq ?gb _ _ _ _ _ _ _ _ _ _ _ _ _ _ _ _ _ ?k1 ?k2 ?k3 ?k4 ?k5 ?kK ?kd ?ku ?_); (case k1 => k_asm); (case k2 => k_asm); (case k3 => k_asm); (case k4 => k_asm); (case k5 => k_asm); (case ok => with_reducible first | exact okwa | exact okwb | exact okwc | exact okwd); (case gq => assumption); (case gb => assumption); (case kK => first | exact rfl | assumption); (case kd => ktr_room); (case ku => ktr_units); intro f9 t9 h9 tk9 hf9 F9 N9; (unfold formula at hf9); (try dsimp only); (try k_fold)))
local macro_rules | `(tactic| walk_at "call ref cons nil") => `(tactic| (k_here; (with_reducible show wpAny _ _ (call (Value.ref 55) _) _ _ _); (refine' add_walk _ _ _ _ _ _ _ _ _ _ _ _ _ _ _ _ _ _ _ _ _ _ _ _ _ _ ?k1 ?k2 ?k3 ?k4 ?k5 ?kK ?kd ?ku ?_); (case k1 => k_asm); (case k2 => k_asm); (case k3 => k_asm); (case k4 => k_asm); (case k5 => k_asm); (case kK => first | exact rfl | assumption); (case kd => ktr_room); (case ku => ktr_units); intro t9 h9 tk9 F9 N9; (try dsimp only); (try k_fold)))
local macro_rules | `(tactic| walk_at "call ref cons nil") => `(tactic| (k_here; (with_reducible show wpAny _ _ (call (Value.ref 83) _) _ _ _); (refine' sub_walk _ _ _ _ _ _ _ _ _ _ _ _ _ _ _ _ _ _ _ _ _ _ _ _ _ _ ?k1 ?k2 ?k3 ?k4 ?k5 ?kK ?kd ?ku ?_); (case k1 => k_asm); (case k2 => k_asm); (case k3 => k_asm); (case k4 => k_asm); (case k5 => k_asm); (case kK => first | exact rfl | assumption); (case kd => ktr_room); (case ku => ktr_units); intro t9 h9 tk9 F9 N9; (try dsimp only); (try k_fold)))
local macro_rules | `(tactic| walk_at "call ref cons nil") => `(tactic| (k_here; (with_reducible show wpAny _ _ (call (Value.ref 76) _) _ _ _); (refine' mod_gives _ _ _ _ _ _ _ _ ?ev _ _ _ _ _ _ _ _ _ _ _ _ _ _ _ _ _ ?k1 ?k2 ?k3 ?k4 ?k5 ?kK ?kd ?ku ?_); (case k1 => k_asm); (case k2 => k_asm); (case k3 => k_asm); (case k4 => k_asm); (case k5 => k_asm); (case ev => omega); (case kK => first | exact rfl | assumption); (case kd => ktr_room); (case ku => ktr_units); intro t9 h9 tk9 F9 N9; (try dsimp only); (try k_fold)))
local macro_rules | `(tactic| walk_at "call ref cons nil") => `(tactic| (k_here; (with_reducible show wpAny _ _ (call (Value.ref 69) _) _ _ _); (refine' floordiv_gives _ _ _ _ _ _ _ _ _ _ _ _ _ _ _ _ _ _ _ _ _ _ _ _ _ ?k1 ?k2 ?k3 ?k4 ?k5 ?kK ?kd ?ku ?_); (case k1 => k_asm); (case k2 => k_asm); (case k3 => k_asm); (case k4 => k_asm); (case k5 => k_asm); (case kK => first | exact rfl | assumption); (case kd => ktr_room); (case ku => ktr_units); intro v9 t9 h9 tk9 hv9 F9 N9; (try dsimp only); (try k_fold)))
local macro_rules | `(tactic| walk_at "call ref cons nil") => `(tactic| (k_here; (with_reducible show wpAny _ _ (call (Value.ref 62) _) _ _ _); (refine' and_gives _ _ _ _ _ _ _ _ _ _ _ _ _ _ _ _ _ _ _ _ _ _ _ _ _ ?k1 ?k2 ?k3 ?k4 ?k5 ?kK ?kd ?ku ?_); (case k1 => k_asm); (case k2 => k_asm); (case k3 => k_asm); (case k4 => k_asm); (case k5 => k_asm); (case kK => first | exact rfl | assumption); (case kd => ktr_room); (case ku => ktr_units); intro v9 t9 h9 tk9 hv9 F9 N9; (try dsimp only); (try k_fold)))
local macro_rules | `(tactic| walk_at "call builtin:str.split") => `(tactic| (k_here; k_dflt (refine' split2tx ?sf ?sn ?sx ?sy ?sl ?sm ?_; (case sf => k_asm); (case sn => k_asm); (case sx => exact line_noNl (by assumption)); (case sy => exact line_noNl (by assumption)); (case sl => rw [line_len]; omega); (case sm => rw [line_len]; omega)); intro D' t0 t1 h' k9 F' N' l1; k_lt l1))
theorem sum4 {prog : Program} {w : World} {A : Around} {E : Value → Shared → Prop} {s : Shared} {h₀ : Heap} {L D : Addr} {m : Str → Option Value} {news : List (Addr × Obj)} {a b c d : Int} {t0 t1 t2 t3 : Tok} {k : Nat} {Q : Value → Shared → Prop}
    (hh : A.handled = none) (F : Fr h₀ L s.heap m) (N : News h₀ L s.heap news) (hm : (D, listOf #[.int a t0, .int b t1, .int c t2, .int d t3] k) ∈ news)
    (h : ∀ (v : Int) (h' : Heap) (tk : Nat) (t' : Tok), v = a + b + c + d → Fr h₀ L h' m → News h₀ L h' news → Q (.int v t') { s with heap := h', toks := tk }) :
    wpAny (model prog w) A (call (.builtin "sum") [.ref D]) Q E s :=
  sumK hh F N (News.isList N hm) (ns := [a, b, c, d]) (.cons _ _ (.cons _ _ (.cons _ _ (.cons _ _ .nil)))) (fun h' tk t' F' N' => h _ h' tk t' (by simp only [List.sum_cons, List.sum_nil]; omega) F' N')
local macro_rules | `(tactic| walk_at "call builtin:sum") => `(tactic| (k_here; k_dflt (refine' sum4 ?s0 ?s1 ?s2 ?s3 ?_; (case s0 => with_unfolding_all rfl); (case s1 => k_asm); (case s2 => k_asm); (case s3 => k_mem)); intro v9 h9 tk9 t9 hv9 F9 N9))
theorem off1_ne {D a : Addr} {o : Obj} : ∀ {news : List (Addr × Obj)}, LCg.Off1 D news → (a, o) ∈ news → @Ne Nat a D
  | _ :: _, x, hm => by
    rcases List.mem_cons.mp hm with e | hm
    · cases e; exact x.1
    · exact off1_ne x.2 hm
local macro_rules | `(tactic| k_ne) => `(tactic| (refine neN ?_; (try dsimp only); first | assumption | exact Ne.symm (by assumption) | exact off1_ne (by assumption) (by k_mem) | exact Ne.symm (off1_ne (by assumption) (by k_mem))))
local macro_rules | `(tactic| walk_at "FinE") => `(tactic| ((unfold LCg.FinE); intro D' h' tk' F' N' o1'; (try simp only [List.nil_append, List.cons_append] at N'); (try dsimp only)))
local macro_rules | `(tactic| walk_at "CompSrc") => `(tactic| (k_here; k_dflt (refine LCg.CompSrc.ledger (by rfl) (by k_asm) (by k_asm) (by k_mem) (by exact Nat.le_of_ble_eq_true rfl) ?_; intro g'; lcg_lit)))
local macro_rules | `(tactic| walk_at "CompRest") => `(tactic| (with_unfolding_all first
  | (refine LCg.CompRest.succ ?_; intro v' I' oI' C' oC' D' m' h' tk' E' hv' hC' hx' F' N' offK ne'; clear ne'; lcg_open hv')
  | refine LCg.CompRest.zero ?_))
local macro_rules | `(tactic| walk_at "CompEnd") => `(tactic| (k_here; (refine' LCg.CompEnd.intro ?ca ?cb _ ?cc ?cd ?ce ?_); (case ca => assumption); (case cb => assumption); (case cd => assumption); (case cc => kcf_all); (case ce => lcg_src)))
theorem compEnd_ref {h₀ : Heap} {L I C D r : Addr} {m : Str → Option Value} {s₁ : Shared} {oI oC oD o : Obj} {S : List (Addr × Obj) → Prop} {rest : Value → List (Addr × Obj) → Prop} {h' : Heap} {tk : Nat} {all news : List (Addr × Obj)}
    (F : Fr h₀ L h' m) (N : News h₀ L h' all) (off : LCg.Off3 I C D news) (hr : (r, o) ∈ all) (own : (I, oI) ∈ all ∧ (C, oC) ∈ all ∧ (D, oD) ∈ all) (old : ∀ p ∈ news, p ∈ all)
    (hne : (@Ne Nat r I) ∧ (@Ne Nat r C) ∧ (@Ne Nat r D)) (hS : S ((r, o) :: news)) (hrest : rest (.ref r) ((r, o) :: news)) :
    LCg.CompEnd h₀ L m s₁ I oI C oC D oD S rest (.ref r) { s₁ with heap := h', toks := tk } :=
  LCg.CompEnd.intro F N ((r, o) :: news) (fun p hp => by
    obtain ⟨w1, w2, w3⟩ := own
    rcases List.mem_cons.mp hp with rfl | hp
    · exact w1
    rcases List.mem_cons.mp hp with rfl | hp
    · exact w2
    rcases List.mem_cons.mp hp with rfl | hp
    · exact w3
    rcases List.mem_cons.mp hp with rfl | hp
    · exact hr
    · exact old p hp) ⟨hne, off⟩ hS hrest
local macro_rules | `(tactic| walk_at "CompEnd ref") => `(tactic| (k_here; (refine' compEnd_ref ?ca ?cb ?cc ?cd ?ce ?cf ?cg ?ch ?_); (case ca => assumption); (case cb => assumption); (case cc => assumption); (case cd => k_mem); (case ce => exact ⟨by k_mem, by k_mem, by k_mem⟩); (case cf => intro p hp; kcf_m); (case cg => exact ⟨by k_ne, by k_ne, by k_ne⟩); (case ch => lcg_src)))
local macro_rules | `(tactic| walk_at "compareOp Eq ref ref") => `(tactic| (k_here; k_dflt (refine' eq_rows ?en ?ea ?eb ?ec ?ed ?ee ?ef ?eu ?ex ?_; (case en => k_asm); (case ea => k_mem); (case eb => k_mem); (case ec => k_mem); (case ed => k_mem); (case ee => k_mem); (case ef => k_mem); (case eu => ke_room); (case ex => ((refine ⟨row_eq (read_end (by assumption) (by assumption) (by assumption) (by assumption) (by assumption) (by assumption) (by assumption) (by assumption) (by assumption) (by assumption) (by assumption) (by assumption) (by assumption)) ?xa, row_eq (read_end (by assumption) (by assumption) (by assumption) (by assumption) (by assumption) (by assumption) (by assumption) (by assumption) (by assumption) (by assumption) (by assumption) (by assumption) (by assumption)) ?xb⟩); (case xa => first | exact xpos (by assumption) (by assumption) | exact xzero (by assumption) (by assumption) | exact xpos (by assumption) (of_decide_eq_true (by assumption)) | exact xzero (by assumption) (of_decide_eq_false (by assumption)) | omega); (case xb => first | exact xpos (by assumption) (by assumption) | exact xzero (by assumption) (by assumption) | exact xpos (by assumption) (of_decide_eq_true (by assumption)) | exact xzero (by assumption) (of_decide_eq_false (by assumption)) | omega))))))
local macro_rules | `(tactic| walk_at "exec For Name Call cons nil") => `(tactic| (k_here; (rename Fr _ _ _ _ => lF'); (with_unfolding_all refine' For_turns lF' ?_; k_whole)))
theorem read_ret {h₀ h' : Heap} {L r : Addr} {m : Str → Option Value} {s : Shared} {Q : Value → Shared → Prop} {x b0 b1 b2 b3 b4 y0 y1 y2 y3 y4 y5 : Int} {u0 u1 u2 u3 u4 u5 : Tok} {tk' : Nat} {es all : List (Addr × Obj)}
    (hret : ∀ (r : Addr) (u0 u1 u2 u3 u4 u5 : Tok) (h' : Heap) (tk' : Nat), AllLt r es → Fr h₀ L h' m → News h₀ L h' ((r, listOf #[.int x u0, .int b0 u1, .int b1 u2, .int b2 u3, .int b3 u4, .int b4 u5] 0) :: es) → Q (.ref r) { s with heap := h', toks := tk' })
    (F : Fr h₀ L h' m) (N : News h₀ L h' all) (hm : (r, listOf #[.int y0 u0, .int y1 u1, .int y2 u2, .int y3 u3, .int y4 u4, .int y5 u5] 0) ∈ all) (e : y0 = x ∧ y1 = b0 ∧ y2 = b1 ∧ y3 = b2 ∧ y4 = b3 ∧ y5 = b4) (lt : AllLt r es) (sub : ∀ p ∈ es, p ∈ all) :
    Q (.ref r) { s with heap := h', toks := tk' } := by
  obtain ⟨rfl, rfl, rfl, rfl, rfl, rfl⟩ := e
  exact hret r u0 u1 u2 u3 u4 u5 h' tk' lt F (fun p hp => by
    rcases List.mem_cons.mp hp with rfl | hp
    · exact N _ hm
    · exact N _ (sub p hp))
theorem read_walk (w : World) (mean : ExcName → Option Value) (mg mb : Str → Option Value) (l a1 a2 a3 a4 a5 a6 a7 a8 a9 a10 : Addr) (o1 o2 o3 o4 o5 o6 o7 o8 o9 o10 : Obj) (x b0 b1 b2 b3 b4 f0 f1 f2 f3 : Int) (t0 t1 t2 t3 : Tok)
   (h0 : f0 = 2 * x + (b0 + 0 - 2 * b0 * 0) + (b1 + 0 - 2 * b1 * 0) + (b2 + 0 - 2 * b2 * 0) + (b3 + 0 - 2 * b3 * 0) + (b4 + 0 - 2 * b4 * 0)) (h1 : f1 = 2 * x + (b0 + 1 - 2 * b0 * 1) + (b1 + 1 - 2 * b1 * 1) + (b2 + 0 - 2 * b2 * 0) + (b3 + 1 - 2 * b3 * 1) + (b4 + 0 - 2 * b4 * 0)) (h2 : f2 = 2 * x + (b0 + 1 - 2 * b0 * 1) + (b1 + 0 - 2 * b1 * 0) + (b2 + 1 - 2 * b2 * 1) + (b3 + 1 - 2 * b3 * 1) + (b4 + 0 - 2 * b4 * 0)) (h3 : f3 = 2 * x + (b0 + 0 - 2 * b0 * 0) + (b1 + 1 - 2 * b1 * 1) + (b2 + 1 - 2 * b2 * 1) + (b3 + 1 - 2 * b3 * 1) + (b4 + 0 - 2 * b4 * 0))
   (hb : (0 ≤ b0 ∧ b0 ≤ 1) ∧ (0 ≤ b1 ∧ b1 ≤ 1) ∧ (0 ≤ b2 ∧ b2 ≤ 1) ∧ (0 ≤ b3 ∧ b3 ≤ 1) ∧ (0 ≤ b4 ∧ b4 ≤ 1)) (es : List (Addr × Obj)) (hes : es = [(a1, o1), (a2, o2), (a3, o3), (a4, o4), (a5, o5), (a6, o6), (a7, o7), (a8, o8), (a9, o9), (a10, o10)]) :
   SpecOf 126 2 w mean mg mb ((l, LCg.lst [.int f0 t0, .int f1 t1, .int f2 t2, .int f3 t3]) :: es) [.ref l] (fun h₀ L m s Q => ∀ (r : Addr) (u0 u1 u2 u3 u4 u5 : Tok) (h' : Heap) (tk' : Nat), AllLt r es → Fr h₀ L h' m → News h₀ L h' ((r, listOf #[.int x u0, .int b0 u1, .int b1 u2, .int b2 u3, .int b3 u4, .int b4 u5] 0) :: es) → Q (.ref r) { s with heap := h', toks := tk' }) := by
  subst hes
  dsimp only [SpecOf]
  k_fill
  k_with_none
  intros; rename_i hret
  refine wpAny_call ?_
  k_dflt (refine' code_defC ?k1 ?k2 ?k3 ?k4 ?k5 ?kA ?kF ?kK ?k6 ?k7 ?k8 ?k9 ?kB ?kD ?_ ?c2 ?c3 ?c4; (case kA => exact rfl); (case kF => exact rfl); (case kK => assumption); (case k1 => k_asm); (case k2 => k_asm); (case k3 => k_asm); (case k4 => k_asm); (case k5 => k_asm); (case k6 => k_is); (case k7 => k_is); (case k8 => ktr_room); (case k9 => exact BindsTo.of_eq rfl); (case kB => exact rfl); (case kD => decide +kernel); (case c2 => exact rfl); (case c3 => exact rfl); (case c4 => exact rfl); k_whole; intro g' L' h' tk' cells' FG' F' N' Y' B' X' T' l1; (try k_lt l1); k_cells Y'; (try simp only [List.cons_append, List.nil_append] at N'); (try dsimp only); (try k_lift B'); (try k_fold))
  k_steps
  all_goals (refine' read_ret hret ?zF ?zN ?zm ?ze ?zl ?zs; (case zF => assumption); (case zN => assumption); (case zm => k_mem); (case ze => exact read_end (by assumption) (by assumption) (by assumption) (by assumption) (by assumption) (by assumption) (by assumption) (by assumption) (by assumption) (by assumption) (by assumption) (by assumption) (by assumption)); (case zl => ((simp only [AllLt, and_true]); (rename (@LT.lt Nat _ _ _ ∧ _) => zl9); (repeat (first | exact zl9 | replace zl9 := zl9.2)))); (case zs => intro p hp; kcf_m))
end Mine
end
section
open PySem PySem.W PyProof.Rows PySem.Calls PySem.Spec
namespace Mine
local macro_rules | `(tactic| walk_at "subscriptTail Name Constant ref int") => `(tactic| (k_here; first
  | ((with_reducible show wpAny _ _ (subscriptTail _ _ (Value.ref _) (Value.int 0 _)) _ _ _); k_dflt (refine' item0 ?nl ?nm ?_ ?ns ?ng; (case nl => k_asm); (case nm => k_mem); (case ns => with_unfolding_all rfl); (case ng => intro _; with_unfolding_all rfl)))
  | ((with_reducible show wpAny _ _ (subscriptTail _ _ (Value.ref _) (Value.int 1 _)) _ _ _); k_dflt (refine' item1 ?nl ?nm ?_ ?ns ?ng; (case nl => k_asm); (case nm => k_mem); (case ns => with_unfolding_all rfl); (case ng => intro _; with_unfolding_all rfl)))
  | ((with_reducible show wpAny _ _ (subscriptTail _ _ (Value.ref _) (Value.int 2 _)) _ _ _); k_dflt (refine' item2 ?nl ?nm ?_ ?ns ?ng; (case nl => k_asm); (case nm => k_mem); (case ns => with_unfolding_all rfl); (case ng => intro _; with_unfolding_all rfl)))
  | ((with_reducible show wpAny _ _ (subscriptTail _ _ (Value.ref _) (Value.int 3 _)) _ _ _); k_dflt (refine' item3 ?nl ?nm ?_ ?ns ?ng; (case nl => k_asm); (case nm => k_mem); (case ns => with_unfolding_all rfl); (case ng => intro _; with_unfolding_all rfl)))))
local macro_rules | `(tactic| walk_at "subscriptTail Name Name ref int") => `(tactic| (k_here; first
  | ((with_reducible show wpAny _ _ (subscriptTail _ _ (Value.ref _) (Value.int 0 _)) _ _ _); k_dflt (refine' item0 ?nl ?nm ?_ ?ns ?ng; (case nl => k_asm); (case nm => k_mem); (case ns => with_unfolding_all rfl); (case ng => intro _; with_unfolding_all rfl)))
  | ((with_reducible show wpAny _ _ (subscriptTail _ _ (Value.ref _) (Value.int 1 _)) _ _ _); k_dflt (refine' item1 ?nl ?nm ?_ ?ns ?ng; (case nl => k_asm); (case nm => k_mem); (case ns => with_unfolding_all rfl); (case ng => intro _; with_unfolding_all rfl)))
  | ((with_reducible show wpAny _ _ (subscriptTail _ _ (Value.ref _) (Value.int 2 _)) _ _ _); k_dflt (refine' item2 ?nl ?nm ?_ ?ns ?ng; (case nl => k_asm); (case nm => k_mem); (case ns => with_unfolding_all rfl); (case ng => intro _; with_unfolding_all rfl)))
  | ((with_reducible show wpAny _ _ (subscriptTail _ _ (Value.ref _) (Value.int 3 _)) _ _ _); k_dflt (refine' item3 ?nl ?nm ?_ ?ns ?ng; (case nl => k_asm); (case nm => k_mem); (case ns => with_unfolding_all rfl); (case ng => intro _; with_unfolding_all rfl)))))
local macro_rules | `(tactic| walk_at "call ref cons nil") => `(tactic| (k_here; (with_reducible show wpAny _ _ (call (Value.ref 121) _) _ _ _); (refine' sent_gives _ _ _ _ _ _ _ _ _ _ _ _ _ _ _ _ _ _ _ _ _ ?gS ?gq ?gr ?gb ?gc ?gt _ _ _ _ _ _ _ _ _ _ _ _ _ _ _ _ _ ?k1 ?k2 ?k3 ?k4 ?k5 ?kK ?kd ?ku ?_); (case k1 => k_asm); (case k2 => k_asm); (case k3 => k_asm); (case k4 => k_asm); (case k5 => k_asm); (case gS => assumption); (case gq => assumption); (case gr => assumption); (case gb => assumption); (case gc => assumption); (case gt => assumption); (case kK => first | exact rfl | assumption); (case kd => ktr_room); (case ku => ktr_units); intro x9 y9 t9 h9 tk9 hx9 hy9 ex9 ey9 F9 N9; (try dsimp only); (try k_fold)))
local macro_rules | `(tactic| walk_at "call ref cons nil") => `(tactic| (k_here; (with_reducible show wpAny _ _ (call (Value.ref 104) _) _ _ _); (refine' lev_gives _ _ _ _ _ _ _ _ _ _ _ _ _ _ _ _ _ _ _ ?ok ?gq ?gb _ _ _ _ _ _ _ _ _ _ _ _ _ _ _ _ _ ?k1 ?k2 ?k3 ?k4 ?k5 ?kK ?kd ?ku ?_); (case k1 => k_asm); (case k2 => k_asm); (case k3 => k_asm); (case k4 => k_asm); (case k5 => k_asm); (case ok => with_reducible first | exact okwa | exact okwb | exact okwc | exact okwd); (case gq => assumption); (case gb => assumption); (case kK => first | exact rfl | assumption); (case kd => ktr_room); (case ku => ktr_units); intro f9 t9 h9 tk9 hf9 F9 N9; (unfold formula at hf9); (try dsimp only); (try k_fold)))
local macro_rules | `(tactic| walk_at "call builtin:str.split") => `(tactic| (k_here; k_dflt (refine' split2tx ?sf ?sn ?sx ?sy ?sl ?sm ?_; (case sf => k_asm); (case sn => k_asm); (case sx => exact line_noNl (by assumption)); (case sy => exact line_noNl (by assumption)); (case sl => rw [line_len]; omega); (case sm => rw [line_len]; omega)); intro D' t0 t1 h' k9 F' N' l1; k_lt l1))
local macro_rules | `(tactic| k_ne) => `(tactic| (refine neN ?_; (try dsimp only); first | assumption | exact Ne.symm (by assumption) | exact off1_ne (by assumption) (by k_mem) | exact Ne.symm (off1_ne (by assumption) (by k_mem))))
local macro_rules | `(tactic| walk_at "FinE") => `(tactic| ((unfold LCg.FinE); intro D' h' tk' F' N' o1'; (try simp only [List.nil_append, List.cons_append] at N'); (try dsimp only)))
local macro_rules | `(tactic| walk_at "CompSrc") => `(tactic| (k_here; k_dflt (refine LCg.CompSrc.ledger (by rfl) (by k_asm) (by k_asm) (by k_mem) (by exact Nat.le_of_ble_eq_true rfl) ?_; intro g'; lcg_lit)))
local macro_rules | `(tactic| walk_at "CompRest") => `(tactic| (with_unfolding_all first
  | (refine LCg.CompRest.succ ?_; intro v' I' oI' C' oC' D' m' h' tk' E' hv' hC' hx' F' N' offK ne'; clear ne'; lcg_open hv')
  | refine LCg.CompRest.zero ?_))
local macro_rules | `(tactic| walk_at "CompEnd") => `(tactic| (k_here; (refine' LCg.CompEnd.intro ?ca ?cb _ ?cc ?cd ?ce ?_); (case ca => assumption); (case cb => assumption); (case cd => assumption); (case cc => kcf_all); (case ce => lcg_src)))
local macro_rules | `(tactic| walk_at "CompEnd ref") => `(tactic| (k_here; (refine' compEnd_ref ?ca ?cb ?cc ?cd ?ce ?cf ?cg ?ch ?_); (case ca => assumption); (case cb => assumption); (case cc => assumption); (case cd => k_mem); (case ce => exact ⟨by k_mem, by k_mem, by k_mem⟩); (case cf => intro p hp; kcf_m); (case cg => exact ⟨by k_ne, by k_ne, by k_ne⟩); (case ch => lcg_src)))
local macro_rules | `(tactic| walk_at "compareOp Eq ref ref") => `(tactic| (k_here; k_dflt (refine' eq_rows ?en ?ea ?eb ?ec ?ed ?ee ?ef ?eu ?ex ?_; (case en => k_asm); (case ea => k_mem); (case eb => k_mem); (case ec => k_mem); (case ed => k_mem); (case ee => k_mem); (case ef => k_mem); (case eu => ke_room); (case ex => ((refine ⟨⟨?xa, rfl, rfl, rfl, rfl, rfl⟩, ⟨?xb, rfl, rfl, rfl, rfl, rfl⟩⟩); (case xa => first | exact xpos (by assumption) (by assumption) | exact xzero (by assumption) (by assumption) | omega); (case xb => first | exact xpos (by assumption) (by assumption) | exact xzero (by assumption) (by assumption) | omega))))))
local macro_rules | `(tactic| walk_at "exec For Name Call cons nil") => `(tactic| (k_here; (rename Fr _ _ _ _ => lF'); (with_unfolding_all refine' For_turns lF' ?_; k_whole)))
theorem news_dup2 {h₀ h : Heap} {L : Addr} {p q : Addr × Obj} {r : List (Addr × Obj)} (N : News h₀ L h (p :: q :: r)) : News h₀ L h (p :: q :: q :: r) := fun z hz => by
  rcases List.mem_cons.mp hz with rfl | hz
  · exact N _ List.mem_cons_self
  · rcases List.mem_cons.mp hz with rfl | hz
    · exact N _ (List.mem_cons_of_mem _ List.mem_cons_self)
    · exact N _ (List.mem_cons_of_mem _ hz)
local macro_rules | `(tactic| walk_at "call ref cons nil") => `(tactic| (k_here; (with_reducible show wpAny _ _ (call (Value.ref 126) _) _ _ _); (refine' read_walk _ _ _ _ _ _ _ _ _ _ _ _ _ _ _ _ _ _ _ _ _ _ _ _ _ _ _ _ _ _ _ _ _ _ _ _ _ _ _  ?h0 ?h1 ?h2 ?h3 ?hb _ ?hes _ _ _ _ _ _ _ _ _ _ _ _ _ _ _ _ _ ?k1 ?k2 ?k3 ?k4 ?k5 ?kK ?kd ?ku ?_); (case hes => exact rfl); (case k1 => k_asm); (case k2 => k_asm); (case k3 => k_asm); (case k4 => first | k_asm | exact news_dup2 (by k_asm)); (case k5 => k_asm); (case h0 => assumption); (case h1 => assumption); (case h2 => assumption); (case h3 => assumption); (case hb => assumption); (case kK => first | exact rfl | assumption); (case kd => ktr_room); (case ku => ktr_units); intro r9 u0 u1 u2 u3 u4 u5 h9 tk9 lt9 F9 N9; (simp only [AllLt, and_true] at lt9); (try dsimp only); (try k_fold)))
theorem law_tail (w : World) (mean : ExcName → Option Value) (mg mb : Str → Option Value) {g : Heap} {L a R Wd r0 r1 : Addr} {cd : Value} {s : Shared} {Q : Flow → Shared → Prop} {E : Value → Shared → Prop} {m : Str → Option Value}
  {oc dV kV doc pm cdv ct : Value} {od an : Option Addr} {osl : Array (Option Value)} {name qual : Str} {params : Arguments} {body : List Stmt} {scope : Scope}
  {S : List Nat} {q b0 b1 b2 b3 b4 r c0 c1 c2 c3 c4 times : Int} {tm tt z0 z1 z2 z3 y0 y1 y2 y3 y4 y5 x0 x1 x2 x3 x4 x5 : Tok} {o1 o2 : Obj} {v0 : Option Value} {k0 k1 : Nat}
  (hb : (hd.heap_39 w.params).lookup 131 = some ⟨oc, od, .func (fnOf name qual params body scope dV kV doc pm an cdv ct), osl⟩)
  (X : (hd.heap_39 w.params).In g) (T : Top hd.view_39 (looseW hd.view_39 [Str.ofString "_twin_re_1", Str.ofString "_twin_re_2"]) mean mg mb g) (K0 : Below callerA g [] g)
  (F : Fr g L s.heap (fun y => if y = Str.ofString "words" then some (.ref Wd) else if y = Str.ofString "mail" then some (.str (tx (lineL q b0 b1 b2 b3 b4 ++ S ++ lineL r c0 c1 c2 c3 c4)) tm) else if y = Str.ofString "rows" then some (.ref R) else m y))
  (N : News g L s.heap [(Wd, LCg.lst [.str (tx (wordL 0 0 0 0 0)) z0, .str (tx (wordL 1 1 0 1 0)) z1, .str (tx (wordL 1 0 1 1 0)) z2, .str (tx (wordL 0 1 1 1 0)) z3]), (R, LCg.lst [.ref r0, .ref r1]),
    (r1, listOf #[.int r x0, .int c0 x1, .int c1 x2, .int c2 x3, .int c3 x4, .int c4 x5] k1), (r0, listOf #[.int q y0, .int b0 y1, .int b1 y2, .int b2 y3, .int b3 y4, .int b4 y5] k0), (L + 1 + 1, o1), (L + 1, o2)])
  (hc1 : o1.data = .cell v0) (hc2 : o2.data = .cell (some (.int times tt)))
  (n1 : @Ne Nat Wd (L + 1 + 1)) (n2 : @Ne Nat R (L + 1 + 1)) (n3 : @Ne Nat r1 (L + 1 + 1)) (n4 : @Ne Nat r0 (L + 1 + 1))
  (hS : S = [10] ∨ S = [13] ∨ S = [13, 10]) (hq : 0 ≤ q ∧ q ≤ 2) (hr : 0 ≤ r ∧ r ≤ 2) (hbb : Bits b0 b1 b2 b3 b4) (hcc : Bits c0 c1 c2 c3 c4) (ht : 1 ≤ times ∧ times ≤ 2)
  (hE : PassesOwn (model PySem.Challenge.rw_sw0013_01.row.prog w) (callerA.deeper (envOfC qual scope L a cd)) (envOfC qual scope L a cd) E)
  (hret : ∀ (h' : Heap) (tk' : Nat) (m' : Str → Option Value) (nw : List (Addr × Obj)), Fr g L h' m' → News g L h' nw → Q (.ret (.bool true)) { s with heap := h', toks := tk' }) :
  wpAny (model PySem.Challenge.rw_sw0013_01.row.prog w) (callerA.deeper (envOfC qual scope L a cd)) (execs (body.drop 7) (envOfC qual scope L a cd)) Q E s := by
  w_top off
  revert hb
  k_fill
  intro hb
  cases hb
  dsimp only [List.drop]
  have hbb1 := hbb
  have hcc1 := hcc
  unfold Bits at hbb1 hcc1
  k_with_none
  k_steps
  all_goals (exact hret _ _ _ _ (by assumption) (by assumption))
end Mine
end
open PySem PySem.W PyProof.Rows Mine
local macro_rules | `(tactic| walk_at "exec Assign cons ListComp") => `(tactic| (k_here; k_dflt (refine cells_assign (F₀ := by k_asm) (by rfl) (by with_unfolding_all rfl) (by with_unfolding_all rfl) (by rfl) (by rfl) (by decide) (by rfl) (by rfl) (by rfl) ?_)))
local macro_rules | `(tactic| walk_at "CellSrc") => `(tactic| (k_here; k_dflt (refine CellSrc.mk (by rfl) (by k_asm) (by k_asm) (by k_mem) (by exact Nat.le_of_ble_eq_true rfl) ?_; intro g')))
local macro_rules | `(tactic| walk_at "CellTurns") => `(tactic| (with_unfolding_all first
  | (refine cellTurns_cons ?_; intro I' C' c' D' oI' oC' oc' h' tk' E' hc' F' N' offK off' ne'; (try simp only [Off4, and_true] at off'))
  | refine cellTurns_nil ?_))
local macro_rules | `(tactic| walk_at "CellEnd") => `(tactic| (k_here; (refine' cellEnd_of ?ca ?cb ?cc ?cd ?ce ?cf ?cg ?ch ?_); (case ca => assumption); (case cb => assumption); (case cc => assumption); (case cd => k_mem); (case ce => exact ⟨by k_mem, by k_mem, by k_mem, by k_mem⟩); (case cf => intro p hp; kcf_m); (case cg => exact ⟨by k_ne, by k_ne, by k_ne, by k_ne⟩); (case ch => k_mem)))
local macro_rules | `(tactic| walk_at "binaryOp Add ref ref") => `(tactic| (k_here; (with_reducible show wpAny _ _ (binaryOp _ (Value.ref _) (Value.ref _)) _ _ _); k_dflt (refine' row_add ?F ?N ?a ?b ?c ?n ?_; (case F => assumption); (case N => assumption); (case c => assumption); (case a => k_mem); (case b => assumption); (case n => rfl)); intro q9 b0 b1 b2 b3 b4 t0 t1 t2 t3 t4 D' h' hq9 hb9 F' N' l1; (have lK := l1); k_lt l1; (rename NewPlain _ _ _ _ => hz8; clear hz8); (rename CarriedAll _ _ => hz9; clear hz9)))
local macro_rules | `(tactic| walk_at "subscriptTail List cons BinOp ref int") => `(tactic| (k_here; k_dflt (refine kba_turn (value' := PySem.Expr.Name (PySem.Str.ofString "x") ⟨0, 0, 0, 0⟩) (fun _ => rfl) ?_; refine' pick3 ?nn ?mm ?hi ?_ ?hs ?hg; (case nn => k_asm); (case mm => k_mem); (case hi => exact fmod3 _); (case hs => with_unfolding_all rfl); (case hg => intro _; with_unfolding_all rfl)); intro v9 t9 hv9))
local macro_rules | `(tactic| walk_at "subscriptTail Name Constant ref int") => `(tactic| (k_here; first
  | ((with_reducible show wpAny _ _ (subscriptTail _ _ (Value.ref _) (Value.int 0 _)) _ _ _); k_dflt (refine' item0 ?nl ?nm ?_ ?ns ?ng; (case nl => k_asm); (case nm => k_mem); (case ns => with_unfolding_all rfl); (case ng => intro _; with_unfolding_all rfl)))
  | ((with_reducible show wpAny _ _ (subscriptTail _ _ (Value.ref _) (Value.int 1 _)) _ _ _); k_dflt (refine' item1 ?nl ?nm ?_ ?ns ?ng; (case nl => k_asm); (case nm => k_mem); (case ns => with_unfolding_all rfl); (case ng => intro _; with_unfolding_all rfl)))
  | ((with_reducible show wpAny _ _ (subscriptTail _ _ (Value.ref _) (Value.int 2 _)) _ _ _); k_dflt (refine' item2 ?nl ?nm ?_ ?ns ?ng; (case nl => k_asm); (case nm => k_mem); (case ns => with_unfolding_all rfl); (case ng => intro _; with_unfolding_all rfl)))
  | ((with_reducible show wpAny _ _ (subscriptTail _ _ (Value.ref _) (Value.int 3 _)) _ _ _); k_dflt (refine' item3 ?nl ?nm ?_ ?ns ?ng; (case nl => k_asm); (case nm => k_mem); (case ns => with_unfolding_all rfl); (case ng => intro _; with_unfolding_all rfl)))))
local macro_rules | `(tactic| walk_at "call ref cons nil") => `(tactic| (k_here; (with_reducible show wpAny _ _ (call (Value.ref 109) _) _ _ _); (refine' drawn_walk _ _ _ _ _ _ _ _ ?hI ?hlen _ _ _ _ _ _ _ _ _ _ _ _ _ _ _ _ _ ?k1 ?k2 ?k3 ?k4 ?k5 ?kP ?kK ?kd ?ku ?_); (case k1 => k_asm); (case k2 => k_asm); (case k3 => k_asm); (case k4 => k_asm); (case k5 => k_asm); (case kP => assumption); (case hI => assumption); (case hlen => omega); (case kK => first | exact rfl | assumption); (case kd => ktr_room); (case ku => ktr_units); intro r9 d0 d1 t0 t1 h9 tk9 b0 b1 lt9 F9 N9; (simp only [AllLt, and_true] at lt9); (try dsimp only); (try k_fold)))
local macro_rules | `(tactic| walk_at "call ref cons nil") => `(tactic| (k_here; (with_reducible show wpAny _ _ (call (Value.ref 114) _) _ _ _); (refine' word_walk _ _ _ _ _ _ _ _ _ _ _ _ _ _ _ _ _ ?hB _ _ _ _ _ _ _ _ _ _ _ _ _ _ _ _ _ ?k1 ?k2 ?k3 ?k4 ?k5 ?kK ?kd ?ku ?_); (case k1 => k_asm); (case k2 => k_asm); (case k3 => k_asm); (case k4 => exact news_dup (by k_asm) (by k_mem)); (case k5 => k_asm); (case hB => first | assumption | (unfold Bits; omega)); (case kK => first | exact rfl | assumption); (case kd => ktr_room); (case ku => ktr_units); intro t9 h9 tk9 F9 N9; (replace N9 := news_tail N9); (try dsimp only); (try k_fold)))
local macro_rules | `(tactic| walk_at "binaryOp Add str str") => `(tactic| (k_here; (refine dots_word (by assumption) ?_); intro t9 k9))
local macro_rules | `(tactic| walk_at "call builtin:str.join") => `(tactic| (k_here; k_dflt (refine' join2 ?jn ?jm ?jv ?jx ?jy ?_; (case jn => k_asm); (case jm => k_mem); (case jv => assumption); (case jx => rw [line_len]; omega); (case jy => rw [line_len]; omega)); intro S9 t9 k9 hS9))
local macro_rules | `(tactic| walk_at "CompRest") => `(tactic| (with_unfolding_all first
  | (refine LCg.CompRest.succ ?_; intro v' I' oI' C' oC' D' m' h' tk' E' hv' hC' hx' F' N' offK ne'; (have off' := offK); lcg_open hv'; (try simp only [LCg.Off3, and_true] at off'))
  | refine LCg.CompRest.zero ?_))
local macro_rules | `(tactic| walk_at "CompEnd") => `(tactic| (k_here; (refine' LCg.CompEnd.intro ?ca ?cb _ ?cc ?cd ?ce ?_); (case ca => assumption); (case cb => assumption); (case cd => assumption); (case cc => kcf_all); (case ce => lcg_src)))
local macro_rules | `(tactic| walk_at "FinA") => `(tactic| ((unfold LCg.FinA); intro D' h' tk' F' N' o1'; (have oK := o1'); (try simp only [LCg.Off1, and_true] at o1'); (try simp only [List.nil_append, List.cons_append] at N'); (try dsimp only)))
local macro_rules | `(tactic| walk_at "execs cons Assign cons") => `(tactic| ((with_reducible show wpAny _ _ (execs (Stmt.Assign [Expr.Name _ _] (Expr.List [] _) _ :: Stmt.For _ _ _ _ _ :: _) _) _ _ _); (refine' law_tail _ _ _ _ (hb := rfl) ?tX ?tT ?tK ?tF ?tN ?t1 ?t2 ?n1 ?n2 ?n3 ?n4 ?tS ?tq ?tr ?tb ?tc ?tt ?tE ?_); (case tX => k_asm); (case tT => k_asm); (case tK => k_asm); (case tF => exact Fr.re (Fr.re (Fr.re (by assumption) (by rfl)) (by rfl)) (by rfl)); (case tN => exact cb_drop (by assumption) (by kcf_all)); (case t1 => assumption); (case t2 => assumption); (case n1 => exact off1_ne' (by assumption) (by k_mem)); (case n2 => exact off1_ne' (by assumption) (by k_mem)); (case n3 => exact lt_ne (by assumption) (by k_mem)); (case n4 => exact lt_ne (by assumption) (by k_mem)); (case tS => assumption); (case tq => assumption); (case tr => assumption); (case tb => assumption); (case tc => assumption); (case tt => exact times_two _); (case tE => passes_own); intro h9 tk9 m9 nw9 F9 N9; (try dsimp only)))
theorem PySem.Challenge.cw_sw0013_01_holds : PySem.Challenge.rw_sw0013_01.Holds := by
  exact hd (by w_strict (k_go0; (all_goals try k_fold); k_steps))
