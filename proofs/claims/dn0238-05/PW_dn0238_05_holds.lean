import PyProof.Rows.All
import Wide.All
import OpenK.AllK
import Wide.FinOn
import PySem.Challenge.RW_dn0238_05
section
open PySem PySem.W PyProof.Rows PySem.Spec PySem.Calls
set_option Elab.async false
namespace Mine
open PySem.Builtin PySem.Builtin.Str

theorem str_ext {a b : Str} (h : a.cps.toList = b.cps.toList) : a = b := PySem.Str.ext' (Array.ext' h)
theorem cps_app (a b : Str) : (a ++ b).cps.toList = a.cps.toList ++ b.cps.toList := by
  rw [PySem.Str.cps_append, Array.toList_append]
theorem len_toList (a : Str) : a.length = a.cps.toList.length := by simp [Str.length]

theorem rpart_free (x : Str) (c : Nat) (h : c ∉ x.cps.toList) : Txt.rpartition x ⟨#[c]⟩ = (Str.empty, Str.empty, x) := by
  unfold Txt.rpartition
  rcases StrLaws.last_spec x ⟨#[c]⟩ with ⟨e, _⟩ | ⟨i, _, hA, _⟩
  · rw [e]
  · exact absurd (List.mem_of_getElem? ((StrLaws.subAt_one x c i).mp hA)) h

theorem rpart_last (a b : Str) (c : Nat) (h : c ∉ b.cps.toList) : Txt.rpartition (a ++ ⟨#[c]⟩ ++ b) ⟨#[c]⟩ = (a, ⟨#[c]⟩, b) := by
  have hx : (a ++ ⟨#[c]⟩ ++ b : Str).cps.toList = a.cps.toList ++ c :: b.cps.toList := by simp [cps_app]
  have hat : (a ++ ⟨#[c]⟩ ++ b : Str).cps.toList[a.length]? = some c := by
    rw [hx, len_toList, List.getElem?_append_right (Nat.le_refl _)]; simp
  unfold Txt.rpartition
  rcases StrLaws.last_spec (a ++ ⟨#[c]⟩ ++ b) ⟨#[c]⟩ with ⟨_, hn⟩ | ⟨i, e, hA, hn⟩
  · exact absurd ((StrLaws.subAt_one _ c a.length).mpr hat) (hn _)
  · have hi : (a ++ ⟨#[c]⟩ ++ b : Str).cps.toList[i]? = some c := (StrLaws.subAt_one _ c i).mp hA
    have h1 : ¬ i < a.length := fun hlt => hn _ hlt ((StrLaws.subAt_one _ c a.length).mpr hat)
    have h2 : i = a.length := by
      rcases Nat.lt_trichotomy i a.length with q | q | q
      · exact absurd q h1
      · exact q
      · exfalso
        rw [hx, List.getElem?_append_right (by rw [← len_toList]; omega)] at hi
        rw [← len_toList] at hi
        obtain ⟨k, hk⟩ : ∃ k, i - a.length = k + 1 := ⟨i - a.length - 1, by omega⟩
        rw [hk, List.getElem?_cons_succ] at hi
        exact h (List.mem_of_getElem? hi)
    rw [e, h2]
    have e1 : strSub (a ++ ⟨#[c]⟩ ++ b) 0 a.length = a := str_ext (by rw [StrLaws.strSub_toList, hx, len_toList]; simp)
    have hl : (a ++ ⟨#[c]⟩ ++ b : Str).length = a.length + 1 + b.length := by
      rw [PySem.Str.length_append, PySem.Str.length_append]; rfl
    have e2 : strSub (a ++ ⟨#[c]⟩ ++ b) (a.length + (⟨#[c]⟩ : Str).length) (a ++ ⟨#[c]⟩ ++ b : Str).length = b := str_ext (by
      rw [StrLaws.strSub_toList, hx, hl]
      show ((a.cps.toList ++ c :: b.cps.toList).drop (a.length + 1)).take (a.length + 1 + b.length - (a.length + 1)) = _
      rw [len_toList, len_toList, List.drop_append, List.drop_of_length_le (by omega)]
      simp only [List.nil_append, Nat.add_sub_cancel_left, List.drop_succ_cons, List.drop_zero]
      exact List.take_of_length_le (Nat.le_refl _))
    show (strSub (a ++ ⟨#[c]⟩ ++ b) 0 a.length, _, strSub (a ++ ⟨#[c]⟩ ++ b) (a.length + (⟨#[c]⟩ : Str).length) (a ++ ⟨#[c]⟩ ++ b : Str).length) = _
    rw [e1, e2]

/-- a row: the front, and each word behind the mark -/
def rowT (front mark : Str) (ws : List Str) : Str := ws.foldl (fun acc w => acc ++ mark ++ w) front
theorem rowT_nil (f m : Str) : rowT f m [] = f := rfl
theorem rowT_snoc (f m : Str) (ws : List Str) (w : Str) : rowT f m (ws ++ [w]) = rowT f m ws ++ m ++ w := by
  unfold rowT; rw [List.foldl_append]; rfl
theorem rowT_toList (m : Str) : ∀ (ws : List Str) (f : Str), (rowT f m ws).cps.toList = f.cps.toList ++ (ws.map fun w => m.cps.toList ++ w.cps.toList).flatten
  | [], f => by simp [rowT]
  | w :: r, f => by
    show (rowT (f ++ m ++ w) m r).cps.toList = _
    rw [rowT_toList m r, cps_app, cps_app]; simp
theorem join_toList : ∀ l : List Str, (Str.join Str.empty l).cps.toList = (l.map fun w => w.cps.toList).flatten
  | [] => rfl
  | [x] => by simp [Str.join]
  | x :: y :: r => by
    show (x ++ Str.empty ++ Str.join Str.empty (y :: r)).cps.toList = _
    rw [cps_app, cps_app, join_toList (y :: r)]; simp [Str.empty]
theorem rowT_join (f m : Str) (ws : List Str) : f ++ Txt.join (Str.ofString "") (ws.map (fun y => m ++ y)) = rowT f m ws := by
  refine str_ext ?_
  have e : Str.ofString "" = Str.empty := by decide +kernel
  rw [cps_app, rowT_toList, e]
  show _ ++ (Builtin.Str.glued Str.empty (ws.map (fun y => m ++ y))).cps.toList = _
  rw [StrLaws.glued_eq_join, join_toList, List.map_map]
  congr 2
  exact List.map_congr_left fun w _ => cps_app m w
theorem rowT_length (m : Str) : ∀ (ws : List Str) (f : Str) (B : Nat), (∀ w ∈ ws, w.length ≤ B) → (rowT f m ws).length ≤ f.length + ws.length * (m.length + B)
  | [], f, B, _ => by simp [rowT]
  | w :: r, f, B, h => by
    show (rowT (f ++ m ++ w) m r).length ≤ _
    have h1 := rowT_length m r (f ++ m ++ w) B fun x hx => h x (.tail _ hx)
    have h2 := h w (.head _)
    rw [Str.length_append, Str.length_append] at h1
    rw [List.length_cons, Nat.add_mul]
    omega

/-- one sign for another -/
def swap (c d : Nat) (x : Str) : Str := ⟨(x.cps.toList.map fun k => if k = c then d else k).toArray⟩
theorem swap_toList (c d : Nat) (x : Str) : (swap c d x).cps.toList = x.cps.toList.map fun k => if k = c then d else k := by simp [swap]
theorem map_free {c d : Nat} {l : List Nat} (h : c ∉ l) : (l.map fun k => if k = c then d else k) = l := by
  conv => rhs; rw [← List.map_id l]
  exact List.map_congr_left fun k hk => by
    have : k ≠ c := fun e => h (e ▸ hk)
    simp [this]
theorem swap_join (c d : Nat) : ∀ parts : List Str, (∀ p ∈ parts, c ∉ p.cps.toList) → (Str.join ⟨#[c]⟩ parts).cps.toList.map (fun k => if k = c then d else k) = (Str.join ⟨#[d]⟩ parts).cps.toList
  | [], _ => rfl
  | [x], h => map_free (h x (.head _))
  | x :: y :: r, h => by
    show (x ++ ⟨#[c]⟩ ++ Str.join ⟨#[c]⟩ (y :: r)).cps.toList.map _ = (x ++ ⟨#[d]⟩ ++ Str.join ⟨#[d]⟩ (y :: r)).cps.toList
    rw [cps_app, cps_app, cps_app, cps_app, List.map_append, List.map_append, swap_join c d (y :: r) fun p hp => h p (.tail _ hp), map_free (h x (.head _))]
    simp
theorem replace_swap (x : Str) (c d : Nat) : Txt.replace x ⟨#[c]⟩ ⟨#[d]⟩ = swap c d x := by
  refine str_ext ?_
  rw [StrLaws.replace_one, swap_toList, ← swap_join c d _ (StrLaws.split_free x c), StrLaws.join_split]
theorem swap_length (c d : Nat) (x : Str) : (swap c d x).length = x.length := by rw [len_toList, swap_toList, List.length_map, ← len_toList]
theorem swap_not (c d : Nat) (hcd : c ≠ d) (x : Str) : c ∉ (swap c d x).cps.toList := by
  rw [swap_toList]
  intro h
  obtain ⟨k, _, e⟩ := List.mem_map.mp h
  by_cases hk : k = c
  · rw [if_pos hk] at e; exact hcd e.symm
  · rw [if_neg hk] at e; exact hk e
theorem swap_back (c d : Nat) (x : Str) (h : d ∉ x.cps.toList) : swap d c (swap c d x) = x := by
  refine str_ext ?_
  rw [swap_toList, swap_toList, List.map_map]
  conv => rhs; rw [← List.map_id x.cps.toList]
  refine List.map_congr_left fun k hk => ?_
  have hd : k ≠ d := fun e => h (e ▸ hk)
  by_cases hc : k = c
  · simp [hc]
  · simp [hc, hd]

/-- a text of code points -/
def Ok (x : Str) : Prop := ∀ c ∈ x.cps.toList, c < 0x110000
theorem Ok.strOk {x : Str} (h : Ok x) : PyData.strOk x = true := by
  unfold PyData.strOk
  rw [← Array.all_toList, List.all_eq_true]
  exact fun c hc => by simpa using h c hc
theorem Ok.app {x y : Str} (hx : Ok x) (hy : Ok y) : Ok (x ++ y) := fun c hc => by
  rw [cps_app] at hc
  exact (List.mem_append.mp hc).elim (hx c) (hy c)
theorem Ok.row {m : Str} (hm : Ok m) : ∀ (ws : List Str) {f : Str}, Ok f → (∀ w ∈ ws, Ok w) → Ok (rowT f m ws)
  | [], _, hf, _ => hf
  | w :: r, _, hf, h => Ok.row hm r ((hf.app hm).app (h w (.head _))) fun x hx => h x (.tail _ hx)
theorem Ok.swap {x : Str} {c d : Nat} (hx : Ok x) (hd : d < 0x110000) : Ok (swap c d x) := fun k hk => by
  rw [swap_toList] at hk
  obtain ⟨j, hj, rfl⟩ := List.mem_map.mp hk
  by_cases e : j = c
  · simpa [e] using hd
  · simpa [e] using hx j hj
end Mine
end

section
open PySem PySem.W PyProof.Rows PySem.Spec PySem.Calls
set_option Elab.async false
namespace Mine
abbrev tupObj (vs : List Value) : Obj := { cls := .type "tuple", data := .seq vs.toArray }

/-- a contract of a def: what it asks of the ledger, what it hands back and what it adds -/
def CallOK (prog : Program) (w : World) (K : Frag) (f : Addr) (args : List Value) (Pre : List (Addr × Obj) → Prop) (R : Value → List (Addr × Obj) → Prop) : Prop :=
  ∀ (p : Program) (loose : List Str) (mean : ExcName → Option Value) (mg mb : Str → Option Value) (dp un : Nat) (gd : Option (List Code)) (cn : Str) (cs : Scope) (fa : Addr) (ccd : Value) (cl : List (Str × Addr)) (outer : List Env) (A₀ : Around) (base h₀ : Heap) (L : Addr) (m : Str → Option Value) (news : List (Addr × Obj)) (s : Shared)
    (Q E : Value → Shared → Prop),
    Below A₀ base outer h₀ → Fr h₀ L s.heap m → K.In h₀ → News h₀ L s.heap news → Top p loose mean mg mb h₀ → cs.kind = .function → dp + 4 < recursionLimit → un + 128 < cLine → Pre news →
    (∀ v add h' tk', R v add → Fr h₀ L h' m → News h₀ L h' (add ++ news) → (∀ q ∈ add, ∀ p ∈ news, p.1 < q.1) → Q v { s with heap := h', toks := tk' }) →
    wpAny (model prog w) (ktrTop dp un gd cn cs L fa ccd cl outer) (call (.ref f) args) Q E s

theorem CallOK.use {prog : Program} {w : World} {K : Frag} {f : Addr} {args : List Value} {Pre : List (Addr × Obj) → Prop} {R : Value → List (Addr × Obj) → Prop}
    {p : Program} {loose : List Str} {mean : ExcName → Option Value} {mg mb : Str → Option Value} {dp un : Nat} {gd : Option (List Code)} {cn : Str} {cs : Scope} {fa : Addr} {ccd : Value} {cl : List (Str × Addr)} {outer : List Env} {A₀ : Around} {base h₀ : Heap} {L : Addr} {m : Str → Option Value} {news : List (Addr × Obj)} {s : Shared}
    {Q E : Value → Shared → Prop} (c : CallOK prog w K f args Pre R) (B : Below A₀ base outer h₀) (F : Fr h₀ L s.heap m) (X : K.In h₀) (N : News h₀ L s.heap news) (T : Top p loose mean mg mb h₀) (hk : cs.kind = .function) (hd : dp + 4 < recursionLimit) (hu : un + 128 < cLine) (hp : Pre news)
    (ret : ∀ v add h' tk', R v add → Fr h₀ L h' m → News h₀ L h' (add ++ news) → (∀ q ∈ add, ∀ p ∈ news, p.1 < q.1) → Q v { s with heap := h', toks := tk' }) :
    wpAny (model prog w) (ktrTop dp un gd cn cs L fa ccd cl outer) (call (.ref f) args) Q E s :=
  c _ _ _ _ _ _ _ _ _ _ _ _ _ _ _ _ _ _ _ _ _ _ _ B F X N T hk hd hu hp ret
theorem lt_one {D : Addr} {o : Obj} {news : List (Addr × Obj)} (h : ∀ q ∈ [(D, o)], ∀ p ∈ news, p.1 < q.1) : ∀ p ∈ news, p.1 < D := fun p hp => h (D, o) (.head _) p hp
theorem rpart_call {prog : Program} {w : World} {A : Around} {E : Value → Shared → Prop} {s : Shared} {h₀ : Heap} {L : Addr} {m : PySem.Str → Option Value} {news : List (Addr × Obj)} {x y p q r : PySem.Str} {t u : Tok} {Q : Value → Shared → Prop}
    (hrp : Txt.rpartition x y = (p, q, r)) (hF : Fr h₀ L s.heap m) (hN : News h₀ L s.heap news) (hy : (y.length == 0) = false) (hsz : x.length ≤ sizeLine)
    (h : ∀ D ta tb tc h' k, Fr h₀ L h' m → News h₀ L h' ((D, { cls := .type "tuple", data := .seq [.str p ta, .str q tb, .str r tc].toArray }) :: news) → (∀ a ∈ news, a.1 < D) → Q (.ref D) { s with heap := h', toks := k }) :
    wpAny (model prog w) A (call (.builtin "str.rpartition") [.str x t, .str y u]) Q E s :=
  KXpa.rpartition hF hN hy (by rw [hrp]) (by rw [hrp]) (by rw [hrp]) hsz h
theorem sub1 {α : Type} {a b : α} {l : List α} : ∀ p ∈ [a] ++ l, p ∈ a :: b :: l := fun p hp => by
  rcases List.mem_cons.mp hp with rfl | hp
  · exact .head _
  · exact .tail _ (.tail _ hp)
theorem lt1 {D : Addr} {o : Obj} {news : List (Addr × Obj)} (h : AllLt D news) : ∀ q ∈ [(D, o)], ∀ p ∈ news, p.1 < q.1 := by
  intro q hq p hp
  rw [List.mem_singleton.mp hq]
  exact kst_ltOf h p hp
end Mine
end

section
open PySem PySem.W PyProof.Rows PySem.Spec PySem.Calls
set_option Elab.async false
namespace Mine
section
variable {prog : Program} {w : World} {A : Around} {h₀ : Heap} {L : Addr} {m : Str → Option Value} {env : Env} {elt : Expr} {x : Str} {scope : Scope} {cl : List (Str × Addr)} {s : Shared} {S : List (Addr × Obj) → Prop} {Fin : List Value → List (Addr × Obj) → Prop} {news : List (Addr × Obj)}
theorem strs_at : ∀ {vs : List Value} {xs : List Str}, StrsAre vs xs → ∀ (i : Nat) (v : Value), vs[i]? = some v → ∃ y t, xs[i]? = some y ∧ v = .str y t
  | _, _, .nil, i, v, h => by simp at h
  | _, _, .cons y t r, 0, v, h => ⟨y, t, rfl, by simpa using h.symm⟩
  | _, _, .cons y t r, i + 1, v, h => by simpa using strs_at r i v (by simpa using h)

/-- a comprehension over a list of texts whose element leaves the heap as it is -/
theorem crest_strs {vs : List Value} {xs : List Str} (g : Str → Str) (hi : StrsAre vs xs) (hS : S news)
    (turn : ∀ y t I oI C oC D m₂ ys h tk (E' : Value → Shared → Prop), y ∈ xs → LCg.NsObj oC m₂ → m₂ x = some (.str y t) → Fr h₀ L h m → News h₀ L h ((I, oI) :: (C, oC) :: (D, LCg.lst ys) :: news) →
      wpAny (model prog w) A (eval elt (compEnvC scope cl C env)) (fun z s₂ => ∃ t' tk', z = .str (g y) t' ∧ s₂ = { s with heap := h, toks := tk' }) E' { s with heap := h, toks := tk })
    (fin : ∀ ys, StrsAre ys (xs.map g) → Fin ys news) : LCg.CompRest prog w A h₀ L m env elt x scope cl s S (fun i v => vs.toArray[i]? = some v) Fin vs.toArray.size 0 [] news := by
  have hlen : vs.toArray.size = xs.length := by rw [List.size_toArray]; exact hi.length
  rw [hlen]
  have key : ∀ (j i : Nat) (ys : List Value), i + j = xs.length → StrsAre ys ((xs.take i).map g) → LCg.CompRest prog w A h₀ L m env elt x scope cl s S (fun i v => vs.toArray[i]? = some v) Fin j i ys news := by
    intro j
    induction j with
    | zero =>
      intro i ys hij hy
      have e : i = xs.length := by omega
      subst e
      rw [List.take_length] at hy
      exact LCg.CompRest.zero (fin ys hy)
    | succ j ih =>
      intro i ys hij hy
      refine LCg.CompRest.succ ?_
      intro v I oI C oC D m₂ h tk E' hv hC hx F N off ne
      obtain ⟨y, t, hk, rfl⟩ := strs_at hi i v (by simpa using hv)
      refine wpAny_mono (turn y t I oI C oC D m₂ ys h tk E' (List.mem_of_getElem? hk) hC hx F N) (fun z s₂ hq => ?_) fun _ _ e => e
      obtain ⟨t', tk', rfl, rfl⟩ := hq
      refine ⟨h, tk', news, rfl, F, N, off, hS, ?_⟩
      refine ih (i + 1) _ (by omega) ?_
      rw [List.take_add_one, hk]
      simpa using kct_snoc hy
  exact key xs.length 0 [] (by omega) (by simp only [List.take_zero, List.map_nil]; exact .nil)
end
end Mine
end

section
open PySem PySem.W PyProof.Rows PySem.Spec PySem.Calls
set_option Elab.async false
namespace Mine
section
variable {prog : Program} {w : World} {A : Around} {E : Value → Shared → Prop} {s : Shared} {h₀ : Heap} {L D l : Addr} {m : Str → Option Value} {news news' : List (Addr × Obj)}

theorem pick_left (va vb : List Value) (n : Int) (h : n = va.length) : (slicePick (va ++ vb).toArray none (some n) none).toList = va := by
  have e : sliceBounds none (some n) none (va ++ vb).toArray.size = (((0 : Nat) : Int), ((va.length : Nat) : Int), 1) := by
    simp only [sliceBounds, Option.getD_none, show (1 : Int) > 0 by decide, if_true, if_neg (show ¬ (n < 0) by omega), List.size_toArray, List.length_append]
    congr 1
    congr 1
    omega
  rw [kmk_pick_nat _ e]; simp
theorem pick_right (va vb : List Value) (n : Int) (h : n = va.length) : (slicePick (va ++ vb).toArray (some n) none none).toList = vb := by
  have e : sliceBounds (some n) none none (va ++ vb).toArray.size = (((va.length : Nat) : Int), (((va ++ vb).length : Nat) : Int), 1) := by
    simp only [sliceBounds, Option.getD_none, show (1 : Int) > 0 by decide, if_true, if_neg (show ¬ (n < 0) by omega), List.size_toArray, List.length_append]
    congr 1
    omega
  rw [kmk_pick_nat _ e]; simp
theorem pick_init (va : List Value) (v : Value) : (slicePick (va ++ [v]).toArray none (some (-1)) none).toList = va := by
  have e : sliceBounds none (some (-1)) none (va ++ [v]).toArray.size = (((0 : Nat) : Int), ((va.length : Nat) : Int), 1) := by
    simp only [sliceBounds, Option.getD_none, show (1 : Int) > 0 by decide, if_true, List.size_toArray, List.length_append, List.length_singleton]
    congr 1
    congr 1
    rw [if_pos (by decide)]
    omega
  rw [kmk_pick_nat _ e]; simp

theorem tup_ne {a b : Addr} {vs ws : List Value} {ds : List PyData} {as bs : List Addr} {Q : Value → Shared → Prop} (N : News h₀ L s.heap news) (ha : (a, tupObj vs) ∈ news) (hb : (b, tupObj ws) ∈ news)
    (ra : ReadsAll s.heap vs ds as) (rb : ReadsAll s.heap ws ds bs) (hs : SeqAt.shaped (.tuple ds) = true) (he : PyData.eqvAll ds ds = true) (hu : A.units + 64 < cLine) (h : Q (.bool false) s) :
    wpAny (model prog w) A (compareOp .NotEq (.ref a) (.ref b)) Q E s :=
  ne_dataH (reads_tuple_at (N _ ha).1 rfl rfl ra) (reads_tuple_at (N _ hb).1 rfl rfl rb) hs hs hu (by
    have e : PyData.eqv (.tuple ds) (.tuple ds) = true := by simpa [PyData.eqv] using he
    rw [e]; exact h)
theorem tup_ne_ss {a b : Addr} {x y : Str} {t u t' u' : Tok} {Q : Value → Shared → Prop} (N : News h₀ L s.heap news) (ha : (a, tupObj [.str x t, .str y u]) ∈ news) (hb : (b, tupObj [.str x t', .str y u']) ∈ news) (hx : Ok x) (hy : Ok y) (hu : A.units + 64 < cLine) (h : Q (.bool false) s) :
    wpAny (model prog w) A (compareOp .NotEq (.ref a) (.ref b)) Q E s :=
  tup_ne (ds := [.str x, .str y]) N ha hb (.cons (.str _ _) (.cons (.str _ _) .nil)) (.cons (.str _ _) (.cons (.str _ _) .nil)) (by simp [SeqAt.shaped, PyData.canLay0, PyData.canLayAll0, PyData.depth, PyData.depthAll, hx.strOk, hy.strOk]) (by simp [PyData.eqvAll, PyData.eqv]) hu h
theorem tup_ne_sn {a b : Addr} {x : Str} {t t' : Tok} {Q : Value → Shared → Prop} (N : News h₀ L s.heap news) (ha : (a, tupObj [.str x t, .none]) ∈ news) (hb : (b, tupObj [.str x t', .none]) ∈ news) (hx : Ok x) (hu : A.units + 64 < cLine) (h : Q (.bool false) s) :
    wpAny (model prog w) A (compareOp .NotEq (.ref a) (.ref b)) Q E s :=
  tup_ne (ds := [.str x, .none]) N ha hb (.cons (.str _ _) (.cons .none .nil)) (.cons (.str _ _) (.cons .none .nil)) (by simp [SeqAt.shaped, PyData.canLay0, PyData.canLayAll0, PyData.depth, PyData.depthAll, hx.strOk]) (by simp [PyData.eqvAll, PyData.eqv]) hu h
end
end Mine
end

section
open PySem PySem.W PyProof.Rows PySem.Spec PySem.Calls
set_option Elab.async false
namespace Mine
theorem strs_split : ∀ {vs : List Value} {a b : List Str}, StrsAre vs (a ++ b) → ∃ va vb, vs = va ++ vb ∧ StrsAre va a ∧ StrsAre vb b
  | vs, [], b, h => ⟨[], vs, rfl, .nil, h⟩
  | _, x :: r, b, .cons _ t h => by
    obtain ⟨va, vb, rfl, h1, h2⟩ := strs_split (a := r) h
    exact ⟨_ :: va, vb, rfl, .cons _ t h1, h2⟩
theorem strs_app {va vb : List Value} {a b : List Str} : StrsAre va a → StrsAre vb b → StrsAre (va ++ vb) (a ++ b)
  | .nil, h => h
  | .cons x t r, h => .cons x t (strs_app r h)
theorem strs_one {v : Value} {x : Str} {t : Tok} (e : v = .str x t) : StrsAre [v] [x] := by subst e; exact .cons _ _ .nil
theorem strs_areOf : ∀ {vs : List Value} {xs : List Str}, StrsAre vs xs → AreOf ItemKind.str vs xs
  | _, _, .nil => .nil
  | _, _, .cons _ t h => .cons ⟨t, rfl⟩ (strs_areOf h)
theorem strs_rev : ∀ {vs : List Value} {xs : List Str}, StrsAre vs xs → StrsAre vs.reverse xs.reverse
  | _, _, .nil => .nil
  | _, _, .cons x t h => by
    rw [List.reverse_cons, List.reverse_cons]
    exact strs_app (strs_rev h) (.cons x t .nil)
theorem strs_carried : ∀ {ys : List Value} {xs : List Str}, CarriedAll ys (xs.map PyData.str) → StrsAre ys xs
  | _, [], h => by cases h; exact .nil
  | _, x :: r, h => by
    cases h with
    | cons h1 h2 =>
      cases h1
      exact .cons _ _ (strs_carried h2)
theorem strs_last {vs : List Value} {a : List Str} (h : StrsAre vs a) : (vs = [] ∧ a = []) ∨ ∃ vp p u tu, vs = vp ++ [.str u tu] ∧ a = p ++ [u] ∧ StrsAre vp p := by
  rcases List.eq_nil_or_concat a with rfl | ⟨p, u, rfl⟩
  · cases h; exact .inl ⟨rfl, rfl⟩
  · rw [List.concat_eq_append] at h
    obtain ⟨vp, vq, rfl, h1, h2⟩ := strs_split h
    cases h2 with
    | cons x t r => cases r; exact .inr ⟨vp, p, u, t, rfl, by simp, h1⟩
theorem strs_first {vs : List Value} {b : List Str} (h : StrsAre vs b) : (vs = [] ∧ b = []) ∨ ∃ vq q u tu, vs = .str u tu :: vq ∧ b = u :: q ∧ StrsAre vq q := by
  cases h with
  | nil => exact .inl ⟨rfl, rfl⟩
  | cons x t r => exact .inr ⟨_, _, x, t, rfl, rfl, r⟩
section
variable {prog : Program} {w : World} {A : Around} {E : Value → Shared → Prop} {s : Shared} {h₀ : Heap} {L D l : Addr} {m : Str → Option Value} {news news' : List (Addr × Obj)}
theorem tr_nil {c : Nat} {Q : Bool → Shared → Prop} (N : News h₀ L s.heap news) (hm : (l, listOf ([] : List Value).toArray c) ∈ news) (h : Q false { s with toks := s.toks + 1 + 1 }) : wpAny (model prog w) A (truthy (.ref l)) Q E s :=
  kgr_truthy (vs := []) N hm rfl rfl (by decide) h
theorem tr_snoc {c : Nat} {vs : List Value} {v : Value} {Q : Bool → Shared → Prop} (N : News h₀ L s.heap news) (hm : (l, listOf (vs ++ [v]).toArray c) ∈ news) (hz : (vs ++ [v]).length < 2 ^ 62) (h : Q true { s with toks := s.toks + 1 + 1 }) : wpAny (model prog w) A (truthy (.ref l)) Q E s :=
  kgr_truthy (vs := vs ++ [v]) N hm rfl rfl hz (by rw [show (!(vs ++ [v]).isEmpty) = true by simp]; exact h)
theorem item_last {value slice : PySem.Expr} {c : Nat} {vs : List Value} {v : Value} {u : Tok} {Q : Value → Shared → Prop} (N : News h₀ L s.heap news) (hm : (l, listOf (vs ++ [v]).toArray c) ∈ news) (h : Q v s)
    (hs : subscripted slice false (.ref l) (.int (-1) u) = operate [.ref l, .int (-1) u] (getItem (.ref l) (.int (-1) u))) (hg : ∀ r, letTemporaryGo value (.ref l) r = pure ()) :
    wpAny (model prog w) A (subscriptTail value slice (.ref l) (.int (-1) u)) Q E s :=
  kim_back (l := vs ++ [v]) N hm rfl rfl (by decide) (by simp; omega) (by decide) (by
    have e : ((-1 : Int) + ((vs ++ [v]).length : Int)).toNat = vs.length := by simp; omega
    rw [e]; simp) h hs hg
theorem sl_lit {value slice : PySem.Expr} {c : Nat} {vs zs : List Value} {vl vu : Value} {lo hi : Option Int} {Q : Value → Shared → Prop} (F : Fr h₀ L s.heap m) (N : News h₀ L s.heap news) (hm : (l, listOf vs.toArray c) ∈ news) (pl : IsPart vl lo) (pu : IsPart vu hi) (e : (slicePick vs.toArray lo hi none).toList = zs)
    (h : ∀ D h', Fr h₀ L h' m → News h₀ L h' ((D, listOf zs.toArray 0) :: news) → (∀ p ∈ news, p.1 < D) → Q (.ref D) { s with heap := h' })
    (hs : subscripted slice false (.ref l) (.ref s.heap.objs.size) = operate [.ref s.heap.objs.size, .ref l] (getItem (.ref l) (.ref s.heap.objs.size))) (ht : ∀ r, letTemporaryGo value (.ref l) r = pure ()) (hz : vs.length ≤ sizeLine) :
    wpAny (model prog w) A (subscriptTail value slice (.ref l) (.ref s.heap.objs.size)) Q E { s with heap := s.heap.push { cls := .type "slice", data := .fields #[vl, vu, .none] } } :=
  kmk_slice_lit F N (News.isList N hm) pl pu e h hs ht (by rw [List.size_toArray]; exact hz)
end
end Mine
end

section
open PySem PySem.W PyProof.Rows PySem.Spec PySem.Calls
set_option Elab.async false
namespace Mine
section
variable {prog : Program} {w : World} {A : Around} {E : Value → Shared → Prop} {s : Shared} {h₀ : Heap} {L : Addr} {m : Str → Option Value}
/-- what is wanted of the source of «z = [elt for x in iter]», texts in and texts out -/
def CompIn (prog : Program) (w : World) (A : Around) (h₀ : Heap) (L : Addr) (env : Env) (scope : Scope) (elt : Expr) (x z : Str) (g : Str → Str) (Q : Flow → Shared → Prop) (xv : Value) (s₁ : Shared) : Prop :=
  ∃ l vs xs m news, xv = .ref l ∧ s₁.heap.IsList l vs.toArray ∧ StrsAre vs xs ∧ Fr h₀ L s₁.heap m ∧ News h₀ L s₁.heap news ∧ xs.length ≤ sizeLine ∧
    (∀ C y t s₂ m₂ E', y ∈ xs → s₂.heap.Ns (compEnv scope C env).locals m₂ → m₂ x = some (.str y t) → s₁.toks ≤ s₂.toks → wpAny (model prog w) A (eval elt (compEnv scope C env)) (fun r s₃ => Carried r (.str (g y)) ∧ Keeps s₂ s₃) E' s₂) ∧
    (∀ D n ys h' tk, Fr h₀ L h' (fun q => if q = z then some (.ref D) else m q) → News h₀ L h' ((D, listOf (List.toArray ys) n) :: news) → (∀ p ∈ news, p.1 ≠ D) → StrsAre ys (xs.map g) → Q .next { s₁ with heap := h', toks := tk })
theorem comp_texts {name : Str} {fscope : Scope} {a : Addr} {cd : Value} {elt iter : Expr} {x z : Str} {px py : Pos} {scope : Scope} {pos spos : Pos} {Q : Flow → Shared → Prop} (g : Str → Str)
    (_F : Fr h₀ L s.heap m)
    (h : wpAny (model prog w) A (eval iter (envOf name fscope L a cd)) (CompIn prog w A h₀ L (envOf name fscope L a cd) scope elt x z g Q) E s)
    (hh : A.handled = none)
    (hsw : swapsWith (.ListComp elt [⟨.Name x px, iter, [], 0⟩] scope pos) (some (.Name z py)) spos.line (envOf name fscope L a cd) = pure true)
    (hfree : ∀ z ∈ scope.names, z.2 ≠ .free) (hcell : ∀ z ∈ scope.names, z.2 ≠ .cell) (hkind : scope.kind = .function)
    (hnames : ∀ z ∈ scope.names, z.2 = .local → scope.names.lookup z.1 = some .local) (hx : scope.names.lookup x = some .local)
    (hy : (envOf name fscope L a cd).kindOf z = some .local) (hp : ((envOf name fscope L a cd).scope.kind == .class || ((envOf name fscope L a cd).scope.kind == .module && (envOf name fscope L a cd).locals != (envOf name fscope L a cd).globals)) = false)
    (hs : ∀ x, foldedSetIterable iter (envOf name fscope L a cd) x = pure x) :
    wpAny (model prog w) A (exec (.Assign [.Name z py] (.ListComp elt [⟨.Name x px, iter, [], 0⟩] scope pos) spos) (envOf name fscope L a cd)) Q E s := by
  refine Assign_ListComp_rowsP hsw hfree hcell hkind hnames hx hy hp (wpAny_mono h (fun xv s₁ h₁ => ?_) fun _ _ e => e) hs
  obtain ⟨l, vs, xs, m, news, rfl, hl, hi, F, N, hz, hel, hq⟩ := h₁
  refine srcA_listDW (K := ItemKind.str) (pz := fun _ => true) (d := fun y => PyData.str (g y)) hh hl (strs_areOf hi) F N ?_ ?_ ?_ hz
  · intro C y v s₂ m₂ E' _ _ _ _ _
    exact wpAny_tests_nil ⟨rfl, s₂.heap, s₂.toks, rfl, fun _ _ e => e⟩
  · intro C y v s₂ m₂ E' hm hv _ hn hx' ht
    obtain ⟨t, rfl⟩ := hv
    exact hel C y t s₂ m₂ E' hm hn hx' ht
  · intro D ys h' tk F' N' hD hlD hpl hc
    obtain ⟨⟨n, hobj⟩, hne⟩ := hpl
    have hne' : D ≠ L := NewPlain.ne_locals ⟨⟨n, hobj⟩, hne⟩ F'
    refine hq D n ys h' tk F' (fun p hp => ?_) hne (strs_carried (by
      have e : xs.filter (fun _ => true) = xs := List.filter_eq_self.mpr fun _ _ => rfl
      rw [e] at hc
      rw [List.map_map]; exact hc))
    rcases List.mem_cons.mp hp with rfl | hp
    · exact ⟨hobj, hne', hD⟩
    · exact N' p hp
end
end Mine
end

section
open PySem PySem.W PyProof.Rows PySem.Spec PySem.Calls
set_option Elab.async false
namespace Mine
section
variable {prog : Program} {w : World} {A : Around} {E : Value → Shared → Prop} {s : Shared} {h₀ : Heap} {L D l : Addr} {m : Str → Option Value} {news news' : List (Addr × Obj)}
theorem menu_item {P : Str → Prop} {value slice : PySem.Expr} {c : Nat} {vs : List Value} {ws : List Str} {i : Int} {u : Tok} {Q : Value → Shared → Prop} (hP : ∀ y ∈ ws, P y) (N : News h₀ L s.heap news) (hm : (l, listOf vs.toArray c) ∈ news) (hw : StrsAre vs ws) (h0 : 0 ≤ i) (h1 : i < (ws.length : Int)) (hl : ws.length ≤ 8)
    (h : ∀ y t', P y → Q (.str y t') s)
    (hs : subscripted slice false (.ref l) (.int i u) = operate [.ref l, .int i u] (getItem (.ref l) (.int i u))) :
    wpAny (model prog w) A (subscriptTail value slice (.ref l) (.int i u)) Q E s :=
  KTb.item_list (News.isList N hm) hw h0 h1 (by omega) (fun t' hlt => h _ t' (hP _ (by
    rw [List.getD_eq_getElem?_getD, List.getElem?_eq_getElem hlt]; exact List.getElem_mem hlt))) hs
theorem len_item {c : Nat} {vs : List Value} {Q : Value → Shared → Prop} (N : News h₀ L s.heap news) (hm : (l, listOf vs.toArray c) ∈ news) (hfit : (vs.length : Int) < 2 ^ 63)
    (h : Q (.int (vs.length : Int) (s.toks + 1)) { s with toks := s.toks + 1 + 1 }) : wpAny (model prog w) A (call (.builtin "len") [.ref l]) Q E s :=
  kst_len N hm rfl hfit h
theorem insert_at {c : Nat} {va vb : List Value} {x : Int} {u : Tok} {y : Value} {Q : Value → Shared → Prop} (hx : x = (va.length : Int)) (F : Fr h₀ L s.heap m) (N : News h₀ L s.heap news)
    (U : Upd D (listOf (va ++ vb).toArray c) (listOf (va ++ y :: vb).toArray (c + 1)) news news') (hz : (va ++ vb).length ≤ sizeLine) (h : ∀ h', Fr h₀ L h' m → News h₀ L h' news' → Q .none { s with heap := h' }) :
    wpAny (model prog w) A (call (.builtin "list.insert") [.ref D, .int x u, y]) Q E s := by
  have hz' : va.length ≤ 16777216 := by rw [List.length_append, sizeLine_eq] at hz; omega
  refine kl_insert (l := va ++ y :: vb) F N ?_ ?_ U (by simpa using hz) h
  · subst hx
    unfold Builtin.List.listFitsIndex
    simp only [Bool.and_eq_true, decide_eq_true_eq]
    omega
  · subst hx
    unfold kl_ins
    rw [if_neg (by omega)]
    have e : min ((va.length : Int)).toNat (va ++ vb).toArray.toList.length = va.length := by simp
    rw [e]; simp
theorem pop_at {c : Nat} {vp vb : List Value} {x : Int} {u : Tok} {y : Value} {Q : Value → Shared → Prop} (hx : x = (vp.length : Int)) (F : Fr h₀ L s.heap m) (N : News h₀ L s.heap news)
    (U : Upd D (listOf (vp ++ [y] ++ vb).toArray c) (listOf (vp ++ vb).toArray (c + 1)) news news') (hz : (vp ++ [y] ++ vb).length ≤ sizeLine) (h : ∀ h', Fr h₀ L h' m → News h₀ L h' news' → Q y { s with heap := h' }) :
    wpAny (model prog w) A (call (.builtin "list.pop") [.ref D, .int x u]) Q E s := by
  have hz' : vp.length ≤ 16777216 := by simp only [List.length_append, sizeLine_eq] at hz; omega
  have hcut : ∀ p : List Value, kl_cut (p ++ [y] ++ vb) p.length = some (p, y, vb) := by
    intro p
    induction p with
    | nil => rfl
    | cons v r ih =>
      show (match kl_cut (r ++ [y] ++ vb) r.length with | some (p, y, q) => some (v :: p, y, q) | none => none) = _
      rw [ih]
  refine kl_popAt (k := vp.length) (p := vp) (q := vb) F N ?_ ?_ (hcut vp) U (by simpa using hz) h
  · subst hx
    unfold Builtin.List.listFitsIndex
    simp only [Bool.and_eq_true, decide_eq_true_eq]
    omega
  · subst hx
    rw [StrLaws.seqIndex_nonneg (by omega) (by simp; omega)]
    simp
theorem set_at {c : Nat} {vs ws : List Value} {k : Int} {t : Tok} {v : Value} {Q : Unit → Shared → Prop} (F : Fr h₀ L s.heap m) (N : News h₀ L s.heap news) (h0 : 0 ≤ k) (h1 : k < (vs.length : Int)) (hfit : k < 2 ^ 63) (e : vs.set k.toNat v = ws)
    (U : Upd D (listOf vs.toArray c) (listOf ws.toArray c) news news') (h : ∀ h', Fr h₀ L h' m → News h₀ L h' news' → Q () { s with heap := h' }) :
    wpAny (model prog w) A (setItem (.ref D) (.int k t) v) Q E s := by
  subst e
  obtain ⟨pre, post, rfl, rfl, a, b⟩ := U.split
  have z := N (D, listOf vs.toArray c) (List.mem_append.mpr (.inr (.head _)))
  refine ki_setAt z.1 h0 hfit (by simpa using h1) (h _ (F.change (Heap.SameBut.update ..) z.2.1 z.2.2) (ki_turn _ N a b ?_ ?_))
  · show vs.toArray.setIfInBounds k.toNat v = (vs.set k.toNat v).toArray
    apply Array.toList_inj.mp
    simp
  · simp
theorem get_at {value slice : PySem.Expr} {c : Nat} {vs : List Value} {k : Int} {t : Tok} {v : Value} {Q : Value → Shared → Prop} (N : News h₀ L s.heap news) (hm : (D, listOf vs.toArray c) ∈ news) (h0 : 0 ≤ k) (hfit : k < 2 ^ 63) (e : vs[k.toNat]? = some v) (h : Q v s)
    (hs : subscripted slice false (.ref D) (.int k t) = operate [.ref D, .int k t] (getItem (.ref D) (.int k t))) (hg : ∀ r, letTemporaryGo value (.ref D) r = pure ()) :
    wpAny (model prog w) A (subscriptTail value slice (.ref D) (.int k t)) Q E s := kim_list N hm rfl rfl h0 hfit e h hs hg
end
end Mine
end

section
open PySem PySem.W PyProof.Rows PySem.Spec PySem.Calls
set_option Elab.async false
namespace Mine
open PySem.NumText
/-- what stands behind the last colon, read as a port -/
def PortOut (b : Str) (v w : Value) : Prop :=
  (b = Str.ofString "" ∧ w = v) ∨ (b ≠ Str.ofString "" ∧ AllDigits b.cps.toList ∧ ∃ t, w = .int ((digitsVal b.cps.toList : Nat) : Int) t) ∨ (b ≠ Str.ofString "" ∧ ¬ AllDigits b.cps.toList ∧ w = .none)
theorem isdigit_all {b : Str} (hne : b ≠ Str.ofString "") (h : AllDigits b.cps.toList) : Txt.isdigit b = true ∧ Txt.isascii b = true := by
  have hl : b.cps.toList ≠ [] := fun e => hne (str_ext (by rw [e]; decide +kernel))
  have hp : 0 < b.length := by rw [len_toList]; exact List.length_pos_iff.mpr hl
  have key : ∀ c : Nat, 48 ≤ c ∧ c ≤ 57 → Unicode.isDigit c = true := by
    intro c hc
    rcases (by omega : c = 48 ∨ c = 49 ∨ c = 50 ∨ c = 51 ∨ c = 52 ∨ c = 53 ∨ c = 54 ∨ c = 55 ∨ c = 56 ∨ c = 57) with rfl | rfl | rfl | rfl | rfl | rfl | rfl | rfl | rfl | rfl <;> decide +kernel
  constructor
  · unfold Txt.isdigit
    rw [Bool.and_eq_true, ← Array.all_toList, List.all_eq_true]
    exact ⟨by simpa using hp, fun c hc => key c (h c hc)⟩
  · unfold Txt.isascii
    rw [← Array.all_toList, List.all_eq_true]
    exact fun c hc => by have := h c hc; simp; omega
theorem digits_of_is {b : Str} (h1 : Txt.isdigit b = true) (h2 : Txt.isascii b = true) : AllDigits b.cps.toList := by
  unfold Txt.isdigit at h1
  unfold Txt.isascii at h2
  rw [Bool.and_eq_true, ← Array.all_toList, List.all_eq_true] at h1
  rw [← Array.all_toList, List.all_eq_true] at h2
  intro c hc
  have e1 := h1.2 c hc
  have e2 : c < 128 := by simpa using h2 c hc
  have key : (List.range 128).all (fun c => !(Unicode.isDigit c) || (decide (48 ≤ c) && decide (c ≤ 57))) = true := by decide +kernel
  have k := List.all_eq_true.mp key c (List.mem_range.mpr e2)
  rw [e1] at k
  simpa using k
theorem truthy_len {b : Str} (hne : b ≠ Str.ofString "") : b.length ≠ 0 := by
  intro e
  apply hne
  refine str_ext ?_
  rw [len_toList] at e
  rw [List.length_eq_zero_iff.mp e]; decide +kernel
theorem port_reads {b : Str} (hne : b ≠ Str.ofString "") (h : AllDigits b.cps.toList) (hl : b.length ≤ 640) : PySem.intText? b = some ((digitsVal b.cps.toList : Nat) : Int) :=
  intText_digits h (fun e => hne (str_ext (by rw [e]; decide +kernel))) (Nat.le_trans hl (by decide))
theorem not_digits {b : Str} (h : ¬ AllDigits b.cps.toList) : Txt.isdigit b = false ∨ Txt.isdigit b = true ∧ Txt.isascii b = false := by
  cases h1 : Txt.isdigit b with
  | false => exact .inl rfl
  | true =>
    refine .inr ⟨rfl, ?_⟩
    cases h2 : Txt.isascii b with
    | false => rfl
    | true => exact absurd (digits_of_is h1 h2) h
end Mine
end

section
open PySem PySem.W PyProof.Rows PySem.Spec PySem.Calls
set_option Elab.async false
namespace Mine
/-- no exception leaves -/
abbrev NoE : Value → Shared → Prop := fun _ _ => False
/-- a name of the text's own list of statements -/
def nthS : List Stmt → Nat → Stmt
  | [], _ => .Pass default
  | a :: _, 0 => a
  | _ :: r, n + 1 => nthS r n
def fnBody : Stmt → List Stmt
  | .FunctionDef _ _ body _ _ _ _ _ _ _ => body
  | _ => []
def fnScope : Stmt → Scope
  | .FunctionDef _ _ _ _ _ _ scope _ _ _ => scope
  | _ => default
def forBody : Stmt → List Stmt
  | .For _ _ body _ _ => body
  | _ => []
def elseBody : Stmt → List Stmt
  | .If _ _ e _ => e
  | _ => []
def thenBody : Stmt → List Stmt
  | .If _ b _ _ => b
  | _ => []
section
variable {prog : Program} {w : World} {A : Around} {E : Value → Shared → Prop} {s : Shared} {env : Env} {h₀ : Heap} {x : Str} {body : List Stmt} {Q : Flow → Shared → Prop}
/-- what a turn of a loop ends in -/
def TurnEnd (h₀ : Heap) (L : Addr) (I : Addr) (own : List (Addr × Obj)) (J : (Str → Option Value) → List (Addr × Obj) → Prop) (s₁ : Shared) (Q : Flow → Shared → Prop) (f : Flow) (s₂ : Shared) : Prop :=
  match f with
  | .ret v => Q (.ret v) s₂
  | .brk => Q .next s₂
  | _ => ∃ h' tk m' news', s₂ = { s₁ with heap := h', toks := tk } ∧ Fr h₀ L h' m' ∧ News h₀ L h' (own ++ news') ∧ (∀ p ∈ news', p.1 ≠ I) ∧ J m' news'
theorem TurnEnd.go {L I : Addr} {own : List (Addr × Obj)} {J : (Str → Option Value) → List (Addr × Obj) → Prop} {s₁ : Shared} {h' : Heap} {tk : Nat} {m' : Str → Option Value} {news' : List (Addr × Obj)}
    (F : Fr h₀ L h' m') (N : News h₀ L h' (own ++ news')) (hI : ∀ p ∈ news', p.1 ≠ I) (hJ : J m' news') : TurnEnd h₀ L I own J s₁ Q .next { s₁ with heap := h', toks := tk } := ⟨h', tk, m', news', rfl, F, N, hI, hJ⟩
theorem loop_walk {I : Addr} {fp : List Addr} {n : Nat} {P : Nat → Value → Prop} {St : Nat → Heap → Prop} {m₀ : Str → Option Value} {news : List (Addr × Obj)} {s₂ : Shared} (J : Nat → (Str → Option Value) → List (Addr × Obj) → Prop)
    (W : Walks prog w A I fp [I] n P St) (hLf : env.locals ∉ fp) (hI : h₀.get? I = none) (hnw : ∀ p ∈ news, p.1 ≠ I) (hst : St 0 s₂.heap) (F : Fr h₀ env.locals s₂.heap m₀) (N : News h₀ env.locals s₂.heap news) (h0 : J 0 m₀ news)
    (turn : ∀ i v m₁ news₁ h tk own, i < n → P i v → J i m₁ news₁ → (∀ p ∈ news₁, p.1 ≠ I) → (∀ p ∈ own, p.1 ∈ fp) → (∀ b ∈ fp, h₀.get? b = none → ∀ o, h.get? b = some o → (b, o) ∈ own) → St (i + 1) h →
      Fr h₀ env.locals h (fun y => if y = x then some v else m₁ y) → News h₀ env.locals h (own ++ news₁) →
      wpAny (model prog w) A (execs body env) (TurnEnd h₀ env.locals I own (J (i + 1)) { s₂ with heap := h, toks := tk } Q) E { s₂ with heap := h, toks := tk })
    (done : ∀ h' tk m' news', Fr h₀ env.locals h' m' → News h₀ env.locals h' news' → J n m' news' → Q .next { s₂ with heap := h', toks := tk }) :
    LoopAtV prog w A h₀ env x body Q E (.ref I) s₂ := by
  refine ⟨I, fp, [I], n, P, St, m₀, news, J, rfl, W, hLf, fun b hb => (List.mem_singleton.mp hb) ▸ hI, fun p hp h => hnw p hp (List.mem_singleton.mp h), hst, F, N, h0, ?_, fun h' tk m' news' F' N' _ hJ => done h' tk m' news' F' N' hJ⟩
  rintro i v m₁ news₁ _ own ⟨h, tk, rfl⟩ hi hP hJ hoff hown _ hfp hst₁ F₁ N₁
  refine wpAny_mono (turn i v m₁ news₁ h tk own hi hP hJ (fun p hp e => hoff p hp (List.mem_singleton.mpr e)) hown hfp hst₁ F₁ N₁) (fun f s₃ q => ?_) fun _ _ e => e
  have fin : (∃ h' tk' m' news', s₃ = { s₂ with heap := h', toks := tk' } ∧ Fr h₀ env.locals h' m' ∧ News h₀ env.locals h' (own ++ news') ∧ (∀ p ∈ news', p.1 ≠ I) ∧ J (i + 1) m' news') → LoopStepU h₀ env.locals [I] own (J (i + 1)) { s₂ with heap := h, toks := tk } .next s₃ := by
    rintro ⟨h', tk', m', news', e, F', N', hI', hJ'⟩
    exact ⟨rfl, h', tk', m', news', e, F', N', fun p hp h => hI' p hp (List.mem_singleton.mp h), hJ'⟩
  cases f with
  | ret v => exact .ret q
  | brk => exact .brk q
  | next => exact .next (fin q)
  | cont => exact .cont (fin q)

/-- a loop over a list of the ledger -/
theorem for_list {l : Addr} {vs : List Value} {c : Nat} {m₀ : Str → Option Value} {news : List (Addr × Obj)} (J : Nat → (Str → Option Value) → List (Addr × Obj) → Prop)
    (hh : A.handled = none) (hl : (l, listOf vs.toArray c) ∈ news) (F : Fr h₀ env.locals s.heap m₀) (N : News h₀ env.locals s.heap news) (hj : J 0 m₀ news)
    (turn : ∀ I, (∀ p ∈ news, p.1 < I) → ∀ i v m₁ news₁ h tk own, vs[i]? = some v → J i m₁ news₁ → (∀ p ∈ own, p.1 = I ∨ p.1 = l) → (l, listOf vs.toArray c) ∈ own → (∃ oI, (I, oI) ∈ own) → (∀ p ∈ news₁, p.1 ≠ I) →
      Fr h₀ env.locals h (fun y => if y = x then some v else m₁ y) → News h₀ env.locals h (own ++ news₁) →
      wpAny (model prog w) A (execs body env) (TurnEnd h₀ env.locals I own (J (i + 1)) { s with heap := h, toks := tk } Q) E { s with heap := h, toks := tk })
    (done : ∀ h' tk m' news', Fr h₀ env.locals h' m' → News h₀ env.locals h' news' → J vs.length m' news' → Q .next { s with heap := h', toks := tk }) :
    wpAny (model prog w) A (pyIter (.ref l)) (fun it s₂ => LoopAtV prog w A h₀ env x body Q E it s₂) E s := by
  have hol : s.heap.get? l = some (listOf vs.toArray c) := (N _ hl).1
  have hls : s.heap.IsList l vs.toArray := ⟨_, hol, rfl, c, rfl⟩
  have hne : l ≠ s.heap.objs.size := Nat.ne_of_lt (Heap.lt_size hol)
  refine wpAny_pyIter_list hls ?_
  have W := Walks.list (prog := prog) (w := w) hh s.heap.objs.size l hne vs.toArray
  rw [List.size_toArray] at W
  have hlt : ∀ p ∈ news, p.1 < s.heap.objs.size := fun p hp => Heap.lt_size (N p hp).1
  refine loop_walk (news := (l, listOf vs.toArray c) :: news) (fun i m nx => ∃ nx', nx = (l, listOf vs.toArray c) :: nx' ∧ J i m nx') W ?_ (next_is_new F) (fun p hp => ?_) ⟨⟨_, Heap.get?_push_size _ rfl, rfl, rfl⟩, hls.at fun o e => Heap.get?_push_of_some _ e⟩ (F.push _) (fun p hp => ?_) ⟨_, rfl, hj⟩ ?_ ?_
  · intro hm
    rcases List.mem_cons.mp hm with e | hm
    · exact absurd F.ns.lt (e ▸ Nat.lt_irrefl _)
    · exact (N _ hl).2.1 ((List.mem_singleton.mp hm).symm)
  · rcases List.mem_cons.mp hp with rfl | hp
    · exact hne
    · exact Nat.ne_of_lt (hlt p hp)
  · rcases List.mem_cons.mp hp with rfl | hp
    · exact ⟨Heap.get?_push_of_some _ hol, (N _ hl).2⟩
    · exact ⟨Heap.get?_push_of_some _ (N p hp).1, (N p hp).2⟩
  · rintro i v m₁ _ h tk own hi hP ⟨news₁, rfl, hJ⟩ hoff hown hfp hst F₁ N₁
    obtain ⟨oI, hoI, _⟩ := hst.1
    refine wpAny_mono (turn s.heap.objs.size hlt i v m₁ news₁ h tk (own ++ [(l, listOf vs.toArray c)]) (by simpa using hP) hJ (fun p hp => ?_) (List.mem_append_right _ (.head _)) ⟨oI, List.mem_append_left _ (hfp _ (.head _) (next_is_new F) _ hoI)⟩ (fun p hp => hoff p (.tail _ hp)) F₁ (by rw [List.append_assoc]; exact N₁)) (fun f s₃ q => ?_) fun _ _ e => e
    · rcases List.mem_append.mp hp with hp | hp
      · rcases List.mem_cons.mp (hown p hp) with e | e
        · exact .inl e
        · exact .inr (List.mem_singleton.mp e)
      · rw [List.mem_singleton.mp hp]; exact .inr rfl
    · have fin : (∃ h' tk' m' news', s₃ = { s with heap := h', toks := tk' } ∧ Fr h₀ env.locals h' m' ∧ News h₀ env.locals h' (own ++ [(l, listOf vs.toArray c)] ++ news') ∧ (∀ p ∈ news', p.1 ≠ s.heap.objs.size) ∧ J (i + 1) m' news') →
          ∃ h' tk' m' news', s₃ = { s with heap := h', toks := tk' } ∧ Fr h₀ env.locals h' m' ∧ News h₀ env.locals h' (own ++ news') ∧ (∀ p ∈ news', p.1 ≠ s.heap.objs.size) ∧ ∃ nx', news' = (l, listOf vs.toArray c) :: nx' ∧ J (i + 1) m' nx' := by
        rintro ⟨h', tk', m', news', e, F', N', hI', hJ'⟩
        refine ⟨h', tk', m', (l, listOf vs.toArray c) :: news', e, F', by rw [List.append_assoc] at N'; exact N', fun p hp => ?_, _, rfl, hJ'⟩
        rcases List.mem_cons.mp hp with rfl | hp
        · exact hne
        · exact hI' p hp
      cases f with
      | ret v => exact q
      | brk => exact q
      | next => exact fin q
      | cont => exact fin q
  · rintro h' tk m' _ F' N' ⟨news', rfl, hJ⟩
    exact done h' tk m' news' F' (fun p hp => N' p (.tail _ hp)) hJ
/-- one object of the ledger is another one -/
theorem upd_flex {D : Addr} {o : Obj} {news : List (Addr × Obj)} (o' : Obj) : Upd D o o' ((D, o) :: news.filter fun p => decide (p.1 ≠ D)) ((D, o') :: news.filter fun p => decide (p.1 ≠ D)) :=
  Upd.head fun p hp => by simpa using (List.mem_filter.mp hp).2
theorem news_flex {L D : Addr} {o : Obj} {h : Heap} {news : List (Addr × Obj)} (N : News h₀ L h news) (hm : (D, o) ∈ news) : News h₀ L h ((D, o) :: news.filter fun p => decide (p.1 ≠ D)) := fun p hp => by
  rcases List.mem_cons.mp hp with rfl | hp
  · exact N _ hm
  · exact N _ (List.mem_filter.mp hp).1
theorem news_back {L D : Addr} {o' : Obj} {h : Heap} {news : List (Addr × Obj)} (N : News h₀ L h ((D, o') :: news.filter fun p => decide (p.1 ≠ D))) : ∀ news', (∀ p ∈ news', p = (D, o') ∨ (p ∈ news ∧ p.1 ≠ D)) → News h₀ L h news' := fun news' hs p hp => by
  rcases hs p hp with rfl | ⟨h1, h2⟩
  · exact N _ (.head _)
  · exact N _ (.tail _ (List.mem_filter.mpr ⟨h1, by simpa using h2⟩))
/-- the same, where the list stands beside the ledger that the loop keeps -/
theorem for_list2 {l : Addr} {vs : List Value} {c : Nat} {m₀ : Str → Option Value} {big news : List (Addr × Obj)} (J : Nat → (Str → Option Value) → List (Addr × Obj) → Prop)
    (hh : A.handled = none) (hl : (l, listOf vs.toArray c) ∈ big) (F : Fr h₀ env.locals s.heap m₀) (N : News h₀ env.locals s.heap big) (hs : ∀ p ∈ news, p ∈ big) (hj : J 0 m₀ news)
    (turn : ∀ I, (∀ p ∈ big, p.1 < I) → ∀ i v m₁ news₁ h tk own, vs[i]? = some v → J i m₁ news₁ → (∀ p ∈ own, p.1 = I ∨ p.1 = l) → (l, listOf vs.toArray c) ∈ own → (∃ oI, (I, oI) ∈ own) → (∀ p ∈ news₁, p.1 ≠ I) →
      Fr h₀ env.locals h (fun y => if y = x then some v else m₁ y) → News h₀ env.locals h (own ++ news₁) →
      wpAny (model prog w) A (execs body env) (TurnEnd h₀ env.locals I own (J (i + 1)) { s with heap := h, toks := tk } Q) E { s with heap := h, toks := tk })
    (done : ∀ h' tk m' news', Fr h₀ env.locals h' m' → News h₀ env.locals h' news' → J vs.length m' news' → Q .next { s with heap := h', toks := tk }) :
    wpAny (model prog w) A (pyIter (.ref l)) (fun it s₂ => LoopAtV prog w A h₀ env x body Q E it s₂) E s := by
  refine for_list (fun i m nx => ∃ nx', (∀ p ∈ nx', p ∈ nx) ∧ J i m nx') hh hl F N ⟨news, hs, hj⟩ ?_ ?_
  · rintro I hI i v m₁ news₁ h tk own hv ⟨nx', hsub, hJ⟩ h1 h2 h3 h4 F₁ N₁
    refine wpAny_mono (turn I hI i v m₁ nx' h tk own hv hJ h1 h2 h3 (fun p hp => h4 p (hsub p hp)) F₁ fun p hp => ?_) (fun f s₃ q => ?_) fun _ _ e => e
    · rcases List.mem_append.mp hp with hp | hp
      · exact N₁ _ (List.mem_append_left _ hp)
      · exact N₁ _ (List.mem_append_right _ (hsub _ hp))
    · cases f with
      | ret v => exact q
      | brk => exact q
      | next => obtain ⟨h', tk', m', news', e, F', N', hI', hJ'⟩ := q; exact ⟨h', tk', m', news', e, F', N', hI', news', fun _ h => h, hJ'⟩
      | cont => obtain ⟨h', tk', m', news', e, F', N', hI', hJ'⟩ := q; exact ⟨h', tk', m', news', e, F', N', hI', news', fun _ h => h, hJ'⟩
  · rintro h' tk m' news' F' N' ⟨nx', hsub, hJ⟩
    exact done h' tk m' nx' F' (fun p hp => N' p (hsub p hp)) hJ
/-- statements, one group after the other -/
def Then (M : Model) (A : Around) (b : List Stmt) (env : Env) (Q : Flow → Shared → Prop) (E : Value → Shared → Prop) (f : Flow) (s : Shared) : Prop :=
  match f with
  | .next => wpAny M A (execs b env) Q E s
  | f => Q f s
theorem execs_app0 {M : Model} {Γ : PySem.Ctx} {R : Flow → Pos → Shared → Prop} {E' : Value → Pos → Shared → Prop} (b : List Stmt) : ∀ (a : List Stmt) (q : Pos) (s : Shared),
    Sem.wp M Γ (execs a env) (fun f q' s' => match f with | .next => Sem.wp M Γ (execs b env) R E' q' s' | f => R f q' s') E' q s → Sem.wp M Γ (execs (a ++ b) env) R E' q s
  | [], q, s, h => h
  | x :: a, q, s, h => by
    rw [List.cons_append, execs, Sem.wp_bind']
    rw [execs, Sem.wp_bind'] at h
    refine Sem.wp_mono M Γ _ (fun f q' s' hf => ?_) (fun _ _ _ e => e) q s h
    cases f with
    | next => exact execs_app0 b a q' s' hf
    | brk => exact hf
    | cont => exact hf
    | ret v => exact hf
theorem execs_app {M : Model} {a b : List Stmt} (h : wpAny M A (execs a env) (Then M A b env Q E) E s) : wpAny M A (execs (a ++ b) env) Q E s := fun Γ q hΓ => by
  refine execs_app0 b a q s (Sem.wp_mono M Γ _ (fun f q' s' hf => ?_) (fun _ _ _ e => e) q s (h Γ q hΓ))
  cases f with
  | next => exact hf Γ q' hΓ
  | brk => exact hf
  | cont => exact hf
  | ret v => exact hf
theorem execs_one {M : Model} {a : Stmt} (h : wpAny M A (exec a env) Q E s) : wpAny M A (execs [a] env) Q E s := by
  rw [execs]
  refine wpAny_bind (wpAny_mono h (fun f s' hf => ?_) fun _ _ e => e)
  cases f with
  | next => exact wpAny_pure hf
  | brk => exact wpAny_pure hf
  | cont => exact wpAny_pure hf
  | ret v => exact wpAny_pure hf
end
end Mine
end

section
open PySem PySem.W PyProof.Rows PySem.Spec PySem.Calls
set_option Elab.async false
namespace Mine
section
variable {prog : Program} {w : World} {A : Around} {E : Value → Shared → Prop} {s : Shared} {env : Env} {h₀ : Heap} {x : Str} {target : Expr} {body : List Stmt} {Q : Flow → Shared → Prop}
theorem endStep {I : Addr} {own : List (Addr × Obj)} {J : (Str → Option Value) → List (Addr × Obj) → Prop} {s₁ s₃ : Shared} {f : Flow} (q : TurnEnd h₀ env.locals I own J s₁ Q f s₃) :
    LoopStepV h₀ env.locals [I] own J s₁ (fun v s' => Q (.ret v) s') (fun s' => Q .next s') f s₃ := by
  have fin : (∃ h' tk' m' news', s₃ = { s₁ with heap := h', toks := tk' } ∧ Fr h₀ env.locals h' m' ∧ News h₀ env.locals h' (own ++ news') ∧ (∀ p ∈ news', p.1 ≠ I) ∧ J m' news') → LoopStepU h₀ env.locals [I] own J s₁ .next s₃ := by
    rintro ⟨h', tk', m', news', e, F', N', hI', hJ'⟩
    exact ⟨rfl, h', tk', m', news', e, F', N', fun p hp h => hI' p hp (List.mem_singleton.mp h), hJ'⟩
  cases f with
  | ret v => exact .ret q
  | brk => exact .brk q
  | next => exact .next (fin q)
  | cont => exact .cont (fin q)
theorem turns_walk {I : Addr} {fp : List Addr} {n : Nat} {P Md : Nat → Value → Heap → Prop} {St : Nat → Heap → Prop} {m₀ : Str → Option Value} {news : List (Addr × Obj)} {s₂ : Shared} (J : Nat → (Str → Option Value) → List (Addr × Obj) → Prop)
    (W : KTurns prog w A target I fp [I] n P Md St) (hLf : env.locals ∉ fp) (hI : h₀.get? I = none) (hnw : ∀ p ∈ news, p.1 ≠ I) (hst : St 0 s₂.heap) (F : Fr h₀ env.locals s₂.heap m₀) (N : News h₀ env.locals s₂.heap news) (h0 : J 0 m₀ news)
    (turn : ∀ i v m₁ news₁ h tk own, i < n → P i v h → J i m₁ news₁ → (∀ p ∈ news₁, p.1 ≠ I) → (∀ p ∈ own, p.1 ∈ fp) → (∀ b ∈ fp, h₀.get? b = none → ∀ o, h.get? b = some o → (b, o) ∈ own) → St (i + 1) h →
      Fr h₀ env.locals h m₁ → News h₀ env.locals h (own ++ news₁) →
      wpAny (model prog w) A (assign target env v) (fun _ s₃ => wpAny (model prog w) A (execs body env) (TurnEnd h₀ env.locals I own (J (i + 1)) { s₂ with heap := h, toks := tk } Q) E s₃) E { s₂ with heap := h, toks := tk })
    (done : ∀ h' tk m' news', Fr h₀ env.locals h' m' → News h₀ env.locals h' news' → J n m' news' → Q .next { s₂ with heap := h', toks := tk }) :
    TurnsAt prog w A h₀ env target body Q E (.ref I) s₂ := by
  refine ⟨I, fp, [I], n, P, Md, St, m₀, news, J, rfl, W, hLf, fun b hb => (List.mem_singleton.mp hb) ▸ hI, fun p hp h => hnw p hp (List.mem_singleton.mp h), hst, F, N, h0, ?_, fun h' tk m' news' F' N' _ hJ => done h' tk m' news' F' N' hJ⟩
  intro i v m₁ news₁ h tk own hi hP hJ hoff hown _ hfp hst₁ F₁ N₁
  exact wpAny_mono (turn i v m₁ news₁ h tk own hi hP hJ (fun p hp e => hoff p hp (List.mem_singleton.mpr e)) hown hfp hst₁ F₁ N₁) (fun _ _ q => wpAny_mono q (fun f s₃ q => endStep q) fun _ _ e => e) fun _ _ e => e

/-- a loop with any target over a list of the ledger; the loop keeps a part of the ledger -/
theorem for_listT {l : Addr} {vs : List Value} {c : Nat} {m₀ : Str → Option Value} {big news : List (Addr × Obj)} (J : Nat → (Str → Option Value) → List (Addr × Obj) → Prop)
    (hh : A.handled = none) (hl : (l, listOf vs.toArray c) ∈ big) (F : Fr h₀ env.locals s.heap m₀) (N : News h₀ env.locals s.heap big) (hs : ∀ p ∈ news, p ∈ big) (hj : J 0 m₀ news)
    (turn : ∀ I, (∀ p ∈ big, p.1 < I) → ∀ i v m₁ news₁ h tk own, vs[i]? = some v → J i m₁ news₁ → (∀ p ∈ own, p.1 = I ∨ p.1 = l) → (l, listOf vs.toArray c) ∈ own → (∀ p ∈ news₁, p.1 ≠ I) →
      Fr h₀ env.locals h m₁ → News h₀ env.locals h (own ++ news₁) →
      wpAny (model prog w) A (assign target env v) (fun _ s₃ => wpAny (model prog w) A (execs body env) (TurnEnd h₀ env.locals I own (J (i + 1)) { s with heap := h, toks := tk } Q) E s₃) E { s with heap := h, toks := tk })
    (done : ∀ h' tk m' news', Fr h₀ env.locals h' m' → News h₀ env.locals h' ((l, listOf vs.toArray c) :: news') → J vs.length m' news' → Q .next { s with heap := h', toks := tk }) :
    wpAny (model prog w) A (pyIter (.ref l)) (fun it s₂ => TurnsAt prog w A h₀ env target body Q E it s₂) E s := by
  have hol : s.heap.get? l = some (listOf vs.toArray c) := (N _ hl).1
  have hls : s.heap.IsList l vs.toArray := ⟨_, hol, rfl, c, rfl⟩
  have hne : l ≠ s.heap.objs.size := Nat.ne_of_lt (Heap.lt_size hol)
  refine wpAny_pyIter_list hls ?_
  have W := Walks.list (prog := prog) (w := w) hh s.heap.objs.size l hne vs.toArray
  rw [List.size_toArray] at W
  have W' := KTurns.ofWalks (target := target) W fun i v s Q E st q => letGo_listiter st.1 q
  have hlt : ∀ p ∈ big, p.1 < s.heap.objs.size := fun p hp => Heap.lt_size (N p hp).1
  refine turns_walk (news := (l, listOf vs.toArray c) :: news) (fun i m nx => ∃ nx', nx = (l, listOf vs.toArray c) :: nx' ∧ J i m nx') W' ?_ (next_is_new F) (fun p hp => ?_) ⟨⟨_, Heap.get?_push_size _ rfl, rfl, rfl⟩, hls.at fun o e => Heap.get?_push_of_some _ e⟩ (F.push _) (fun p hp => ?_) ⟨_, rfl, hj⟩ ?_ ?_
  · intro hm
    rcases List.mem_cons.mp hm with e | hm
    · exact absurd F.ns.lt (e ▸ Nat.lt_irrefl _)
    · exact (N _ hl).2.1 ((List.mem_singleton.mp hm).symm)
  · rcases List.mem_cons.mp hp with rfl | hp
    · exact hne
    · exact Nat.ne_of_lt (hlt p (hs p hp))
  · rcases List.mem_cons.mp hp with rfl | hp
    · exact ⟨Heap.get?_push_of_some _ hol, (N _ hl).2⟩
    · exact ⟨Heap.get?_push_of_some _ (N p (hs p hp)).1, (N p (hs p hp)).2⟩
  · rintro i v m₁ _ h tk own hi hP ⟨news₁, rfl, hJ⟩ hoff hown hfp hst F₁ N₁
    refine wpAny_mono (turn s.heap.objs.size hlt i v m₁ news₁ h tk (own ++ [(l, listOf vs.toArray c)]) (by simpa using hP) hJ (fun p hp => ?_) (List.mem_append_right _ (.head _)) (fun p hp => hoff p (.tail _ hp)) F₁ (by rw [List.append_assoc]; exact N₁)) (fun _ _ q => wpAny_mono q (fun f s₃ q => ?_) fun _ _ e => e) fun _ _ e => e
    · rcases List.mem_append.mp hp with hp | hp
      · rcases List.mem_cons.mp (hown p hp) with e | e
        · exact .inl e
        · exact .inr (List.mem_singleton.mp e)
      · rw [List.mem_singleton.mp hp]; exact .inr rfl
    · have fin : (∃ h' tk' m' news', s₃ = { s with heap := h', toks := tk' } ∧ Fr h₀ env.locals h' m' ∧ News h₀ env.locals h' (own ++ [(l, listOf vs.toArray c)] ++ news') ∧ (∀ p ∈ news', p.1 ≠ s.heap.objs.size) ∧ J (i + 1) m' news') →
          ∃ h' tk' m' news', s₃ = { s with heap := h', toks := tk' } ∧ Fr h₀ env.locals h' m' ∧ News h₀ env.locals h' (own ++ news') ∧ (∀ p ∈ news', p.1 ≠ s.heap.objs.size) ∧ ∃ nx', news' = (l, listOf vs.toArray c) :: nx' ∧ J (i + 1) m' nx' := by
        rintro ⟨h', tk', m', news', e, F', N', hI', hJ'⟩
        refine ⟨h', tk', m', (l, listOf vs.toArray c) :: news', e, F', by rw [List.append_assoc] at N'; exact N', fun p hp => ?_, _, rfl, hJ'⟩
        rcases List.mem_cons.mp hp with rfl | hp
        · exact hne
        · exact hI' p hp
      cases f with
      | ret v => exact q
      | brk => exact q
      | next => exact fin q
      | cont => exact fin q
  · rintro h' tk m' _ F' N' ⟨news', rfl, hJ⟩
    exact done h' tk m' news' F' N' hJ

/-- a loop over a range; the loop keeps a part of the ledger -/
theorem for_range {r : Addr} {a b c : Int} {t u v : Tok} {n : Nat} {m₀ : Str → Option Value} {big news : List (Addr × Obj)} (J : Nat → (Str → Option Value) → List (Addr × Obj) → Prop)
    (hh : A.handled = none) (hr : IsRange s.heap r a b c t u v) (hsmall : Builtin.Range.small a b c = true) (hn : Builtin.Range.rangeSize a b c = (n : Int)) (F : Fr h₀ env.locals s.heap m₀) (N : News h₀ env.locals s.heap big) (hs : ∀ p ∈ news, p ∈ big) (hj : J 0 m₀ news)
    (turn : ∀ I, (∀ p ∈ big, p.1 < I) → ∀ i t m₁ news₁ h tk own, i < n → J i m₁ news₁ → (∀ p ∈ own, p.1 = I) → (∀ p ∈ news₁, p.1 ≠ I) →
      Fr h₀ env.locals h (fun y => if y = x then some (.int (a + i * c) t) else m₁ y) → News h₀ env.locals h (own ++ news₁) →
      wpAny (model prog w) A (execs body env) (TurnEnd h₀ env.locals I own (J (i + 1)) { s with heap := h, toks := tk } Q) E { s with heap := h, toks := tk })
    (done : ∀ h' tk m' news', Fr h₀ env.locals h' m' → News h₀ env.locals h' news' → J n m' news' → Q .next { s with heap := h', toks := tk }) :
    wpAny (model prog w) A (pyIter (.ref r)) (fun it s₂ => LoopAtV prog w A h₀ env x body Q E it s₂) E s := by
  refine wpAny_pyIter_range hr hsmall ?_
  have hlt : ∀ p ∈ big, p.1 < s.heap.objs.size := fun p hp => Heap.lt_size (N p hp).1
  refine loop_walk (news := news) J (Walks.range (prog := prog) (w := w) hh s.heap.objs.size a c n) ?_ (next_is_new F) (fun p hp => Nat.ne_of_lt (hlt p (hs p hp))) (by show IsRangeIter _ _ _ _ _; rw [hn]; simpa using Heap.get?_push_size _ rfl) (F.push _) (fun p hp => ⟨Heap.get?_push_of_some _ (N p (hs p hp)).1, (N p (hs p hp)).2⟩) hj ?_ done
  · intro hm
    exact absurd F.ns.lt ((List.mem_singleton.mp hm) ▸ Nat.lt_irrefl _)
  · rintro i _ m₁ news₁ h tk own hi ⟨t, rfl⟩ hJ hoff hown _ _ F₁ N₁
    exact turn s.heap.objs.size hlt i t m₁ news₁ h tk own hi hJ (fun p hp => List.mem_singleton.mp (hown p hp)) hoff F₁ N₁
/-- a loop over a text's signs; the loop keeps a part of the ledger -/
theorem for_str {y : Str} {t : Tok} {m₀ : Str → Option Value} {big news : List (Addr × Obj)} (J : Nat → (Str → Option Value) → List (Addr × Obj) → Prop)
    (hh : A.handled = none) (F : Fr h₀ env.locals s.heap m₀) (N : News h₀ env.locals s.heap big) (hs : ∀ p ∈ news, p ∈ big) (hj : J 0 m₀ news)
    (turn : ∀ I, (∀ p ∈ big, p.1 < I) → ∀ i k t m₁ news₁ h tk own, y.cps.toList[i]? = some k → J i m₁ news₁ → (∀ p ∈ own, p.1 = I) → (∀ p ∈ news₁, p.1 ≠ I) →
      Fr h₀ env.locals h (fun y => if y = x then some (.str ⟨#[k]⟩ t) else m₁ y) → News h₀ env.locals h (own ++ news₁) →
      wpAny (model prog w) A (execs body env) (TurnEnd h₀ env.locals I own (J (i + 1)) { s with heap := h, toks := tk } Q) E { s with heap := h, toks := tk })
    (done : ∀ h' tk m' news', Fr h₀ env.locals h' m' → News h₀ env.locals h' news' → J y.cps.toList.length m' news' → Q .next { s with heap := h', toks := tk }) :
    wpAny (model prog w) A (pyIter (.str y t)) (fun it s₂ => LoopAtV prog w A h₀ env x body Q E it s₂) E s := by
  refine wpAny_pyIter_str fun o St W hst => ?_
  have hlt : ∀ p ∈ big, p.1 < s.heap.objs.size := fun p hp => Heap.lt_size (N p hp).1
  refine loop_walk (news := news) J (W A hh) ?_ (next_is_new F) (fun p hp => Nat.ne_of_lt (hlt p (hs p hp))) hst (F.push _) (fun p hp => ⟨Heap.get?_push_of_some _ (N p (hs p hp)).1, (N p (hs p hp)).2⟩) hj ?_ (by simpa using done)
  · intro hm
    exact absurd F.ns.lt ((List.mem_singleton.mp hm) ▸ Nat.lt_irrefl _)
  · rintro i _ m₁ news₁ h tk own hi ⟨c, u, hc, rfl⟩ hJ hoff hown _ _ F₁ N₁
    exact turn s.heap.objs.size hlt i c u m₁ news₁ h tk own (by simpa using hc) hJ (fun p hp => List.mem_singleton.mp (hown p hp)) hoff F₁ N₁
end
end Mine
end

section
open PySem PySem.W PyProof.Rows PySem.Spec PySem.Calls
set_option Elab.async false
namespace Mine
section
variable {prog : Program} {w : World} {A : Around} {E : Value → Shared → Prop} {s : Shared} {env : Env} {h₀ : Heap} {x : Str} {body : List Stmt} {Q : Flow → Shared → Prop}
/-- a loop over a tuple of the ledger; the loop keeps a part of the ledger -/
theorem for_tup {l : Addr} {vs : List Value} {m₀ : Str → Option Value} {big news : List (Addr × Obj)} (J : Nat → (Str → Option Value) → List (Addr × Obj) → Prop)
    (hh : A.handled = none) (hl : (l, tupObj vs) ∈ big) (F : Fr h₀ env.locals s.heap m₀) (N : News h₀ env.locals s.heap big) (hs : ∀ p ∈ news, p ∈ big) (hj : J 0 m₀ news)
    (turn : ∀ I, (∀ p ∈ big, p.1 < I) → ∀ i v m₁ news₁ h tk own, vs[i]? = some v → J i m₁ news₁ → (∀ p ∈ own, p.1 = I ∨ p.1 = l) → (∀ p ∈ news₁, p.1 ≠ I) →
      Fr h₀ env.locals h (fun y => if y = x then some v else m₁ y) → News h₀ env.locals h (own ++ news₁) →
      wpAny (model prog w) A (execs body env) (TurnEnd h₀ env.locals I own (J (i + 1)) { s with heap := h, toks := tk } Q) E { s with heap := h, toks := tk })
    (done : ∀ h' tk m' news', Fr h₀ env.locals h' m' → News h₀ env.locals h' news' → J vs.length m' news' → Q .next { s with heap := h', toks := tk }) :
    wpAny (model prog w) A (pyIter (.ref l)) (fun it s₂ => LoopAtV prog w A h₀ env x body Q E it s₂) E s := by
  have hol : s.heap.get? l = some (tupObj vs) := (N _ hl).1
  have hls : s.heap.IsTuple l vs.toArray := ⟨_, hol, rfl, _, rfl⟩
  have hne : l ≠ s.heap.objs.size := Nat.ne_of_lt (Heap.lt_size hol)
  refine wpAny_pyIter_tuple hls ?_
  have W := Walks.tuple (prog := prog) (w := w) hh s.heap.objs.size l hne vs.toArray
  rw [List.size_toArray] at W
  have hlt : ∀ p ∈ big, p.1 < s.heap.objs.size := fun p hp => Heap.lt_size (N p hp).1
  refine loop_walk (news := (l, tupObj vs) :: news) (fun i m nx => ∃ nx', nx = (l, tupObj vs) :: nx' ∧ J i m nx') W ?_ (next_is_new F) (fun p hp => ?_) ⟨⟨_, Heap.get?_push_size _ rfl, rfl, rfl⟩, hls.at fun o e => Heap.get?_push_of_some _ e⟩ (F.push _) (fun p hp => ?_) ⟨_, rfl, hj⟩ ?_ ?_
  · intro hm
    rcases List.mem_cons.mp hm with e | hm
    · exact absurd F.ns.lt (e ▸ Nat.lt_irrefl _)
    · exact (N _ hl).2.1 ((List.mem_singleton.mp hm).symm)
  · rcases List.mem_cons.mp hp with rfl | hp
    · exact hne
    · exact Nat.ne_of_lt (hlt p (hs p hp))
  · rcases List.mem_cons.mp hp with rfl | hp
    · exact ⟨Heap.get?_push_of_some _ hol, (N _ hl).2⟩
    · exact ⟨Heap.get?_push_of_some _ (N p (hs p hp)).1, (N p (hs p hp)).2⟩
  · rintro i v m₁ _ h tk own hi hP ⟨news₁, rfl, hJ⟩ hoff hown hfp hst F₁ N₁
    refine wpAny_mono (turn s.heap.objs.size hlt i v m₁ news₁ h tk (own ++ [(l, tupObj vs)]) (by simpa using hP) hJ (fun p hp => ?_) (fun p hp => hoff p (.tail _ hp)) F₁ (by rw [List.append_assoc]; exact N₁)) (fun f s₃ q => ?_) fun _ _ e => e
    · rcases List.mem_append.mp hp with hp | hp
      · rcases List.mem_cons.mp (hown p hp) with e | e
        · exact .inl e
        · exact .inr (List.mem_singleton.mp e)
      · rw [List.mem_singleton.mp hp]; exact .inr rfl
    · have fin : (∃ h' tk' m' news', s₃ = { s with heap := h', toks := tk' } ∧ Fr h₀ env.locals h' m' ∧ News h₀ env.locals h' (own ++ [(l, tupObj vs)] ++ news') ∧ (∀ p ∈ news', p.1 ≠ s.heap.objs.size) ∧ J (i + 1) m' news') →
          ∃ h' tk' m' news', s₃ = { s with heap := h', toks := tk' } ∧ Fr h₀ env.locals h' m' ∧ News h₀ env.locals h' (own ++ news') ∧ (∀ p ∈ news', p.1 ≠ s.heap.objs.size) ∧ ∃ nx', news' = (l, tupObj vs) :: nx' ∧ J (i + 1) m' nx' := by
        rintro ⟨h', tk', m', news', e, F', N', hI', hJ'⟩
        refine ⟨h', tk', m', (l, tupObj vs) :: news', e, F', by rw [List.append_assoc] at N'; exact N', fun p hp => ?_, _, rfl, hJ'⟩
        rcases List.mem_cons.mp hp with rfl | hp
        · exact hne
        · exact hI' p hp
      cases f with
      | ret v => exact q
      | brk => exact q
      | next => exact fin q
      | cont => exact fin q
  · rintro h' tk m' _ F' N' ⟨news', rfl, hJ⟩
    exact done h' tk m' news' F' (fun p hp => N' p (.tail _ hp)) hJ
end
end Mine
end

section
open PySem PySem.W PyProof.Rows PySem.Spec PySem.Calls
set_option Elab.async false
namespace Mine
section
variable {prog : Program} {w : World} {A : Around} {E : Value → Shared → Prop} {s : Shared} {h₀ : Heap} {L D l : Addr} {m : Str → Option Value} {news : List (Addr × Obj)}
theorem append_flex {c : Nat} {vs : List Value} {v : Value} {Q : Value → Shared → Prop} (F : Fr h₀ L s.heap m) (N : News h₀ L s.heap news)
    (hm : (D, listOf vs.toArray c) ∈ news) (hz : vs.length ≤ sizeLine) (h : ∀ h', Fr h₀ L h' m → News h₀ L h' ((D, listOf (vs ++ [v]).toArray (c + 1)) :: news.filter fun p => decide (p.1 ≠ D)) → Q .none { s with heap := h' }) :
    wpAny (model prog w) A (call (.builtin "list.append") [.ref D, v]) Q E s :=
  append_at (hsz := by rw [List.size_toArray]; exact hz) (N.get hm) fun h' hs ho' => h h' (F.change hs (N _ hm).2.1 (N _ hm).2.2) ((news_flex N hm).setHead (fun p hp => by simpa using (List.mem_filter.mp hp).2) hs (by rw [ho']; simp))
theorem kl_last_app (p : List Value) (y : Value) : kl_last (p ++ [y]) = some (p, y) := by
  induction p with
  | nil => rfl
  | cons v r ih =>
    show (match kl_last (r ++ [y]) with | some (p, y) => some (v :: p, y) | none => some ([], v)) = _
    rw [ih]
theorem pop_last_flex {c : Nat} {vp : List Value} {y : Value} {Q : Value → Shared → Prop} (F : Fr h₀ L s.heap m) (N : News h₀ L s.heap news)
    (hm : (D, listOf (vp ++ [y]).toArray c) ∈ news) (hz : (vp ++ [y]).length ≤ sizeLine) (h : ∀ h', Fr h₀ L h' m → News h₀ L h' ((D, listOf vp.toArray (c + 1)) :: news.filter fun p => decide (p.1 ≠ D)) → Q y { s with heap := h' }) :
    wpAny (model prog w) A (call (.builtin "list.pop") [.ref D]) Q E s :=
  kl_pop F (news_flex N hm) (by simpa using kl_last_app vp y) (upd_flex _) (by simpa using hz) h
/-- '0' a few times -/
theorem zeros_mul {a : Int} {t u : Tok} {Q : Value → Shared → Prop} (h : ∀ z t' k, (∀ c ∈ z.cps.toList, c = 48) → z.length ≤ 2 → Q (.str z t') { s with toks := k }) :
    wpAny (model prog w) A (binaryOp .Mult (.str (Str.ofString "0") t) (.int (Int.fmod a 3) u)) Q E s := by
  have h0 : 0 ≤ Int.fmod a 3 := Int.fmod_nonneg_of_pos _ (by decide)
  have h1 : Int.fmod a 3 < 3 := Int.fmod_lt_of_pos _ (by decide)
  generalize Int.fmod a 3 = n at *
  rcases (by omega : n = 0 ∨ n = 1 ∨ n = 2) with rfl | rfl | rfl
  all_goals
    refine SB.mul ⟨by decide, by decide +kernel, by decide +kernel⟩ fun t' k => h _ t' k ?_ ?_
    · decide +kernel
    · decide +kernel
/-- the ledger behind a change of one object, the loop's own part ahead again -/
theorem own_back {h : Heap} {o' : Obj} {own nx : List (Addr × Obj)} (N : News h₀ L h ((D, o') :: List.filter (fun p => decide (p.1 ≠ D)) (own ++ nx))) (ho : ∀ q ∈ own, q.1 ≠ D) : News h₀ L h (own ++ ((D, o') :: nx.filter fun p => decide (p.1 ≠ D))) := fun q hq => by
  rcases List.mem_append.mp hq with h | h
  · exact N _ (.tail _ (List.mem_filter.mpr ⟨List.mem_append_left _ h, decide_eq_true (ho q h)⟩))
  · rcases List.mem_cons.mp h with rfl | h
    · exact N _ (.head _)
    · obtain ⟨a1, a2⟩ := List.mem_filter.mp h
      exact N _ (.tail _ (List.mem_filter.mpr ⟨List.mem_append_right _ a1, a2⟩))
end
end Mine
end

section
open PySem PySem.W PyProof.Rows PySem.Spec PySem.Calls
set_option Elab.async false
namespace Mine
/-- None, or an int -/
def optK : ItemKind (Option Int) := ⟨fun o v => (o = none ∧ v = .none) ∨ ∃ n t, o = some n ∧ v = .int n t, fun v => match v with | .none => some none | .int n _ => some (some n) | _ => none, fun o v h => by
  rcases h with ⟨rfl, rfl⟩ | ⟨n, t, rfl, rfl⟩ <;> rfl⟩
section
variable {prog : Program} {w : World} {A : Around} {E : Value → Shared → Prop} {s : Shared} {h₀ : Heap} {L : Addr} {m : Str → Option Value}
def CompInK {α : Type} (K : ItemKind α) (prog : Program) (w : World) (A : Around) (h₀ : Heap) (L : Addr) (env : Env) (scope : Scope) (elt : Expr) (x z : Str) (d : α → PyData) (Q : Flow → Shared → Prop) (xv : Value) (s₁ : Shared) : Prop :=
  ∃ l vs xs m news, xv = .ref l ∧ s₁.heap.IsList l vs.toArray ∧ AreOf K vs xs ∧ Fr h₀ L s₁.heap m ∧ News h₀ L s₁.heap news ∧ xs.length ≤ sizeLine ∧
    (∀ C y v s₂ m₂ E', y ∈ xs → K.is y v → s₂.heap.Ns (compEnv scope C env).locals m₂ → m₂ x = some v → s₁.toks ≤ s₂.toks → wpAny (model prog w) A (eval elt (compEnv scope C env)) (fun r s₃ => Carried r (d y) ∧ Keeps s₂ s₃) E' s₂) ∧
    (∀ D n ys h' tk, Fr h₀ L h' (fun q => if q = z then some (.ref D) else m q) → News h₀ L h' ((D, listOf (List.toArray ys) n) :: news) → (∀ p ∈ news, p.1 ≠ D) → CarriedAll ys (xs.map d) → Q .next { s₁ with heap := h', toks := tk })
theorem comp_any {α : Type} {K : ItemKind α} {name : Str} {fscope : Scope} {a : Addr} {cd : Value} {elt iter : Expr} {x z : Str} {px py : Pos} {scope : Scope} {pos spos : Pos} {Q : Flow → Shared → Prop} (d : α → PyData)
    (_F : Fr h₀ L s.heap m)
    (h : wpAny (model prog w) A (eval iter (envOf name fscope L a cd)) (CompInK K prog w A h₀ L (envOf name fscope L a cd) scope elt x z d Q) E s)
    (hh : A.handled = none)
    (hsw : swapsWith (.ListComp elt [⟨.Name x px, iter, [], 0⟩] scope pos) (some (.Name z py)) spos.line (envOf name fscope L a cd) = pure true)
    (hfree : ∀ z ∈ scope.names, z.2 ≠ .free) (hcell : ∀ z ∈ scope.names, z.2 ≠ .cell) (hkind : scope.kind = .function)
    (hnames : ∀ z ∈ scope.names, z.2 = .local → scope.names.lookup z.1 = some .local) (hx : scope.names.lookup x = some .local)
    (hy : (envOf name fscope L a cd).kindOf z = some .local) (hp : ((envOf name fscope L a cd).scope.kind == .class || ((envOf name fscope L a cd).scope.kind == .module && (envOf name fscope L a cd).locals != (envOf name fscope L a cd).globals)) = false)
    (hs : ∀ x, foldedSetIterable iter (envOf name fscope L a cd) x = pure x) :
    wpAny (model prog w) A (exec (.Assign [.Name z py] (.ListComp elt [⟨.Name x px, iter, [], 0⟩] scope pos) spos) (envOf name fscope L a cd)) Q E s := by
  refine Assign_ListComp_rowsP hsw hfree hcell hkind hnames hx hy hp (wpAny_mono h (fun xv s₁ h₁ => ?_) fun _ _ e => e) hs
  obtain ⟨l, vs, xs, m, news, rfl, hl, hi, F, N, hz, hel, hq⟩ := h₁
  refine srcA_listDW (K := K) (pz := fun _ => true) (d := d) hh hl hi F N ?_ ?_ ?_ hz
  · intro C y v s₂ m₂ E' _ _ _ _ _
    exact wpAny_tests_nil ⟨rfl, s₂.heap, s₂.toks, rfl, fun _ _ e => e⟩
  · intro C y v s₂ m₂ E' hm hv _ hn hx' ht
    exact hel C y v s₂ m₂ E' hm hv hn hx' ht
  · intro D ys h' tk F' N' hD hlD hpl hc
    obtain ⟨⟨n, hobj⟩, hne⟩ := hpl
    have hne' : D ≠ L := NewPlain.ne_locals ⟨⟨n, hobj⟩, hne⟩ F'
    refine hq D n ys h' tk F' (fun p hp => ?_) hne (by
      have e : xs.filter (fun _ => true) = xs := List.filter_eq_self.mpr fun _ _ => rfl
      rw [e] at hc
      exact hc)
    rcases List.mem_cons.mp hp with rfl | hp
    · exact ⟨hobj, hne', hD⟩
    · exact N' p hp
/-- two carried values -/
theorem carried_two {ys : List Value} {a b : PyData} (h : CarriedAll ys [a, b]) : ∃ u v, ys = [u, v] ∧ Carried u a ∧ Carried v b := by
  cases h with
  | cons h1 h2 =>
    cases h2 with
    | cons h2 h3 => cases h3; exact ⟨_, _, rfl, h1, h2⟩
end
end Mine
end

section
open PySem PySem.W PyProof.Rows PySem.Spec PySem.Calls
set_option Elab.async false
namespace Mine
open PySem.NumText
theorem colon_is : Str.ofString ":" = ⟨#[58]⟩ := by decide +kernel
theorem empty_is : Str.ofString "" = Str.empty := by decide +kernel
theorem len_colon : (Str.ofString ":").length = 1 := by decide +kernel
theorem app_empty (x : Str) : x ++ Str.ofString "" = x := str_ext (by rw [cps_app, show (Str.ofString "").cps.toList = [] by decide +kernel, List.append_nil])
/-- what the reader knows of the text: what stands ahead of the last colon, whether one came, whether nothing came behind it, the port -/
inductive St05 (x : Str) : Str → Bool → Bool → Option Int → Prop where
  | free : 58 ∉ x.cps.toList → St05 x x false true (some 0)
  | blank {a : Str} : x = a ++ Str.ofString ":" ++ Str.ofString "" → St05 x a true true (some 0)
  | num {a b : Str} : x = a ++ Str.ofString ":" ++ b → b ≠ Str.ofString "" → AllDigits b.cps.toList → St05 x a true false (some ((digitsVal b.cps.toList : Nat) : Int))
  | word {a b : Str} : x = a ++ Str.ofString ":" ++ b → b ≠ Str.ofString "" → 58 ∉ b.cps.toList → ¬ AllDigits b.cps.toList → St05 x a true false none
theorem one_list (k : Nat) : (⟨#[k]⟩ : Str).cps.toList = [k] := rfl
theorem snoc_ne (b : Str) (k : Nat) : b ++ ⟨#[k]⟩ ≠ Str.ofString "" := fun e => by
  have := congrArg (fun x : Str => x.cps.toList) e
  simp only [cps_app, one_list] at this
  rw [show (Str.ofString "").cps.toList = [] by decide +kernel] at this
  simp at this
theorem St05.colon (x : Str) : St05 (x ++ ⟨#[58]⟩) x true true (some 0) := .blank (by rw [app_empty, colon_is])
theorem St05.more {x : Str} {k : Nat} (h : 58 ∉ x.cps.toList) (hk : k ≠ 58) : St05 (x ++ ⟨#[k]⟩) (x ++ ⟨#[k]⟩) false true (some 0) := .free (by
  rw [cps_app, one_list]
  intro hm
  rcases List.mem_append.mp hm with hm | hm
  · exact h hm
  · exact hk (List.mem_singleton.mp hm).symm)
theorem assoc3 {x a b : Str} (h : x = a ++ Str.ofString ":" ++ b) (k : Nat) : x ++ ⟨#[k]⟩ = a ++ Str.ofString ":" ++ (b ++ ⟨#[k]⟩) := by rw [h, Str.append_assoc]
theorem digits_app {b : Str} {k : Nat} (h : AllDigits b.cps.toList) (hk : 48 ≤ k ∧ k ≤ 57) : AllDigits (b ++ ⟨#[k]⟩).cps.toList := by
  rw [cps_app, one_list]
  intro c hc
  rcases List.mem_append.mp hc with hc | hc
  · exact h c hc
  · rw [List.mem_singleton.mp hc]; exact hk
theorem val_app (b : Str) (k : Nat) : ((digitsVal (b ++ ⟨#[k]⟩).cps.toList : Nat) : Int) = ((digitsVal b.cps.toList : Nat) : Int) * 10 + ((k - 48 : Nat) : Int) := by
  rw [cps_app, one_list, digitsVal_snoc]
  simp only [Int.natCast_add, Int.natCast_mul]
  rfl
theorem not58 {b : Str} (h : AllDigits b.cps.toList) : 58 ∉ b.cps.toList := fun hm => by have := h 58 hm; omega
theorem free_app {b : Str} {k : Nat} (h : 58 ∉ b.cps.toList) (hk : k ≠ 58) : 58 ∉ (b ++ ⟨#[k]⟩).cps.toList := by
  rw [cps_app, one_list]
  intro hm
  rcases List.mem_append.mp hm with hm | hm
  · exact h hm
  · exact hk (List.mem_singleton.mp hm).symm
theorem bad_app {b : Str} {k : Nat} (hk : ¬ (48 ≤ k ∧ k ≤ 57)) : ¬ AllDigits (b ++ ⟨#[k]⟩).cps.toList := fun h => hk (h k (by rw [cps_app, one_list]; exact List.mem_append_right _ (.head _)))
theorem bad_more {b : Str} {k : Nat} (hb : ¬ AllDigits b.cps.toList) : ¬ AllDigits (b ++ ⟨#[k]⟩).cps.toList := fun h => hb fun c hc => h c (by rw [cps_app]; exact List.mem_append_left _ hc)
theorem Ok.one {k : Nat} (hk : k < 0x110000) : Ok ⟨#[k]⟩ := fun c hc => by rw [one_list] at hc; rw [List.mem_singleton.mp hc]; exact hk
theorem find_in {k : Nat} (h : 48 ≤ k ∧ k ≤ 57) : Txt.find (Str.ofString "0123456789") ⟨#[k]⟩ = ((k - 48 : Nat) : Int) := by
  rcases (by omega : k = 48 ∨ k = 49 ∨ k = 50 ∨ k = 51 ∨ k = 52 ∨ k = 53 ∨ k = 54 ∨ k = 55 ∨ k = 56 ∨ k = 57) with rfl | rfl | rfl | rfl | rfl | rfl | rfl | rfl | rfl | rfl <;> decide +kernel
theorem find_out {k : Nat} (h : ¬ (48 ≤ k ∧ k ≤ 57)) : Txt.find (Str.ofString "0123456789") ⟨#[k]⟩ = -1 := by
  unfold Txt.find
  rcases StrLaws.occ_head (Str.ofString "0123456789") ⟨#[k]⟩ 1 (by decide) with ⟨e, _⟩ | ⟨i, r, e, hA, _⟩
  · rw [e]
  · exfalso
    have hi := (StrLaws.subAt_one (Str.ofString "0123456789") k i).mp hA
    have hm := List.mem_of_getElem? hi
    rw [show (Str.ofString "0123456789").cps.toList = [48, 49, 50, 51, 52, 53, 54, 55, 56, 57] by decide +kernel] at hm
    simp at hm
    omega
theorem digitsVal_lt : ∀ (n : Nat) (l : List Nat), l.length = n → AllDigits l → digitsVal l < 10 ^ n
  | 0, l, hn, _ => by rw [List.length_eq_zero_iff.mp hn]; decide
  | n + 1, l, hn, h => by
    rcases List.eq_nil_or_concat l with rfl | ⟨r, c, rfl⟩
    · simp at hn
    rw [List.concat_eq_append] at *
    have hr : r.length = n := by simpa using hn
    have h1 := digitsVal_lt n r hr fun d hd => h d (List.mem_append_left _ hd)
    have hc := h c (List.mem_append_right _ (.head _))
    rw [digitsVal_snoc, Nat.pow_succ]
    omega
theorem sign_eq {k : Nat} (h : k ≠ 58) : ((⟨#[k]⟩ : Str) == Str.ofString ":") = false := by
  rw [beq_eq_false_iff_ne, colon_is]
  intro e
  have := congrArg (fun x : Str => x.cps.toList) e
  simp only [one_list] at this
  exact h (List.cons.inj this).1
end Mine
end

section
open PySem PySem.W PyProof.Rows
set_option Elab.async false
set_option maxRecDepth 100000
set_option maxHeartbeats 8000000
namespace Mine
open_top hd for PySem.Challenge.rw_dn0238_05
theorem top_off : True := by
  w_top off
  trivial
end Mine
end

section
open PySem PySem.W PyProof.Rows PySem.Spec PySem.Calls
set_option Elab.async false
set_option maxRecDepth 100000
set_option maxHeartbeats 8000000
namespace Mine
local macro_rules | `(tactic| walk_at "call builtin:str.rpartition") => `(tactic| (k_here; (with_reducible show wpAny _ _ (call (Value.builtin "str.rpartition") [Value.str _ _, Value.str _ _]) _ _ _); (refine rpart_call (by assumption) (by k_asm) (by k_asm) (by decide) (by assumption) ?_); intro D' _ _ _ _ _ F' N' l1; (try k_lt l1)))
local macro_rules | `(tactic| cell_enter) => `(tactic| (refine' code_def ?k1 ?k2 ?k3 ?k4 ?k5 ?kA ?kF ?kK ?k6 ?k7 ?k8 ?k9 ?kB ?_ ?c2 ?c3 ?c4 ?c5; (case kA => exact rfl); (case kF => exact rfl); (case kK => assumption); (case k1 => k_asm); (case k2 => k_asm); (case k3 => k_asm); (case k4 => k_asm); (case k5 => k_asm); (case k6 => k_is); (case k7 => k_is); (case k8 => ktr_room); (case k9 => first | exact BindsTo.of_eq rfl | exact binds_K (by k_in) rfl (by k_is) rfl rfl rfl); (case c5 => decide); (case kB => exact locs rfl); (case c2 => exact rfl); (case c3 => exact rfl); (case c4 => exact rfl); k_whole; intro g' L' h' FG' F' N' B' X' T'; (try dsimp only); (try k_lift B'); (try k_fold)))
theorem nport_free (w : World) (x : Str) (t : Tok) (v : Value) (hx : x.length ≤ sizeLine) (hrp : Txt.rpartition x (Str.ofString ":") = (Str.ofString "", Str.ofString "", x)) :
    CallOK PySem.Challenge.rw_dn0238_05.row.prog w (hd.heap_39 w.params) 22 [.str x t, v] (fun _ => True) (fun r add => ∃ D t1, r = .ref D ∧ add = [(D, tupObj [.str x t1, v])]) := by
  unfold CallOK
  k_fill
  intro p loose mean mg mb dp un gd cn cs fa ccd cl outer A₀ base h₀ L m news s Q E B F X N T hk hdp hun hpre ret
  refine wpAny_call ?_
  k_dflt cell_enter
  k_steps
  all_goals (try (exfalso; omega))
  rename (_ ∧ AllLt _ _) => l9
  exact ret _ _ _ _ ⟨_, _, rfl, rfl⟩ (by assumption) (cb_drop (by assumption) sub1) (lt1 l9.2)
theorem nport_blank (w : World) (x a : Str) (t : Tok) (v : Value) (hx : x.length ≤ sizeLine) (hrp : Txt.rpartition x (Str.ofString ":") = (a, Str.ofString ":", Str.ofString "")) :
    CallOK PySem.Challenge.rw_dn0238_05.row.prog w (hd.heap_39 w.params) 22 [.str x t, v] (fun _ => True) (fun r add => ∃ D t1, r = .ref D ∧ add = [(D, tupObj [.str a t1, v])]) := by
  unfold CallOK
  k_fill
  intro p loose mean mg mb dp un gd cn cs fa ccd cl outer A₀ base h₀ L m news s Q E B F X N T hk hdp hun hpre ret
  refine wpAny_call ?_
  k_dflt cell_enter
  k_steps
  all_goals (try (exfalso; omega))
  rename (_ ∧ AllLt _ _) => l9
  exact ret _ _ _ _ ⟨_, _, rfl, rfl⟩ (by assumption) (cb_drop (by assumption) sub1) (lt1 l9.2)
theorem nport_num (w : World) (x a b : Str) (n : Int) (t : Tok) (v : Value) (hx : x.length ≤ sizeLine) (hrp : Txt.rpartition x (Str.ofString ":") = (a, Str.ofString ":", b)) (hb : b.length ≠ 0) (hd1 : Txt.isdigit b = true) (hd2 : Txt.isascii b = true) (hn : PySem.intText? b = some n) (hl : b.length ≤ 640) :
    CallOK PySem.Challenge.rw_dn0238_05.row.prog w (hd.heap_39 w.params) 22 [.str x t, v] (fun _ => True) (fun r add => ∃ D t1 t2, r = .ref D ∧ add = [(D, tupObj [.str a t1, .int n t2])]) := by
  unfold CallOK
  k_fill
  intro p loose mean mg mb dp un gd cn cs fa ccd cl outer A₀ base h₀ L m news s Q E B F X N T hk hdp hun hpre ret
  refine wpAny_call ?_
  k_dflt cell_enter
  k_steps
  all_goals (try (exfalso; omega))
  rename (_ ∧ AllLt _ _) => l9
  exact ret _ _ _ _ ⟨_, _, _, rfl, rfl⟩ (by assumption) (cb_drop (by assumption) sub1) (lt1 l9.2)
theorem nport_word (w : World) (x a b : Str) (t : Tok) (v : Value) (hx : x.length ≤ sizeLine) (hrp : Txt.rpartition x (Str.ofString ":") = (a, Str.ofString ":", b)) (hb : b.length ≠ 0) (hl : b.length ≤ 640) (hwd : Txt.isdigit b = false ∨ Txt.isdigit b = true ∧ Txt.isascii b = false) :
    CallOK PySem.Challenge.rw_dn0238_05.row.prog w (hd.heap_39 w.params) 22 [.str x t, v] (fun _ => True) (fun r add => ∃ D t1, r = .ref D ∧ add = [(D, tupObj [.str a t1, .none])]) := by
  rcases hwd with hd1 | ⟨hd1, hd2⟩
  all_goals
    unfold CallOK
    k_fill
    intro p loose mean mg mb dp un gd cn cs fa ccd cl outer A₀ base h₀ L m news s Q E B F X N T hk hdp hun hpre ret
    refine wpAny_call ?_
    k_dflt cell_enter
    k_steps
    all_goals (try (exfalso; omega))
    rename (_ ∧ AllLt _ _) => l9
    exact ret _ _ _ _ ⟨_, _, rfl, rfl⟩ (by assumption) (cb_drop (by assumption) sub1) (lt1 l9.2)
theorem nport_free_d (w : World) (x : Str) (t : Tok) (hx : x.length ≤ sizeLine) (hrp : Txt.rpartition x (Str.ofString ":") = (Str.ofString "", Str.ofString "", x)) :
    CallOK PySem.Challenge.rw_dn0238_05.row.prog w (hd.heap_39 w.params) 22 [.str x t] (fun _ => True) (fun r add => ∃ D t1, r = .ref D ∧ add = [(D, tupObj [.str x t1, (.int (-1) 190)])]) := by
  unfold CallOK
  k_fill
  intro p loose mean mg mb dp un gd cn cs fa ccd cl outer A₀ base h₀ L m news s Q E B F X N T hk hdp hun hpre ret
  refine wpAny_call ?_
  k_dflt cell_enter
  k_steps
  all_goals (try (exfalso; omega))
  rename (_ ∧ AllLt _ _) => l9
  exact ret _ _ _ _ ⟨_, _, rfl, rfl⟩ (by assumption) (cb_drop (by assumption) sub1) (lt1 l9.2)
theorem nport_blank_d (w : World) (x a : Str) (t : Tok) (hx : x.length ≤ sizeLine) (hrp : Txt.rpartition x (Str.ofString ":") = (a, Str.ofString ":", Str.ofString "")) :
    CallOK PySem.Challenge.rw_dn0238_05.row.prog w (hd.heap_39 w.params) 22 [.str x t] (fun _ => True) (fun r add => ∃ D t1, r = .ref D ∧ add = [(D, tupObj [.str a t1, (.int (-1) 190)])]) := by
  unfold CallOK
  k_fill
  intro p loose mean mg mb dp un gd cn cs fa ccd cl outer A₀ base h₀ L m news s Q E B F X N T hk hdp hun hpre ret
  refine wpAny_call ?_
  k_dflt cell_enter
  k_steps
  all_goals (try (exfalso; omega))
  rename (_ ∧ AllLt _ _) => l9
  exact ret _ _ _ _ ⟨_, _, rfl, rfl⟩ (by assumption) (cb_drop (by assumption) sub1) (lt1 l9.2)
theorem nport_num_d (w : World) (x a b : Str) (n : Int) (t : Tok) (hx : x.length ≤ sizeLine) (hrp : Txt.rpartition x (Str.ofString ":") = (a, Str.ofString ":", b)) (hb : b.length ≠ 0) (hd1 : Txt.isdigit b = true) (hd2 : Txt.isascii b = true) (hn : PySem.intText? b = some n) (hl : b.length ≤ 640) :
    CallOK PySem.Challenge.rw_dn0238_05.row.prog w (hd.heap_39 w.params) 22 [.str x t] (fun _ => True) (fun r add => ∃ D t1 t2, r = .ref D ∧ add = [(D, tupObj [.str a t1, .int n t2])]) := by
  unfold CallOK
  k_fill
  intro p loose mean mg mb dp un gd cn cs fa ccd cl outer A₀ base h₀ L m news s Q E B F X N T hk hdp hun hpre ret
  refine wpAny_call ?_
  k_dflt cell_enter
  k_steps
  all_goals (try (exfalso; omega))
  rename (_ ∧ AllLt _ _) => l9
  exact ret _ _ _ _ ⟨_, _, _, rfl, rfl⟩ (by assumption) (cb_drop (by assumption) sub1) (lt1 l9.2)
theorem nport_word_d (w : World) (x a b : Str) (t : Tok) (hx : x.length ≤ sizeLine) (hrp : Txt.rpartition x (Str.ofString ":") = (a, Str.ofString ":", b)) (hb : b.length ≠ 0) (hl : b.length ≤ 640) (hwd : Txt.isdigit b = false ∨ Txt.isdigit b = true ∧ Txt.isascii b = false) :
    CallOK PySem.Challenge.rw_dn0238_05.row.prog w (hd.heap_39 w.params) 22 [.str x t] (fun _ => True) (fun r add => ∃ D t1, r = .ref D ∧ add = [(D, tupObj [.str a t1, .none])]) := by
  rcases hwd with hd1 | ⟨hd1, hd2⟩
  all_goals
    unfold CallOK
    k_fill
    intro p loose mean mg mb dp un gd cn cs fa ccd cl outer A₀ base h₀ L m news s Q E B F X N T hk hdp hun hpre ret
    refine wpAny_call ?_
    k_dflt cell_enter
    k_steps
    all_goals (try (exfalso; omega))
    rename (_ ∧ AllLt _ _) => l9
    exact ret _ _ _ _ ⟨_, _, rfl, rfl⟩ (by assumption) (cb_drop (by assumption) sub1) (lt1 l9.2)
end Mine
end

section
open PySem PySem.W PyProof.Rows PySem.Spec PySem.Calls
set_option Elab.async false
set_option maxRecDepth 100000
set_option maxHeartbeats 8000000
namespace Mine
open PySem.NumText
theorem item_lt {x : Str} (h : Ok x) (i : Int) : (Txt.charAt x i).getD 0 < 0x110000 := by
  unfold Txt.charAt
  cases e : seqIndex? i x.length with
  | none => simp
  | some j =>
    show (x.cps[j]?).getD 0 < _
    cases e2 : x.cps[j]? with
    | none => simp
    | some c =>
      refine h c ?_
      exact List.mem_of_getElem? (i := j) (by rw [Array.getElem?_toList]; exact e2)
theorem sign_ok (w : World) (n : Int) (t : Tok) :
    CallOK PySem.Challenge.rw_dn0238_05.row.prog w (hd.heap_39 w.params) 29 [.int n t] (fun _ => True) (fun r add => add = [] ∧ ∃ k t1, r = .str ⟨#[k]⟩ t1 ∧ k < 0x110000) := by
  unfold CallOK
  k_fill
  intro p loose mean mg mb dp un gd cn cs fa ccd cl outer A₀ base h₀ L m news s Q E B F X N T hk hdp hun hpre ret
  refine wpAny_call ?_
  k_dflt cell_enter
  k_steps
  · refine ret _ [] _ _ ⟨rfl, _, _, rfl, item_lt ?_ _⟩ (by assumption) (by assumption) (fun _ h => nomatch h)
    unfold Ok
    decide +kernel
  · refine ret _ [] _ _ ⟨rfl, _, _, rfl, ?_⟩ (by assumption) (by assumption) (fun _ h => nomatch h)
    omega
  · refine ret _ [] _ _ ⟨rfl, _, _, rfl, ?_⟩ (by assumption) (by assumption) (fun _ h => nomatch h)
    have h1 := Int.fmod_lt_of_pos (n.fdiv 2) (show (0 : Int) < 1112064 by decide)
    omega
end Mine
end

section
open PySem PySem.W PyProof.Rows PySem.Spec PySem.Calls
set_option Elab.async false
set_option maxRecDepth 100000
set_option linter.unusedVariables false
set_option maxHeartbeats 2000000
namespace Mine
open PySem.NumText
def law05 : Stmt := nthS PySem.Challenge.pw_dn0238_05.main.body 4
def turn05 : List Stmt := forBody (nthS (fnBody law05) 7)
abbrev env05 (L fa : Addr) (cd : Value) : Env := envOf (Str.ofString "law") (fnScope law05) L fa cd
def Stop (P : Prop) : Prop := P
theorem stop_sign {P : Prop} (h : Stop P) : P := h
theorem find_call {prog : Program} {w : World} {A : Around} {E : Value → Shared → Prop} {s : Shared} {x y : Str} {t u : Tok} {v : Int} {Q : Value → Shared → Prop} (e : Txt.find x y = v) (h : Q (.int v s.toks) { s with toks := s.toks + 1 }) :
    wpAny (model prog w) A (call (.builtin "str.find") [.str x t, .str y u]) Q E s := SC.find (by rw [e]; exact h)
local macro_rules | `(tactic| walk_at "eval Name") => `(tactic| (k_here; k_dflt (refine' ld ?k1 ?k2 ?_; (case k1 => k_asm); (case k2 => first | exact rfl | assumption); k_whole)))
local macro_rules | `(tactic| k_mem) => `(tactic| first | assumption | exact .head _ | (refine .tail _ ?_; k_mem) | (refine List.mem_filter.mpr ⟨?_, decide_eq_true (by assumption)⟩; k_mem))
local macro_rules | `(tactic| walk_at "call builtin:str.find") => `(tactic| (k_here; (with_reducible show wpAny _ _ (call (Value.builtin "str.find") [Value.str _ _, Value.str _ _]) _ _ _); (refine find_call (by assumption) ?_)))
local macro_rules | `(tactic| walk_at "subscriptTail Name BinOp ref int") => `(tactic| (k_here; k_dflt (refine' get_at ?N ?l ?h0 ?hf ?e ?_ ?s ?g; (case N => k_asm); (case l => k_mem); (case h0 => omega); (case hf => omega); (case e => assumption); (case s => with_unfolding_all rfl); (case g => kmk_pure))))
local macro_rules | `(tactic| walk_at "call ref") => `(tactic| (k_here; (with_reducible show wpAny _ _ (call (Value.ref 29) _) _ _ _); refine stop_sign ?_))
local macro_rules | `(tactic| walk_at "binaryOp Add str str") => `(tactic| (k_here; (refine SBL.add (hsz := ?hsz) ?_); (case hsz => (rw [sizeLine_eq]; omega)); intro _ _ _))
theorem val_one (k : Nat) : ((digitsVal (Str.ofString "" ++ ⟨#[k]⟩).cps.toList : Nat) : Int) = 0 * 10 + ((k - 48 : Nat) : Int) := by
  have e0 : ((digitsVal (Str.ofString "").cps.toList : Nat) : Int) = 0 := by decide +kernel
  rw [val_app, e0]
section
variable (w : World) {p : Program} {loose : List Str} {mean : ExcName → Option Value} {mg mb : Str → Option Value} {base h₀ : Heap} {L fa : Addr} {cd : Value} {m : Str → Option Value} {news : List (Addr × Obj)} {s : Shared} {Q : Flow → Shared → Prop}
theorem step05 {lc : Addr} {vs : List Value} {c : Nat} {i n : Int} {ti tn tx ta : Tok} {x a : Str} {co bl : Bool} {o : Option Int} {vp : Value}
    (B : Below callerA base [] h₀) (X : (hd.heap_39 w.params).In h₀) (T : Top p loose mean mg mb h₀) (F : Fr h₀ L s.heap m) (N : News h₀ L s.heap news)
    (hlc : (lc, listOf vs.toArray c) ∈ news) (hi : 0 < i) (hi2 : i < 100) (hv : vs[(i - 1).toNat]? = some (.int n tn)) (hst : St05 x a co bl o) (hp : optK.is o vp) (hx : x.length ≤ 70) (okx : Ok x)
    (h1 : m (Str.ofString "place") = some (.int i ti)) (h2 : m (Str.ofString "script") = some (.ref lc)) (h3 : m (Str.ofString "text") = some (.str x tx)) (h4 : m (Str.ofString "ahead") = some (.str a ta)) (h5 : m (Str.ofString "colon") = some (.bool co)) (h6 : m (Str.ofString "blank") = some (.bool bl)) (h7 : m (Str.ofString "port") = some vp)
    (ret : ∀ k a' co' bl' o' vp' tx' ta' h' tk' m', k < 0x110000 → St05 (x ++ ⟨#[k]⟩) a' co' bl' o' → optK.is o' vp' → Fr h₀ L h' m' → News h₀ L h' news → m' (Str.ofString "text") = some (.str (x ++ ⟨#[k]⟩) tx') → m' (Str.ofString "ahead") = some (.str a' ta') → m' (Str.ofString "colon") = some (.bool co') → m' (Str.ofString "blank") = some (.bool bl') → m' (Str.ofString "port") = some vp' →
      (∀ q, q ≠ Str.ofString "sign" → q ≠ Str.ofString "ahead" → q ≠ Str.ofString "colon" → q ≠ Str.ofString "blank" → q ≠ Str.ofString "port" → q ≠ Str.ofString "worth" → q ≠ Str.ofString "text" → m' q = m q) → Q .next { s with heap := h', toks := tk' }) :
    wpAny (model PySem.Challenge.rw_dn0238_05.row.prog w) (callerA.deeper (env05 L fa cd)) (exec (nthS turn05 0) (env05 L fa cd)) Q NoE s := by
  revert X; k_fill; intro X
  obtain ⟨sh, sg, sd, st, so⟩ := s
  dsimp only at F N ret
  conv in (exec _ _) => arg 1; whnf
  unfold env05
  conv in (occs := *) (fnScope _) => all_goals whnf
  k_steps
  all_goals (try (exfalso; omega))
  unfold Stop
  k_here
  refine CallOK.use (sign_ok _ _ _) (by k_asm) (by k_asm) (by k_asm) (by k_asm) (by k_asm) rfl (by ktr_room) (by ktr_units) trivial ?_
  intro v' add' h' tk' hR' F' N' l1
  obtain ⟨e2', k, t1', e1', hk⟩ := hR'
  subst e1'; subst e2'
  clear l1
  simp only [List.nil_append] at N'
  dsimp only
  k_sweep
  have lk : (⟨#[k]⟩ : Str).length = 1 := rfl
  by_cases h58 : k = 58
  · subst h58
    have hs : ((⟨#[58]⟩ : Str) == Str.ofString ":") = true := by decide +kernel
    k_steps
    rename Fr _ _ _ _ => Ff
    rename News _ _ _ _ => Nf
    exact ret 58 _ _ _ _ _ _ _ _ _ _ hk (St05.colon x) (.inr ⟨_, _, rfl, rfl⟩) Ff Nf rfl rfl rfl rfl rfl (fun q a1 a2 a3 a4 a5 a6 a7 => by simp only [a1, a2, a3, a4, a5, a6, a7, if_false])
  · have hs := sign_eq h58
    cases hst with
    | free hf =>
      k_steps
      rename Fr _ _ _ _ => Ff
      rename News _ _ _ _ => Nf
      exact ret k _ _ _ _ _ _ _ _ _ _ hk (St05.more hf h58) hp Ff Nf rfl rfl h5 h6 h7 (fun q a1 a2 a3 a4 a5 a6 a7 => by simp only [a1, a2, a3, a4, a5, a6, a7, if_false])
    | @blank a e =>
      rcases hp with ⟨e0, _⟩ | ⟨n0, t0, e0, rfl⟩
      · exact nomatch e0
      obtain rfl := Option.some.inj e0
      have ex := assoc3 e k
      by_cases hk9 : 48 ≤ k ∧ k ≤ 57
      · have hf := find_in hk9
        k_steps
        rename Fr _ _ _ _ => Ff
        rename News _ _ _ _ => Nf
        exact ret k _ _ _ _ _ _ _ _ _ _ hk (St05.num ex (snoc_ne _ _) (digits_app (by show ∀ c ∈ (Str.ofString "").cps.toList, 48 ≤ c ∧ c ≤ 57; decide +kernel) hk9)) (.inr ⟨_, _, congrArg some (val_one k), rfl⟩) Ff Nf rfl h4 h5 rfl rfl (fun q a1 a2 a3 a4 a5 a6 a7 => by simp only [a1, a2, a3, a4, a5, a6, a7, if_false])
      · have hf := find_out hk9
        k_steps
        rename Fr _ _ _ _ => Ff
        rename News _ _ _ _ => Nf
        exact ret k _ _ _ _ _ _ _ _ _ _ hk (St05.word ex (snoc_ne _ _) (free_app (by decide +kernel) h58) (bad_app hk9)) (.inl ⟨rfl, rfl⟩) Ff Nf rfl h4 h5 rfl rfl (fun q a1 a2 a3 a4 a5 a6 a7 => by simp only [a1, a2, a3, a4, a5, a6, a7, if_false])
    | @num a b e hb hd =>
      rcases hp with ⟨e0, _⟩ | ⟨n0, t0, e0, rfl⟩
      · exact nomatch e0
      obtain rfl := Option.some.inj e0
      have ex := assoc3 e k
      by_cases hk9 : 48 ≤ k ∧ k ≤ 57
      · have hf := find_in hk9
        k_steps
        rename Fr _ _ _ _ => Ff
        rename News _ _ _ _ => Nf
        exact ret k _ _ _ _ _ _ _ _ _ _ hk (St05.num ex (snoc_ne _ _) (digits_app hd hk9)) (.inr ⟨_, _, congrArg some (val_app b k), rfl⟩) Ff Nf rfl h4 h5 rfl rfl (fun q a1 a2 a3 a4 a5 a6 a7 => by simp only [a1, a2, a3, a4, a5, a6, a7, if_false])
      · have hf := find_out hk9
        k_steps
        rename Fr _ _ _ _ => Ff
        rename News _ _ _ _ => Nf
        exact ret k _ _ _ _ _ _ _ _ _ _ hk (St05.word ex (snoc_ne _ _) (free_app (not58 hd) h58) (bad_app hk9)) (.inl ⟨rfl, rfl⟩) Ff Nf rfl h4 h5 rfl rfl (fun q a1 a2 a3 a4 a5 a6 a7 => by simp only [a1, a2, a3, a4, a5, a6, a7, if_false])
    | @word a b e hb hf8 hd =>
      rcases hp with ⟨_, rfl⟩ | ⟨n0, t0, e0, _⟩
      · have ex := assoc3 e k
        by_cases hk9 : 48 ≤ k ∧ k ≤ 57
        · have hf := find_in hk9
          k_steps
          rename Fr _ _ _ _ => Ff
          rename News _ _ _ _ => Nf
          exact ret k _ _ _ _ _ _ _ _ _ _ hk (St05.word ex (snoc_ne _ _) (free_app hf8 h58) (bad_more hd)) (.inl ⟨rfl, rfl⟩) Ff Nf rfl h4 h5 rfl rfl (fun q a1 a2 a3 a4 a5 a6 a7 => by simp only [a1, a2, a3, a4, a5, a6, a7, if_false])
        · have hf := find_out hk9
          k_steps
          rename Fr _ _ _ _ => Ff
          rename News _ _ _ _ => Nf
          exact ret k _ _ _ _ _ _ _ _ _ _ hk (St05.word ex (snoc_ne _ _) (free_app hf8 h58) (bad_more hd)) (.inl ⟨rfl, rfl⟩) Ff Nf rfl h4 h5 rfl rfl (fun q a1 a2 a3 a4 a5 a6 a7 => by simp only [a1, a2, a3, a4, a5, a6, a7, if_false])
      · exact nomatch e0
end
end Mine
end

section
open PySem PySem.W PyProof.Rows PySem.Spec PySem.Calls
set_option Elab.async false
set_option maxRecDepth 100000
set_option linter.unusedVariables false
set_option maxHeartbeats 2000000
namespace Mine
open PySem.NumText
theorem tup_ne_si {prog : Program} {w : World} {A : Around} {E : Value → Shared → Prop} {s : Shared} {h₀ : Heap} {L : Addr} {news : List (Addr × Obj)} {a b : Addr} {x : Str} {n : Int} {t t' u u' : Tok} {Q : Value → Shared → Prop} (N : News h₀ L s.heap news) (ha : (a, tupObj [.str x t, .int n u]) ∈ news) (hb : (b, tupObj [.str x t', .int n u']) ∈ news) (hx : Ok x) (hu : A.units + 64 < cLine) (h : Q (.bool false) s) :
    wpAny (model prog w) A (compareOp .NotEq (.ref a) (.ref b)) Q E s :=
  tup_ne (ds := [.str x, .int n]) N ha hb (.cons (.str _ _) (.cons (.int _ _) .nil)) (.cons (.str _ _) (.cons (.int _ _) .nil)) (by simp [SeqAt.shaped, PyData.canLay0, PyData.canLayAll0, PyData.depth, PyData.depthAll, hx.strOk]) (by simp [PyData.eqvAll, PyData.eqv]) hu h
local macro_rules | `(tactic| walk_at "eval Name") => `(tactic| (k_here; k_dflt (refine' ld ?k1 ?k2 ?_; (case k1 => k_asm); (case k2 => first | exact rfl | assumption); k_whole)))
local macro_rules | `(tactic| k_mem) => `(tactic| first | assumption | exact .head _ | (refine .tail _ ?_; k_mem) | (refine List.mem_filter.mpr ⟨?_, decide_eq_true (by assumption)⟩; k_mem))
local macro_rules | `(tactic| walk_at "call ref") => `(tactic| (k_here; (with_reducible show wpAny _ _ (call (Value.ref 22) [_, _]) _ _ _); k_dflt (first
  | (refine' CallOK.use (nport_num _ _ _ _ _ _ _ ?hx ?hr ?hb ?hd1 ?hd2 ?hn ?hl) ?B ?F ?X ?N ?T ?hk ?hd ?hu trivial ?_; (case B => k_asm); (case F => k_asm); (case X => k_asm); (case N => k_asm); (case T => k_asm); (case hk => exact rfl); (case hd => ktr_room); (case hu => ktr_units); (case hr => assumption); (case hx => assumption); (case hb => assumption); (case hd1 => assumption); (case hd2 => assumption); (case hn => assumption); (case hl => assumption); (intro v' add' h' tk' hR' F' N' l1; obtain ⟨D', t1', t2', e1', e2'⟩ := hR'; subst e1'; subst e2'; replace l1 := lt_one l1))
  | (refine' CallOK.use (nport_word _ _ _ _ _ _ ?hx ?hr ?hb ?hl ?hwd) ?B ?F ?X ?N ?T ?hk ?hd ?hu trivial ?_; (case B => k_asm); (case F => k_asm); (case X => k_asm); (case N => k_asm); (case T => k_asm); (case hk => exact rfl); (case hd => ktr_room); (case hu => ktr_units); (case hr => assumption); (case hx => assumption); (case hb => assumption); (case hl => assumption); (case hwd => assumption); (intro v' add' h' tk' hR' F' N' l1; obtain ⟨D', t1', e1', e2'⟩ := hR'; subst e1'; subst e2'; replace l1 := lt_one l1))
  | (refine' CallOK.use (nport_blank _ _ _ _ _ ?hx ?hr) ?B ?F ?X ?N ?T ?hk ?hd ?hu trivial ?_; (case B => k_asm); (case F => k_asm); (case X => k_asm); (case N => k_asm); (case T => k_asm); (case hk => exact rfl); (case hd => ktr_room); (case hu => ktr_units); (case hr => assumption); (case hx => assumption); (intro v' add' h' tk' hR' F' N' l1; obtain ⟨D', t1', e1', e2'⟩ := hR'; subst e1'; subst e2'; replace l1 := lt_one l1))
  | (refine' CallOK.use (nport_free _ _ _ _ ?hx ?hr) ?B ?F ?X ?N ?T ?hk ?hd ?hu trivial ?_; (case B => k_asm); (case F => k_asm); (case X => k_asm); (case N => k_asm); (case T => k_asm); (case hk => exact rfl); (case hd => ktr_room); (case hu => ktr_units); (case hr => assumption); (case hx => assumption); (intro v' add' h' tk' hR' F' N' l1; obtain ⟨D', t1', e1', e2'⟩ := hR'; subst e1'; subst e2'; replace l1 := lt_one l1))); (simp only [List.cons_append, List.nil_append] at N'); (try k_lt l1); (try dsimp only); (try k_sweep)))
local macro_rules | `(tactic| walk_at "call ref") => `(tactic| (k_here; (with_reducible show wpAny _ _ (call (Value.ref 22) [_]) _ _ _); k_dflt (first
  | (refine' CallOK.use (nport_num_d _ _ _ _ _ _ ?hx ?hr ?hb ?hd1 ?hd2 ?hn ?hl) ?B ?F ?X ?N ?T ?hk ?hd ?hu trivial ?_; (case B => k_asm); (case F => k_asm); (case X => k_asm); (case N => k_asm); (case T => k_asm); (case hk => exact rfl); (case hd => ktr_room); (case hu => ktr_units); (case hr => assumption); (case hx => assumption); (case hb => assumption); (case hd1 => assumption); (case hd2 => assumption); (case hn => assumption); (case hl => assumption); (intro v' add' h' tk' hR' F' N' l1; obtain ⟨D', t1', t2', e1', e2'⟩ := hR'; subst e1'; subst e2'; replace l1 := lt_one l1))
  | (refine' CallOK.use (nport_word_d _ _ _ _ _ ?hx ?hr ?hb ?hl ?hwd) ?B ?F ?X ?N ?T ?hk ?hd ?hu trivial ?_; (case B => k_asm); (case F => k_asm); (case X => k_asm); (case N => k_asm); (case T => k_asm); (case hk => exact rfl); (case hd => ktr_room); (case hu => ktr_units); (case hr => assumption); (case hx => assumption); (case hb => assumption); (case hl => assumption); (case hwd => assumption); (intro v' add' h' tk' hR' F' N' l1; obtain ⟨D', t1', e1', e2'⟩ := hR'; subst e1'; subst e2'; replace l1 := lt_one l1))
  | (refine' CallOK.use (nport_blank_d _ _ _ _ ?hx ?hr) ?B ?F ?X ?N ?T ?hk ?hd ?hu trivial ?_; (case B => k_asm); (case F => k_asm); (case X => k_asm); (case N => k_asm); (case T => k_asm); (case hk => exact rfl); (case hd => ktr_room); (case hu => ktr_units); (case hr => assumption); (case hx => assumption); (intro v' add' h' tk' hR' F' N' l1; obtain ⟨D', t1', e1', e2'⟩ := hR'; subst e1'; subst e2'; replace l1 := lt_one l1))
  | (refine' CallOK.use (nport_free_d _ _ _ ?hx ?hr) ?B ?F ?X ?N ?T ?hk ?hd ?hu trivial ?_; (case B => k_asm); (case F => k_asm); (case X => k_asm); (case N => k_asm); (case T => k_asm); (case hk => exact rfl); (case hd => ktr_room); (case hu => ktr_units); (case hr => assumption); (case hx => assumption); (intro v' add' h' tk' hR' F' N' l1; obtain ⟨D', t1', e1', e2'⟩ := hR'; subst e1'; subst e2'; replace l1 := lt_one l1))); (simp only [List.cons_append, List.nil_append] at N'); (try k_lt l1); (try dsimp only); (try k_sweep)))
local macro_rules | `(tactic| walk_at "compareOp NotEq ref ref") => `(tactic| (k_here; k_dflt (first
  | (refine' tup_ne_sn ?N ?a ?b ?x ?u ?_; (case N => k_asm); (case a => k_mem); (case b => k_mem); (case x => assumption); (case u => ke_room))
  | (refine' tup_ne_si ?N ?a ?b ?x ?u ?_; (case N => k_asm); (case a => k_mem); (case b => k_mem); (case x => assumption); (case u => ke_room)))))
def inner05 : List Stmt := forBody (nthS turn05 1)
def grp2 (l : List Stmt) (i : Nat) : List Stmt := match l.drop i with | a :: b :: _ => [a, b] | _ => []
section
variable (w : World) {p : Program} {loose : List Str} {mean : ExcName → Option Value} {mg mb : Str → Option Value} {base h₀ : Heap} {L fa : Addr} {cd : Value} {m : Str → Option Value} {news : List (Addr × Obj)} {s : Shared} {Q : Flow → Shared → Prop}
theorem ok_left {x a b c : Str} (e : x = a ++ c ++ b) (h : Ok x) : Ok a := fun k hk => h k (by rw [e, cps_app, cps_app]; exact List.mem_append_left _ (List.mem_append_left _ hk))
theorem inner05_ok {v : Value} {tx ta : Tok} {x a : Str} {co bl : Bool} {o : Option Int} {vp : Value}
    (B : Below callerA base [] h₀) (X : (hd.heap_39 w.params).In h₀) (T : Top p loose mean mg mb h₀) (F : Fr h₀ L s.heap m) (N : News h₀ L s.heap news)
    (hst : St05 x a co bl o) (hp : optK.is o vp) (hx : x.length ≤ 70) (okx : Ok x) (hv : v = .none ∨ ∃ d t, v = .int d t)
    (h1 : m (Str.ofString "default") = some v) (h3 : m (Str.ofString "text") = some (.str x tx)) (h4 : m (Str.ofString "ahead") = some (.str a ta)) (h6 : m (Str.ofString "blank") = some (.bool bl)) (h7 : m (Str.ofString "port") = some vp)
    (ret : ∀ h' tk' m', Fr h₀ L h' m' → News h₀ L h' news → (∀ q, q ≠ Str.ofString "due" → q ≠ Str.ofString "got" → m' q = m q) → Q .next { s with heap := h', toks := tk' }) :
    wpAny (model PySem.Challenge.rw_dn0238_05.row.prog w) (callerA.deeper (env05 L fa cd)) (execs inner05 (env05 L fa cd)) Q NoE s := by
  revert X; k_fill; intro X
  obtain ⟨sh, sg, sd, st, so⟩ := s
  dsimp only at F N ret
  have lnx : x.length ≤ sizeLine := by rw [sizeLine_eq]; omega
  conv in (execs _ _) => arg 1; whnf
  unfold env05
  conv in (occs := *) (fnScope _) => all_goals whnf
  cases hst with
  | free hf =>
    have cut : Txt.rpartition x (Str.ofString ":") = (Str.ofString "", Str.ofString "", x) := by rw [colon_is, empty_is]; exact rpart_free _ _ hf
    rcases hv with rfl | ⟨d, td, rfl⟩
    all_goals
      k_steps
      rename Fr _ _ _ _ => Ff
      rename News _ _ _ _ => Nf
      exact ret _ _ _ Ff (cb_drop Nf (by intro q hq; repeat' (first | exact hq | refine .tail _ ?_))) (fun q a1 a2 => by simp only [a1, a2, if_false])
  | @blank a e =>
    have cut : Txt.rpartition x (Str.ofString ":") = (a, Str.ofString ":", Str.ofString "") := by rw [e, colon_is]; exact rpart_last _ _ _ (by decide +kernel)
    have oka : Ok a := ok_left e okx
    rcases hv with rfl | ⟨d, td, rfl⟩
    all_goals
      k_steps
      rename Fr _ _ _ _ => Ff
      rename News _ _ _ _ => Nf
      exact ret _ _ _ Ff (cb_drop Nf (by intro q hq; repeat' (first | exact hq | refine .tail _ ?_))) (fun q a1 a2 => by simp only [a1, a2, if_false])
  | @num a b e hb hd =>
    have cut : Txt.rpartition x (Str.ofString ":") = (a, Str.ofString ":", b) := by rw [e, colon_is]; exact rpart_last _ _ _ (not58 hd)
    have oka : Ok a := ok_left e okx
    have isd := isdigit_all hb hd
    have isd1 := isd.1
    have isd2 := isd.2
    have lb := truthy_len hb
    have l640 : b.length ≤ 640 := by have h := congrArg Str.length e; simp only [Str.length_append] at h; omega
    have rd := port_reads hb hd l640
    rcases hp with ⟨e0, _⟩ | ⟨n0, t0, e0, rfl⟩
    · exact nomatch e0
    obtain rfl := Option.some.inj e0
    rcases hv with rfl | ⟨d, td, rfl⟩
    all_goals
      k_steps
      rename Fr _ _ _ _ => Ff
      rename News _ _ _ _ => Nf
      exact ret _ _ _ Ff (cb_drop Nf (by intro q hq; repeat' (first | exact hq | refine .tail _ ?_))) (fun q a1 a2 => by simp only [a1, a2, if_false])
  | @word a b e hb hf8 hd =>
    have cut : Txt.rpartition x (Str.ofString ":") = (a, Str.ofString ":", b) := by rw [e, colon_is]; exact rpart_last _ _ _ hf8
    have oka : Ok a := ok_left e okx
    have lb := truthy_len hb
    have l640 : b.length ≤ 640 := by have h := congrArg Str.length e; simp only [Str.length_append] at h; omega
    have wd := not_digits hd
    rcases hp with ⟨_, rfl⟩ | ⟨n0, t0, e0, _⟩
    · rcases hv with rfl | ⟨d, td, rfl⟩
      all_goals
        k_steps
        rename Fr _ _ _ _ => Ff
        rename News _ _ _ _ => Nf
        exact ret _ _ _ Ff (cb_drop Nf (by intro q hq; repeat' (first | exact hq | refine .tail _ ?_))) (fun q a1 a2 => by simp only [a1, a2, if_false])
    · exact nomatch e0
theorem plain05 {tx ta : Tok} {x a : Str} {co bl : Bool} {o : Option Int} {vp : Value}
    (B : Below callerA base [] h₀) (X : (hd.heap_39 w.params).In h₀) (T : Top p loose mean mg mb h₀) (F : Fr h₀ L s.heap m) (N : News h₀ L s.heap news)
    (hst : St05 x a co bl o) (hp : optK.is o vp) (hx : x.length ≤ 70) (okx : Ok x)
    (h3 : m (Str.ofString "text") = some (.str x tx)) (h4 : m (Str.ofString "ahead") = some (.str a ta)) (h6 : m (Str.ofString "blank") = some (.bool bl)) (h7 : m (Str.ofString "port") = some vp)
    (ret : ∀ h' tk' m', Fr h₀ L h' m' → News h₀ L h' news → (∀ q, m' q = m q) → Q .next { s with heap := h', toks := tk' }) :
    wpAny (model PySem.Challenge.rw_dn0238_05.row.prog w) (callerA.deeper (env05 L fa cd)) (exec (nthS turn05 2) (env05 L fa cd)) Q NoE s := by
  revert X; k_fill; intro X
  obtain ⟨sh, sg, sd, st, so⟩ := s
  dsimp only at F N ret
  have lnx : x.length ≤ sizeLine := by rw [sizeLine_eq]; omega
  conv in (exec _ _) => arg 1; whnf
  unfold env05
  conv in (occs := *) (fnScope _) => all_goals whnf
  cases hst with
  | free hf =>
    have cut : Txt.rpartition x (Str.ofString ":") = (Str.ofString "", Str.ofString "", x) := by rw [colon_is, empty_is]; exact rpart_free _ _ hf
    k_steps
    rename Fr _ _ _ _ => Ff
    rename News _ _ _ _ => Nf
    exact ret _ _ _ Ff (cb_drop Nf (by intro q hq; repeat' (first | exact hq | refine .tail _ ?_))) (fun _ => rfl)
  | @blank a e =>
    have cut : Txt.rpartition x (Str.ofString ":") = (a, Str.ofString ":", Str.ofString "") := by rw [e, colon_is]; exact rpart_last _ _ _ (by decide +kernel)
    have oka : Ok a := ok_left e okx
    k_steps
    rename Fr _ _ _ _ => Ff
    rename News _ _ _ _ => Nf
    exact ret _ _ _ Ff (cb_drop Nf (by intro q hq; repeat' (first | exact hq | refine .tail _ ?_))) (fun _ => rfl)
  | @num a b e hb hd =>
    have cut : Txt.rpartition x (Str.ofString ":") = (a, Str.ofString ":", b) := by rw [e, colon_is]; exact rpart_last _ _ _ (not58 hd)
    have oka : Ok a := ok_left e okx
    have isd := isdigit_all hb hd
    have isd1 := isd.1
    have isd2 := isd.2
    have lb := truthy_len hb
    have l640 : b.length ≤ 640 := by have h := congrArg Str.length e; simp only [Str.length_append] at h; omega
    have rd := port_reads hb hd l640
    rcases hp with ⟨e0, _⟩ | ⟨n0, t0, e0, rfl⟩
    · exact nomatch e0
    obtain rfl := Option.some.inj e0
    k_steps
    rename Fr _ _ _ _ => Ff
    rename News _ _ _ _ => Nf
    exact ret _ _ _ Ff (cb_drop Nf (by intro q hq; repeat' (first | exact hq | refine .tail _ ?_))) (fun _ => rfl)
  | @word a b e hb hf8 hd =>
    have cut : Txt.rpartition x (Str.ofString ":") = (a, Str.ofString ":", b) := by rw [e, colon_is]; exact rpart_last _ _ _ hf8
    have oka : Ok a := ok_left e okx
    have lb := truthy_len hb
    have l640 : b.length ≤ 640 := by have h := congrArg Str.length e; simp only [Str.length_append] at h; omega
    have wd := not_digits hd
    rcases hp with ⟨_, rfl⟩ | ⟨n0, t0, e0, _⟩
    · k_steps
      rename Fr _ _ _ _ => Ff
      rename News _ _ _ _ => Nf
      exact ret _ _ _ Ff (cb_drop Nf (by intro q hq; repeat' (first | exact hq | refine .tail _ ?_))) (fun _ => rfl)
    · exact nomatch e0
end
end Mine
end

section
open PySem PySem.W PyProof.Rows PySem.Spec PySem.Calls
set_option Elab.async false
set_option maxRecDepth 100000
set_option linter.unusedVariables false
set_option maxHeartbeats 2000000
namespace Mine
open PySem.NumText
local macro_rules | `(tactic| walk_at "eval Name") => `(tactic| (k_here; k_dflt (refine' ld ?k1 ?k2 ?_; (case k1 => k_asm); (case k2 => first | exact rfl | assumption); k_whole)))
local macro_rules | `(tactic| k_mem) => `(tactic| first | assumption | exact .head _ | (refine .tail _ ?_; k_mem) | (refine List.mem_filter.mpr ⟨?_, decide_eq_true (by assumption)⟩; k_mem))
local macro_rules | `(tactic| walk_at "pyIter ref") => `(tactic| (k_here; refine stop_sign ?_))
local macro_rules | `(tactic| walk_at "exec For Name Tuple cons nil") => `(tactic| (k_here; (rename Fr _ _ _ _ => lF'); (with_unfolding_all refine' For_invVF lF' ?k1 ?k2 ?_ ?k3 ?k4; (case k1 => exact rfl); (case k2 => exact rfl); (case k3 => (intro _; rfl)); (case k4 => exact PassesOwn.never); k_whole)))
local macro_rules | `(tactic| walk_at "exec For Name Call cons nil") => `(tactic| (k_here; (rename Fr _ _ _ _ => lF'); (with_unfolding_all refine' For_invVF lF' ?k1 ?k2 ?_ ?k3 ?k4; (case k1 => exact rfl); (case k2 => exact rfl); (case k3 => (intro _; rfl)); (case k4 => exact PassesOwn.never); k_whole)))
local macro_rules | `(tactic| walk_at "call builtin:len") => `(tactic| (k_here; k_dflt (refine' len_item ?N ?l ?z ?_; (case N => k_asm); (case l => k_mem); (case z => omega))))
theorem ints_at : ∀ {vs : List Value} {ns : List Int}, IntsAre vs ns → ∀ (i : Nat) (v : Value), vs[i]? = some v → ∃ n t, ns[i]? = some n ∧ v = .int n t
  | _, _, .nil, i, v, h => by simp at h
  | _, _, .cons y t r, 0, v, h => ⟨y, t, rfl, by simpa using h.symm⟩
  | _, _, .cons y t r, i + 1, v, h => by simpa using ints_at r i v (by simpa using h)
section
variable (w : World) {p : Program} {loose : List Str} {mean : ExcName → Option Value} {mg mb : Str → Option Value} {base h₀ : Heap} {L fa : Addr} {cd : Value} {m : Str → Option Value} {news : List (Addr × Obj)} {s : Shared} {Q : Flow → Shared → Prop}
theorem fordef05 {n : Int} {tn tx ta : Tok} {x a : Str} {co bl : Bool} {o : Option Int} {vp : Value}
    (B : Below callerA base [] h₀) (X : (hd.heap_39 w.params).In h₀) (T : Top p loose mean mg mb h₀) (F : Fr h₀ L s.heap m) (N : News h₀ L s.heap news)
    (hst : St05 x a co bl o) (hp : optK.is o vp) (hx : x.length ≤ 70) (okx : Ok x)
    (h1 : m (Str.ofString "third") = some (.int n tn)) (h3 : m (Str.ofString "text") = some (.str x tx)) (h4 : m (Str.ofString "ahead") = some (.str a ta)) (h6 : m (Str.ofString "blank") = some (.bool bl)) (h7 : m (Str.ofString "port") = some vp)
    (ret : ∀ h' tk' m', Fr h₀ L h' m' → News h₀ L h' news → (∀ q, q ≠ Str.ofString "default" → q ≠ Str.ofString "due" → q ≠ Str.ofString "got" → m' q = m q) → Q .next { s with heap := h', toks := tk' }) :
    wpAny (model PySem.Challenge.rw_dn0238_05.row.prog w) (callerA.deeper (env05 L fa cd)) (exec (nthS turn05 1) (env05 L fa cd)) Q NoE s := by
  revert X; k_fill; intro X
  obtain ⟨sh, sg, sd, st, so⟩ := s
  dsimp only at F N ret
  conv in (exec _ _) => arg 1; whnf
  unfold env05
  conv in (occs := *) (fnScope _) => all_goals whnf
  k_steps
  unfold Stop
  rename Fr _ _ _ _ => Ff
  rename News _ _ _ _ => Nf
  rename (∀ p ∈ news, p.1 < _) => lD
  refine for_tup (vs := [_, _, _]) (news := news) (fun i m' nx => nx = news ∧ ∀ q, q ≠ Str.ofString "default" → q ≠ Str.ofString "due" → q ≠ Str.ofString "got" → m' q = m q) rfl (.head _) Ff Nf (fun q hq => .tail _ hq) ⟨rfl, fun _ _ _ _ => rfl⟩ ?_ ?_
  · rintro I hbig i v m₁ nx h tk own hv ⟨enx, j⟩ g1 g4 F1 N1
    have enx := enx.symm
    subst enx
    have hv' : v = .none ∨ ∃ d t, v = .int d t := by
      match i, hv with
      | 0, hv => exact .inr ⟨_, _, (Option.some.inj hv).symm⟩
      | 1, hv => exact .inl (Option.some.inj hv).symm
      | 2, hv => exact .inr ⟨_, _, (Option.some.inj hv).symm⟩
      | i + 3, hv => simp at hv
    have e0 : ∀ q, q ≠ Str.ofString "default" → (if q = Str.ofString "default" then some v else m₁ q) = m₁ q := fun q h => if_neg h
    have r : ∀ q, q ≠ Str.ofString "default" → q ≠ Str.ofString "due" → q ≠ Str.ofString "got" → (if q = Str.ofString "default" then some v else m₁ q) = m q := fun q a1 a2 a3 => (e0 q a1).trans (j q a1 a2 a3)
    refine inner05_ok w B X T (s := ⟨h, sg, sd, tk, so⟩) F1 N1 hst hp hx okx hv' (if_pos rfl) ((r _ (by decide +kernel) (by decide +kernel) (by decide +kernel)).trans h3) ((r _ (by decide +kernel) (by decide +kernel) (by decide +kernel)).trans h4) ((r _ (by decide +kernel) (by decide +kernel) (by decide +kernel)).trans h6) ((r _ (by decide +kernel) (by decide +kernel) (by decide +kernel)).trans h7) ?_
    intro h' tk' m' F' N' c
    exact TurnEnd.go (news' := news) F' N' (fun q hq => g4 q hq) ⟨rfl, fun q a1 a2 a3 => (c q a2 a3).trans (r q a1 a2 a3)⟩
  · rintro h' tk m' nx F' N' ⟨enx, j⟩
    have enx := enx.symm
    subst enx
    exact ret _ _ _ F' N' j
theorem zero05 {ti : Tok}
    (B : Below callerA base [] h₀) (X : (hd.heap_39 w.params).In h₀) (T : Top p loose mean mg mb h₀) (F : Fr h₀ L s.heap m) (N : News h₀ L s.heap news)
    (h1 : m (Str.ofString "place") = some (.int 0 ti))
    (ret : ∀ h' tk', Fr h₀ L h' m → News h₀ L h' news → Q .next { s with heap := h', toks := tk' }) :
    wpAny (model PySem.Challenge.rw_dn0238_05.row.prog w) (callerA.deeper (env05 L fa cd)) (exec (nthS turn05 0) (env05 L fa cd)) Q NoE s := by
  revert X; k_fill; intro X
  obtain ⟨sh, sg, sd, st, so⟩ := s
  dsimp only at F N ret
  conv in (exec _ _) => arg 1; whnf
  unfold env05
  conv in (occs := *) (fnScope _) => all_goals whnf
  k_steps
  rename Fr _ _ _ _ => Ff
  rename News _ _ _ _ => Nf
  exact ret _ _ Ff Nf
theorem turn05_is : turn05 = [nthS turn05 0] ++ ([nthS turn05 1] ++ [nthS turn05 2]) := by rfl
/-- what holds between the turns -/
def J7 (lc : Addr) (vs : List Value) (c : Nat) (n : Int) (tn : Tok) (i : Nat) (m : Str → Option Value) (nx : List (Addr × Obj)) : Prop :=
  nx = [(lc, listOf vs.toArray c)] ∧ m (Str.ofString "script") = some (.ref lc) ∧ m (Str.ofString "third") = some (.int n tn) ∧
  ∃ x a co bl o vp tx ta, St05 x a co bl o ∧ optK.is o vp ∧ x.length ≤ i ∧ Ok x ∧ m (Str.ofString "text") = some (.str x tx) ∧ m (Str.ofString "ahead") = some (.str a ta) ∧ m (Str.ofString "colon") = some (.bool co) ∧ m (Str.ofString "blank") = some (.bool bl) ∧ m (Str.ofString "port") = some vp
theorem rest05 {lc I : Addr} {vs : List Value} {c i : Nat} {n : Int} {tn tx ta : Tok} {x a : Str} {co bl : Bool} {o : Option Int} {vp : Value} {own : List (Addr × Obj)} {s₁ : Shared}
    (B : Below callerA base [] h₀) (X : (hd.heap_39 w.params).In h₀) (T : Top p loose mean mg mb h₀) (F : Fr h₀ L s.heap m) (N : News h₀ L s.heap (own ++ [(lc, listOf vs.toArray c)])) (hI : lc ≠ I) (hi : i < 64)
    (hst : St05 x a co bl o) (hp : optK.is o vp) (hx : x.length ≤ i + 1) (okx : Ok x) (hs : ∃ h tk, s = { s₁ with heap := h, toks := tk })
    (h1 : m (Str.ofString "third") = some (.int n tn)) (h2 : m (Str.ofString "script") = some (.ref lc)) (h3 : m (Str.ofString "text") = some (.str x tx)) (h4 : m (Str.ofString "ahead") = some (.str a ta)) (h5 : m (Str.ofString "colon") = some (.bool co)) (h6 : m (Str.ofString "blank") = some (.bool bl)) (h7 : m (Str.ofString "port") = some vp) :
    wpAny (model PySem.Challenge.rw_dn0238_05.row.prog w) (callerA.deeper (env05 L fa cd)) (execs ([nthS turn05 1] ++ [nthS turn05 2]) (env05 L fa cd)) (TurnEnd h₀ L I own (J7 lc vs c n tn (i + 1)) s₁ Q) NoE s := by
  obtain ⟨h0, tk0, rfl⟩ := hs
  refine execs_app (execs_one (fordef05 w B X T F N hst hp (by omega) okx h1 h3 h4 h6 h7 ?_))
  intro h2' tk2 m2 F2 N2 r2
  refine execs_one (plain05 w B X T (s := { s₁ with heap := h2', toks := tk2 }) F2 N2 hst hp (by omega) okx ((r2 _ (by decide +kernel) (by decide +kernel) (by decide +kernel)).trans h3) ((r2 _ (by decide +kernel) (by decide +kernel) (by decide +kernel)).trans h4) ((r2 _ (by decide +kernel) (by decide +kernel) (by decide +kernel)).trans h6) ((r2 _ (by decide +kernel) (by decide +kernel) (by decide +kernel)).trans h7) ?_)
  intro h3' tk3 m3 F3 N3 r3
  have r : ∀ q, q ≠ Str.ofString "default" → q ≠ Str.ofString "due" → q ≠ Str.ofString "got" → m3 q = m q := fun q a1 a2 a3 => (r3 q).trans (r2 q a1 a2 a3)
  exact TurnEnd.go (news' := [(lc, listOf vs.toArray c)]) F3 N3 (fun q hq => by rw [List.mem_singleton.mp hq]; exact hI) ⟨rfl, (r _ (by decide +kernel) (by decide +kernel) (by decide +kernel)).trans h2, (r _ (by decide +kernel) (by decide +kernel) (by decide +kernel)).trans h1, x, a, co, bl, o, vp, tx, ta, hst, hp, hx, okx, (r _ (by decide +kernel) (by decide +kernel) (by decide +kernel)).trans h3, (r _ (by decide +kernel) (by decide +kernel) (by decide +kernel)).trans h4, (r _ (by decide +kernel) (by decide +kernel) (by decide +kernel)).trans h5, (r _ (by decide +kernel) (by decide +kernel) (by decide +kernel)).trans h6, (r _ (by decide +kernel) (by decide +kernel) (by decide +kernel)).trans h7⟩
theorem turn05_ok {lc I : Addr} {vs : List Value} {ns : List Int} {c i : Nat} {n : Int} {tn ti : Tok} {own : List (Addr × Obj)}
    (B : Below callerA base [] h₀) (X : (hd.heap_39 w.params).In h₀) (T : Top p loose mean mg mb h₀) (F : Fr h₀ L s.heap fun y => if y = Str.ofString "place" then some (.int (i : Int) ti) else m y) (N : News h₀ L s.heap (own ++ news))
    (hJ : J7 lc vs c n tn i m news) (hI : lc ≠ I) (hi : i < 64) (hvs : IntsAre vs ns) (hlen : i ≤ ns.length) :
    wpAny (model PySem.Challenge.rw_dn0238_05.row.prog w) (callerA.deeper (env05 L fa cd)) (execs turn05 (env05 L fa cd)) (TurnEnd h₀ L I own (J7 lc vs c n tn (i + 1)) s Q) NoE s := by
  obtain ⟨rfl, j1, j2, x, a, co, bl, o, vp, tx, ta, hst, hp, hx, okx, j3, j4, j5, j6, j7⟩ := hJ
  have e0 : ∀ q, q ≠ Str.ofString "place" → (if q = Str.ofString "place" then some (Value.int (i : Int) ti) else m q) = m q := fun q h => if_neg h
  rw [turn05_is]
  cases i with
  | zero =>
    refine execs_app (execs_one (zero05 w B X T F N (if_pos rfl) ?_))
    intro h1 tk1 F1 N1
    exact rest05 w B X T (s := { s with heap := h1, toks := tk1 }) F1 N1 hI hi hst hp (by omega) okx ⟨h1, tk1, rfl⟩ ((e0 _ (by decide +kernel)).trans j2) ((e0 _ (by decide +kernel)).trans j1) ((e0 _ (by decide +kernel)).trans j3) ((e0 _ (by decide +kernel)).trans j4) ((e0 _ (by decide +kernel)).trans j5) ((e0 _ (by decide +kernel)).trans j6) ((e0 _ (by decide +kernel)).trans j7)
  | succ k =>
    have lv := hvs.length
    obtain ⟨v, hv⟩ : ∃ v, vs[k]? = some v := ⟨vs[k], by rw [List.getElem?_eq_getElem (by omega)]⟩
    obtain ⟨z, tz, _, rfl⟩ := ints_at hvs k v hv
    have hv' : vs[(((k + 1 : Nat) : Int) - 1).toNat]? = some (.int z tz) := by rw [show (((k + 1 : Nat) : Int) - 1).toNat = k by omega]; exact hv
    refine execs_app (execs_one (step05 w B X T F N (List.mem_append_right _ (.head _)) (by omega) (by omega) hv' hst hp (by omega) okx (if_pos rfl) ((e0 _ (by decide +kernel)).trans j1) ((e0 _ (by decide +kernel)).trans j3) ((e0 _ (by decide +kernel)).trans j4) ((e0 _ (by decide +kernel)).trans j5) ((e0 _ (by decide +kernel)).trans j6) ((e0 _ (by decide +kernel)).trans j7) ?_))
    intro q a' co' bl' o' vp' tx' ta' h1 tk1 m1 hq hst' hp' F1 N1 k3 k4 k5 k6 k7 r
    have r' : ∀ q, q ≠ Str.ofString "sign" → q ≠ Str.ofString "ahead" → q ≠ Str.ofString "colon" → q ≠ Str.ofString "blank" → q ≠ Str.ofString "port" → q ≠ Str.ofString "worth" → q ≠ Str.ofString "text" → q ≠ Str.ofString "place" → m1 q = m q := fun q a1 a2 a3 a4 a5 a6 a7 a8 => (r q a1 a2 a3 a4 a5 a6 a7).trans (e0 q a8)
    exact rest05 w B X T (s := { s with heap := h1, toks := tk1 }) F1 N1 hI hi hst' hp' (by rw [Str.length_append, show (⟨#[q]⟩ : Str).length = 1 from rfl]; omega) (okx.app (Ok.one hq)) ⟨h1, tk1, rfl⟩ ((r' _ (by decide +kernel) (by decide +kernel) (by decide +kernel) (by decide +kernel) (by decide +kernel) (by decide +kernel) (by decide +kernel) (by decide +kernel)).trans j2) ((r' _ (by decide +kernel) (by decide +kernel) (by decide +kernel) (by decide +kernel) (by decide +kernel) (by decide +kernel) (by decide +kernel) (by decide +kernel)).trans j1) k3 k4 k5 k6 k7
end
end Mine
end

section
open PySem PySem.W PyProof.Rows PySem.Spec PySem.Calls
set_option Elab.async false
set_option maxRecDepth 100000
set_option linter.unusedVariables false
set_option maxHeartbeats 2000000
namespace Mine
open PySem.NumText
def top7 (l : List Stmt) : List Stmt := match l with | a :: b :: c :: d :: e :: f :: g :: _ => [a, b, c, d, e, f, g] | _ => []
local macro_rules | `(tactic| walk_at "eval Name") => `(tactic| (k_here; k_dflt (refine' ld ?k1 ?k2 ?_; (case k1 => k_asm); (case k2 => first | exact rfl | assumption); k_whole)))
local macro_rules | `(tactic| walk_at "pyIter ref") => `(tactic| (k_here; refine stop_sign ?_))
local macro_rules | `(tactic| walk_at "exec For Name Call cons nil") => `(tactic| (k_here; (rename Fr _ _ _ _ => lF'); (with_unfolding_all refine' For_invVF lF' ?k1 ?k2 ?_ ?k3 ?k4; (case k1 => exact rfl); (case k2 => exact rfl); (case k3 => (intro _; rfl)); (case k4 => exact PassesOwn.never); k_whole)))
section
variable (w : World) {p : Program} {loose : List Str} {mean : ExcName → Option Value} {mg mb : Str → Option Value} {base h₀ : Heap} {L fa : Addr} {cd : Value} {m : Str → Option Value} {news : List (Addr × Obj)} {s : Shared} {Q : Flow → Shared → Prop}
theorem head05 {ls : Addr} {vs : List Value} {ns : List Int}
    (B : Below callerA base [] h₀) (X : (hd.heap_39 w.params).In h₀) (T : Top p loose mean mg mb h₀) (F : Fr h₀ L s.heap m) (N : News h₀ L s.heap [])
    (hl : h₀.IsList ls vs.toArray) (hi : IntsAre vs ns) (hb : ns.length ≤ 63) (h1 : m (Str.ofString "script") = some (.ref ls))
    (ret : ∀ lc vs' ns' c n tn tx ta tp h' tk' m', IntsAre vs' ns' → ns'.length ≤ 63 → Fr h₀ L h' m' → News h₀ L h' [(lc, listOf vs'.toArray c)] → m' (Str.ofString "script") = some (.ref lc) → m' (Str.ofString "third") = some (.int n tn) → m' (Str.ofString "text") = some (.str (Str.ofString "") tx) → m' (Str.ofString "ahead") = some (.str (Str.ofString "") ta) → m' (Str.ofString "colon") = some (.bool false) → m' (Str.ofString "blank") = some (.bool true) → m' (Str.ofString "port") = some (.int 0 tp) → Q .next { s with heap := h', toks := tk' }) :
    wpAny (model PySem.Challenge.rw_dn0238_05.row.prog w) (callerA.deeper (env05 L fa cd)) (execs (top7 (fnBody law05)) (env05 L fa cd)) Q NoE s := by
  revert X; k_fill; intro X
  obtain ⟨sh, sg, sd, st, so⟩ := s
  dsimp only at F N ret
  conv in (execs _ _) => arg 1; whnf
  unfold env05
  conv in (occs := *) (fnScope _) => all_goals whnf
  k_steps
  all_goals
    rename Fr _ _ _ _ => Ff
    rename News _ _ _ _ => Nf
    rename IntsAre _ (List.take _ _) => hI
    rename ((List.take _ _).length ≤ ns.length) => hL
    exact ret _ _ _ _ _ _ _ _ _ _ _ _ hI (by omega) Ff Nf rfl rfl rfl rfl rfl rfl rfl
local macro_rules | `(tactic| k_mem) => `(tactic| first | assumption | exact .head _ | (refine .tail _ ?_; k_mem))
local macro_rules | `(tactic| walk_at "call builtin:len") => `(tactic| (k_here; k_dflt (refine' len_item ?N ?l ?z ?_; (case N => k_asm); (case l => k_mem); (case z => omega))))
theorem for7 {lc : Addr} {vs : List Value} {ns : List Int} {c : Nat} {n : Int} {tn : Tok}
    (B : Below callerA base [] h₀) (X : (hd.heap_39 w.params).In h₀) (T : Top p loose mean mg mb h₀) (F : Fr h₀ L s.heap m) (N : News h₀ L s.heap [(lc, listOf vs.toArray c)])
    (hvs : IntsAre vs ns) (hb : ns.length ≤ 63) (hJ : J7 lc vs c n tn 0 m [(lc, listOf vs.toArray c)])
    (ret : ∀ h' tk' m', Fr h₀ L h' m' → Q .next { s with heap := h', toks := tk' }) :
    wpAny (model PySem.Challenge.rw_dn0238_05.row.prog w) (callerA.deeper (env05 L fa cd)) (exec (nthS (fnBody law05) 7) (env05 L fa cd)) Q NoE s := by
  revert X; k_fill; intro X
  obtain ⟨sh, sg, sd, st, so⟩ := s
  dsimp only at F N ret
  have lv := hvs.length
  have h2 := hJ.2.1
  conv in (exec _ _) => arg 1; whnf
  unfold env05
  conv in (occs := *) (fnScope _) => all_goals whnf
  k_steps
  unfold Stop
  rename Fr _ _ _ _ => Ff
  rename News _ _ _ _ => Nf
  rename IsRange _ _ _ _ _ _ _ _ => Rf
  rename IntsAre _ _ => hvs
  refine for_range (n := ns.length + 1) (news := [(lc, listOf vs.toArray c)]) (fun i m nx => J7 lc vs c n tn i m nx) rfl Rf (small_one (by omega) (by omega) (by omega) (by omega)) (by rw [rangeSize_nat]; omega) Ff Nf (fun _ h => h) hJ ?_ ?_
  · rintro I hbig i t m₁ nx h tk own hi hJ' g1 g4 F1 N1
    have ei : (0 + (i : Int) * 1) = (i : Int) := by omega
    rw [ei] at F1
    exact turn05_ok w B X T (s := ⟨h, sg, sd, tk, so⟩) F1 N1 hJ' (Nat.ne_of_lt (hbig _ (.head _))) (by omega) hvs (by omega)
  · intro h' tk m' nx F' N' hJ'
    exact ret _ _ _ F'
theorem law05_is : fnBody law05 = top7 (fnBody law05) ++ ([nthS (fnBody law05) 7] ++ [nthS (fnBody law05) 8]) := by rfl
theorem law05_ok {ls : Addr} {vs : List Value} {ns : List Int}
    (B : Below callerA base [] h₀) (X : (hd.heap_39 w.params).In h₀) (T : Top p loose mean mg mb h₀) (F : Fr h₀ L s.heap m) (N : News h₀ L s.heap [])
    (hl : h₀.IsList ls vs.toArray) (hi : IntsAre vs ns) (hb : ns.length ≤ 63) (h1 : m (Str.ofString "script") = some (.ref ls))
    (ret : ∀ h' tk' m', Fr h₀ L h' m' → Q (.ret (.bool true)) { s with heap := h', toks := tk' }) :
    wpAny (model PySem.Challenge.rw_dn0238_05.row.prog w) (callerA.deeper (env05 L fa cd)) (execs (fnBody law05) (env05 L fa cd)) Q NoE s := by
  rw [law05_is]
  refine execs_app (head05 w B X T F N hl hi hb h1 ?_)
  intro lc vs' ns' c n tn tx ta tp h2 tk2 m2 a1 a2 F2 N2 b1 b2 b3 b4 b5 b6 b7
  refine execs_app (execs_one (for7 w B X T (s := { s with heap := h2, toks := tk2 }) F2 N2 a1 a2 ⟨rfl, b1, b2, Str.ofString "", Str.ofString "", false, true, some 0, _, tx, ta, .free (by decide +kernel), .inr ⟨_, _, rfl, rfl⟩, by decide +kernel, (by show ∀ c ∈ (Str.ofString "").cps.toList, c < 0x110000; decide +kernel), b3, b4, b5, b6, b7⟩ ?_))
  intro h3 tk3 m3 F3
  refine execs_one ?_
  revert X; k_fill; intro X
  conv in (exec _ _) => arg 1; whnf
  unfold env05
  conv in (occs := *) (fnScope _) => all_goals whnf
  k_steps
  exact ret _ _ _ F3
end
end Mine
end

open PySem PySem.W PyProof.Rows PySem.Spec PySem.Calls
set_option Elab.async false
set_option maxRecDepth 100000
set_option linter.unusedVariables false
set_option maxHeartbeats 1000000
theorem PySem.Challenge.cw_dn0238_05_holds : PySem.Challenge.rw_dn0238_05.Holds :=
  Mine.hd (by
  k_go0
  rename Fr _ _ _ _ => F0
  rename News _ _ _ _ => N0
  rename IntsAre _ _ => hI
  rename Heap.IsList _ _ _ => hL
  rename Top _ _ _ _ _ _ => T0
  rename Frag.In _ _ => X0
  rename Below _ _ _ _ => B0
  refine wpAny_mono (Mine.law05_ok _ B0 X0 T0 F0 N0 hL hI (by omega) rfl ?r) (fun _ _ h => h) (fun _ _ h => h.elim)
  intro h' tk' m' Ff
  wrow_close)
