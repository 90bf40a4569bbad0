import PyProof.Rows.All
import Wide.All
import OpenK.AllK
import Wide.FinOn
import PySem.Challenge.RW_dn0238_02
section
open PySem PySem.W PyProof.Rows PySem.Spec PySem.Calls
set_option Elab.async false
namespace Mine
open PySem.Builtin PySem.Builtin.Str

theorem str_ext {a b : Str} (h : a.cps.toList = b.cps.toList) : a = b := PySem.Str.ext' (Array.ext' h)
theorem cps_app (a b : Str) : (a ++ b).cps.toList = a.cps.toList ++ b.cps.toList := by
  rw [PySem.Str.cps_append, Array.toList_append]
theorem len_toList (a : Str) : a.length = a.cps.toList.length := by simp [Str.length]

theorem rpart_free (x : Str) (c : Nat) (h : c ∉ x.cps.toList) : Txt.rpartition x ⟨#[c]⟩ = (Str.empty, Str.empty, x) := by
  unfold Txt.rpartition
  rcases StrLaws.last_spec x ⟨#[c]⟩ with ⟨e, _⟩ | ⟨i, _, hA, _⟩
  · rw [e]
  · exact absurd (List.mem_of_getElem? ((StrLaws.subAt_one x c i).mp hA)) h

theorem rpart_last (a b : Str) (c : Nat) (h : c ∉ b.cps.toList) : Txt.rpartition (a ++ ⟨#[c]⟩ ++ b) ⟨#[c]⟩ = (a, ⟨#[c]⟩, b) := by
  have hx : (a ++ ⟨#[c]⟩ ++ b : Str).cps.toList = a.cps.toList ++ c :: b.cps.toList := by simp [cps_app]
  have hat : (a ++ ⟨#[c]⟩ ++ b : Str).cps.toList[a.length]? = some c := by
    rw [hx, len_toList, List.getElem?_append_right (Nat.le_refl _)]; simp
  unfold Txt.rpartition
  rcases StrLaws.last_spec (a ++ ⟨#[c]⟩ ++ b) ⟨#[c]⟩ with ⟨_, hn⟩ | ⟨i, e, hA, hn⟩
  · exact absurd ((StrLaws.subAt_one _ c a.length).mpr hat) (hn _)
  · have hi : (a ++ ⟨#[c]⟩ ++ b : Str).cps.toList[i]? = some c := (StrLaws.subAt_one _ c i).mp hA
    have h1 : ¬ i < a.length := fun hlt => hn _ hlt ((StrLaws.subAt_one _ c a.length).mpr hat)
    have h2 : i = a.length := by
      rcases Nat.lt_trichotomy i a.length with q | q | q
      · exact absurd q h1
      · exact q
      · exfalso
        rw [hx, List.getElem?_append_right (by rw [← len_toList]; omega)] at hi
        rw [← len_toList] at hi
        obtain ⟨k, hk⟩ : ∃ k, i - a.length = k + 1 := ⟨i - a.length - 1, by omega⟩
        rw [hk, List.getElem?_cons_succ] at hi
        exact h (List.mem_of_getElem? hi)
    rw [e, h2]
    have e1 : strSub (a ++ ⟨#[c]⟩ ++ b) 0 a.length = a := str_ext (by rw [StrLaws.strSub_toList, hx, len_toList]; simp)
    have hl : (a ++ ⟨#[c]⟩ ++ b : Str).length = a.length + 1 + b.length := by
      rw [PySem.Str.length_append, PySem.Str.length_append]; rfl
    have e2 : strSub (a ++ ⟨#[c]⟩ ++ b) (a.length + (⟨#[c]⟩ : Str).length) (a ++ ⟨#[c]⟩ ++ b : Str).length = b := str_ext (by
      rw [StrLaws.strSub_toList, hx, hl]
      show ((a.cps.toList ++ c :: b.cps.toList).drop (a.length + 1)).take (a.length + 1 + b.length - (a.length + 1)) = _
      rw [len_toList, len_toList, List.drop_append, List.drop_of_length_le (by omega)]
      simp only [List.nil_append, Nat.add_sub_cancel_left, List.drop_succ_cons, List.drop_zero]
      exact List.take_of_length_le (Nat.le_refl _))
    show (strSub (a ++ ⟨#[c]⟩ ++ b) 0 a.length, _, strSub (a ++ ⟨#[c]⟩ ++ b) (a.length + (⟨#[c]⟩ : Str).length) (a ++ ⟨#[c]⟩ ++ b : Str).length) = _
    rw [e1, e2]

/-- a row: the front, and each word behind the mark -/
def rowT (front mark : Str) (ws : List Str) : Str := ws.foldl (fun acc w => acc ++ mark ++ w) front
theorem rowT_nil (f m : Str) : rowT f m [] = f := rfl
theorem rowT_snoc (f m : Str) (ws : List Str) (w : Str) : rowT f m (ws ++ [w]) = rowT f m ws ++ m ++ w := by
  unfold rowT; rw [List.foldl_append]; rfl
theorem rowT_toList (m : Str) : ∀ (ws : List Str) (f : Str), (rowT f m ws).cps.toList = f.cps.toList ++ (ws.map fun w => m.cps.toList ++ w.cps.toList).flatten
  | [], f => by simp [rowT]
  | w :: r, f => by
    show (rowT (f ++ m ++ w) m r).cps.toList = _
    rw [rowT_toList m r, cps_app, cps_app]; simp
theorem join_toList : ∀ l : List Str, (Str.join Str.empty l).cps.toList = (l.map fun w => w.cps.toList).flatten
  | [] => rfl
  | [x] => by simp [Str.join]
  | x :: y :: r => by
    show (x ++ Str.empty ++ Str.join Str.empty (y :: r)).cps.toList = _
    rw [cps_app, cps_app, join_toList (y :: r)]; simp [Str.empty]
theorem rowT_join (f m : Str) (ws : List Str) : f ++ Txt.join (Str.ofString "") (ws.map (fun y => m ++ y)) = rowT f m ws := by
  refine str_ext ?_
  have e : Str.ofString "" = Str.empty := by decide +kernel
  rw [cps_app, rowT_toList, e]
  show _ ++ (Builtin.Str.glued Str.empty (ws.map (fun y => m ++ y))).cps.toList = _
  rw [StrLaws.glued_eq_join, join_toList, List.map_map]
  congr 2
  exact List.map_congr_left fun w _ => cps_app m w
theorem rowT_length (m : Str) : ∀ (ws : List Str) (f : Str) (B : Nat), (∀ w ∈ ws, w.length ≤ B) → (rowT f m ws).length ≤ f.length + ws.length * (m.length + B)
  | [], f, B, _ => by simp [rowT]
  | w :: r, f, B, h => by
    show (rowT (f ++ m ++ w) m r).length ≤ _
    have h1 := rowT_length m r (f ++ m ++ w) B fun x hx => h x (.tail _ hx)
    have h2 := h w (.head _)
    rw [Str.length_append, Str.length_append] at h1
    rw [List.length_cons, Nat.add_mul]
    omega

/-- one sign for another -/
def swap (c d : Nat) (x : Str) : Str := ⟨(x.cps.toList.map fun k => if k = c then d else k).toArray⟩
theorem swap_toList (c d : Nat) (x : Str) : (swap c d x).cps.toList = x.cps.toList.map fun k => if k = c then d else k := by simp [swap]
theorem map_free {c d : Nat} {l : List Nat} (h : c ∉ l) : (l.map fun k => if k = c then d else k) = l := by
  conv => rhs; rw [← List.map_id l]
  exact List.map_congr_left fun k hk => by
    have : k ≠ c := fun e => h (e ▸ hk)
    simp [this]
theorem swap_join (c d : Nat) : ∀ parts : List Str, (∀ p ∈ parts, c ∉ p.cps.toList) → (Str.join ⟨#[c]⟩ parts).cps.toList.map (fun k => if k = c then d else k) = (Str.join ⟨#[d]⟩ parts).cps.toList
  | [], _ => rfl
  | [x], h => map_free (h x (.head _))
  | x :: y :: r, h => by
    show (x ++ ⟨#[c]⟩ ++ Str.join ⟨#[c]⟩ (y :: r)).cps.toList.map _ = (x ++ ⟨#[d]⟩ ++ Str.join ⟨#[d]⟩ (y :: r)).cps.toList
    rw [cps_app, cps_app, cps_app, cps_app, List.map_append, List.map_append, swap_join c d (y :: r) fun p hp => h p (.tail _ hp), map_free (h x (.head _))]
    simp
theorem replace_swap (x : Str) (c d : Nat) : Txt.replace x ⟨#[c]⟩ ⟨#[d]⟩ = swap c d x := by
  refine str_ext ?_
  rw [StrLaws.replace_one, swap_toList, ← swap_join c d _ (StrLaws.split_free x c), StrLaws.join_split]
theorem swap_length (c d : Nat) (x : Str) : (swap c d x).length = x.length := by rw [len_toList, swap_toList, List.length_map, ← len_toList]
theorem swap_not (c d : Nat) (hcd : c ≠ d) (x : Str) : c ∉ (swap c d x).cps.toList := by
  rw [swap_toList]
  intro h
  obtain ⟨k, _, e⟩ := List.mem_map.mp h
  by_cases hk : k = c
  · rw [if_pos hk] at e; exact hcd e.symm
  · rw [if_neg hk] at e; exact hk e
theorem swap_back (c d : Nat) (x : Str) (h : d ∉ x.cps.toList) : swap d c (swap c d x) = x := by
  refine str_ext ?_
  rw [swap_toList, swap_toList, List.map_map]
  conv => rhs; rw [← List.map_id x.cps.toList]
  refine List.map_congr_left fun k hk => ?_
  have hd : k ≠ d := fun e => h (e ▸ hk)
  by_cases hc : k = c
  · simp [hc]
  · simp [hc, hd]

/-- a text of code points -/
def Ok (x : Str) : Prop := ∀ c ∈ x.cps.toList, c < 0x110000
theorem Ok.strOk {x : Str} (h : Ok x) : PyData.strOk x = true := by
  unfold PyData.strOk
  rw [← Array.all_toList, List.all_eq_true]
  exact fun c hc => by simpa using h c hc
theorem Ok.app {x y : Str} (hx : Ok x) (hy : Ok y) : Ok (x ++ y) := fun c hc => by
  rw [cps_app] at hc
  exact (List.mem_append.mp hc).elim (hx c) (hy c)
theorem Ok.row {m : Str} (hm : Ok m) : ∀ (ws : List Str) {f : Str}, Ok f → (∀ w ∈ ws, Ok w) → Ok (rowT f m ws)
  | [], _, hf, _ => hf
  | w :: r, _, hf, h => Ok.row hm r ((hf.app hm).app (h w (.head _))) fun x hx => h x (.tail _ hx)
theorem Ok.swap {x : Str} {c d : Nat} (hx : Ok x) (hd : d < 0x110000) : Ok (swap c d x) := fun k hk => by
  rw [swap_toList] at hk
  obtain ⟨j, hj, rfl⟩ := List.mem_map.mp hk
  by_cases e : j = c
  · simpa [e] using hd
  · simpa [e] using hx j hj
end Mine
end

section
open PySem PySem.W PyProof.Rows PySem.Spec PySem.Calls
set_option Elab.async false
namespace Mine
abbrev tupObj (vs : List Value) : Obj := { cls := .type "tuple", data := .seq vs.toArray }

/-- a contract of a def: what it asks of the ledger, what it hands back and what it adds -/
def CallOK (prog : Program) (w : World) (K : Frag) (f : Addr) (args : List Value) (Pre : List (Addr × Obj) → Prop) (R : Value → List (Addr × Obj) → Prop) : Prop :=
  ∀ (p : Program) (loose : List Str) (mean : ExcName → Option Value) (mg mb : Str → Option Value) (dp un : Nat) (gd : Option (List Code)) (cn : Str) (cs : Scope) (fa : Addr) (ccd : Value) (cl : List (Str × Addr)) (outer : List Env) (A₀ : Around) (base h₀ : Heap) (L : Addr) (m : Str → Option Value) (news : List (Addr × Obj)) (s : Shared)
    (Q E : Value → Shared → Prop),
    Below A₀ base outer h₀ → Fr h₀ L s.heap m → K.In h₀ → News h₀ L s.heap news → Top p loose mean mg mb h₀ → cs.kind = .function → dp + 4 < recursionLimit → un + 128 < cLine → Pre news →
    (∀ v add h' tk', R v add → Fr h₀ L h' m → News h₀ L h' (add ++ news) → (∀ q ∈ add, ∀ p ∈ news, p.1 < q.1) → Q v { s with heap := h', toks := tk' }) →
    wpAny (model prog w) (ktrTop dp un gd cn cs L fa ccd cl outer) (call (.ref f) args) Q E s

theorem CallOK.use {prog : Program} {w : World} {K : Frag} {f : Addr} {args : List Value} {Pre : List (Addr × Obj) → Prop} {R : Value → List (Addr × Obj) → Prop}
    {p : Program} {loose : List Str} {mean : ExcName → Option Value} {mg mb : Str → Option Value} {dp un : Nat} {gd : Option (List Code)} {cn : Str} {cs : Scope} {fa : Addr} {ccd : Value} {cl : List (Str × Addr)} {outer : List Env} {A₀ : Around} {base h₀ : Heap} {L : Addr} {m : Str → Option Value} {news : List (Addr × Obj)} {s : Shared}
    {Q E : Value → Shared → Prop} (c : CallOK prog w K f args Pre R) (B : Below A₀ base outer h₀) (F : Fr h₀ L s.heap m) (X : K.In h₀) (N : News h₀ L s.heap news) (T : Top p loose mean mg mb h₀) (hk : cs.kind = .function) (hd : dp + 4 < recursionLimit) (hu : un + 128 < cLine) (hp : Pre news)
    (ret : ∀ v add h' tk', R v add → Fr h₀ L h' m → News h₀ L h' (add ++ news) → (∀ q ∈ add, ∀ p ∈ news, p.1 < q.1) → Q v { s with heap := h', toks := tk' }) :
    wpAny (model prog w) (ktrTop dp un gd cn cs L fa ccd cl outer) (call (.ref f) args) Q E s :=
  c _ _ _ _ _ _ _ _ _ _ _ _ _ _ _ _ _ _ _ _ _ _ _ B F X N T hk hd hu hp ret
theorem lt_one {D : Addr} {o : Obj} {news : List (Addr × Obj)} (h : ∀ q ∈ [(D, o)], ∀ p ∈ news, p.1 < q.1) : ∀ p ∈ news, p.1 < D := fun p hp => h (D, o) (.head _) p hp
theorem rpart_call {prog : Program} {w : World} {A : Around} {E : Value → Shared → Prop} {s : Shared} {h₀ : Heap} {L : Addr} {m : PySem.Str → Option Value} {news : List (Addr × Obj)} {x y p q r : PySem.Str} {t u : Tok} {Q : Value → Shared → Prop}
    (hrp : Txt.rpartition x y = (p, q, r)) (hF : Fr h₀ L s.heap m) (hN : News h₀ L s.heap news) (hy : (y.length == 0) = false) (hsz : x.length ≤ sizeLine)
    (h : ∀ D ta tb tc h' k, Fr h₀ L h' m → News h₀ L h' ((D, { cls := .type "tuple", data := .seq [.str p ta, .str q tb, .str r tc].toArray }) :: news) → (∀ a ∈ news, a.1 < D) → Q (.ref D) { s with heap := h', toks := k }) :
    wpAny (model prog w) A (call (.builtin "str.rpartition") [.str x t, .str y u]) Q E s :=
  KXpa.rpartition hF hN hy (by rw [hrp]) (by rw [hrp]) (by rw [hrp]) hsz h
theorem sub1 {α : Type} {a b : α} {l : List α} : ∀ p ∈ [a] ++ l, p ∈ a :: b :: l := fun p hp => by
  rcases List.mem_cons.mp hp with rfl | hp
  · exact .head _
  · exact .tail _ (.tail _ hp)
theorem lt1 {D : Addr} {o : Obj} {news : List (Addr × Obj)} (h : AllLt D news) : ∀ q ∈ [(D, o)], ∀ p ∈ news, p.1 < q.1 := by
  intro q hq p hp
  rw [List.mem_singleton.mp hq]
  exact kst_ltOf h p hp
end Mine
end

section
open PySem PySem.W PyProof.Rows PySem.Spec PySem.Calls
set_option Elab.async false
namespace Mine
section
variable {prog : Program} {w : World} {A : Around} {h₀ : Heap} {L : Addr} {m : Str → Option Value} {env : Env} {elt : Expr} {x : Str} {scope : Scope} {cl : List (Str × Addr)} {s : Shared} {S : List (Addr × Obj) → Prop} {Fin : List Value → List (Addr × Obj) → Prop} {news : List (Addr × Obj)}
theorem strs_at : ∀ {vs : List Value} {xs : List Str}, StrsAre vs xs → ∀ (i : Nat) (v : Value), vs[i]? = some v → ∃ y t, xs[i]? = some y ∧ v = .str y t
  | _, _, .nil, i, v, h => by simp at h
  | _, _, .cons y t r, 0, v, h => ⟨y, t, rfl, by simpa using h.symm⟩
  | _, _, .cons y t r, i + 1, v, h => by simpa using strs_at r i v (by simpa using h)

/-- a comprehension over a list of texts whose element leaves the heap as it is -/
theorem crest_strs {vs : List Value} {xs : List Str} (g : Str → Str) (hi : StrsAre vs xs) (hS : S news)
    (turn : ∀ y t I oI C oC D m₂ ys h tk (E' : Value → Shared → Prop), y ∈ xs → LCg.NsObj oC m₂ → m₂ x = some (.str y t) → Fr h₀ L h m → News h₀ L h ((I, oI) :: (C, oC) :: (D, LCg.lst ys) :: news) →
      wpAny (model prog w) A (eval elt (compEnvC scope cl C env)) (fun z s₂ => ∃ t' tk', z = .str (g y) t' ∧ s₂ = { s with heap := h, toks := tk' }) E' { s with heap := h, toks := tk })
    (fin : ∀ ys, StrsAre ys (xs.map g) → Fin ys news) : LCg.CompRest prog w A h₀ L m env elt x scope cl s S (fun i v => vs.toArray[i]? = some v) Fin vs.toArray.size 0 [] news := by
  have hlen : vs.toArray.size = xs.length := by rw [List.size_toArray]; exact hi.length
  rw [hlen]
  have key : ∀ (j i : Nat) (ys : List Value), i + j = xs.length → StrsAre ys ((xs.take i).map g) → LCg.CompRest prog w A h₀ L m env elt x scope cl s S (fun i v => vs.toArray[i]? = some v) Fin j i ys news := by
    intro j
    induction j with
    | zero =>
      intro i ys hij hy
      have e : i = xs.length := by omega
      subst e
      rw [List.take_length] at hy
      exact LCg.CompRest.zero (fin ys hy)
    | succ j ih =>
      intro i ys hij hy
      refine LCg.CompRest.succ ?_
      intro v I oI C oC D m₂ h tk E' hv hC hx F N off ne
      obtain ⟨y, t, hk, rfl⟩ := strs_at hi i v (by simpa using hv)
      refine wpAny_mono (turn y t I oI C oC D m₂ ys h tk E' (List.mem_of_getElem? hk) hC hx F N) (fun z s₂ hq => ?_) fun _ _ e => e
      obtain ⟨t', tk', rfl, rfl⟩ := hq
      refine ⟨h, tk', news, rfl, F, N, off, hS, ?_⟩
      refine ih (i + 1) _ (by omega) ?_
      rw [List.take_add_one, hk]
      simpa using kct_snoc hy
  exact key xs.length 0 [] (by omega) (by simp only [List.take_zero, List.map_nil]; exact .nil)
end
end Mine
end

section
open PySem PySem.W PyProof.Rows PySem.Spec PySem.Calls
set_option Elab.async false
namespace Mine
section
variable {prog : Program} {w : World} {A : Around} {E : Value → Shared → Prop} {s : Shared} {h₀ : Heap} {L D l : Addr} {m : Str → Option Value} {news news' : List (Addr × Obj)}

theorem pick_left (va vb : List Value) (n : Int) (h : n = va.length) : (slicePick (va ++ vb).toArray none (some n) none).toList = va := by
  have e : sliceBounds none (some n) none (va ++ vb).toArray.size = (((0 : Nat) : Int), ((va.length : Nat) : Int), 1) := by
    simp only [sliceBounds, Option.getD_none, show (1 : Int) > 0 by decide, if_true, if_neg (show ¬ (n < 0) by omega), List.size_toArray, List.length_append]
    congr 1
    congr 1
    omega
  rw [kmk_pick_nat _ e]; simp
theorem pick_right (va vb : List Value) (n : Int) (h : n = va.length) : (slicePick (va ++ vb).toArray (some n) none none).toList = vb := by
  have e : sliceBounds (some n) none none (va ++ vb).toArray.size = (((va.length : Nat) : Int), (((va ++ vb).length : Nat) : Int), 1) := by
    simp only [sliceBounds, Option.getD_none, show (1 : Int) > 0 by decide, if_true, if_neg (show ¬ (n < 0) by omega), List.size_toArray, List.length_append]
    congr 1
    omega
  rw [kmk_pick_nat _ e]; simp
theorem pick_init (va : List Value) (v : Value) : (slicePick (va ++ [v]).toArray none (some (-1)) none).toList = va := by
  have e : sliceBounds none (some (-1)) none (va ++ [v]).toArray.size = (((0 : Nat) : Int), ((va.length : Nat) : Int), 1) := by
    simp only [sliceBounds, Option.getD_none, show (1 : Int) > 0 by decide, if_true, List.size_toArray, List.length_append, List.length_singleton]
    congr 1
    congr 1
    rw [if_pos (by decide)]
    omega
  rw [kmk_pick_nat _ e]; simp

theorem tup_ne {a b : Addr} {vs ws : List Value} {ds : List PyData} {as bs : List Addr} {Q : Value → Shared → Prop} (N : News h₀ L s.heap news) (ha : (a, tupObj vs) ∈ news) (hb : (b, tupObj ws) ∈ news)
    (ra : ReadsAll s.heap vs ds as) (rb : ReadsAll s.heap ws ds bs) (hs : SeqAt.shaped (.tuple ds) = true) (he : PyData.eqvAll ds ds = true) (hu : A.units + 64 < cLine) (h : Q (.bool false) s) :
    wpAny (model prog w) A (compareOp .NotEq (.ref a) (.ref b)) Q E s :=
  ne_dataH (reads_tuple_at (N _ ha).1 rfl rfl ra) (reads_tuple_at (N _ hb).1 rfl rfl rb) hs hs hu (by
    have e : PyData.eqv (.tuple ds) (.tuple ds) = true := by simpa [PyData.eqv] using he
    rw [e]; exact h)
theorem tup_ne_ss {a b : Addr} {x y : Str} {t u t' u' : Tok} {Q : Value → Shared → Prop} (N : News h₀ L s.heap news) (ha : (a, tupObj [.str x t, .str y u]) ∈ news) (hb : (b, tupObj [.str x t', .str y u']) ∈ news) (hx : Ok x) (hy : Ok y) (hu : A.units + 64 < cLine) (h : Q (.bool false) s) :
    wpAny (model prog w) A (compareOp .NotEq (.ref a) (.ref b)) Q E s :=
  tup_ne (ds := [.str x, .str y]) N ha hb (.cons (.str _ _) (.cons (.str _ _) .nil)) (.cons (.str _ _) (.cons (.str _ _) .nil)) (by simp [SeqAt.shaped, PyData.canLay0, PyData.canLayAll0, PyData.depth, PyData.depthAll, hx.strOk, hy.strOk]) (by simp [PyData.eqvAll, PyData.eqv]) hu h
theorem tup_ne_sn {a b : Addr} {x : Str} {t t' : Tok} {Q : Value → Shared → Prop} (N : News h₀ L s.heap news) (ha : (a, tupObj [.str x t, .none]) ∈ news) (hb : (b, tupObj [.str x t', .none]) ∈ news) (hx : Ok x) (hu : A.units + 64 < cLine) (h : Q (.bool false) s) :
    wpAny (model prog w) A (compareOp .NotEq (.ref a) (.ref b)) Q E s :=
  tup_ne (ds := [.str x, .none]) N ha hb (.cons (.str _ _) (.cons .none .nil)) (.cons (.str _ _) (.cons .none .nil)) (by simp [SeqAt.shaped, PyData.canLay0, PyData.canLayAll0, PyData.depth, PyData.depthAll, hx.strOk]) (by simp [PyData.eqvAll, PyData.eqv]) hu h
end
end Mine
end

section
open PySem PySem.W PyProof.Rows PySem.Spec PySem.Calls
set_option Elab.async false
namespace Mine
theorem strs_split : ∀ {vs : List Value} {a b : List Str}, StrsAre vs (a ++ b) → ∃ va vb, vs = va ++ vb ∧ StrsAre va a ∧ StrsAre vb b
  | vs, [], b, h => ⟨[], vs, rfl, .nil, h⟩
  | _, x :: r, b, .cons _ t h => by
    obtain ⟨va, vb, rfl, h1, h2⟩ := strs_split (a := r) h
    exact ⟨_ :: va, vb, rfl, .cons _ t h1, h2⟩
theorem strs_app {va vb : List Value} {a b : List Str} : StrsAre va a → StrsAre vb b → StrsAre (va ++ vb) (a ++ b)
  | .nil, h => h
  | .cons x t r, h => .cons x t (strs_app r h)
theorem strs_one {v : Value} {x : Str} {t : Tok} (e : v = .str x t) : StrsAre [v] [x] := by subst e; exact .cons _ _ .nil
theorem strs_areOf : ∀ {vs : List Value} {xs : List Str}, StrsAre vs xs → AreOf ItemKind.str vs xs
  | _, _, .nil => .nil
  | _, _, .cons _ t h => .cons ⟨t, rfl⟩ (strs_areOf h)
theorem strs_rev : ∀ {vs : List Value} {xs : List Str}, StrsAre vs xs → StrsAre vs.reverse xs.reverse
  | _, _, .nil => .nil
  | _, _, .cons x t h => by
    rw [List.reverse_cons, List.reverse_cons]
    exact strs_app (strs_rev h) (.cons x t .nil)
theorem strs_carried : ∀ {ys : List Value} {xs : List Str}, CarriedAll ys (xs.map PyData.str) → StrsAre ys xs
  | _, [], h => by cases h; exact .nil
  | _, x :: r, h => by
    cases h with
    | cons h1 h2 =>
      cases h1
      exact .cons _ _ (strs_carried h2)
theorem strs_last {vs : List Value} {a : List Str} (h : StrsAre vs a) : (vs = [] ∧ a = []) ∨ ∃ vp p u tu, vs = vp ++ [.str u tu] ∧ a = p ++ [u] ∧ StrsAre vp p := by
  rcases List.eq_nil_or_concat a with rfl | ⟨p, u, rfl⟩
  · cases h; exact .inl ⟨rfl, rfl⟩
  · rw [List.concat_eq_append] at h
    obtain ⟨vp, vq, rfl, h1, h2⟩ := strs_split h
    cases h2 with
    | cons x t r => cases r; exact .inr ⟨vp, p, u, t, rfl, by simp, h1⟩
theorem strs_first {vs : List Value} {b : List Str} (h : StrsAre vs b) : (vs = [] ∧ b = []) ∨ ∃ vq q u tu, vs = .str u tu :: vq ∧ b = u :: q ∧ StrsAre vq q := by
  cases h with
  | nil => exact .inl ⟨rfl, rfl⟩
  | cons x t r => exact .inr ⟨_, _, x, t, rfl, rfl, r⟩
section
variable {prog : Program} {w : World} {A : Around} {E : Value → Shared → Prop} {s : Shared} {h₀ : Heap} {L D l : Addr} {m : Str → Option Value} {news news' : List (Addr × Obj)}
theorem tr_nil {c : Nat} {Q : Bool → Shared → Prop} (N : News h₀ L s.heap news) (hm : (l, listOf ([] : List Value).toArray c) ∈ news) (h : Q false { s with toks := s.toks + 1 + 1 }) : wpAny (model prog w) A (truthy (.ref l)) Q E s :=
  kgr_truthy (vs := []) N hm rfl rfl (by decide) h
theorem tr_snoc {c : Nat} {vs : List Value} {v : Value} {Q : Bool → Shared → Prop} (N : News h₀ L s.heap news) (hm : (l, listOf (vs ++ [v]).toArray c) ∈ news) (hz : (vs ++ [v]).length < 2 ^ 62) (h : Q true { s with toks := s.toks + 1 + 1 }) : wpAny (model prog w) A (truthy (.ref l)) Q E s :=
  kgr_truthy (vs := vs ++ [v]) N hm rfl rfl hz (by rw [show (!(vs ++ [v]).isEmpty) = true by simp]; exact h)
theorem item_last {value slice : PySem.Expr} {c : Nat} {vs : List Value} {v : Value} {u : Tok} {Q : Value → Shared → Prop} (N : News h₀ L s.heap news) (hm : (l, listOf (vs ++ [v]).toArray c) ∈ news) (h : Q v s)
    (hs : subscripted slice false (.ref l) (.int (-1) u) = operate [.ref l, .int (-1) u] (getItem (.ref l) (.int (-1) u))) (hg : ∀ r, letTemporaryGo value (.ref l) r = pure ()) :
    wpAny (model prog w) A (subscriptTail value slice (.ref l) (.int (-1) u)) Q E s :=
  kim_back (l := vs ++ [v]) N hm rfl rfl (by decide) (by simp; omega) (by decide) (by
    have e : ((-1 : Int) + ((vs ++ [v]).length : Int)).toNat = vs.length := by simp; omega
    rw [e]; simp) h hs hg
theorem sl_lit {value slice : PySem.Expr} {c : Nat} {vs zs : List Value} {vl vu : Value} {lo hi : Option Int} {Q : Value → Shared → Prop} (F : Fr h₀ L s.heap m) (N : News h₀ L s.heap news) (hm : (l, listOf vs.toArray c) ∈ news) (pl : IsPart vl lo) (pu : IsPart vu hi) (e : (slicePick vs.toArray lo hi none).toList = zs)
    (h : ∀ D h', Fr h₀ L h' m → News h₀ L h' ((D, listOf zs.toArray 0) :: news) → (∀ p ∈ news, p.1 < D) → Q (.ref D) { s with heap := h' })
    (hs : subscripted slice false (.ref l) (.ref s.heap.objs.size) = operate [.ref s.heap.objs.size, .ref l] (getItem (.ref l) (.ref s.heap.objs.size))) (ht : ∀ r, letTemporaryGo value (.ref l) r = pure ()) (hz : vs.length ≤ sizeLine) :
    wpAny (model prog w) A (subscriptTail value slice (.ref l) (.ref s.heap.objs.size)) Q E { s with heap := s.heap.push { cls := .type "slice", data := .fields #[vl, vu, .none] } } :=
  kmk_slice_lit F N (News.isList N hm) pl pu e h hs ht (by rw [List.size_toArray]; exact hz)
end
end Mine
end

section
open PySem PySem.W PyProof.Rows PySem.Spec PySem.Calls
set_option Elab.async false
namespace Mine
section
variable {prog : Program} {w : World} {A : Around} {E : Value → Shared → Prop} {s : Shared} {h₀ : Heap} {L : Addr} {m : Str → Option Value}
/-- what is wanted of the source of «z = [elt for x in iter]», texts in and texts out -/
def CompIn (prog : Program) (w : World) (A : Around) (h₀ : Heap) (L : Addr) (env : Env) (scope : Scope) (elt : Expr) (x z : Str) (g : Str → Str) (Q : Flow → Shared → Prop) (xv : Value) (s₁ : Shared) : Prop :=
  ∃ l vs xs m news, xv = .ref l ∧ s₁.heap.IsList l vs.toArray ∧ StrsAre vs xs ∧ Fr h₀ L s₁.heap m ∧ News h₀ L s₁.heap news ∧ xs.length ≤ sizeLine ∧
    (∀ C y t s₂ m₂ E', y ∈ xs → s₂.heap.Ns (compEnv scope C env).locals m₂ → m₂ x = some (.str y t) → s₁.toks ≤ s₂.toks → wpAny (model prog w) A (eval elt (compEnv scope C env)) (fun r s₃ => Carried r (.str (g y)) ∧ Keeps s₂ s₃) E' s₂) ∧
    (∀ D n ys h' tk, Fr h₀ L h' (fun q => if q = z then some (.ref D) else m q) → News h₀ L h' ((D, listOf (List.toArray ys) n) :: news) → (∀ p ∈ news, p.1 ≠ D) → StrsAre ys (xs.map g) → Q .next { s₁ with heap := h', toks := tk })
theorem comp_texts {name : Str} {fscope : Scope} {a : Addr} {cd : Value} {elt iter : Expr} {x z : Str} {px py : Pos} {scope : Scope} {pos spos : Pos} {Q : Flow → Shared → Prop} (g : Str → Str)
    (_F : Fr h₀ L s.heap m)
    (h : wpAny (model prog w) A (eval iter (envOf name fscope L a cd)) (CompIn prog w A h₀ L (envOf name fscope L a cd) scope elt x z g Q) E s)
    (hh : A.handled = none)
    (hsw : swapsWith (.ListComp elt [⟨.Name x px, iter, [], 0⟩] scope pos) (some (.Name z py)) spos.line (envOf name fscope L a cd) = pure true)
    (hfree : ∀ z ∈ scope.names, z.2 ≠ .free) (hcell : ∀ z ∈ scope.names, z.2 ≠ .cell) (hkind : scope.kind = .function)
    (hnames : ∀ z ∈ scope.names, z.2 = .local → scope.names.lookup z.1 = some .local) (hx : scope.names.lookup x = some .local)
    (hy : (envOf name fscope L a cd).kindOf z = some .local) (hp : ((envOf name fscope L a cd).scope.kind == .class || ((envOf name fscope L a cd).scope.kind == .module && (envOf name fscope L a cd).locals != (envOf name fscope L a cd).globals)) = false)
    (hs : ∀ x, foldedSetIterable iter (envOf name fscope L a cd) x = pure x) :
    wpAny (model prog w) A (exec (.Assign [.Name z py] (.ListComp elt [⟨.Name x px, iter, [], 0⟩] scope pos) spos) (envOf name fscope L a cd)) Q E s := by
  refine Assign_ListComp_rowsP hsw hfree hcell hkind hnames hx hy hp (wpAny_mono h (fun xv s₁ h₁ => ?_) fun _ _ e => e) hs
  obtain ⟨l, vs, xs, m, news, rfl, hl, hi, F, N, hz, hel, hq⟩ := h₁
  refine srcA_listDW (K := ItemKind.str) (pz := fun _ => true) (d := fun y => PyData.str (g y)) hh hl (strs_areOf hi) F N ?_ ?_ ?_ hz
  · intro C y v s₂ m₂ E' _ _ _ _ _
    exact wpAny_tests_nil ⟨rfl, s₂.heap, s₂.toks, rfl, fun _ _ e => e⟩
  · intro C y v s₂ m₂ E' hm hv _ hn hx' ht
    obtain ⟨t, rfl⟩ := hv
    exact hel C y t s₂ m₂ E' hm hn hx' ht
  · intro D ys h' tk F' N' hD hlD hpl hc
    obtain ⟨⟨n, hobj⟩, hne⟩ := hpl
    have hne' : D ≠ L := NewPlain.ne_locals ⟨⟨n, hobj⟩, hne⟩ F'
    refine hq D n ys h' tk F' (fun p hp => ?_) hne (strs_carried (by
      have e : xs.filter (fun _ => true) = xs := List.filter_eq_self.mpr fun _ _ => rfl
      rw [e] at hc
      rw [List.map_map]; exact hc))
    rcases List.mem_cons.mp hp with rfl | hp
    · exact ⟨hobj, hne', hD⟩
    · exact N' p hp
end
end Mine
end

section
open PySem PySem.W PyProof.Rows PySem.Spec PySem.Calls
set_option Elab.async false
namespace Mine
section
variable {prog : Program} {w : World} {A : Around} {E : Value → Shared → Prop} {s : Shared} {h₀ : Heap} {L D l : Addr} {m : Str → Option Value} {news news' : List (Addr × Obj)}
theorem menu_item {P : Str → Prop} {value slice : PySem.Expr} {c : Nat} {vs : List Value} {ws : List Str} {i : Int} {u : Tok} {Q : Value → Shared → Prop} (hP : ∀ y ∈ ws, P y) (N : News h₀ L s.heap news) (hm : (l, listOf vs.toArray c) ∈ news) (hw : StrsAre vs ws) (h0 : 0 ≤ i) (h1 : i < (ws.length : Int)) (hl : ws.length ≤ 8)
    (h : ∀ y t', P y → Q (.str y t') s)
    (hs : subscripted slice false (.ref l) (.int i u) = operate [.ref l, .int i u] (getItem (.ref l) (.int i u))) :
    wpAny (model prog w) A (subscriptTail value slice (.ref l) (.int i u)) Q E s :=
  KTb.item_list (News.isList N hm) hw h0 h1 (by omega) (fun t' hlt => h _ t' (hP _ (by
    rw [List.getD_eq_getElem?_getD, List.getElem?_eq_getElem hlt]; exact List.getElem_mem hlt))) hs
theorem len_item {c : Nat} {vs : List Value} {Q : Value → Shared → Prop} (N : News h₀ L s.heap news) (hm : (l, listOf vs.toArray c) ∈ news) (hfit : (vs.length : Int) < 2 ^ 63)
    (h : Q (.int (vs.length : Int) (s.toks + 1)) { s with toks := s.toks + 1 + 1 }) : wpAny (model prog w) A (call (.builtin "len") [.ref l]) Q E s :=
  kst_len N hm rfl hfit h
theorem insert_at {c : Nat} {va vb : List Value} {x : Int} {u : Tok} {y : Value} {Q : Value → Shared → Prop} (hx : x = (va.length : Int)) (F : Fr h₀ L s.heap m) (N : News h₀ L s.heap news)
    (U : Upd D (listOf (va ++ vb).toArray c) (listOf (va ++ y :: vb).toArray (c + 1)) news news') (hz : (va ++ vb).length ≤ sizeLine) (h : ∀ h', Fr h₀ L h' m → News h₀ L h' news' → Q .none { s with heap := h' }) :
    wpAny (model prog w) A (call (.builtin "list.insert") [.ref D, .int x u, y]) Q E s := by
  have hz' : va.length ≤ 16777216 := by rw [List.length_append, sizeLine_eq] at hz; omega
  refine kl_insert (l := va ++ y :: vb) F N ?_ ?_ U (by simpa using hz) h
  · subst hx
    unfold Builtin.List.listFitsIndex
    simp only [Bool.and_eq_true, decide_eq_true_eq]
    omega
  · subst hx
    unfold kl_ins
    rw [if_neg (by omega)]
    have e : min ((va.length : Int)).toNat (va ++ vb).toArray.toList.length = va.length := by simp
    rw [e]; simp
theorem pop_at {c : Nat} {vp vb : List Value} {x : Int} {u : Tok} {y : Value} {Q : Value → Shared → Prop} (hx : x = (vp.length : Int)) (F : Fr h₀ L s.heap m) (N : News h₀ L s.heap news)
    (U : Upd D (listOf (vp ++ [y] ++ vb).toArray c) (listOf (vp ++ vb).toArray (c + 1)) news news') (hz : (vp ++ [y] ++ vb).length ≤ sizeLine) (h : ∀ h', Fr h₀ L h' m → News h₀ L h' news' → Q y { s with heap := h' }) :
    wpAny (model prog w) A (call (.builtin "list.pop") [.ref D, .int x u]) Q E s := by
  have hz' : vp.length ≤ 16777216 := by simp only [List.length_append, sizeLine_eq] at hz; omega
  have hcut : ∀ p : List Value, kl_cut (p ++ [y] ++ vb) p.length = some (p, y, vb) := by
    intro p
    induction p with
    | nil => rfl
    | cons v r ih =>
      show (match kl_cut (r ++ [y] ++ vb) r.length with | some (p, y, q) => some (v :: p, y, q) | none => none) = _
      rw [ih]
  refine kl_popAt (k := vp.length) (p := vp) (q := vb) F N ?_ ?_ (hcut vp) U (by simpa using hz) h
  · subst hx
    unfold Builtin.List.listFitsIndex
    simp only [Bool.and_eq_true, decide_eq_true_eq]
    omega
  · subst hx
    rw [StrLaws.seqIndex_nonneg (by omega) (by simp; omega)]
    simp
theorem set_at {c : Nat} {vs ws : List Value} {k : Int} {t : Tok} {v : Value} {Q : Unit → Shared → Prop} (F : Fr h₀ L s.heap m) (N : News h₀ L s.heap news) (h0 : 0 ≤ k) (h1 : k < (vs.length : Int)) (hfit : k < 2 ^ 63) (e : vs.set k.toNat v = ws)
    (U : Upd D (listOf vs.toArray c) (listOf ws.toArray c) news news') (h : ∀ h', Fr h₀ L h' m → News h₀ L h' news' → Q () { s with heap := h' }) :
    wpAny (model prog w) A (setItem (.ref D) (.int k t) v) Q E s := by
  subst e
  obtain ⟨pre, post, rfl, rfl, a, b⟩ := U.split
  have z := N (D, listOf vs.toArray c) (List.mem_append.mpr (.inr (.head _)))
  refine ki_setAt z.1 h0 hfit (by simpa using h1) (h _ (F.change (Heap.SameBut.update ..) z.2.1 z.2.2) (ki_turn _ N a b ?_ ?_))
  · show vs.toArray.setIfInBounds k.toNat v = (vs.set k.toNat v).toArray
    apply Array.toList_inj.mp
    simp
  · simp
theorem get_at {value slice : PySem.Expr} {c : Nat} {vs : List Value} {k : Int} {t : Tok} {v : Value} {Q : Value → Shared → Prop} (N : News h₀ L s.heap news) (hm : (D, listOf vs.toArray c) ∈ news) (h0 : 0 ≤ k) (hfit : k < 2 ^ 63) (e : vs[k.toNat]? = some v) (h : Q v s)
    (hs : subscripted slice false (.ref D) (.int k t) = operate [.ref D, .int k t] (getItem (.ref D) (.int k t))) (hg : ∀ r, letTemporaryGo value (.ref D) r = pure ()) :
    wpAny (model prog w) A (subscriptTail value slice (.ref D) (.int k t)) Q E s := kim_list N hm rfl rfl h0 hfit e h hs hg
end
end Mine
end

section
open PySem PySem.W PyProof.Rows PySem.Spec PySem.Calls
set_option Elab.async false
namespace Mine
open PySem.NumText
/-- what stands behind the last colon, read as a port -/
def PortOut (b : Str) (v w : Value) : Prop :=
  (b = Str.ofString "" ∧ w = v) ∨ (b ≠ Str.ofString "" ∧ AllDigits b.cps.toList ∧ ∃ t, w = .int ((digitsVal b.cps.toList : Nat) : Int) t) ∨ (b ≠ Str.ofString "" ∧ ¬ AllDigits b.cps.toList ∧ w = .none)
theorem isdigit_all {b : Str} (hne : b ≠ Str.ofString "") (h : AllDigits b.cps.toList) : Txt.isdigit b = true ∧ Txt.isascii b = true := by
  have hl : b.cps.toList ≠ [] := fun e => hne (str_ext (by rw [e]; decide +kernel))
  have hp : 0 < b.length := by rw [len_toList]; exact List.length_pos_iff.mpr hl
  have key : ∀ c : Nat, 48 ≤ c ∧ c ≤ 57 → Unicode.isDigit c = true := by
    intro c hc
    rcases (by omega : c = 48 ∨ c = 49 ∨ c = 50 ∨ c = 51 ∨ c = 52 ∨ c = 53 ∨ c = 54 ∨ c = 55 ∨ c = 56 ∨ c = 57) with rfl | rfl | rfl | rfl | rfl | rfl | rfl | rfl | rfl | rfl <;> decide +kernel
  constructor
  · unfold Txt.isdigit
    rw [Bool.and_eq_true, ← Array.all_toList, List.all_eq_true]
    exact ⟨by simpa using hp, fun c hc => key c (h c hc)⟩
  · unfold Txt.isascii
    rw [← Array.all_toList, List.all_eq_true]
    exact fun c hc => by have := h c hc; simp; omega
theorem digits_of_is {b : Str} (h1 : Txt.isdigit b = true) (h2 : Txt.isascii b = true) : AllDigits b.cps.toList := by
  unfold Txt.isdigit at h1
  unfold Txt.isascii at h2
  rw [Bool.and_eq_true, ← Array.all_toList, List.all_eq_true] at h1
  rw [← Array.all_toList, List.all_eq_true] at h2
  intro c hc
  have e1 := h1.2 c hc
  have e2 : c < 128 := by simpa using h2 c hc
  have key : (List.range 128).all (fun c => !(Unicode.isDigit c) || (decide (48 ≤ c) && decide (c ≤ 57))) = true := by decide +kernel
  have k := List.all_eq_true.mp key c (List.mem_range.mpr e2)
  rw [e1] at k
  simpa using k
theorem truthy_len {b : Str} (hne : b ≠ Str.ofString "") : b.length ≠ 0 := by
  intro e
  apply hne
  refine str_ext ?_
  rw [len_toList] at e
  rw [List.length_eq_zero_iff.mp e]; decide +kernel
theorem port_reads {b : Str} (hne : b ≠ Str.ofString "") (h : AllDigits b.cps.toList) (hl : b.length ≤ 640) : PySem.intText? b = some ((digitsVal b.cps.toList : Nat) : Int) :=
  intText_digits h (fun e => hne (str_ext (by rw [e]; decide +kernel))) (Nat.le_trans hl (by decide))
theorem not_digits {b : Str} (h : ¬ AllDigits b.cps.toList) : Txt.isdigit b = false ∨ Txt.isdigit b = true ∧ Txt.isascii b = false := by
  cases h1 : Txt.isdigit b with
  | false => exact .inl rfl
  | true =>
    refine .inr ⟨rfl, ?_⟩
    cases h2 : Txt.isascii b with
    | false => rfl
    | true => exact absurd (digits_of_is h1 h2) h
end Mine
end

section
open PySem PySem.W PyProof.Rows PySem.Spec PySem.Calls
set_option Elab.async false
namespace Mine
/-- no exception leaves -/
abbrev NoE : Value → Shared → Prop := fun _ _ => False
/-- a name of the text's own list of statements -/
def nthS : List Stmt → Nat → Stmt
  | [], _ => .Pass default
  | a :: _, 0 => a
  | _ :: r, n + 1 => nthS r n
def fnBody : Stmt → List Stmt
  | .FunctionDef _ _ body _ _ _ _ _ _ _ => body
  | _ => []
def fnScope : Stmt → Scope
  | .FunctionDef _ _ _ _ _ _ scope _ _ _ => scope
  | _ => default
def forBody : Stmt → List Stmt
  | .For _ _ body _ _ => body
  | _ => []
def elseBody : Stmt → List Stmt
  | .If _ _ e _ => e
  | _ => []
def thenBody : Stmt → List Stmt
  | .If _ b _ _ => b
  | _ => []
section
variable {prog : Program} {w : World} {A : Around} {E : Value → Shared → Prop} {s : Shared} {env : Env} {h₀ : Heap} {x : Str} {body : List Stmt} {Q : Flow → Shared → Prop}
/-- what a turn of a loop ends in -/
def TurnEnd (h₀ : Heap) (L : Addr) (I : Addr) (own : List (Addr × Obj)) (J : (Str → Option Value) → List (Addr × Obj) → Prop) (s₁ : Shared) (Q : Flow → Shared → Prop) (f : Flow) (s₂ : Shared) : Prop :=
  match f with
  | .ret v => Q (.ret v) s₂
  | .brk => Q .next s₂
  | _ => ∃ h' tk m' news', s₂ = { s₁ with heap := h', toks := tk } ∧ Fr h₀ L h' m' ∧ News h₀ L h' (own ++ news') ∧ (∀ p ∈ news', p.1 ≠ I) ∧ J m' news'
theorem TurnEnd.go {L I : Addr} {own : List (Addr × Obj)} {J : (Str → Option Value) → List (Addr × Obj) → Prop} {s₁ : Shared} {h' : Heap} {tk : Nat} {m' : Str → Option Value} {news' : List (Addr × Obj)}
    (F : Fr h₀ L h' m') (N : News h₀ L h' (own ++ news')) (hI : ∀ p ∈ news', p.1 ≠ I) (hJ : J m' news') : TurnEnd h₀ L I own J s₁ Q .next { s₁ with heap := h', toks := tk } := ⟨h', tk, m', news', rfl, F, N, hI, hJ⟩
theorem loop_walk {I : Addr} {fp : List Addr} {n : Nat} {P : Nat → Value → Prop} {St : Nat → Heap → Prop} {m₀ : Str → Option Value} {news : List (Addr × Obj)} {s₂ : Shared} (J : Nat → (Str → Option Value) → List (Addr × Obj) → Prop)
    (W : Walks prog w A I fp [I] n P St) (hLf : env.locals ∉ fp) (hI : h₀.get? I = none) (hnw : ∀ p ∈ news, p.1 ≠ I) (hst : St 0 s₂.heap) (F : Fr h₀ env.locals s₂.heap m₀) (N : News h₀ env.locals s₂.heap news) (h0 : J 0 m₀ news)
    (turn : ∀ i v m₁ news₁ h tk own, i < n → P i v → J i m₁ news₁ → (∀ p ∈ news₁, p.1 ≠ I) → (∀ p ∈ own, p.1 ∈ fp) → (∀ b ∈ fp, h₀.get? b = none → ∀ o, h.get? b = some o → (b, o) ∈ own) → St (i + 1) h →
      Fr h₀ env.locals h (fun y => if y = x then some v else m₁ y) → News h₀ env.locals h (own ++ news₁) →
      wpAny (model prog w) A (execs body env) (TurnEnd h₀ env.locals I own (J (i + 1)) { s₂ with heap := h, toks := tk } Q) E { s₂ with heap := h, toks := tk })
    (done : ∀ h' tk m' news', Fr h₀ env.locals h' m' → News h₀ env.locals h' news' → J n m' news' → Q .next { s₂ with heap := h', toks := tk }) :
    LoopAtV prog w A h₀ env x body Q E (.ref I) s₂ := by
  refine ⟨I, fp, [I], n, P, St, m₀, news, J, rfl, W, hLf, fun b hb => (List.mem_singleton.mp hb) ▸ hI, fun p hp h => hnw p hp (List.mem_singleton.mp h), hst, F, N, h0, ?_, fun h' tk m' news' F' N' _ hJ => done h' tk m' news' F' N' hJ⟩
  rintro i v m₁ news₁ _ own ⟨h, tk, rfl⟩ hi hP hJ hoff hown _ hfp hst₁ F₁ N₁
  refine wpAny_mono (turn i v m₁ news₁ h tk own hi hP hJ (fun p hp e => hoff p hp (List.mem_singleton.mpr e)) hown hfp hst₁ F₁ N₁) (fun f s₃ q => ?_) fun _ _ e => e
  have fin : (∃ h' tk' m' news', s₃ = { s₂ with heap := h', toks := tk' } ∧ Fr h₀ env.locals h' m' ∧ News h₀ env.locals h' (own ++ news') ∧ (∀ p ∈ news', p.1 ≠ I) ∧ J (i + 1) m' news') → LoopStepU h₀ env.locals [I] own (J (i + 1)) { s₂ with heap := h, toks := tk } .next s₃ := by
    rintro ⟨h', tk', m', news', e, F', N', hI', hJ'⟩
    exact ⟨rfl, h', tk', m', news', e, F', N', fun p hp h => hI' p hp (List.mem_singleton.mp h), hJ'⟩
  cases f with
  | ret v => exact .ret q
  | brk => exact .brk q
  | next => exact .next (fin q)
  | cont => exact .cont (fin q)

/-- a loop over a list of the ledger -/
theorem for_list {l : Addr} {vs : List Value} {c : Nat} {m₀ : Str → Option Value} {news : List (Addr × Obj)} (J : Nat → (Str → Option Value) → List (Addr × Obj) → Prop)
    (hh : A.handled = none) (hl : (l, listOf vs.toArray c) ∈ news) (F : Fr h₀ env.locals s.heap m₀) (N : News h₀ env.locals s.heap news) (hj : J 0 m₀ news)
    (turn : ∀ I, (∀ p ∈ news, p.1 < I) → ∀ i v m₁ news₁ h tk own, vs[i]? = some v → J i m₁ news₁ → (∀ p ∈ own, p.1 = I ∨ p.1 = l) → (l, listOf vs.toArray c) ∈ own → (∃ oI, (I, oI) ∈ own) → (∀ p ∈ news₁, p.1 ≠ I) →
      Fr h₀ env.locals h (fun y => if y = x then some v else m₁ y) → News h₀ env.locals h (own ++ news₁) →
      wpAny (model prog w) A (execs body env) (TurnEnd h₀ env.locals I own (J (i + 1)) { s with heap := h, toks := tk } Q) E { s with heap := h, toks := tk })
    (done : ∀ h' tk m' news', Fr h₀ env.locals h' m' → News h₀ env.locals h' news' → J vs.length m' news' → Q .next { s with heap := h', toks := tk }) :
    wpAny (model prog w) A (pyIter (.ref l)) (fun it s₂ => LoopAtV prog w A h₀ env x body Q E it s₂) E s := by
  have hol : s.heap.get? l = some (listOf vs.toArray c) := (N _ hl).1
  have hls : s.heap.IsList l vs.toArray := ⟨_, hol, rfl, c, rfl⟩
  have hne : l ≠ s.heap.objs.size := Nat.ne_of_lt (Heap.lt_size hol)
  refine wpAny_pyIter_list hls ?_
  have W := Walks.list (prog := prog) (w := w) hh s.heap.objs.size l hne vs.toArray
  rw [List.size_toArray] at W
  have hlt : ∀ p ∈ news, p.1 < s.heap.objs.size := fun p hp => Heap.lt_size (N p hp).1
  refine loop_walk (news := (l, listOf vs.toArray c) :: news) (fun i m nx => ∃ nx', nx = (l, listOf vs.toArray c) :: nx' ∧ J i m nx') W ?_ (next_is_new F) (fun p hp => ?_) ⟨⟨_, Heap.get?_push_size _ rfl, rfl, rfl⟩, hls.at fun o e => Heap.get?_push_of_some _ e⟩ (F.push _) (fun p hp => ?_) ⟨_, rfl, hj⟩ ?_ ?_
  · intro hm
    rcases List.mem_cons.mp hm with e | hm
    · exact absurd F.ns.lt (e ▸ Nat.lt_irrefl _)
    · exact (N _ hl).2.1 ((List.mem_singleton.mp hm).symm)
  · rcases List.mem_cons.mp hp with rfl | hp
    · exact hne
    · exact Nat.ne_of_lt (hlt p hp)
  · rcases List.mem_cons.mp hp with rfl | hp
    · exact ⟨Heap.get?_push_of_some _ hol, (N _ hl).2⟩
    · exact ⟨Heap.get?_push_of_some _ (N p hp).1, (N p hp).2⟩
  · rintro i v m₁ _ h tk own hi hP ⟨news₁, rfl, hJ⟩ hoff hown hfp hst F₁ N₁
    obtain ⟨oI, hoI, _⟩ := hst.1
    refine wpAny_mono (turn s.heap.objs.size hlt i v m₁ news₁ h tk (own ++ [(l, listOf vs.toArray c)]) (by simpa using hP) hJ (fun p hp => ?_) (List.mem_append_right _ (.head _)) ⟨oI, List.mem_append_left _ (hfp _ (.head _) (next_is_new F) _ hoI)⟩ (fun p hp => hoff p (.tail _ hp)) F₁ (by rw [List.append_assoc]; exact N₁)) (fun f s₃ q => ?_) fun _ _ e => e
    · rcases List.mem_append.mp hp with hp | hp
      · rcases List.mem_cons.mp (hown p hp) with e | e
        · exact .inl e
        · exact .inr (List.mem_singleton.mp e)
      · rw [List.mem_singleton.mp hp]; exact .inr rfl
    · have fin : (∃ h' tk' m' news', s₃ = { s with heap := h', toks := tk' } ∧ Fr h₀ env.locals h' m' ∧ News h₀ env.locals h' (own ++ [(l, listOf vs.toArray c)] ++ news') ∧ (∀ p ∈ news', p.1 ≠ s.heap.objs.size) ∧ J (i + 1) m' news') →
          ∃ h' tk' m' news', s₃ = { s with heap := h', toks := tk' } ∧ Fr h₀ env.locals h' m' ∧ News h₀ env.locals h' (own ++ news') ∧ (∀ p ∈ news', p.1 ≠ s.heap.objs.size) ∧ ∃ nx', news' = (l, listOf vs.toArray c) :: nx' ∧ J (i + 1) m' nx' := by
        rintro ⟨h', tk', m', news', e, F', N', hI', hJ'⟩
        refine ⟨h', tk', m', (l, listOf vs.toArray c) :: news', e, F', by rw [List.append_assoc] at N'; exact N', fun p hp => ?_, _, rfl, hJ'⟩
        rcases List.mem_cons.mp hp with rfl | hp
        · exact hne
        · exact hI' p hp
      cases f with
      | ret v => exact q
      | brk => exact q
      | next => exact fin q
      | cont => exact fin q
  · rintro h' tk m' _ F' N' ⟨news', rfl, hJ⟩
    exact done h' tk m' news' F' (fun p hp => N' p (.tail _ hp)) hJ
/-- one object of the ledger is another one -/
theorem upd_flex {D : Addr} {o : Obj} {news : List (Addr × Obj)} (o' : Obj) : Upd D o o' ((D, o) :: news.filter fun p => decide (p.1 ≠ D)) ((D, o') :: news.filter fun p => decide (p.1 ≠ D)) :=
  Upd.head fun p hp => by simpa using (List.mem_filter.mp hp).2
theorem news_flex {L D : Addr} {o : Obj} {h : Heap} {news : List (Addr × Obj)} (N : News h₀ L h news) (hm : (D, o) ∈ news) : News h₀ L h ((D, o) :: news.filter fun p => decide (p.1 ≠ D)) := fun p hp => by
  rcases List.mem_cons.mp hp with rfl | hp
  · exact N _ hm
  · exact N _ (List.mem_filter.mp hp).1
theorem news_back {L D : Addr} {o' : Obj} {h : Heap} {news : List (Addr × Obj)} (N : News h₀ L h ((D, o') :: news.filter fun p => decide (p.1 ≠ D))) : ∀ news', (∀ p ∈ news', p = (D, o') ∨ (p ∈ news ∧ p.1 ≠ D)) → News h₀ L h news' := fun news' hs p hp => by
  rcases hs p hp with rfl | ⟨h1, h2⟩
  · exact N _ (.head _)
  · exact N _ (.tail _ (List.mem_filter.mpr ⟨h1, by simpa using h2⟩))
/-- the same, where the list stands beside the ledger that the loop keeps -/
theorem for_list2 {l : Addr} {vs : List Value} {c : Nat} {m₀ : Str → Option Value} {big news : List (Addr × Obj)} (J : Nat → (Str → Option Value) → List (Addr × Obj) → Prop)
    (hh : A.handled = none) (hl : (l, listOf vs.toArray c) ∈ big) (F : Fr h₀ env.locals s.heap m₀) (N : News h₀ env.locals s.heap big) (hs : ∀ p ∈ news, p ∈ big) (hj : J 0 m₀ news)
    (turn : ∀ I, (∀ p ∈ big, p.1 < I) → ∀ i v m₁ news₁ h tk own, vs[i]? = some v → J i m₁ news₁ → (∀ p ∈ own, p.1 = I ∨ p.1 = l) → (l, listOf vs.toArray c) ∈ own → (∃ oI, (I, oI) ∈ own) → (∀ p ∈ news₁, p.1 ≠ I) →
      Fr h₀ env.locals h (fun y => if y = x then some v else m₁ y) → News h₀ env.locals h (own ++ news₁) →
      wpAny (model prog w) A (execs body env) (TurnEnd h₀ env.locals I own (J (i + 1)) { s with heap := h, toks := tk } Q) E { s with heap := h, toks := tk })
    (done : ∀ h' tk m' news', Fr h₀ env.locals h' m' → News h₀ env.locals h' news' → J vs.length m' news' → Q .next { s with heap := h', toks := tk }) :
    wpAny (model prog w) A (pyIter (.ref l)) (fun it s₂ => LoopAtV prog w A h₀ env x body Q E it s₂) E s := by
  refine for_list (fun i m nx => ∃ nx', (∀ p ∈ nx', p ∈ nx) ∧ J i m nx') hh hl F N ⟨news, hs, hj⟩ ?_ ?_
  · rintro I hI i v m₁ news₁ h tk own hv ⟨nx', hsub, hJ⟩ h1 h2 h3 h4 F₁ N₁
    refine wpAny_mono (turn I hI i v m₁ nx' h tk own hv hJ h1 h2 h3 (fun p hp => h4 p (hsub p hp)) F₁ fun p hp => ?_) (fun f s₃ q => ?_) fun _ _ e => e
    · rcases List.mem_append.mp hp with hp | hp
      · exact N₁ _ (List.mem_append_left _ hp)
      · exact N₁ _ (List.mem_append_right _ (hsub _ hp))
    · cases f with
      | ret v => exact q
      | brk => exact q
      | next => obtain ⟨h', tk', m', news', e, F', N', hI', hJ'⟩ := q; exact ⟨h', tk', m', news', e, F', N', hI', news', fun _ h => h, hJ'⟩
      | cont => obtain ⟨h', tk', m', news', e, F', N', hI', hJ'⟩ := q; exact ⟨h', tk', m', news', e, F', N', hI', news', fun _ h => h, hJ'⟩
  · rintro h' tk m' news' F' N' ⟨nx', hsub, hJ⟩
    exact done h' tk m' nx' F' (fun p hp => N' p (hsub p hp)) hJ
/-- statements, one group after the other -/
def Then (M : Model) (A : Around) (b : List Stmt) (env : Env) (Q : Flow → Shared → Prop) (E : Value → Shared → Prop) (f : Flow) (s : Shared) : Prop :=
  match f with
  | .next => wpAny M A (execs b env) Q E s
  | f => Q f s
theorem execs_app0 {M : Model} {Γ : PySem.Ctx} {R : Flow → Pos → Shared → Prop} {E' : Value → Pos → Shared → Prop} (b : List Stmt) : ∀ (a : List Stmt) (q : Pos) (s : Shared),
    Sem.wp M Γ (execs a env) (fun f q' s' => match f with | .next => Sem.wp M Γ (execs b env) R E' q' s' | f => R f q' s') E' q s → Sem.wp M Γ (execs (a ++ b) env) R E' q s
  | [], q, s, h => h
  | x :: a, q, s, h => by
    rw [List.cons_append, execs, Sem.wp_bind']
    rw [execs, Sem.wp_bind'] at h
    refine Sem.wp_mono M Γ _ (fun f q' s' hf => ?_) (fun _ _ _ e => e) q s h
    cases f with
    | next => exact execs_app0 b a q' s' hf
    | brk => exact hf
    | cont => exact hf
    | ret v => exact hf
theorem execs_app {M : Model} {a b : List Stmt} (h : wpAny M A (execs a env) (Then M A b env Q E) E s) : wpAny M A (execs (a ++ b) env) Q E s := fun Γ q hΓ => by
  refine execs_app0 b a q s (Sem.wp_mono M Γ _ (fun f q' s' hf => ?_) (fun _ _ _ e => e) q s (h Γ q hΓ))
  cases f with
  | next => exact hf Γ q' hΓ
  | brk => exact hf
  | cont => exact hf
  | ret v => exact hf
theorem execs_one {M : Model} {a : Stmt} (h : wpAny M A (exec a env) Q E s) : wpAny M A (execs [a] env) Q E s := by
  rw [execs]
  refine wpAny_bind (wpAny_mono h (fun f s' hf => ?_) fun _ _ e => e)
  cases f with
  | next => exact wpAny_pure hf
  | brk => exact wpAny_pure hf
  | cont => exact wpAny_pure hf
  | ret v => exact wpAny_pure hf
end
end Mine
end

section
open PySem PySem.W PyProof.Rows PySem.Spec PySem.Calls
set_option Elab.async false
namespace Mine
section
variable {prog : Program} {w : World} {A : Around} {E : Value → Shared → Prop} {s : Shared} {env : Env} {h₀ : Heap} {x : Str} {target : Expr} {body : List Stmt} {Q : Flow → Shared → Prop}
theorem endStep {I : Addr} {own : List (Addr × Obj)} {J : (Str → Option Value) → List (Addr × Obj) → Prop} {s₁ s₃ : Shared} {f : Flow} (q : TurnEnd h₀ env.locals I own J s₁ Q f s₃) :
    LoopStepV h₀ env.locals [I] own J s₁ (fun v s' => Q (.ret v) s') (fun s' => Q .next s') f s₃ := by
  have fin : (∃ h' tk' m' news', s₃ = { s₁ with heap := h', toks := tk' } ∧ Fr h₀ env.locals h' m' ∧ News h₀ env.locals h' (own ++ news') ∧ (∀ p ∈ news', p.1 ≠ I) ∧ J m' news') → LoopStepU h₀ env.locals [I] own J s₁ .next s₃ := by
    rintro ⟨h', tk', m', news', e, F', N', hI', hJ'⟩
    exact ⟨rfl, h', tk', m', news', e, F', N', fun p hp h => hI' p hp (List.mem_singleton.mp h), hJ'⟩
  cases f with
  | ret v => exact .ret q
  | brk => exact .brk q
  | next => exact .next (fin q)
  | cont => exact .cont (fin q)
theorem turns_walk {I : Addr} {fp : List Addr} {n : Nat} {P Md : Nat → Value → Heap → Prop} {St : Nat → Heap → Prop} {m₀ : Str → Option Value} {news : List (Addr × Obj)} {s₂ : Shared} (J : Nat → (Str → Option Value) → List (Addr × Obj) → Prop)
    (W : KTurns prog w A target I fp [I] n P Md St) (hLf : env.locals ∉ fp) (hI : h₀.get? I = none) (hnw : ∀ p ∈ news, p.1 ≠ I) (hst : St 0 s₂.heap) (F : Fr h₀ env.locals s₂.heap m₀) (N : News h₀ env.locals s₂.heap news) (h0 : J 0 m₀ news)
    (turn : ∀ i v m₁ news₁ h tk own, i < n → P i v h → J i m₁ news₁ → (∀ p ∈ news₁, p.1 ≠ I) → (∀ p ∈ own, p.1 ∈ fp) → (∀ b ∈ fp, h₀.get? b = none → ∀ o, h.get? b = some o → (b, o) ∈ own) → St (i + 1) h →
      Fr h₀ env.locals h m₁ → News h₀ env.locals h (own ++ news₁) →
      wpAny (model prog w) A (assign target env v) (fun _ s₃ => wpAny (model prog w) A (execs body env) (TurnEnd h₀ env.locals I own (J (i + 1)) { s₂ with heap := h, toks := tk } Q) E s₃) E { s₂ with heap := h, toks := tk })
    (done : ∀ h' tk m' news', Fr h₀ env.locals h' m' → News h₀ env.locals h' news' → J n m' news' → Q .next { s₂ with heap := h', toks := tk }) :
    TurnsAt prog w A h₀ env target body Q E (.ref I) s₂ := by
  refine ⟨I, fp, [I], n, P, Md, St, m₀, news, J, rfl, W, hLf, fun b hb => (List.mem_singleton.mp hb) ▸ hI, fun p hp h => hnw p hp (List.mem_singleton.mp h), hst, F, N, h0, ?_, fun h' tk m' news' F' N' _ hJ => done h' tk m' news' F' N' hJ⟩
  intro i v m₁ news₁ h tk own hi hP hJ hoff hown _ hfp hst₁ F₁ N₁
  exact wpAny_mono (turn i v m₁ news₁ h tk own hi hP hJ (fun p hp e => hoff p hp (List.mem_singleton.mpr e)) hown hfp hst₁ F₁ N₁) (fun _ _ q => wpAny_mono q (fun f s₃ q => endStep q) fun _ _ e => e) fun _ _ e => e

/-- a loop with any target over a list of the ledger; the loop keeps a part of the ledger -/
theorem for_listT {l : Addr} {vs : List Value} {c : Nat} {m₀ : Str → Option Value} {big news : List (Addr × Obj)} (J : Nat → (Str → Option Value) → List (Addr × Obj) → Prop)
    (hh : A.handled = none) (hl : (l, listOf vs.toArray c) ∈ big) (F : Fr h₀ env.locals s.heap m₀) (N : News h₀ env.locals s.heap big) (hs : ∀ p ∈ news, p ∈ big) (hj : J 0 m₀ news)
    (turn : ∀ I, (∀ p ∈ big, p.1 < I) → ∀ i v m₁ news₁ h tk own, vs[i]? = some v → J i m₁ news₁ → (∀ p ∈ own, p.1 = I ∨ p.1 = l) → (l, listOf vs.toArray c) ∈ own → (∀ p ∈ news₁, p.1 ≠ I) →
      Fr h₀ env.locals h m₁ → News h₀ env.locals h (own ++ news₁) →
      wpAny (model prog w) A (assign target env v) (fun _ s₃ => wpAny (model prog w) A (execs body env) (TurnEnd h₀ env.locals I own (J (i + 1)) { s with heap := h, toks := tk } Q) E s₃) E { s with heap := h, toks := tk })
    (done : ∀ h' tk m' news', Fr h₀ env.locals h' m' → News h₀ env.locals h' ((l, listOf vs.toArray c) :: news') → J vs.length m' news' → Q .next { s with heap := h', toks := tk }) :
    wpAny (model prog w) A (pyIter (.ref l)) (fun it s₂ => TurnsAt prog w A h₀ env target body Q E it s₂) E s := by
  have hol : s.heap.get? l = some (listOf vs.toArray c) := (N _ hl).1
  have hls : s.heap.IsList l vs.toArray := ⟨_, hol, rfl, c, rfl⟩
  have hne : l ≠ s.heap.objs.size := Nat.ne_of_lt (Heap.lt_size hol)
  refine wpAny_pyIter_list hls ?_
  have W := Walks.list (prog := prog) (w := w) hh s.heap.objs.size l hne vs.toArray
  rw [List.size_toArray] at W
  have W' := KTurns.ofWalks (target := target) W fun i v s Q E st q => letGo_listiter st.1 q
  have hlt : ∀ p ∈ big, p.1 < s.heap.objs.size := fun p hp => Heap.lt_size (N p hp).1
  refine turns_walk (news := (l, listOf vs.toArray c) :: news) (fun i m nx => ∃ nx', nx = (l, listOf vs.toArray c) :: nx' ∧ J i m nx') W' ?_ (next_is_new F) (fun p hp => ?_) ⟨⟨_, Heap.get?_push_size _ rfl, rfl, rfl⟩, hls.at fun o e => Heap.get?_push_of_some _ e⟩ (F.push _) (fun p hp => ?_) ⟨_, rfl, hj⟩ ?_ ?_
  · intro hm
    rcases List.mem_cons.mp hm with e | hm
    · exact absurd F.ns.lt (e ▸ Nat.lt_irrefl _)
    · exact (N _ hl).2.1 ((List.mem_singleton.mp hm).symm)
  · rcases List.mem_cons.mp hp with rfl | hp
    · exact hne
    · exact Nat.ne_of_lt (hlt p (hs p hp))
  · rcases List.mem_cons.mp hp with rfl | hp
    · exact ⟨Heap.get?_push_of_some _ hol, (N _ hl).2⟩
    · exact ⟨Heap.get?_push_of_some _ (N p (hs p hp)).1, (N p (hs p hp)).2⟩
  · rintro i v m₁ _ h tk own hi hP ⟨news₁, rfl, hJ⟩ hoff hown hfp hst F₁ N₁
    refine wpAny_mono (turn s.heap.objs.size hlt i v m₁ news₁ h tk (own ++ [(l, listOf vs.toArray c)]) (by simpa using hP) hJ (fun p hp => ?_) (List.mem_append_right _ (.head _)) (fun p hp => hoff p (.tail _ hp)) F₁ (by rw [List.append_assoc]; exact N₁)) (fun _ _ q => wpAny_mono q (fun f s₃ q => ?_) fun _ _ e => e) fun _ _ e => e
    · rcases List.mem_append.mp hp with hp | hp
      · rcases List.mem_cons.mp (hown p hp) with e | e
        · exact .inl e
        · exact .inr (List.mem_singleton.mp e)
      · rw [List.mem_singleton.mp hp]; exact .inr rfl
    · have fin : (∃ h' tk' m' news', s₃ = { s with heap := h', toks := tk' } ∧ Fr h₀ env.locals h' m' ∧ News h₀ env.locals h' (own ++ [(l, listOf vs.toArray c)] ++ news') ∧ (∀ p ∈ news', p.1 ≠ s.heap.objs.size) ∧ J (i + 1) m' news') →
          ∃ h' tk' m' news', s₃ = { s with heap := h', toks := tk' } ∧ Fr h₀ env.locals h' m' ∧ News h₀ env.locals h' (own ++ news') ∧ (∀ p ∈ news', p.1 ≠ s.heap.objs.size) ∧ ∃ nx', news' = (l, listOf vs.toArray c) :: nx' ∧ J (i + 1) m' nx' := by
        rintro ⟨h', tk', m', news', e, F', N', hI', hJ'⟩
        refine ⟨h', tk', m', (l, listOf vs.toArray c) :: news', e, F', by rw [List.append_assoc] at N'; exact N', fun p hp => ?_, _, rfl, hJ'⟩
        rcases List.mem_cons.mp hp with rfl | hp
        · exact hne
        · exact hI' p hp
      cases f with
      | ret v => exact q
      | brk => exact q
      | next => exact fin q
      | cont => exact fin q
  · rintro h' tk m' _ F' N' ⟨news', rfl, hJ⟩
    exact done h' tk m' news' F' N' hJ

/-- a loop over a range; the loop keeps a part of the ledger -/
theorem for_range {r : Addr} {a b c : Int} {t u v : Tok} {n : Nat} {m₀ : Str → Option Value} {big news : List (Addr × Obj)} (J : Nat → (Str → Option Value) → List (Addr × Obj) → Prop)
    (hh : A.handled = none) (hr : IsRange s.heap r a b c t u v) (hsmall : Builtin.Range.small a b c = true) (hn : Builtin.Range.rangeSize a b c = (n : Int)) (F : Fr h₀ env.locals s.heap m₀) (N : News h₀ env.locals s.heap big) (hs : ∀ p ∈ news, p ∈ big) (hj : J 0 m₀ news)
    (turn : ∀ I, (∀ p ∈ big, p.1 < I) → ∀ i t m₁ news₁ h tk own, i < n → J i m₁ news₁ → (∀ p ∈ own, p.1 = I) → (∀ p ∈ news₁, p.1 ≠ I) →
      Fr h₀ env.locals h (fun y => if y = x then some (.int (a + i * c) t) else m₁ y) → News h₀ env.locals h (own ++ news₁) →
      wpAny (model prog w) A (execs body env) (TurnEnd h₀ env.locals I own (J (i + 1)) { s with heap := h, toks := tk } Q) E { s with heap := h, toks := tk })
    (done : ∀ h' tk m' news', Fr h₀ env.locals h' m' → News h₀ env.locals h' news' → J n m' news' → Q .next { s with heap := h', toks := tk }) :
    wpAny (model prog w) A (pyIter (.ref r)) (fun it s₂ => LoopAtV prog w A h₀ env x body Q E it s₂) E s := by
  refine wpAny_pyIter_range hr hsmall ?_
  have hlt : ∀ p ∈ big, p.1 < s.heap.objs.size := fun p hp => Heap.lt_size (N p hp).1
  refine loop_walk (news := news) J (Walks.range (prog := prog) (w := w) hh s.heap.objs.size a c n) ?_ (next_is_new F) (fun p hp => Nat.ne_of_lt (hlt p (hs p hp))) (by show IsRangeIter _ _ _ _ _; rw [hn]; simpa using Heap.get?_push_size _ rfl) (F.push _) (fun p hp => ⟨Heap.get?_push_of_some _ (N p (hs p hp)).1, (N p (hs p hp)).2⟩) hj ?_ done
  · intro hm
    exact absurd F.ns.lt ((List.mem_singleton.mp hm) ▸ Nat.lt_irrefl _)
  · rintro i _ m₁ news₁ h tk own hi ⟨t, rfl⟩ hJ hoff hown _ _ F₁ N₁
    exact turn s.heap.objs.size hlt i t m₁ news₁ h tk own hi hJ (fun p hp => List.mem_singleton.mp (hown p hp)) hoff F₁ N₁
/-- a loop over a text's signs; the loop keeps a part of the ledger -/
theorem for_str {y : Str} {t : Tok} {m₀ : Str → Option Value} {big news : List (Addr × Obj)} (J : Nat → (Str → Option Value) → List (Addr × Obj) → Prop)
    (hh : A.handled = none) (F : Fr h₀ env.locals s.heap m₀) (N : News h₀ env.locals s.heap big) (hs : ∀ p ∈ news, p ∈ big) (hj : J 0 m₀ news)
    (turn : ∀ I, (∀ p ∈ big, p.1 < I) → ∀ i k t m₁ news₁ h tk own, y.cps.toList[i]? = some k → J i m₁ news₁ → (∀ p ∈ own, p.1 = I) → (∀ p ∈ news₁, p.1 ≠ I) →
      Fr h₀ env.locals h (fun y => if y = x then some (.str ⟨#[k]⟩ t) else m₁ y) → News h₀ env.locals h (own ++ news₁) →
      wpAny (model prog w) A (execs body env) (TurnEnd h₀ env.locals I own (J (i + 1)) { s with heap := h, toks := tk } Q) E { s with heap := h, toks := tk })
    (done : ∀ h' tk m' news', Fr h₀ env.locals h' m' → News h₀ env.locals h' news' → J y.cps.toList.length m' news' → Q .next { s with heap := h', toks := tk }) :
    wpAny (model prog w) A (pyIter (.str y t)) (fun it s₂ => LoopAtV prog w A h₀ env x body Q E it s₂) E s := by
  refine wpAny_pyIter_str fun o St W hst => ?_
  have hlt : ∀ p ∈ big, p.1 < s.heap.objs.size := fun p hp => Heap.lt_size (N p hp).1
  refine loop_walk (news := news) J (W A hh) ?_ (next_is_new F) (fun p hp => Nat.ne_of_lt (hlt p (hs p hp))) hst (F.push _) (fun p hp => ⟨Heap.get?_push_of_some _ (N p (hs p hp)).1, (N p (hs p hp)).2⟩) hj ?_ (by simpa using done)
  · intro hm
    exact absurd F.ns.lt ((List.mem_singleton.mp hm) ▸ Nat.lt_irrefl _)
  · rintro i _ m₁ news₁ h tk own hi ⟨c, u, hc, rfl⟩ hJ hoff hown _ _ F₁ N₁
    exact turn s.heap.objs.size hlt i c u m₁ news₁ h tk own (by simpa using hc) hJ (fun p hp => List.mem_singleton.mp (hown p hp)) hoff F₁ N₁
end
end Mine
end

section
open PySem PySem.W PyProof.Rows PySem.Spec PySem.Calls
set_option Elab.async false
namespace Mine
/-- a test of the row: what stands ahead of the ?, its number, its answer -/
structure Tst where
  test : Str
  val : Option Int
  ans : Str
def OptV (o : Option Int) (v : Value) : Prop := (o = none ∧ v = .none) ∨ ∃ n t, o = some n ∧ v = .int n t
inductive TstsIn (news : List (Addr × Obj)) : List Value → List Tst → Prop where
  | nil : TstsIn news [] []
  | cons {D : Addr} {x : Tst} {t1 t2 : Tok} {v : Value} {vs : List Value} {xs : List Tst} : (D, tupObj [.str x.test t1, v, .str x.ans t2]) ∈ news → OptV x.val v → TstsIn news vs xs → TstsIn news (.ref D :: vs) (x :: xs)
theorem TstsIn.mono {news news' : List (Addr × Obj)} {vs : List Value} {xs : List Tst} (h : TstsIn news vs xs) (hs : ∀ p ∈ news, p ∈ news') : TstsIn news' vs xs := by
  induction h with
  | nil => exact .nil
  | cons hm hv _ ih => exact .cons (hs _ hm) hv ih
/-- away from one address: the tests are tuples, not the list that bears them -/
theorem TstsIn.off {l : Addr} {us : List Value} {c : Nat} {h₀ : Heap} {L : Addr} {h : Heap} {news : List (Addr × Obj)} {vs : List Value} {xs : List Tst} (hi : TstsIn news vs xs) (N : News h₀ L h news) (hl : (l, listOf us.toArray c) ∈ news) : TstsIn (news.filter fun p => decide (p.1 ≠ l)) vs xs := by
  induction hi with
  | nil => exact .nil
  | cons hm hv _ ih =>
    refine .cons (List.mem_filter.mpr ⟨hm, ?_⟩) hv ih
    refine decide_eq_true fun e => ?_
    have h1 := (N _ hm).1
    have h2 := (N _ hl).1
    simp only at e h1 h2
    rw [e, h2] at h1
    exact absurd (congrArg Obj.cls (Option.some.inj h1)) (by simp)
theorem TstsIn.length {news : List (Addr × Obj)} {vs : List Value} {xs : List Tst} (h : TstsIn news vs xs) : vs.length = xs.length := by
  induction h with
  | nil => rfl
  | cons _ _ _ ih => simp [ih]
theorem TstsIn.snoc {news : List (Addr × Obj)} {vs : List Value} {xs : List Tst} (h : TstsIn news vs xs) {D : Addr} {x : Tst} {t1 t2 : Tok} {v : Value} (hm : (D, tupObj [.str x.test t1, v, .str x.ans t2]) ∈ news) (hv : OptV x.val v) : TstsIn news (vs ++ [.ref D]) (xs ++ [x]) := by
  induction h with
  | nil => exact .cons hm hv .nil
  | cons hm' hv' _ ih => exact .cons hm' hv' ih
theorem TstsIn.at {news : List (Addr × Obj)} {vs : List Value} {xs : List Tst} (h : TstsIn news vs xs) (i : Nat) (v : Value) (hi : vs[i]? = some v) : ∃ D x t1 t2 u, xs[i]? = some x ∧ v = .ref D ∧ (D, tupObj [.str x.test t1, u, .str x.ans t2]) ∈ news ∧ OptV x.val u := by
  induction h generalizing i with
  | nil => simp at hi
  | @cons D x t1 t2 u vs xs hm hv _ ih =>
    cases i with
    | zero => exact ⟨D, x, t1, t2, u, rfl, by simpa using hi.symm, hm, hv⟩
    | succ i => simpa using ih i (by simpa using hi)
theorem TstsIn.drop {news : List (Addr × Obj)} {vs : List Value} {xs : List Tst} (h : TstsIn news vs xs) (n : Nat) : TstsIn news (vs.drop n) (xs.drop n) := by
  induction h generalizing n with
  | nil => simpa using TstsIn.nil
  | cons hm hv r ih =>
    cases n with
    | zero => exact .cons hm hv r
    | succ n => exact ih n
/-- the first test that is a number but not 0 -/
def found : List Tst → Str → Str
  | [], o => o
  | t :: r, o => if t.val = none ∨ t.val = some 0 then found r o else t.ans
open PySem.NumText
/-- an answer -/
def AnsOk (x : Str) : Prop := 58 ∉ x.cps.toList ∧ 63 ∉ x.cps.toList ∧ x.length ≤ 5 ∧ Ok x
/-- a word that is no number -/
def WordOk (x : Str) : Prop := 58 ∉ x.cps.toList ∧ 63 ∉ x.cps.toList ∧ x.length ≤ 5 ∧ Ok x ∧ x ≠ Str.ofString "" ∧ ¬ AllDigits x.cps.toList
/-- what a test counts as -/
def PortV (b : Int) (y : Str) (o : Option Int) : Prop :=
  (y = Str.ofString "" ∧ o = some b) ∨ (y ≠ Str.ofString "" ∧ AllDigits y.cps.toList ∧ o = some ((digitsVal y.cps.toList : Nat) : Int)) ∨ (y ≠ Str.ofString "" ∧ ¬ AllDigits y.cps.toList ∧ o = none)
structure GoodT (b : Int) (x : Tst) : Prop where
  c1 : 58 ∉ x.test.cps.toList
  q1 : 63 ∉ x.test.cps.toList
  l1 : x.test.length ≤ 12
  o1 : Ok x.test
  a : AnsOk x.ans
  v : PortV b x.test x.val
theorem digitsVal_zeros (r : List Nat) : ∀ l : List Nat, (∀ c ∈ l, c = 48) → digitsVal (l ++ r) = digitsVal r
  | [], _ => rfl
  | c :: l, h => by
    rw [h c (.head _)]
    show digitsVal (48 :: (l ++ r)) = _
    rw [digitsVal_zero]
    exact digitsVal_zeros r l fun d hd => h d (.tail _ hd)
theorem num_digits (m : Nat) : AllDigits (Str.ofString (toString ((m : Nat) : Int))).cps.toList := by
  intro c hc
  rw [KIN.signs_num] at hc
  obtain ⟨ch, hch, e⟩ := List.mem_map.mp hc
  have r := digit_range (Nat.isDigit_of_mem_toDigits (by decide) (by decide) hch)
  rw [← e]
  exact r
theorem num_nonempty (m : Nat) : (Str.ofString (toString ((m : Nat) : Int))).cps.toList ≠ [] := by
  rw [KIN.signs_num]
  intro e
  have h := toDigits_len_ge 10 m
  rw [List.map_eq_nil_iff.mp e] at h
  exact absurd h (by decide)
theorem num_val (m : Nat) : digitsVal (Str.ofString (toString ((m : Nat) : Int))).cps.toList = m := by
  rw [KIN.signs_num, KIN.val_back]
theorem digits_free {l : List Nat} (h : AllDigits l) {k : Nat} (hk : k < 48 ∨ 57 < k) : k ∉ l := fun hm => by have := h k hm; omega
theorem digits_ok {x : Str} (h : AllDigits x.cps.toList) : Ok x := fun c hc => by have := h c hc; omega
/-- a number in figures, noughts ahead or not -/
theorem num_good {z : Str} {v b : Int} {a : Str} (hz : ∀ c ∈ z.cps.toList, c = 48) (hl : z.length ≤ 2) (h0 : 0 ≤ v) (h1 : v < 1000000) (ga : AnsOk a) : GoodT b ⟨z ++ Str.ofString (toString v), some v, a⟩ := by
  have ln := KT.len_num h0 (by omega : v < 10 ^ 10)
  obtain ⟨m, rfl⟩ := Int.eq_ofNat_of_zero_le h0
  have hd : AllDigits (z ++ Str.ofString (toString ((m : Nat) : Int))).cps.toList := by
    rw [cps_app]
    intro c hc
    rcases List.mem_append.mp hc with h | h
    · rw [hz c h]; decide
    · exact num_digits m c h
  have hv : digitsVal (z ++ Str.ofString (toString ((m : Nat) : Int))).cps.toList = m := by rw [cps_app, digitsVal_zeros _ _ hz, num_val]
  refine ⟨digits_free hd (by omega), digits_free hd (by omega), ?_, digits_ok hd, ga, .inr (.inl ⟨?_, hd, by rw [hv]⟩)⟩
  · rw [Str.length_append]; omega
  · intro e
    have e2 := congrArg (fun x : Str => x.cps.toList) e
    simp only [cps_app] at e2
    rw [show (Str.ofString "").cps.toList = [] by decide +kernel] at e2
    exact num_nonempty m (List.append_eq_nil_iff.mp e2).2
theorem blank_good {b : Int} {a : Str} (ga : AnsOk a) : GoodT b ⟨Str.ofString "", some b, a⟩ :=
  ⟨(by show 58 ∉ (Str.ofString "").cps.toList; decide +kernel), (by show 63 ∉ (Str.ofString "").cps.toList; decide +kernel), (by show (Str.ofString "").length ≤ 12; decide +kernel), (by intro c hc; rw [show (Str.ofString "").cps.toList = [] by decide +kernel] at hc; exact nomatch hc), ga, .inl ⟨rfl, rfl⟩⟩
theorem word_good {b : Int} {a y : Str} (gy : WordOk y) (ga : AnsOk a) : GoodT b ⟨y, none, a⟩ :=
  ⟨gy.1, gy.2.1, Nat.le_trans gy.2.2.1 (by decide), gy.2.2.2.1, ga, .inr (.inr ⟨gy.2.2.2.2.1, gy.2.2.2.2.2, rfl⟩)⟩
end Mine
end

section
open PySem PySem.W PyProof.Rows PySem.Spec PySem.Calls
set_option Elab.async false
namespace Mine
/-- one test more behind a text -/
def addT (a : Str) (x : Tst) : Str := a ++ Str.ofString ":" ++ x.test ++ Str.ofString "?" ++ x.ans
def headT (ts : List Tst) : Str := ts.foldl addT (Str.ofString "h")
theorem headT_snoc (ts : List Tst) (x : Tst) : headT (ts ++ [x]) = headT ts ++ Str.ofString ":" ++ x.test ++ Str.ofString "?" ++ x.ans := by
  unfold headT; rw [List.foldl_append]; rfl
def headsL (ts : List Tst) : List Str := (List.range (ts.length + 1)).map fun k => headT (ts.take k)
theorem headsL_snoc (ts : List Tst) (x : Tst) : headsL (ts ++ [x]) = headsL ts ++ [headT (ts ++ [x])] := by
  unfold headsL
  rw [List.length_append, List.length_singleton, List.range_succ, List.map_append]
  congr 1
  · refine List.map_congr_left fun k hk => ?_
    have := List.mem_range.mp hk
    rw [List.take_append_of_le_length (by omega)]
  · simp [List.take_of_length_le]
theorem headsL_last (ts : List Tst) : ∃ p, headsL ts = p ++ [headT ts] := by
  rcases List.eq_nil_or_concat ts with rfl | ⟨r, x, rfl⟩
  · exact ⟨[], rfl⟩
  · rw [List.concat_eq_append, headsL_snoc]; exact ⟨_, rfl⟩
theorem headsL_at (ts : List Tst) (k : Nat) (hk : k ≤ ts.length) : (headsL ts)[k]? = some (headT (ts.take k)) := by
  unfold headsL
  rw [List.getElem?_map, List.getElem?_range (by omega)]
  rfl
theorem len_colon : (Str.ofString ":").length = 1 := by decide +kernel
theorem len_qm : (Str.ofString "?").length = 1 := by decide +kernel
theorem headT_facts {b : Int} : ∀ (n : Nat) (ts : List Tst), ts.length = n → (∀ x ∈ ts, GoodT b x) → (headT ts).length ≤ 1 + ts.length * 19 ∧ Ok (headT ts)
  | 0, ts, hn, _ => by
    rw [List.length_eq_zero_iff.mp hn]
    exact ⟨by decide +kernel, by show ∀ c ∈ (Str.ofString "h").cps.toList, c < 0x110000; decide +kernel⟩
  | n + 1, ts, hn, h => by
    rcases List.eq_nil_or_concat ts with rfl | ⟨r, x, rfl⟩
    · simp at hn
    rw [List.concat_eq_append] at *
    have hr : r.length = n := by simpa using hn
    have h1 := headT_facts n r hr fun y hy => h y (List.mem_append_left _ hy)
    have g := h x (List.mem_append_right _ (.head _))
    have g1 := g.l1
    have g2 := g.a.2.2.1
    rw [headT_snoc]
    constructor
    · simp only [Str.length_append, len_colon, len_qm, List.length_append, List.length_singleton]
      omega
    · refine Ok.app (Ok.app (Ok.app (Ok.app h1.2 ?_) g.o1) ?_) g.a.2.2.2
      · show ∀ c ∈ (Str.ofString ":").cps.toList, c < 0x110000; decide +kernel
      · show ∀ c ∈ (Str.ofString "?").cps.toList, c < 0x110000; decide +kernel
theorem headT_length {b : Int} (ts : List Tst) (h : ∀ x ∈ ts, GoodT b x) : (headT ts).length ≤ 1 + ts.length * 19 := (headT_facts _ ts rfl h).1
theorem headT_ok {b : Int} (ts : List Tst) (h : ∀ x ∈ ts, GoodT b x) : Ok (headT ts) := (headT_facts _ ts rfl h).2
theorem found_ans {b : Int} {o : Str} (ho : AnsOk o) : ∀ (ts : List Tst), (∀ x ∈ ts, GoodT b x) → AnsOk (found ts o)
  | [], _ => ho
  | x :: r, h => by
    unfold found
    split
    · exact found_ans ho r fun y hy => h y (.tail _ hy)
    · exact (h x (.head _)).a
theorem part_first (a r : Str) (c : Nat) (h : c ∉ a.cps.toList) : Txt.partition (a ++ ⟨#[c]⟩ ++ r) ⟨#[c]⟩ = (a, ⟨#[c]⟩, r) := by
  have hx : (a ++ ⟨#[c]⟩ ++ r : Str).cps.toList = a.cps.toList ++ c :: r.cps.toList := by simp [cps_app]
  have hat : (a ++ ⟨#[c]⟩ ++ r : Str).cps.toList[a.length]? = some c := by
    rw [hx, len_toList, List.getElem?_append_right (Nat.le_refl _)]; simp
  unfold Txt.partition
  rcases StrLaws.occ_head (a ++ ⟨#[c]⟩ ++ r) ⟨#[c]⟩ 1 (by decide) with ⟨_, hn⟩ | ⟨i, q, e, hA, hn⟩
  · exact absurd ((StrLaws.subAt_one _ c a.length).mpr hat) (hn _)
  · have hi : (a ++ ⟨#[c]⟩ ++ r : Str).cps.toList[i]? = some c := (StrLaws.subAt_one _ c i).mp hA
    have h2 : i = a.length := by
      rcases Nat.lt_trichotomy i a.length with q | q | q
      · exfalso
        rw [hx, List.getElem?_append_left (by rw [← len_toList]; exact q)] at hi
        exact h (List.mem_of_getElem? hi)
      · exact q
      · exact absurd ((StrLaws.subAt_one _ c a.length).mpr hat) (hn _ q)
    rw [e, h2]
    have e1 : Builtin.Str.strSub (a ++ ⟨#[c]⟩ ++ r) 0 a.length = a := str_ext (by rw [StrLaws.strSub_toList, hx, len_toList]; simp)
    have hl : (a ++ ⟨#[c]⟩ ++ r : Str).length = a.length + 1 + r.length := by
      rw [PySem.Str.length_append, PySem.Str.length_append]; rfl
    have e2 : Builtin.Str.strSub (a ++ ⟨#[c]⟩ ++ r) (a.length + (⟨#[c]⟩ : Str).length) (a ++ ⟨#[c]⟩ ++ r : Str).length = r := str_ext (by
      rw [StrLaws.strSub_toList, hx, hl]
      show ((a.cps.toList ++ c :: r.cps.toList).drop (a.length + 1)).take (a.length + 1 + r.length - (a.length + 1)) = _
      rw [len_toList, len_toList, List.drop_append, List.drop_of_length_le (by omega)]
      simp only [List.nil_append, Nat.add_sub_cancel_left, List.drop_succ_cons, List.drop_zero]
      exact List.take_of_length_le (Nat.le_refl _))
    show (Builtin.Str.strSub (a ++ ⟨#[c]⟩ ++ r) 0 a.length, _, Builtin.Str.strSub (a ++ ⟨#[c]⟩ ++ r) (a.length + (⟨#[c]⟩ : Str).length) (a ++ ⟨#[c]⟩ ++ r : Str).length) = _
    rw [e1, e2]
theorem colon_is : Str.ofString ":" = ⟨#[58]⟩ := by decide +kernel
theorem quest_is : Str.ofString "?" = ⟨#[63]⟩ := by decide +kernel
theorem empty_is : Str.ofString "" = Str.empty := by decide +kernel
/-- the text when the tests from the k-th on are worked off -/
def textAt (ts : List Tst) (o : Str) (k : Nat) : Str := headT (ts.take k) ++ Str.ofString ":" ++ found (ts.drop k) o
theorem cut_query {b : Int} {ts : List Tst} {o : Str} {k : Nat} {x : Tst} (ho : AnsOk o) (g : ∀ x ∈ ts, GoodT b x) (hx : ts[k]? = some x) :
    Txt.rpartition (textAt ts o (k + 1)) (Str.ofString "?") = (headT (ts.take k) ++ Str.ofString ":" ++ x.test, Str.ofString "?", x.ans ++ Str.ofString ":" ++ found (ts.drop (k + 1)) o) := by
  have gx := g x (List.mem_of_getElem? hx)
  have gf := found_ans ho (ts.drop (k + 1)) fun y hy => g y (List.mem_of_mem_drop hy)
  have e : textAt ts o (k + 1) = (headT (ts.take k) ++ Str.ofString ":" ++ x.test) ++ ⟨#[63]⟩ ++ (x.ans ++ Str.ofString ":" ++ found (ts.drop (k + 1)) o) := by
    rw [textAt, List.take_add_one, hx, Option.toList_some, headT_snoc, ← quest_is]
    simp only [Str.append_assoc]
  rw [e, quest_is]
  refine rpart_last _ _ _ ?_
  rw [cps_app, cps_app]
  intro h
  rcases List.mem_append.mp h with h | h
  · rcases List.mem_append.mp h with h | h
    · exact gx.a.2.1 h
    · exact absurd h (by decide +kernel)
  · exact gf.2.1 h
theorem cut_passwd {a r : Str} (h : 58 ∉ a.cps.toList) : Txt.partition (a ++ Str.ofString ":" ++ r) (Str.ofString ":") = (a, Str.ofString ":", r) := by
  rw [colon_is]; exact part_first a r 58 h
theorem cut_nport {a r : Str} (h : 58 ∉ r.cps.toList) : Txt.rpartition (a ++ Str.ofString ":" ++ r) (Str.ofString ":") = (a, Str.ofString ":", r) := by
  rw [colon_is]; exact rpart_last a r 58 h
theorem text_go {ts : List Tst} {o : Str} {k : Nat} {x : Tst} (hx : ts[k]? = some x) (hv : x.val = none ∨ x.val = some 0) : headT (ts.take k) ++ Str.ofString ":" ++ found (ts.drop (k + 1)) o = textAt ts o k := by
  obtain ⟨hlt, ex⟩ := List.getElem?_eq_some_iff.mp hx
  rw [textAt, List.drop_eq_getElem_cons hlt, ex, found, if_pos hv]
theorem text_stop {ts : List Tst} {o : Str} {k : Nat} {x : Tst} (hx : ts[k]? = some x) (hv : ¬ (x.val = none ∨ x.val = some 0)) : headT (ts.take k) ++ Str.ofString ":" ++ x.ans = textAt ts o k := by
  obtain ⟨hlt, ex⟩ := List.getElem?_eq_some_iff.mp hx
  rw [textAt, List.drop_eq_getElem_cons hlt, ex, found, if_neg hv]
theorem text_end {b : Int} {ts : List Tst} {o : Str} (ho : AnsOk o) (g : ∀ x ∈ ts, GoodT b x) : Txt.rpartition (textAt ts o 0) (Str.ofString "?") = (Str.ofString "", Str.ofString "", textAt ts o 0) := by
  rw [quest_is, empty_is]
  refine rpart_free _ _ ?_
  have gf := found_ans ho (ts.drop 0) fun y hy => g y (List.mem_of_mem_drop hy)
  rw [textAt, cps_app, cps_app]
  intro h
  rcases List.mem_append.mp h with h | h
  · rcases List.mem_append.mp h with h | h
    · exact absurd h (by rw [List.take_zero]; decide +kernel)
    · exact absurd h (by decide +kernel)
  · exact gf.2.1 h
theorem strs_get : ∀ {vs : List Value} {xs : List Str}, StrsAre vs xs → ∀ (i : Nat) (y : Str), xs[i]? = some y → ∃ t, vs[i]? = some (.str y t)
  | _, _, .nil, i, y, h => by simp at h
  | _, _, .cons z t r, 0, y, h => ⟨t, by simp at h; simp [h]⟩
  | _, _, .cons z t r, i + 1, y, h => by simpa using strs_get r i y (by simpa using h)
theorem pick_drop (vs : List Value) (k : Nat) (n : Int) (h : n = (k : Int)) (hk : k ≤ vs.length) : (slicePick vs.toArray (some n) none none).toList = vs.drop k := by
  have e := pick_right (vs.take k) (vs.drop k) n (by rw [List.length_take, Nat.min_eq_left hk]; exact h)
  rw [List.take_append_drop] at e
  exact e
end Mine
end

section
open PySem PySem.W PyProof.Rows PySem.Spec PySem.Calls
set_option Elab.async false
namespace Mine
section
variable {prog : Program} {w : World} {A : Around} {E : Value → Shared → Prop} {s : Shared} {h₀ : Heap} {L D l : Addr} {m : Str → Option Value} {news : List (Addr × Obj)}
theorem append_flex {c : Nat} {vs : List Value} {v : Value} {Q : Value → Shared → Prop} (F : Fr h₀ L s.heap m) (N : News h₀ L s.heap news)
    (hm : (D, listOf vs.toArray c) ∈ news) (hz : vs.length ≤ sizeLine) (h : ∀ h', Fr h₀ L h' m → News h₀ L h' ((D, listOf (vs ++ [v]).toArray (c + 1)) :: news.filter fun p => decide (p.1 ≠ D)) → Q .none { s with heap := h' }) :
    wpAny (model prog w) A (call (.builtin "list.append") [.ref D, v]) Q E s :=
  append_at (hsz := by rw [List.size_toArray]; exact hz) (N.get hm) fun h' hs ho' => h h' (F.change hs (N _ hm).2.1 (N _ hm).2.2) ((news_flex N hm).setHead (fun p hp => by simpa using (List.mem_filter.mp hp).2) hs (by rw [ho']; simp))
/-- '0' a few times -/
theorem zeros_mul {a : Int} {t u : Tok} {Q : Value → Shared → Prop} (h : ∀ z t' k, (∀ c ∈ z.cps.toList, c = 48) → z.length ≤ 2 → Q (.str z t') { s with toks := k }) :
    wpAny (model prog w) A (binaryOp .Mult (.str (Str.ofString "0") t) (.int (Int.fmod a 3) u)) Q E s := by
  have h0 : 0 ≤ Int.fmod a 3 := Int.fmod_nonneg_of_pos _ (by decide)
  have h1 : Int.fmod a 3 < 3 := Int.fmod_lt_of_pos _ (by decide)
  generalize Int.fmod a 3 = n at *
  rcases (by omega : n = 0 ∨ n = 1 ∨ n = 2) with rfl | rfl | rfl
  all_goals
    refine SB.mul ⟨by decide, by decide +kernel, by decide +kernel⟩ fun t' k => h _ t' k ?_ ?_
    · decide +kernel
    · decide +kernel
/-- the ledger behind a change of one object, the loop's own part ahead again -/
theorem own_back {h : Heap} {o' : Obj} {own nx : List (Addr × Obj)} (N : News h₀ L h ((D, o') :: List.filter (fun p => decide (p.1 ≠ D)) (own ++ nx))) (ho : ∀ q ∈ own, q.1 ≠ D) : News h₀ L h (own ++ ((D, o') :: nx.filter fun p => decide (p.1 ≠ D))) := fun q hq => by
  rcases List.mem_append.mp hq with h | h
  · exact N _ (.tail _ (List.mem_filter.mpr ⟨List.mem_append_left _ h, decide_eq_true (ho q h)⟩))
  · rcases List.mem_cons.mp h with rfl | h
    · exact N _ (.head _)
    · obtain ⟨a1, a2⟩ := List.mem_filter.mp h
      exact N _ (.tail _ (List.mem_filter.mpr ⟨List.mem_append_right _ a1, a2⟩))
end
end Mine
end

section
open PySem PySem.W PyProof.Rows
set_option Elab.async false
set_option maxRecDepth 100000
set_option maxHeartbeats 8000000
namespace Mine
open_top hd for PySem.Challenge.rw_dn0238_02
theorem top_off : True := by
  w_top off
  trivial
end Mine
end

section
open PySem PySem.W PyProof.Rows PySem.Spec PySem.Calls
set_option Elab.async false
set_option maxRecDepth 100000
set_option maxHeartbeats 8000000
namespace Mine
local macro_rules | `(tactic| walk_at "call builtin:str.rpartition") => `(tactic| (k_here; (with_reducible show wpAny _ _ (call (Value.builtin "str.rpartition") [Value.str _ _, Value.str _ _]) _ _ _); (refine rpart_call (by assumption) (by k_asm) (by k_asm) (by decide) (by assumption) ?_); intro D' _ _ _ _ _ F' N' l1; (try k_lt l1)))
local macro_rules | `(tactic| cell_enter) => `(tactic| (refine' code_def ?k1 ?k2 ?k3 ?k4 ?k5 ?kA ?kF ?kK ?k6 ?k7 ?k8 ?k9 ?kB ?_ ?c2 ?c3 ?c4 ?c5; (case kA => exact rfl); (case kF => exact rfl); (case kK => assumption); (case k1 => k_asm); (case k2 => k_asm); (case k3 => k_asm); (case k4 => k_asm); (case k5 => k_asm); (case k6 => k_is); (case k7 => k_is); (case k8 => ktr_room); (case k9 => first | exact BindsTo.of_eq rfl | exact binds_K (by k_in) rfl (by k_is) rfl rfl rfl); (case c5 => decide); (case kB => exact locs rfl); (case c2 => exact rfl); (case c3 => exact rfl); (case c4 => exact rfl); k_whole; intro g' L' h' FG' F' N' B' X' T'; (try dsimp only); (try k_lift B'); (try k_fold)))
theorem nport_free (w : World) (x : Str) (t : Tok) (v : Value) (hx : x.length ≤ sizeLine) (hrp : Txt.rpartition x (Str.ofString ":") = (Str.ofString "", Str.ofString "", x)) :
    CallOK PySem.Challenge.rw_dn0238_02.row.prog w (hd.heap_39 w.params) 29 [.str x t, v] (fun _ => True) (fun r add => ∃ D t1, r = .ref D ∧ add = [(D, tupObj [.str x t1, v])]) := by
  unfold CallOK
  k_fill
  intro p loose mean mg mb dp un gd cn cs fa ccd cl outer A₀ base h₀ L m news s Q E B F X N T hk hdp hun hpre ret
  refine wpAny_call ?_
  k_dflt cell_enter
  k_steps
  all_goals (try (exfalso; omega))
  rename (_ ∧ AllLt _ _) => l9
  exact ret _ _ _ _ ⟨_, _, rfl, rfl⟩ (by assumption) (cb_drop (by assumption) sub1) (lt1 l9.2)
theorem nport_blank (w : World) (x a : Str) (t : Tok) (v : Value) (hx : x.length ≤ sizeLine) (hrp : Txt.rpartition x (Str.ofString ":") = (a, Str.ofString ":", Str.ofString "")) :
    CallOK PySem.Challenge.rw_dn0238_02.row.prog w (hd.heap_39 w.params) 29 [.str x t, v] (fun _ => True) (fun r add => ∃ D t1, r = .ref D ∧ add = [(D, tupObj [.str a t1, v])]) := by
  unfold CallOK
  k_fill
  intro p loose mean mg mb dp un gd cn cs fa ccd cl outer A₀ base h₀ L m news s Q E B F X N T hk hdp hun hpre ret
  refine wpAny_call ?_
  k_dflt cell_enter
  k_steps
  all_goals (try (exfalso; omega))
  rename (_ ∧ AllLt _ _) => l9
  exact ret _ _ _ _ ⟨_, _, rfl, rfl⟩ (by assumption) (cb_drop (by assumption) sub1) (lt1 l9.2)
theorem nport_num (w : World) (x a b : Str) (n : Int) (t : Tok) (v : Value) (hx : x.length ≤ sizeLine) (hrp : Txt.rpartition x (Str.ofString ":") = (a, Str.ofString ":", b)) (hb : b.length ≠ 0) (hd1 : Txt.isdigit b = true) (hd2 : Txt.isascii b = true) (hn : PySem.intText? b = some n) (hl : b.length ≤ 640) :
    CallOK PySem.Challenge.rw_dn0238_02.row.prog w (hd.heap_39 w.params) 29 [.str x t, v] (fun _ => True) (fun r add => ∃ D t1 t2, r = .ref D ∧ add = [(D, tupObj [.str a t1, .int n t2])]) := by
  unfold CallOK
  k_fill
  intro p loose mean mg mb dp un gd cn cs fa ccd cl outer A₀ base h₀ L m news s Q E B F X N T hk hdp hun hpre ret
  refine wpAny_call ?_
  k_dflt cell_enter
  k_steps
  all_goals (try (exfalso; omega))
  rename (_ ∧ AllLt _ _) => l9
  exact ret _ _ _ _ ⟨_, _, _, rfl, rfl⟩ (by assumption) (cb_drop (by assumption) sub1) (lt1 l9.2)
theorem nport_word (w : World) (x a b : Str) (t : Tok) (v : Value) (hx : x.length ≤ sizeLine) (hrp : Txt.rpartition x (Str.ofString ":") = (a, Str.ofString ":", b)) (hb : b.length ≠ 0) (hl : b.length ≤ 640) (hwd : Txt.isdigit b = false ∨ Txt.isdigit b = true ∧ Txt.isascii b = false) :
    CallOK PySem.Challenge.rw_dn0238_02.row.prog w (hd.heap_39 w.params) 29 [.str x t, v] (fun _ => True) (fun r add => ∃ D t1, r = .ref D ∧ add = [(D, tupObj [.str a t1, .none])]) := by
  rcases hwd with hd1 | ⟨hd1, hd2⟩
  all_goals
    unfold CallOK
    k_fill
    intro p loose mean mg mb dp un gd cn cs fa ccd cl outer A₀ base h₀ L m news s Q E B F X N T hk hdp hun hpre ret
    refine wpAny_call ?_
    k_dflt cell_enter
    k_steps
    all_goals (try (exfalso; omega))
    rename (_ ∧ AllLt _ _) => l9
    exact ret _ _ _ _ ⟨_, _, rfl, rfl⟩ (by assumption) (cb_drop (by assumption) sub1) (lt1 l9.2)
theorem part_call {prog : Program} {w : World} {A : Around} {E : Value → Shared → Prop} {s : Shared} {h₀ : Heap} {L : Addr} {m : PySem.Str → Option Value} {news : List (Addr × Obj)} {x y p q r : PySem.Str} {t u : Tok} {Q : Value → Shared → Prop}
    (hrp : Txt.partition x y = (p, q, r)) (hF : Fr h₀ L s.heap m) (hN : News h₀ L s.heap news) (hy : (y.length == 0) = false) (hsz : x.length ≤ sizeLine)
    (h : ∀ D ta tb tc h' k, Fr h₀ L h' m → News h₀ L h' ((D, { cls := .type "tuple", data := .seq [.str p ta, .str q tb, .str r tc].toArray }) :: news) → (∀ a ∈ news, a.1 < D) → Q (.ref D) { s with heap := h', toks := k }) :
    wpAny (model prog w) A (call (.builtin "str.partition") [.str x t, .str y u]) Q E s :=
  KXpa.partition hF hN hy (by rw [hrp]) (by rw [hrp]) (by rw [hrp]) hsz h
local macro_rules | `(tactic| walk_at "call builtin:str.partition") => `(tactic| (k_here; (with_reducible show wpAny _ _ (call (Value.builtin "str.partition") [Value.str _ _, Value.str _ _]) _ _ _); (refine part_call (by assumption) (by k_asm) (by k_asm) (by decide) (by assumption) ?_); intro D' _ _ _ _ _ F' N' l1; (try k_lt l1)))
theorem query_some (w : World) (x a b : Str) (t : Tok) (hx : x.length ≤ sizeLine) (hrp : Txt.rpartition x (Str.ofString "?") = (a, Str.ofString "?", b)) :
    CallOK PySem.Challenge.rw_dn0238_02.row.prog w (hd.heap_39 w.params) 36 [.str x t] (fun _ => True) (fun v add => ∃ D t1 t2, v = .ref D ∧ add = [(D, tupObj [.str a t1, .str b t2])]) := by
  unfold CallOK
  k_fill
  intro p loose mean mg mb dp un gd cn cs fa ccd cl outer A₀ base h₀ L m news s Q E B F X N T hk hdp hun hpre ret
  refine wpAny_call ?_
  k_dflt cell_enter
  k_steps
  rename (_ ∧ AllLt _ _) => l9
  exact ret _ _ _ _ ⟨_, _, _, rfl, rfl⟩ (by assumption) (cb_drop (by assumption) sub1) (lt1 l9.2)
theorem query_none (w : World) (x : Str) (t : Tok) (hx : x.length ≤ sizeLine) (hrp : Txt.rpartition x (Str.ofString "?") = (Str.ofString "", Str.ofString "", x)) :
    CallOK PySem.Challenge.rw_dn0238_02.row.prog w (hd.heap_39 w.params) 36 [.str x t] (fun _ => True) (fun v add => ∃ D, v = .ref D ∧ add = [(D, tupObj [.str x t, .none])]) := by
  unfold CallOK
  k_fill
  intro p loose mean mg mb dp un gd cn cs fa ccd cl outer A₀ base h₀ L m news s Q E B F X N T hk hdp hun hpre ret
  refine wpAny_call ?_
  k_dflt cell_enter
  k_steps
  rename (_ ∧ AllLt _ _) => l9
  exact ret _ _ _ _ ⟨_, rfl, rfl⟩ (by assumption) (cb_drop (by assumption) sub1) (lt1 l9.2)
theorem passwd_some (w : World) (x a b : Str) (t : Tok) (hx : x.length ≤ sizeLine) (hrp : Txt.partition x (Str.ofString ":") = (a, Str.ofString ":", b)) :
    CallOK PySem.Challenge.rw_dn0238_02.row.prog w (hd.heap_39 w.params) 21 [.str x t] (fun _ => True) (fun v add => ∃ D t1 t2, v = .ref D ∧ add = [(D, tupObj [.str a t1, .str b t2])]) := by
  unfold CallOK
  k_fill
  intro p loose mean mg mb dp un gd cn cs fa ccd cl outer A₀ base h₀ L m news s Q E B F X N T hk hdp hun hpre ret
  refine wpAny_call ?_
  k_dflt cell_enter
  k_steps
  rename (_ ∧ AllLt _ _) => l9
  exact ret _ _ _ _ ⟨_, _, _, rfl, rfl⟩ (by assumption) (cb_drop (by assumption) sub1) (lt1 l9.2)
end Mine
end

section
open PySem PySem.W PyProof.Rows PySem.Spec PySem.Calls
set_option Elab.async false
set_option maxRecDepth 100000
set_option maxHeartbeats 8000000
namespace Mine
def Stop (P : Prop) : Prop := P
theorem stop_here {P : Prop} (h : Stop P) : P := h
local macro_rules | `(tactic| walk_at "eval Name") => `(tactic| (k_here; k_dflt (refine' ld ?k1 ?k2 ?_; (case k1 => k_asm); (case k2 => first | exact rfl | assumption); k_whole)))
local macro_rules | `(tactic| walk_at "pyIter ref") => `(tactic| (k_here; refine stop_here ?_))
local macro_rules | `(tactic| walk_at "exec For Tuple Name cons nil") => `(tactic| (k_here; (rename Fr _ _ _ _ => lF'); (with_unfolding_all refine' For_turns lF' ?_ ?k3 ?k4; (case k3 => (intro _; rfl)); k_whole)))
local macro_rules | `(tactic| walk_at "pyIter ref") => `(tactic| (k_here; refine stop_here ?_))
local macro_rules | `(tactic| k_mem) => `(tactic| assumption)
theorem found_ok (w : World) (l : Addr) (o : Str) (t : Tok) (vs : List Value) (ts : List Tst) (c : Nat) :
    CallOK PySem.Challenge.rw_dn0238_02.row.prog w (hd.heap_39 w.params) 43 [.ref l, .str o t] (fun news => (l, listOf vs.toArray c) ∈ news ∧ TstsIn news vs ts) (fun v add => ∃ t1, v = .str (found ts o) t1 ∧ add = []) := by
  unfold CallOK
  k_fill
  intro p loose mean mg mb dp un gd cn cs fa ccd cl outer A₀ base h₀ L m news s Q E B F X N T hk hdp hun hpre ret
  obtain ⟨hl, hts⟩ := hpre
  refine wpAny_call ?_
  k_dflt cell_enter
  k_steps
  unfold Stop
  rename Fr _ _ _ _ => Fc
  rename News _ _ _ _ => Nc
  refine for_listT (news := news) (big := news) (fun i m nx => nx = news ∧ m (Str.ofString "otherwise") = some (.str o t) ∧ found ts o = found (ts.drop i) o) rfl hl Fc Nc (fun _ h => h) ⟨rfl, rfl, rfl⟩ ?turn ?done
  case turn =>
    rintro I hI i v m₁ news₁ h tk own hv ⟨enx, ho, hf⟩ h1 h2 h3 F1 N1
    have enx := enx.symm
    subst enx
    obtain ⟨D, x, t1, t2, u, hx, rfl, hm, hu⟩ := hts.at i v hv
    have hdr : ts.drop i = x :: ts.drop (i + 1) := by
      obtain ⟨hlt, e⟩ := List.getElem?_eq_some_iff.mp hx
      rw [List.drop_eq_getElem_cons hlt, e]
    rw [hdr] at hf
    have hm' := List.mem_append_right own hm
    rcases hu with ⟨e, rfl⟩ | ⟨n, tn, e, rfl⟩
    · k_steps
      rename Fr _ _ _ _ => Ff
      rename News _ _ _ _ => Nf
      exact TurnEnd.go (news' := news) Ff Nf (fun q hq => Nat.ne_of_lt (hI q hq)) ⟨rfl, ho, by rw [hf, found, if_pos (.inl e)]⟩
    · by_cases hn : n = 0
      · subst hn
        k_steps
        rename Fr _ _ _ _ => Ff
        rename News _ _ _ _ => Nf
        exact TurnEnd.go (news' := news) Ff Nf (fun q hq => Nat.ne_of_lt (hI q hq)) ⟨rfl, ho, by rw [hf, found, if_pos (.inr e)]⟩
      · k_steps
        · unfold TurnEnd
          dsimp only
          k_steps
          have e2 : found ts o = x.ans := by rw [hf, found, if_neg (by rw [e]; simp [hn])]
          exact ret _ [] _ _ ⟨_, by rw [e2], rfl⟩ (by assumption) (cb_drop (by assumption) (fun p hp => List.mem_append_right _ hp)) (fun _ h => nomatch h)
        · exfalso
          omega
  case done =>
    intro h' tk m' news' F' N' hJ
    obtain ⟨enx, ho, hf⟩ := hJ
    have enx := enx.symm
    subst enx
    rw [hts.length, List.drop_length] at hf
    k_steps
    exact ret _ [] _ _ ⟨_, by rw [hf]; rfl, rfl⟩ (by assumption) (cb_drop (by assumption) (fun p hp => .tail _ hp)) (fun _ h => nomatch h)
end Mine
end

section
open PySem PySem.W PyProof.Rows PySem.Spec PySem.Calls
set_option Elab.async false
set_option maxRecDepth 100000
set_option linter.unusedVariables false
set_option maxHeartbeats 1000000
namespace Mine
def law02 : Stmt := nthS PySem.Challenge.pw_dn0238_02.main.body 6
def turn02 : List Stmt := forBody (nthS (fnBody law02) 5)
abbrev env02 (L fa : Addr) (cd : Value) : Env := envOf (Str.ofString "law") (fnScope law02) L fa cd
local macro_rules | `(tactic| walk_at "eval Name") => `(tactic| (k_here; k_dflt (refine' ld ?k1 ?k2 ?_; (case k1 => k_asm); (case k2 => first | exact rfl | assumption); k_whole)))
local macro_rules | `(tactic| k_mem) => `(tactic| assumption)
theorem menu_item8 {prog : Program} {w : World} {A : Around} {E : Value → Shared → Prop} {s : Shared} {h₀ : Heap} {L l : Addr} {news : List (Addr × Obj)} {P : Str → Prop} {value slice : PySem.Expr} {c : Nat} {vs : List Value} {ws : List Str} {i : Int} {u : Tok} {Q : Value → Shared → Prop} (hP : ∀ y ∈ ws, P y) (N : News h₀ L s.heap news) (hm : (l, listOf vs.toArray c) ∈ news) (hw : StrsAre vs ws) (hl : ws.length = 8) 
    (h : ∀ y t', P y → Q (.str y t') s)
    (hs : subscripted slice false (.ref l) (.int (Int.fmod i 8) u) = operate [.ref l, .int (Int.fmod i 8) u] (getItem (.ref l) (.int (Int.fmod i 8) u))) :
    wpAny (model prog w) A (subscriptTail value slice (.ref l) (.int (Int.fmod i 8) u)) Q E s :=
  menu_item hP N hm hw (Int.fmod_nonneg_of_pos _ (by decide)) (by rw [hl]; exact Int.fmod_lt_of_pos _ (by decide)) (by omega) h hs
local macro_rules | `(tactic| walk_at "subscriptTail Name BinOp ref int") => `(tactic| (k_here; k_dflt (first
  | (refine' menu_item8 (P := AnsOk) ?P ?N ?l ?w ?c ?_ ?s; (case N => k_asm); (case l => k_mem); (case w => assumption); (case P => assumption); (case c => assumption); (case s => with_unfolding_all rfl))
  | (refine' menu_item8 (P := WordOk) ?P ?N ?l ?w ?c ?_ ?s; (case N => k_asm); (case l => k_mem); (case w => assumption); (case P => assumption); (case c => assumption); (case s => with_unfolding_all rfl))); intro wd' twd' hwd'))
theorem mod_getD {prog : Program} {w : World} {A : Around} {E : Value → Shared → Prop} {s : Shared} {a : Int} {i : Nat} {t u : Tok} {Q : Value → Shared → Prop} (hi : i < 2) (h : ∀ v, 0 ≤ v → v < 1000000 → Q (.int v s.toks) { s with toks := s.toks + 1 }) :
    wpAny (model prog w) A (binaryOp .Mod (.int a t) (.int ([3, 10 ^ Int.toNat 6].getD i 0) u)) Q E s := by
  rcases (by omega : i = 0 ∨ i = 1) with rfl | rfl
  · refine mod_int' (b := 3) (by decide) (h _ (Int.fmod_nonneg_of_pos _ (by decide)) ?_)
    have := Int.fmod_lt_of_pos a (show (0 : Int) < 3 by decide)
    omega
  · refine mod_int' (b := 10 ^ Int.toNat 6) (by decide) (h _ (Int.fmod_nonneg_of_pos _ (by decide)) ?_)
    exact Int.fmod_lt_of_pos a (show (0 : Int) < 10 ^ Int.toNat 6 by decide)
local macro_rules | `(tactic| walk_at "binaryOp Mod int int") => `(tactic| (k_here; (with_reducible show wpAny _ _ (binaryOp Operator.Mod (Value.int _ _) (Value.int (List.getD _ _ _) _)) _ _ _); (refine mod_getD (by omega) ?_); intro v' hv0' hv1'))
local macro_rules | `(tactic| walk_at "binaryOp Mult str int") => `(tactic| (k_here; (refine zeros_mul ?_); intro z' tz' kz' hz' hzl'))
local macro_rules | `(tactic| walk_at "call builtin:list.append") => `(tactic| (k_here; k_dflt (refine' append_flex ?F ?N ?l ?z ?_; (case F => k_asm); (case N => k_asm); (case l => first | k_mem | exact .tail _ (by assumption) | exact .tail _ (.tail _ (by assumption))); (case z => (rw [sizeLine_eq]; omega))); intro h' F' N'; (try k_sweep)))
theorem built_drop {h₀ : Heap} {L lt D : Addr} {h : Heap} {o ol : Obj} {big news : List (Addr × Obj)} (N : News h₀ L h ((lt, ol) :: List.filter (fun p => decide (p.1 ≠ lt)) ((D, o) :: big))) (hD : lt < D) (hs : ∀ p ∈ news, p ∈ (D, o) :: big) : News h₀ L h ((lt, ol) :: (D, o) :: news.filter fun p => decide (p.1 ≠ lt)) := fun p hp => by
  rcases List.mem_cons.mp hp with rfl | hp
  · exact N _ (.head _)
  · rcases List.mem_cons.mp hp with rfl | hp
    · exact N _ (.tail _ (List.mem_filter.mpr ⟨.head _, decide_eq_true (Nat.ne_of_gt hD)⟩))
    · obtain ⟨h1, h2⟩ := List.mem_filter.mp hp
      exact N _ (.tail _ (List.mem_filter.mpr ⟨hs p h1, h2⟩))
section
variable (w : World) {p : Program} {loose : List Str} {mean : ExcName → Option Value} {mg mb : Str → Option Value} {base h₀ : Heap} {L fa : Addr} {cd : Value} {m : Str → Option Value} {news : List (Addr × Obj)} {s : Shared} {Q : Flow → Shared → Prop}
theorem build02 {words answers : List Str} {vw va vt : List Value} {lw la lt : Addr} {cw ca ct : Nat} {n b : Int} {tn tb : Tok}
    (B : Below callerA base [] h₀) (X : (hd.heap_39 w.params).In h₀) (T : Top p loose mean mg mb h₀) (F : Fr h₀ L s.heap m) (N : News h₀ L s.heap news)
    (hlw : (lw, listOf vw.toArray cw) ∈ news) (hla : (la, listOf va.toArray ca) ∈ news) (hlt : (lt, listOf vt.toArray ct) ∈ news) (hvw : StrsAre vw words) (hva : StrsAre va answers) (hw8 : words.length = 8) (ha8 : answers.length = 8)
    (ga : ∀ y ∈ answers, AnsOk y) (gw : ∀ y ∈ words, WordOk y) (hct : vt.length ≤ 100)
    (h1 : m (Str.ofString "number") = some (.int n tn)) (h2 : m (Str.ofString "words") = some (.ref lw)) (h3 : m (Str.ofString "answers") = some (.ref la)) (h4 : m (Str.ofString "tests") = some (.ref lt)) (h5 : m (Str.ofString "blank") = some (.int b tb))
    (ret : ∀ D x t1 t2 u h' tk' m', GoodT b x → OptV x.val u → Fr h₀ L h' m' → News h₀ L h' ((lt, listOf (vt ++ [Value.ref D]).toArray (ct + 1)) :: (D, tupObj [.str x.test t1, u, .str x.ans t2]) :: news.filter fun p => decide (p.1 ≠ lt)) → (∀ p ∈ news, p.1 < D) →
      (∀ q, q ≠ Str.ofString "rest" → q ≠ Str.ofString "size" → q ≠ Str.ofString "answer" → q ≠ Str.ofString "value" → m' q = m q) → Q .next { s with heap := h', toks := tk' }) :
    wpAny (model PySem.Challenge.rw_dn0238_02.row.prog w) (callerA.deeper (env02 L fa cd)) (execs turn02 (env02 L fa cd)) Q NoE s := by
  revert X; k_fill; intro X
  obtain ⟨sh, sg, sd, st, so⟩ := s
  dsimp only at F N ret
  conv in (execs _ _) => arg 1; whnf
  unfold env02
  conv in (occs := *) (fnScope _) => all_goals whnf
  k_steps
  · rename (_ ∧ AllLt _ _) => l9
    rename Fr _ _ _ _ => Ff
    rename News _ _ _ _ => Nf
    refine ret _ ⟨_, some _, _⟩ _ _ _ _ _ _ (num_good (by assumption) (by assumption) (by assumption) (by assumption) (by assumption)) (.inr ⟨_, _, rfl, rfl⟩) Ff (built_drop Nf (kst_ltOf l9.2 _ hlt) (fun p hp => .tail _ (.tail _ hp))) (kst_ltOf l9.2) (fun q h1 h2 h3 h4 => by simp only [h1, h2, h3, h4, if_false])
  · rename Fr _ _ _ _ => Ff
    rename News _ _ _ _ => Nf
    rename (∀ p ∈ news, p.1 < _) => l9
    refine ret _ ⟨_, some _, _⟩ _ _ _ _ _ _ (blank_good (by assumption)) (.inr ⟨_, _, rfl, rfl⟩) Ff (built_drop Nf (l9 _ hlt) (fun p hp => .tail _ hp)) l9 (fun q h1 h2 h3 h4 => by simp only [h1, h2, h3, if_false])
  · rename Fr _ _ _ _ => Ff
    rename News _ _ _ _ => Nf
    rename (∀ p ∈ news, p.1 < _) => l9
    refine ret _ ⟨_, none, _⟩ _ _ _ _ _ _ (word_good (by assumption) (by assumption)) (.inl ⟨rfl, rfl⟩) Ff (built_drop Nf (l9 _ hlt) (fun p hp => .tail _ hp)) l9 (fun q h1 h2 h3 h4 => by simp only [h1, h2, h3, if_false])
end
end Mine
end

section
open PySem PySem.W PyProof.Rows PySem.Spec PySem.Calls
set_option Elab.async false
set_option maxRecDepth 100000
set_option linter.unusedVariables false
set_option maxHeartbeats 1000000
namespace Mine
def words02 : List Str := [Str.ofString "x", Str.ofString "-1", Str.ofString "0x1", Str.ofString "1 ", Str.ofString "٣", Str.ofString "²", Str.ofString "#", Str.ofString "+"]
def answers02 : List Str := [Str.ofString "", Str.ofString "a", Str.ofString "0", Str.ofString "7", Str.ofString "#/@", Str.ofString "yes", Str.ofString "ä", Str.ofString "00"]
theorem ans_dec {x : Str} (h : (decide (58 ∉ x.cps.toList) && decide (63 ∉ x.cps.toList) && decide (x.length ≤ 5) && x.cps.toList.all fun c => decide (c < 0x110000)) = true) : AnsOk x := by
  simp only [Bool.and_eq_true, decide_eq_true_eq, List.all_eq_true] at h
  exact ⟨h.1.1.1, h.1.1.2, h.1.2, fun c hc => by simpa using h.2 c hc⟩
theorem word_dec {x : Str} (h : (decide (58 ∉ x.cps.toList) && decide (63 ∉ x.cps.toList) && decide (x.length ≤ 5) && x.cps.toList.all fun c => decide (c < 0x110000)) = true) (h2 : (x.cps.toList.any fun c => decide (c < 48) || decide (57 < c)) = true) : WordOk x := by
  have a := ans_dec h
  obtain ⟨c, hc, e⟩ := List.any_eq_true.mp h2
  simp only [Bool.or_eq_true, decide_eq_true_eq] at e
  refine ⟨a.1, a.2.1, a.2.2.1, a.2.2.2, fun e => ?_, fun hd => ?_⟩
  · rw [e, show (Str.ofString "").cps.toList = [] by decide +kernel] at hc; exact nomatch hc
  · have := hd c hc; omega
theorem answers02_good : ∀ y ∈ answers02, AnsOk y := by
  intro y hy
  simp only [answers02, List.mem_cons, List.not_mem_nil, or_false] at hy
  rcases hy with rfl | rfl | rfl | rfl | rfl | rfl | rfl | rfl <;> exact ans_dec (by decide +kernel)
theorem words02_good : ∀ y ∈ words02, WordOk y := by
  intro y hy
  simp only [words02, List.mem_cons, List.not_mem_nil, or_false] at hy
  rcases hy with rfl | rfl | rfl | rfl | rfl | rfl | rfl | rfl <;> exact word_dec (by decide +kernel) (by decide +kernel)
def top5 (l : List Stmt) : List Stmt := match l with | a :: b :: c :: d :: e :: _ => [a, b, c, d, e] | _ => []
local macro_rules | `(tactic| walk_at "eval Name") => `(tactic| (k_here; k_dflt (refine' ld ?k1 ?k2 ?_; (case k1 => k_asm); (case k2 => first | exact rfl | assumption); k_whole)))
section
variable (w : World) {p : Program} {loose : List Str} {mean : ExcName → Option Value} {mg mb : Str → Option Value} {base h₀ : Heap} {L fa : Addr} {cd : Value} {m : Str → Option Value} {news : List (Addr × Obj)} {s : Shared} {Q : Flow → Shared → Prop}
theorem head02 {ls : Addr} {vs : List Value} {ns : List Int}
    (B : Below callerA base [] h₀) (X : (hd.heap_39 w.params).In h₀) (T : Top p loose mean mg mb h₀) (F : Fr h₀ L s.heap m) (N : News h₀ L s.heap [])
    (hl : h₀.IsList ls vs.toArray) (hi : IntsAre vs ns) (hb : ns.length ≤ 63) (h1 : m (Str.ofString "script") = some (.ref ls))
    (ret : ∀ lw la lt vw va cw ca ct b tb o to h' tk' m', StrsAre vw words02 → StrsAre va answers02 → Fr h₀ L h' m' → News h₀ L h' [(lt, listOf ([] : List Value).toArray ct), (la, listOf va.toArray ca), (lw, listOf vw.toArray cw)] → lw ≠ lt → la ≠ lt → AnsOk o →
      m' (Str.ofString "words") = some (.ref lw) → m' (Str.ofString "answers") = some (.ref la) → m' (Str.ofString "tests") = some (.ref lt) → m' (Str.ofString "blank") = some (.int b tb) → m' (Str.ofString "otherwise") = some (.str o to) → m' (Str.ofString "script") = m (Str.ofString "script") → Q .next { s with heap := h', toks := tk' }) :
    wpAny (model PySem.Challenge.rw_dn0238_02.row.prog w) (callerA.deeper (env02 L fa cd)) (execs (top5 (fnBody law02)) (env02 L fa cd)) Q NoE s := by
  revert X; k_fill; intro X
  obtain ⟨sh, sg, sd, st, so⟩ := s
  dsimp only at F N ret
  conv in (execs _ _) => arg 1; whnf
  unfold env02
  conv in (occs := *) (fnScope _) => all_goals whnf
  k_steps
  all_goals
    rename Fr _ _ _ _ => Ff
    rename News _ _ _ _ => Nf
    rename (_ < _ ∧ _ < _) => lf
    exact ret _ _ _ _ _ _ _ _ _ _ _ _ _ _ _ (.cons _ _ (.cons _ _ (.cons _ _ (.cons _ _ (.cons _ _ (.cons _ _ (.cons _ _ (.cons _ _ .nil)))))))) (.cons _ _ (.cons _ _ (.cons _ _ (.cons _ _ (.cons _ _ (.cons _ _ (.cons _ _ (.cons _ _ .nil)))))))) Ff Nf (Nat.ne_of_lt lf.2) (Nat.ne_of_lt lf.1) (ans_dec (by decide +kernel)) rfl rfl rfl rfl rfl rfl
theorem ints_at : ∀ {vs : List Value} {ns : List Int}, IntsAre vs ns → ∀ (i : Nat) (v : Value), vs[i]? = some v → ∃ n t, ns[i]? = some n ∧ v = .int n t
  | _, _, .nil, i, v, h => by simp at h
  | _, _, .cons y t r, 0, v, h => ⟨y, t, rfl, by simpa using h.symm⟩
  | _, _, .cons y t r, i + 1, v, h => by simpa using ints_at r i v (by simpa using h)
local macro_rules | `(tactic| walk_at "pyIter ref") => `(tactic| (k_here; refine stop_here ?_))
local macro_rules | `(tactic| walk_at "exec For Name Subscript cons nil") => `(tactic| (k_here; (rename Fr _ _ _ _ => lF'); (with_unfolding_all refine' For_invVF lF' ?k1 ?k2 ?_ ?k3 ?k4; (case k1 => exact rfl); (case k2 => exact rfl); (case k3 => (intro _; rfl)); (case k4 => exact PassesOwn.never); k_whole)))
/-- the tests built so far, and what the frame knows -/
def J5 (lw la lt : Addr) (vw va : List Value) (cw ca : Nat) (b : Int) (tb : Tok) (o : Str) (to : Tok) (i : Nat) (m : Str → Option Value) (nx : List (Addr × Obj)) : Prop :=
  ∃ ts vt ct, (lt, listOf vt.toArray ct) ∈ nx ∧ (lw, listOf vw.toArray cw) ∈ nx ∧ (la, listOf va.toArray ca) ∈ nx ∧ TstsIn nx vt ts ∧ (∀ x ∈ ts, GoodT b x) ∧ ts.length ≤ i ∧
    m (Str.ofString "words") = some (.ref lw) ∧ m (Str.ofString "answers") = some (.ref la) ∧ m (Str.ofString "tests") = some (.ref lt) ∧ m (Str.ofString "blank") = some (.int b tb) ∧ m (Str.ofString "otherwise") = some (.str o to)
theorem for5 {ls : Addr} {vs : List Value} {ns : List Int} {lw la lt : Addr} {vw va : List Value} {cw ca : Nat} {b : Int} {tb : Tok} {o : Str} {to : Tok}
    (B : Below callerA base [] h₀) (X : (hd.heap_39 w.params).In h₀) (T : Top p loose mean mg mb h₀) (F : Fr h₀ L s.heap m) (N : News h₀ L s.heap news)
    (hl : h₀.IsList ls vs.toArray) (hi : IntsAre vs ns) (hb : ns.length ≤ 63) (h1 : m (Str.ofString "script") = some (.ref ls))
    (hvw : StrsAre vw words02) (hva : StrsAre va answers02) (hwt : lw ≠ lt) (hat : la ≠ lt) (hJ : J5 lw la lt vw va cw ca b tb o to 0 m news)
    (ret : ∀ h' tk' m' news', Fr h₀ L h' m' → News h₀ L h' news' → J5 lw la lt vw va cw ca b tb o to 63 m' news' → Q .next { s with heap := h', toks := tk' }) :
    wpAny (model PySem.Challenge.rw_dn0238_02.row.prog w) (callerA.deeper (env02 L fa cd)) (exec (nthS (fnBody law02) 5) (env02 L fa cd)) Q NoE s := by
  revert X; k_fill; intro X
  obtain ⟨sh, sg, sd, st, so⟩ := s
  dsimp only at F N ret
  conv in (exec _ _) => arg 1; whnf
  unfold env02
  conv in (occs := *) (fnScope _) => all_goals whnf
  k_steps
  unfold Stop
  rename Fr _ _ _ _ => Ff
  rename News _ _ _ _ => Nf
  rename IntsAre _ (List.take _ _) => hI
  rename (∀ p ∈ news, p.1 < _) => lD
  rename ((List.take _ _).length ≤ ns.length) => hL
  have hlen := hI.length
  refine for_list2 (news := news) (fun i m nx => J5 lw la lt vw va cw ca b tb o to i m nx) rfl (.head _) Ff Nf (fun q hq => .tail _ hq) hJ ?_ ?_
  · rintro I hbig i v m₁ nx h tk own hv ⟨ts, vt, ct, j1, j2, j3, j4, j5, j6, k1, k2, k3, k4, k5⟩ g1 g2 ⟨oI, g3⟩ g4 F1 N1
    obtain ⟨n, t, _, rfl⟩ := ints_at hI i v hv
    have hi' : i < 63 := by
      have := (List.getElem?_eq_some_iff.mp hv).1
      omega
    have hltD : ∀ q ∈ own, q.1 ≠ lt := fun q hq e => by
      rcases g1 q hq with e' | e'
      · exact g4 _ j1 (e ▸ e')
      · obtain ⟨ts0, vt0, ct0, jj, _⟩ := hJ
        exact absurd (lD _ jj) (by rw [← e, e']; exact Nat.lt_irrefl _)
    have lv := j4.length
    have e0 : ∀ q, q ≠ Str.ofString "number" → (if q = Str.ofString "number" then some (Value.int n t) else m₁ q) = m₁ q := fun q h => if_neg h
    refine build02 w B X T (s := ⟨h, sg, sd, tk, so⟩) F1 N1 (List.mem_append_right _ j2) (List.mem_append_right _ j3) (List.mem_append_right _ j1) hvw hva rfl rfl answers02_good words02_good (by omega) (if_pos rfl) ((e0 _ (by decide +kernel)).trans k1) ((e0 _ (by decide +kernel)).trans k2) ((e0 _ (by decide +kernel)).trans k3) ((e0 _ (by decide +kernel)).trans k4) ?_
    intro D x t1 t2 u h' tk' m' gx hu F' N' lD' r
    have r' : ∀ q, q ≠ Str.ofString "rest" → q ≠ Str.ofString "size" → q ≠ Str.ofString "answer" → q ≠ Str.ofString "value" → q ≠ Str.ofString "number" → m' q = m₁ q := fun q a1 a2 a3 a4 a5 => (r q a1 a2 a3 a4).trans (e0 q a5)
    refine TurnEnd.go (news' := (lt, listOf (vt ++ [Value.ref D]).toArray (ct + 1)) :: (D, tupObj [.str x.test t1, u, .str x.ans t2]) :: nx.filter fun p => decide (p.1 ≠ lt)) F' (fun q hq => ?_) (fun q hq => ?_) ⟨ts ++ [x], vt ++ [Value.ref D], ct + 1, .head _, ?_, ?_, ?_, ?_, ?_, ?_, ?_, ?_, ?_, ?_⟩
    · rcases List.mem_append.mp hq with h | h
      · exact N' _ (.tail _ (.tail _ (List.mem_filter.mpr ⟨List.mem_append_left _ h, decide_eq_true (hltD q h)⟩)))
      · rcases List.mem_cons.mp h with rfl | h
        · exact N' _ (.head _)
        · rcases List.mem_cons.mp h with rfl | h
          · exact N' _ (.tail _ (.head _))
          · obtain ⟨a1, a2⟩ := List.mem_filter.mp h
            exact N' _ (.tail _ (.tail _ (List.mem_filter.mpr ⟨List.mem_append_right _ a1, a2⟩)))
    · rcases List.mem_cons.mp hq with rfl | h
      · exact (g4 (lt, listOf vt.toArray ct) j1 : lt ≠ I)
      · rcases List.mem_cons.mp h with rfl | h
        · exact Nat.ne_of_gt (lD' _ (List.mem_append_left _ g3))
        · exact g4 _ (List.mem_filter.mp h).1
    · exact .tail _ (.tail _ (List.mem_filter.mpr ⟨j2, decide_eq_true hwt⟩))
    · exact .tail _ (.tail _ (List.mem_filter.mpr ⟨j3, decide_eq_true hat⟩))
    · refine TstsIn.snoc (TstsIn.mono (TstsIn.off j4 (fun q hq => N1 q (List.mem_append_right _ hq)) j1) fun q hq => .tail _ (.tail _ hq)) (.tail _ (.head _)) hu
    · intro y hy
      rcases List.mem_append.mp hy with h | h
      · exact j5 y h
      · rw [List.mem_singleton.mp h]; exact gx
    · simp only [List.length_append, List.length_singleton]; omega
    · exact (r' _ (by decide +kernel) (by decide +kernel) (by decide +kernel) (by decide +kernel) (by decide +kernel)).trans k1
    · exact (r' _ (by decide +kernel) (by decide +kernel) (by decide +kernel) (by decide +kernel) (by decide +kernel)).trans k2
    · exact (r' _ (by decide +kernel) (by decide +kernel) (by decide +kernel) (by decide +kernel) (by decide +kernel)).trans k3
    · exact (r' _ (by decide +kernel) (by decide +kernel) (by decide +kernel) (by decide +kernel) (by decide +kernel)).trans k4
    · exact (r' _ (by decide +kernel) (by decide +kernel) (by decide +kernel) (by decide +kernel) (by decide +kernel)).trans k5
  · rintro h' tk m' nx F' N' ⟨ts, vt, ct, j1, j2, j3, j4, j5, j6, j7⟩
    exact ret _ _ _ _ F' N' ⟨ts, vt, ct, j1, j2, j3, j4, j5, by omega, j7⟩
end
end Mine
end

section
open PySem PySem.W PyProof.Rows PySem.Spec PySem.Calls
set_option Elab.async false
set_option maxRecDepth 100000
set_option linter.unusedVariables false
set_option maxHeartbeats 1000000
namespace Mine
def grp3 (l : List Stmt) (i : Nat) : List Stmt := match l.drop i with | a :: b :: c :: _ => [a, b, c] | _ => []
local macro_rules | `(tactic| walk_at "eval Name") => `(tactic| (k_here; k_dflt (refine' ld ?k1 ?k2 ?_; (case k1 => k_asm); (case k2 => first | exact rfl | assumption); k_whole)))
local macro_rules | `(tactic| k_mem) => `(tactic| assumption)
local macro_rules | `(tactic| walk_at "call builtin:list.append") => `(tactic| (k_here; k_dflt (refine' append_flex ?F ?N ?l ?z ?_; (case F => k_asm); (case N => k_asm); (case l => first | k_mem | exact .tail _ (by assumption) | exact .tail _ (.tail _ (by assumption)) | exact .tail _ (.head _)); (case z => (simp only [List.length_append, List.length_cons, List.length_nil, sizeLine_eq]; omega))); intro h' F' N'; (try k_sweep)))
theorem double0_good {b : Int} : GoodT b ⟨Str.ofString "00", some 0, Str.ofString "never"⟩ :=
  ⟨(by show 58 ∉ (Str.ofString "00").cps.toList; decide +kernel), (by show 63 ∉ (Str.ofString "00").cps.toList; decide +kernel), (by show (Str.ofString "00").length ≤ 12; decide +kernel), (ans_dec (x := Str.ofString "00") (by decide +kernel)).2.2.2, ans_dec (by decide +kernel),
    .inr (.inl ⟨(by show Str.ofString "00" ≠ Str.ofString ""; decide +kernel), (by show ∀ c ∈ (Str.ofString "00").cps.toList, 48 ≤ c ∧ c ≤ 57; decide +kernel), (by show some (0 : Int) = some ((NumText.digitsVal (Str.ofString "00").cps.toList : Nat) : Int); decide +kernel)⟩)⟩
section
variable (w : World) {p : Program} {loose : List Str} {mean : ExcName → Option Value} {mg mb : Str → Option Value} {base h₀ : Heap} {L fa : Addr} {cd : Value} {m : Str → Option Value} {news : List (Addr × Obj)} {s : Shared} {Q : Flow → Shared → Prop}
theorem mid02 {lt : Addr} {vt : List Value} {ct : Nat} {b : Int} {tb : Tok} {ts : List Tst}
    (B : Below callerA base [] h₀) (X : (hd.heap_39 w.params).In h₀) (T : Top p loose mean mg mb h₀) (F : Fr h₀ L s.heap m) (N : News h₀ L s.heap news)
    (hlt : (lt, listOf vt.toArray ct) ∈ news) (hct : vt.length ≤ 100)
    (h4 : m (Str.ofString "tests") = some (.ref lt)) (h5 : m (Str.ofString "blank") = some (.int b tb)) (hts : TstsIn news vt ts) (gts : ∀ x ∈ ts, GoodT b x)
    (ret : ∀ lh vt' ct' th ts' nx h' tk' m', (∀ x ∈ ts', GoodT b x) → ts'.length = ts.length + 2 → TstsIn nx vt' ts' → (lt, listOf vt'.toArray ct') ∈ nx → (lh, listOf [Value.str (Str.ofString "h") th].toArray 0) ∈ nx → lh ≠ lt → Fr h₀ L h' m' → News h₀ L h' nx →
      m' (Str.ofString "heads") = some (.ref lh) → (∀ q, q ≠ Str.ofString "heads" → m' q = m q) → Q .next { s with heap := h', toks := tk' }) :
    wpAny (model PySem.Challenge.rw_dn0238_02.row.prog w) (callerA.deeper (env02 L fa cd)) (execs (grp3 (fnBody law02) 6) (env02 L fa cd)) Q NoE s := by
  revert X; k_fill; intro X
  obtain ⟨sh, sg, sd, st, so⟩ := s
  dsimp only at F N ret
  have hoff := TstsIn.off hts N hlt
  conv in (execs _ _) => arg 1; whnf
  unfold env02
  conv in (occs := *) (fnScope _) => all_goals whnf
  k_steps
  rename Fr _ _ _ _ => Ff
  rename News _ _ _ _ => Nf
  rename (lt < _ ∧ AllLt _ _) => l3
  replace l3 := l3.1
  rename (lt < _ ∧ AllLt _ _) => l2
  rename (∀ p ∈ news, p.1 < _) => l1
  refine ret _ _ _ _ (ts ++ [⟨Str.ofString "", some b, Str.ofString "end"⟩] ++ [⟨Str.ofString "00", some 0, Str.ofString "never"⟩]) _ _ _ _ ?_ (by simp) (TstsIn.snoc (TstsIn.snoc (TstsIn.mono hoff fun q hq => ?_) (.tail _ (.tail _ (List.mem_filter.mpr ⟨.tail _ (.tail _ (List.mem_filter.mpr ⟨.head _, decide_eq_true (Nat.ne_of_gt (l1 _ hlt))⟩)), decide_eq_true (Nat.ne_of_gt (l1 _ hlt))⟩))) (.inr ⟨_, _, rfl, rfl⟩)) (.tail _ (.tail _ (List.mem_filter.mpr ⟨.head _, decide_eq_true (Nat.ne_of_gt l2.1)⟩))) (.inr ⟨_, _, rfl, rfl⟩)) (.tail _ (.head _)) (.head _) (Nat.ne_of_gt l3) Ff Nf rfl (fun q h => if_neg h)
  · intro x hx
    rcases List.mem_append.mp hx with h | h
    · rcases List.mem_append.mp h with h | h
      · exact gts x h
      · rw [List.mem_singleton.mp h]; exact blank_good (ans_dec (by decide +kernel))
    · rw [List.mem_singleton.mp h]; exact double0_good
  · obtain ⟨a1, a2⟩ := List.mem_filter.mp hq
    exact .tail _ (.tail _ (List.mem_filter.mpr ⟨.tail _ (.tail _ (List.mem_filter.mpr ⟨.tail _ a1, a2⟩)), a2⟩))
end
end Mine
end

section
open PySem PySem.W PyProof.Rows PySem.Spec PySem.Calls
set_option Elab.async false
set_option maxRecDepth 100000
set_option linter.unusedVariables false
set_option maxHeartbeats 1000000
namespace Mine
local macro_rules | `(tactic| walk_at "eval Name") => `(tactic| (k_here; k_dflt (refine' ld ?k1 ?k2 ?_; (case k1 => k_asm); (case k2 => first | exact rfl | assumption); k_whole)))
local macro_rules | `(tactic| k_mem) => `(tactic| assumption)
local macro_rules | `(tactic| walk_at "call builtin:list.append") => `(tactic| (k_here; k_dflt (refine' append_flex ?F ?N ?l ?z ?_; (case F => k_asm); (case N => k_asm); (case l => first | k_mem | exact .tail _ (by assumption) | exact .tail _ (.tail _ (by assumption)) | exact .tail _ (.head _)); (case z => (simp only [List.length_append, List.length_cons, List.length_nil, sizeLine_eq]; omega))); intro h' F' N'; (try k_sweep)))
local macro_rules | `(tactic| walk_at "exec For Tuple Name cons nil") => `(tactic| (k_here; (rename Fr _ _ _ _ => lF'); (with_unfolding_all refine' For_turns lF' ?_ ?k3 ?k4; (case k3 => (intro _; rfl)); (case k4 => exact PassesOwn.never); k_whole)))
local macro_rules | `(tactic| walk_at "pyIter ref") => `(tactic| (k_here; refine stop_here ?_))
local macro_rules | `(tactic| walk_at "subscriptTail Name UnaryOp ref int") => `(tactic| (k_here; (with_reducible show wpAny _ _ (subscriptTail _ _ (Value.ref _) (Value.int (-1) _)) _ _ _); k_dflt (refine' item_last ?N ?l ?_ ?s ?t; (case N => k_asm); (case l => k_mem); (case s => with_unfolding_all rfl); (case t => kmk_pure))))
local macro_rules | `(tactic| walk_at "binaryOp Add str str") => `(tactic| (k_here; (refine SBL.add (hsz := ?hsz) ?_); (case hsz => (simp only [Str.length_append, len_qm, len_colon, sizeLine_eq]; omega)); intro _ _ _))
section
variable (w : World) {p : Program} {loose : List Str} {mean : ExcName → Option Value} {mg mb : Str → Option Value} {base h₀ : Heap} {L fa : Addr} {cd : Value} {m : Str → Option Value} {news : List (Addr × Obj)} {s : Shared} {Q : Flow → Shared → Prop}
/-- the heads built so far -/
def J9 (lt lh : Addr) (vt : List Value) (ts : List Tst) (b : Int) (tb : Tok) (o : Str) (to : Tok) (i : Nat) (m : Str → Option Value) (nx : List (Addr × Obj)) : Prop :=
  ∃ vh ch, (lh, listOf vh.toArray ch) ∈ nx ∧ StrsAre vh (headsL (ts.take i)) ∧ TstsIn nx vt ts ∧
    m (Str.ofString "tests") = some (.ref lt) ∧ m (Str.ofString "heads") = some (.ref lh) ∧ m (Str.ofString "blank") = some (.int b tb) ∧ m (Str.ofString "otherwise") = some (.str o to)
theorem for9 {lt lh : Addr} {vt : List Value} {ct : Nat} {ts : List Tst} {b : Int} {tb : Tok} {o : Str} {to : Tok}
    (B : Below callerA base [] h₀) (X : (hd.heap_39 w.params).In h₀) (T : Top p loose mean mg mb h₀) (F : Fr h₀ L s.heap m) (N : News h₀ L s.heap news)
    (hlt : (lt, listOf vt.toArray ct) ∈ news) (hne : lh ≠ lt) (gts : ∀ x ∈ ts, GoodT b x) (hn : ts.length ≤ 66) (hJ : J9 lt lh vt ts b tb o to 0 m news)
    (ret : ∀ h' tk' m' news', Fr h₀ L h' m' → News h₀ L h' ((lt, listOf vt.toArray ct) :: news') → J9 lt lh vt ts b tb o to ts.length m' news' → Q .next { s with heap := h', toks := tk' }) :
    wpAny (model PySem.Challenge.rw_dn0238_02.row.prog w) (callerA.deeper (env02 L fa cd)) (exec (nthS (fnBody law02) 9) (env02 L fa cd)) Q NoE s := by
  revert X; k_fill; intro X
  obtain ⟨sh, sg, sd, st, so⟩ := s
  dsimp only at F N ret
  have h4 := hJ
  obtain ⟨_, _, _, _, hts, h4, h4', _⟩ := h4
  have lv := hts.length
  conv in (exec _ _) => arg 1; whnf
  unfold env02
  conv in (occs := *) (fnScope _) => all_goals whnf
  k_steps
  unfold Stop
  rename Fr _ _ _ _ => Ff
  rename News _ _ _ _ => Nf
  refine for_listT (news := news) (fun i m nx => J9 lt lh vt ts b tb o to i m nx) rfl hlt Ff Nf (fun _ h => h) hJ ?_ ?_
  · rintro I hbig i v m₁ nx h tk own hv ⟨vh, ch, j1, j2, j3, k1, k2, k3, k4⟩ g1 g2 g4 F1 N1
    obtain ⟨D, x, t1, t2, u, hx, rfl, hm, hu⟩ := j3.at i v hv
    obtain ⟨hlt', ex⟩ := List.getElem?_eq_some_iff.mp hx
    have gx := gts x (List.mem_of_getElem? hx)
    have gx1 := gx.l1
    have gx2 := gx.a.2.2.1
    have joff := TstsIn.off j3 (fun q hq => N1 q (List.mem_append_right _ hq)) j1
    have hm' := List.mem_append_right own hm
    have j1' := List.mem_append_right own j1
    have htk : ts.take (i + 1) = ts.take i ++ [x] := by rw [List.take_add_one, hx]; rfl
    obtain ⟨ph, eh⟩ := headsL_last (ts.take i)
    have hlen := headT_length (ts.take i) (b := b) fun y hy => gts y (List.mem_of_mem_take hy)
    rw [List.length_take, Nat.min_eq_left (by omega)] at hlen
    have lvh := j2.length
    rw [headsL, List.length_map, List.length_range, List.length_take, Nat.min_eq_left (by omega)] at lvh
    have j2' := j2
    rw [eh] at j2'
    rcases strs_last j2' with ⟨_, e⟩ | ⟨vp, q, y, ty, rfl, e, hvp⟩
    · simp at e
    obtain ⟨rfl, e2⟩ := List.append_inj' e rfl
    obtain rfl := (List.cons.inj e2).1
    simp only [List.length_append, List.length_cons, List.length_nil] at lvh
    k_steps
    rename Fr _ _ _ _ => Fg
    rename News _ _ _ _ => Ng
    have hlhI : lh ≠ I := g4 _ j1
    refine TurnEnd.go Fg (own_back Ng fun q h e => ?_) (fun q hq => ?_) ⟨_, _, .head _, ?_, joff.mono fun q hq => .tail _ hq, k1, k2, k3, k4⟩
    · rcases g1 q h with e' | e'
      · exact hlhI (e ▸ e')
      · exact hne (e ▸ e')
    · rcases List.mem_cons.mp hq with rfl | h
      · exact hlhI
      · exact g4 _ (List.mem_filter.mp h).1
    · rw [htk, headsL_snoc, headT_snoc]
      exact strs_app j2 (.cons _ _ .nil)
  · rintro h' tk m' nx F' N' hJ'
    rw [lv] at hJ'
    exact ret _ _ _ _ F' N' hJ'
end
end Mine
end

section
open PySem PySem.W PyProof.Rows PySem.Spec PySem.Calls
set_option Elab.async false
set_option maxRecDepth 100000
set_option linter.unusedVariables false
set_option maxHeartbeats 2000000
namespace Mine
def turn11 : List Stmt := forBody (nthS (fnBody law02) 11)
local macro_rules | `(tactic| walk_at "eval Name") => `(tactic| (k_here; k_dflt (refine' ld ?k1 ?k2 ?_; (case k1 => k_asm); (case k2 => first | exact rfl | assumption); k_whole)))
local macro_rules | `(tactic| k_mem) => `(tactic| first | assumption | exact .head _ | exact .tail _ (.head _) | exact .tail _ (by assumption) | exact .tail _ (.tail _ (.head _)) | exact .tail _ (.tail _ (by assumption)) | exact .tail _ (.tail _ (.tail _ (by assumption))) | exact .tail _ (.tail _ (.tail _ (.tail _ (by assumption)))) | exact .tail _ (.tail _ (.tail _ (.tail _ (.tail _ (by assumption))))) | exact .tail _ (.tail _ (.tail _ (.tail _ (.tail _ (.tail _ (by assumption)))))))
local macro_rules | `(tactic| walk_at "subscriptTail Name Name ref int") => `(tactic| (k_here; k_dflt (refine' get_at ?N ?l ?h0 ?hf ?e ?_ ?s ?g; (case N => k_asm); (case l => k_mem); (case h0 => omega); (case hf => omega); (case e => assumption); (case s => with_unfolding_all rfl); (case g => kmk_pure))))
local macro_rules | `(tactic| walk_at "subscriptTail Name Slice ref ref") => `(tactic| (k_here; (with_reducible show wpAny _ _ (subscriptTail _ (PySem.Expr.Slice _ none none _) (Value.ref _) (Value.ref _)) _ _ _); k_dflt (refine' sl_lit ?F ?N ?l ?p ?q ?e ?_ ?s ?t ?z; (case F => k_asm); (case N => k_asm); (case l => k_mem); (case p => kmk_part); (case q => kmk_part); (case e => assumption); (case s => with_unfolding_all rfl); (case t => kmk_pure); (case z => (rw [sizeLine_eq]; omega))); intro D' h' F' N' l1; (try k_lt l1); (try k_sweep)))
local macro_rules | `(tactic| walk_at "binaryOp Add str str") => `(tactic| (k_here; (refine SBL.add (hsz := ?hsz) ?_); (case hsz => (simp only [Str.length_append, len_qm, len_colon, sizeLine_eq]; omega)); intro _ _ _))
theorem tup_ne_si {prog : Program} {w : World} {A : Around} {E : Value → Shared → Prop} {s : Shared} {h₀ : Heap} {L : Addr} {news : List (Addr × Obj)} {a b : Addr} {x : Str} {n : Int} {t t' u u' : Tok} {Q : Value → Shared → Prop} (N : News h₀ L s.heap news) (ha : (a, tupObj [.str x t, .int n u]) ∈ news) (hb : (b, tupObj [.str x t', .int n u']) ∈ news) (hx : Ok x) (hu : A.units + 64 < cLine) (h : Q (.bool false) s) :
    wpAny (model prog w) A (compareOp .NotEq (.ref a) (.ref b)) Q E s :=
  tup_ne (ds := [.str x, .int n]) N ha hb (.cons (.str _ _) (.cons (.int _ _) .nil)) (.cons (.str _ _) (.cons (.int _ _) .nil)) (by simp [SeqAt.shaped, PyData.canLay0, PyData.canLayAll0, PyData.depth, PyData.depthAll, hx.strOk]) (by simp [PyData.eqvAll, PyData.eqv]) hu h
local macro_rules | `(tactic| walk_at "call ref") => `(tactic| (k_here; (with_reducible show wpAny _ _ (call (Value.ref 43) _) _ _ _); k_dflt (refine CallOK.use (found_ok _ _ _ _ _ _ _) (by k_asm) (by k_asm) (by k_asm) (by k_asm) (by k_asm) rfl (by ktr_room) (by ktr_units) ⟨.head _, TstsIn.mono (by assumption) (fun _ h => .tail _ h)⟩ ?_); intro v' add' h' tk' hR' F' N' l1; obtain ⟨t', e1', e2'⟩ := hR'; subst e1'; subst e2'; clear l1; (simp only [List.nil_append] at N'); (try dsimp only); (try k_sweep)))
local macro_rules | `(tactic| walk_at "call ref") => `(tactic| (k_here; (with_reducible show wpAny _ _ (call (Value.ref 36) _) _ _ _); k_dflt (refine' CallOK.use (query_some _ _ _ _ _ ?hx ?hr) ?B ?F ?X ?N ?T ?hk ?hd ?hu trivial ?_; (case B => k_asm); (case F => k_asm); (case X => k_asm); (case N => k_asm); (case T => k_asm); (case hk => exact rfl); (case hd => ktr_room); (case hu => ktr_units); (case hr => assumption); (case hx => assumption)); (intro v' add' h' tk' hR' F' N' l1; obtain ⟨D', t1', t2', e1', e2'⟩ := hR'; subst e1'; subst e2'; replace l1 := lt_one l1); (simp only [List.cons_append, List.nil_append] at N'); (try k_lt l1); (try dsimp only); (try k_sweep)))
local macro_rules | `(tactic| walk_at "call ref") => `(tactic| (k_here; (with_reducible show wpAny _ _ (call (Value.ref 21) _) _ _ _); k_dflt (refine' CallOK.use (passwd_some _ _ _ _ _ ?hx ?hr) ?B ?F ?X ?N ?T ?hk ?hd ?hu trivial ?_; (case B => k_asm); (case F => k_asm); (case X => k_asm); (case N => k_asm); (case T => k_asm); (case hk => exact rfl); (case hd => ktr_room); (case hu => ktr_units); (case hr => assumption); (case hx => assumption)); (intro v' add' h' tk' hR' F' N' l1; obtain ⟨D', t1', t2', e1', e2'⟩ := hR'; subst e1'; subst e2'; replace l1 := lt_one l1); (simp only [List.cons_append, List.nil_append] at N'); (try k_lt l1); (try dsimp only); (try k_sweep)))
local macro_rules | `(tactic| walk_at "call ref") => `(tactic| (k_here; (with_reducible show wpAny _ _ (call (Value.ref 29) _) _ _ _); k_dflt (first
  | (refine' CallOK.use (nport_num _ _ _ _ _ _ _ ?hx ?hr ?hb ?hd1 ?hd2 ?hn ?hl) ?B ?F ?X ?N ?T ?hk ?hd ?hu trivial ?_; (case B => k_asm); (case F => k_asm); (case X => k_asm); (case N => k_asm); (case T => k_asm); (case hk => exact rfl); (case hd => ktr_room); (case hu => ktr_units); (case hr => assumption); (case hx => assumption); (case hb => assumption); (case hd1 => assumption); (case hd2 => assumption); (case hn => assumption); (case hl => assumption); (intro v' add' h' tk' hR' F' N' l1; obtain ⟨D', t1', t2', e1', e2'⟩ := hR'; subst e1'; subst e2'; replace l1 := lt_one l1))
  | (refine' CallOK.use (nport_word _ _ _ _ _ _ ?hx ?hr ?hb ?hl ?hwd) ?B ?F ?X ?N ?T ?hk ?hd ?hu trivial ?_; (case B => k_asm); (case F => k_asm); (case X => k_asm); (case N => k_asm); (case T => k_asm); (case hk => exact rfl); (case hd => ktr_room); (case hu => ktr_units); (case hr => assumption); (case hx => assumption); (case hb => assumption); (case hl => assumption); (case hwd => assumption); (intro v' add' h' tk' hR' F' N' l1; obtain ⟨D', t1', e1', e2'⟩ := hR'; subst e1'; subst e2'; replace l1 := lt_one l1))
  | (refine' CallOK.use (nport_blank _ _ _ _ _ ?hx ?hr) ?B ?F ?X ?N ?T ?hk ?hd ?hu trivial ?_; (case B => k_asm); (case F => k_asm); (case X => k_asm); (case N => k_asm); (case T => k_asm); (case hk => exact rfl); (case hd => ktr_room); (case hu => ktr_units); (case hr => assumption); (case hx => assumption); (intro v' add' h' tk' hR' F' N' l1; obtain ⟨D', t1', e1', e2'⟩ := hR'; subst e1'; subst e2'; replace l1 := lt_one l1))); (simp only [List.cons_append, List.nil_append] at N'); (try k_lt l1); (try dsimp only); (try k_sweep)))
local macro_rules | `(tactic| walk_at "compareOp NotEq ref ref") => `(tactic| (k_here; k_dflt (first
  | (refine' tup_ne_ss ?N ?a ?b ?x ?y ?u ?_; (case N => k_asm); (case a => k_mem); (case b => k_mem); (case x => assumption); (case y => assumption); (case u => ke_room))
  | (refine' tup_ne_sn ?N ?a ?b ?x ?u ?_; (case N => k_asm); (case a => k_mem); (case b => k_mem); (case x => assumption); (case u => ke_room))
  | (refine' tup_ne_si ?N ?a ?b ?x ?u ?_; (case N => k_asm); (case a => k_mem); (case b => k_mem); (case x => assumption); (case u => ke_room)))))
section
variable (w : World) {p : Program} {loose : List Str} {mean : ExcName → Option Value} {mg mb : Str → Option Value} {base h₀ : Heap} {L fa : Addr} {cd : Value} {m : Str → Option Value} {news : List (Addr × Obj)} {s : Shared} {Q : Flow → Shared → Prop}
theorem turn11_ok {lt lh : Addr} {vt vh : List Value} {ct ch : Nat} {ts : List Tst} {b : Int} {tb : Tok} {o : Str} {to : Tok} {k : Nat} {tp tt : Tok} {x : Tst}
    (B : Below callerA base [] h₀) (X : (hd.heap_39 w.params).In h₀) (T : Top p loose mean mg mb h₀) (F : Fr h₀ L s.heap m) (N : News h₀ L s.heap news)
    (hlt : (lt, listOf vt.toArray ct) ∈ news) (hlh : (lh, listOf vh.toArray ch) ∈ news) (hts : TstsIn news vt ts) (hvh : StrsAre vh (headsL ts)) (gts : ∀ x ∈ ts, GoodT b x) (hn : ts.length ≤ 66) (ho : AnsOk o) (hx : ts[k]? = some x)
    (h1 : m (Str.ofString "tests") = some (.ref lt)) (h2 : m (Str.ofString "heads") = some (.ref lh)) (h3 : m (Str.ofString "blank") = some (.int b tb)) (h4 : m (Str.ofString "otherwise") = some (.str o to)) (h5 : m (Str.ofString "place") = some (.int (k : Int) tp)) (h6 : m (Str.ofString "text") = some (.str (textAt ts o (k + 1)) tt))
    (ret : ∀ h' tk' m' t', Fr h₀ L h' m' → News h₀ L h' news → m' (Str.ofString "text") = some (.str (textAt ts o k) t') →
      (∀ q, q ≠ Str.ofString "test" → q ≠ Str.ofString "value" → q ≠ Str.ofString "answer" → q ≠ Str.ofString "other" → q ≠ Str.ofString "head" → q ≠ Str.ofString "cut" → q ≠ Str.ofString "parted" → q ≠ Str.ofString "told" → q ≠ Str.ofString "text" → m' q = m q) → Q .next { s with heap := h', toks := tk' }) :
    wpAny (model PySem.Challenge.rw_dn0238_02.row.prog w) (callerA.deeper (env02 L fa cd)) (execs turn11 (env02 L fa cd)) Q NoE s := by
  revert X; k_fill; intro X
  obtain ⟨sh, sg, sd, st, so⟩ := s
  dsimp only at F N ret
  obtain ⟨hk, ex⟩ := List.getElem?_eq_some_iff.mp hx
  have lv := hts.length
  obtain ⟨v, hv⟩ : ∃ v, vt[k]? = some v := ⟨vt[k], by rw [List.getElem?_eq_getElem (by omega)]⟩
  obtain ⟨D, x', t1, t2, u, hx', rfl, hm, hu⟩ := hts.at k v hv
  rw [hx] at hx'
  obtain rfl := Option.some.inj hx'
  have gx := gts x (List.mem_of_getElem? hx)
  have gx1 := gx.l1
  have gx2 := gx.a.2.2.1
  obtain ⟨th, hh⟩ := strs_get hvh k _ (headsL_at ts k (by omega))
  have hv' : vt[((k : Nat) : Int).toNat]? = some (.ref D) := by rw [Int.toNat_natCast]; exact hv
  have hh' : vh[((k : Nat) : Int).toNat]? = some (.str (headT (ts.take k)) th) := by rw [Int.toNat_natCast]; exact hh
  have gk : ∀ x ∈ ts.take k, GoodT b x := fun y hy => gts y (List.mem_of_mem_take hy)
  have hlen := headT_length (ts.take k) gk
  rw [List.length_take, Nat.min_eq_left (by omega)] at hlen
  have hpk := pick_drop vt (k + 1) ((k : Int) + 1) (by omega) (by omega)
  have hdr := hts.drop (k + 1)
  have gf := found_ans ho (ts.drop (k + 1)) fun y hy => gts y (List.mem_of_mem_drop hy)
  have gf2 := gf.2.2.1
  have lnT : (textAt ts o (k + 1)).length ≤ sizeLine := by
    have := headT_length (ts.take (k + 1)) fun y hy => gts y (List.mem_of_mem_take hy)
    rw [List.length_take, Nat.min_eq_left (by omega)] at this
    rw [textAt]
    simp only [Str.length_append, len_colon, sizeLine_eq]
    omega
  have lnP : (x.ans ++ Str.ofString ":" ++ found (ts.drop (k + 1)) o).length ≤ sizeLine := by
    simp only [Str.length_append, len_colon, sizeLine_eq]; omega
  have lnN : (headT (ts.take k) ++ Str.ofString ":" ++ x.test).length ≤ sizeLine := by
    simp only [Str.length_append, len_colon, sizeLine_eq]; omega
  have cutQ := cut_query ho gts hx
  have cutP := cut_passwd (r := found (ts.drop (k + 1)) o) gx.a.1
  have cutN := cut_nport (a := headT (ts.take k)) gx.c1
  have okc : Ok (Str.ofString ":") := by show ∀ c ∈ (Str.ofString ":").cps.toList, c < 0x110000; decide +kernel
  have ok1 := headT_ok (ts.take k) gk
  have ok2 : Ok (headT (ts.take k) ++ Str.ofString ":" ++ x.test) := (ok1.app okc).app gx.o1
  have oka := gx.a.2.2.2
  have okf := gf.2.2.2
  have ok3 : Ok (x.ans ++ Str.ofString ":" ++ found (ts.drop (k + 1)) o) := (oka.app okc).app okf
  have lx640 : x.test.length ≤ 640 := by omega
  conv in (execs _ _) => arg 1; whnf
  unfold env02
  conv in (occs := *) (fnScope _) => all_goals whnf
  rcases gx.v with ⟨e1, e2⟩ | ⟨e1, e2, e3⟩ | ⟨e1, e2, e3⟩
  · rw [e1] at cutN
    rcases hu with ⟨f1, _⟩ | ⟨n, tn, f1, rfl⟩
    · rw [e2] at f1; exact absurd f1 (by simp)
    · rw [e2] at f1
      obtain rfl := Option.some.inj f1
      rw [e1] at lnN ok2 cutQ
      rw [e1] at *
      k_steps
      all_goals
        rename Fr _ _ _ _ => Ff
        rename News _ _ _ _ => Nf
        by_cases hb0 : b = 0
        · have hv : x.val = none ∨ x.val = some 0 := .inr (by rw [e2, hb0])
          first | (exfalso; omega) | exact ret _ _ _ _ Ff (cb_drop Nf (by intro q hq; repeat' (first | exact hq | refine .tail _ ?_))) (by rw [← text_go hx hv]; rfl) (fun q a1 a2 a3 a4 a5 a6 a7 a8 a9 => by simp only [a1, a2, a3, a4, a5, a6, a7, a8, a9, if_false])
        · have hv : ¬ (x.val = none ∨ x.val = some 0) := by rw [e2]; simp only [reduceCtorEq, false_or, Option.some.injEq]; exact hb0
          first | (exfalso; omega) | exact ret _ _ _ _ Ff (cb_drop Nf (by intro q hq; repeat' (first | exact hq | refine .tail _ ?_))) (by rw [← text_stop (o := o) hx hv]; rfl) (fun q a1 a2 a3 a4 a5 a6 a7 a8 a9 => by simp only [a1, a2, a3, a4, a5, a6, a7, a8, a9, if_false])
  · rcases hu with ⟨f1, _⟩ | ⟨n, tn, f1, rfl⟩
    · rw [e3] at f1; exact absurd f1 (by simp)
    · have f2 := f1
      rw [e3] at f2
      obtain rfl := Option.some.inj f2
      have isd := isdigit_all e1 e2
      have isd1 := isd.1
      have isd2 := isd.2
      have lb := truthy_len e1
      have rd := port_reads e1 e2 lx640
      k_steps
      all_goals
        rename Fr _ _ _ _ => Ff
        rename News _ _ _ _ => Nf
        by_cases hb0 : ((NumText.digitsVal x.test.cps.toList : Nat) : Int) = 0
        · have hv : x.val = none ∨ x.val = some 0 := .inr (by rw [e3, hb0])
          first | (exfalso; omega) | exact ret _ _ _ _ Ff (cb_drop Nf (by intro q hq; repeat' (first | exact hq | refine .tail _ ?_))) (by rw [← text_go hx hv]; rfl) (fun q a1 a2 a3 a4 a5 a6 a7 a8 a9 => by simp only [a1, a2, a3, a4, a5, a6, a7, a8, a9, if_false])
        · have hv : ¬ (x.val = none ∨ x.val = some 0) := by rw [e3]; simp only [reduceCtorEq, false_or, Option.some.injEq]; exact hb0
          first | (exfalso; omega) | exact ret _ _ _ _ Ff (cb_drop Nf (by intro q hq; repeat' (first | exact hq | refine .tail _ ?_))) (by rw [← text_stop (o := o) hx hv]; rfl) (fun q a1 a2 a3 a4 a5 a6 a7 a8 a9 => by simp only [a1, a2, a3, a4, a5, a6, a7, a8, a9, if_false])
  · rcases hu with ⟨f1, rfl⟩ | ⟨n, tn, f1, rfl⟩
    · have lb := truthy_len e1
      have wd := not_digits e2
      k_steps
      rename Fr _ _ _ _ => Ff
      rename News _ _ _ _ => Nf
      have hv : x.val = none ∨ x.val = some 0 := .inl e3
      exact ret _ _ _ _ Ff (cb_drop Nf (by intro q hq; repeat' (first | exact hq | refine .tail _ ?_))) (by rw [← text_go hx hv]; rfl) (fun q a1 a2 a3 a4 a5 a6 a7 a8 a9 => by simp only [a1, a2, a3, a4, a5, a6, a7, a8, a9, if_false])
    · rw [e3] at f1; exact absurd f1 (by simp)
end
end Mine
end

section
open PySem PySem.W PyProof.Rows PySem.Spec PySem.Calls
set_option Elab.async false
set_option maxRecDepth 100000
set_option linter.unusedVariables false
set_option maxHeartbeats 2000000
namespace Mine
local macro_rules | `(tactic| walk_at "pad") => `(tactic| fail "pad")
local macro_rules | `(tactic| walk_at "eval Name") => `(tactic| (k_here; k_dflt (refine' ld ?k1 ?k2 ?_; (case k1 => k_asm); (case k2 => first | exact rfl | assumption); k_whole)))
local macro_rules | `(tactic| k_mem) => `(tactic| first | assumption | exact .head _ | exact .tail _ (.head _) | exact .tail _ (by assumption))
local macro_rules | `(tactic| walk_at "exec For Name Call cons nil") => `(tactic| (k_here; (rename Fr _ _ _ _ => lF'); (with_unfolding_all refine' For_invVF lF' ?k1 ?k2 ?_ ?k3 ?k4; (case k1 => exact rfl); (case k2 => exact rfl); (case k3 => (intro _; rfl)); (case k4 => exact PassesOwn.never); k_whole)))
local macro_rules | `(tactic| walk_at "pyIter ref") => `(tactic| (k_here; refine stop_here ?_))
local macro_rules | `(tactic| walk_at "call builtin:len") => `(tactic| (k_here; k_dflt (refine' len_item ?N ?l ?z ?_; (case N => k_asm); (case l => k_mem); (case z => omega))))
section
variable (w : World) {p : Program} {loose : List Str} {mean : ExcName → Option Value} {mg mb : Str → Option Value} {base h₀ : Heap} {L fa : Addr} {cd : Value} {m : Str → Option Value} {news : List (Addr × Obj)} {s : Shared} {Q : Flow → Shared → Prop}
def J11 (lt lh : Addr) (vt vh : List Value) (ct ch : Nat) (ts : List Tst) (b : Int) (tb : Tok) (o : Str) (to : Tok) (news : List (Addr × Obj)) (i : Nat) (m : Str → Option Value) (nx : List (Addr × Obj)) : Prop :=
  nx = news ∧ m (Str.ofString "tests") = some (.ref lt) ∧ m (Str.ofString "heads") = some (.ref lh) ∧ m (Str.ofString "blank") = some (.int b tb) ∧ m (Str.ofString "otherwise") = some (.str o to) ∧ ∃ t, m (Str.ofString "text") = some (.str (textAt ts o (ts.length - i)) t)
theorem for11 {lt lh : Addr} {vt vh : List Value} {ct ch : Nat} {ts : List Tst} {b : Int} {tb : Tok} {o : Str} {to : Tok}
    (B : Below callerA base [] h₀) (X : (hd.heap_39 w.params).In h₀) (T : Top p loose mean mg mb h₀) (F : Fr h₀ L s.heap m) (N : News h₀ L s.heap news)
    (hlt : (lt, listOf vt.toArray ct) ∈ news) (hlh : (lh, listOf vh.toArray ch) ∈ news) (hts : TstsIn news vt ts) (hvh : StrsAre vh (headsL ts)) (gts : ∀ x ∈ ts, GoodT b x) (hn : ts.length ≤ 66) (ho : AnsOk o)
    (hJ : J11 lt lh vt vh ct ch ts b tb o to news 0 m news)
    (ret : ∀ h' tk' m', Fr h₀ L h' m' → News h₀ L h' news → J11 lt lh vt vh ct ch ts b tb o to news ts.length m' news → Q .next { s with heap := h', toks := tk' }) :
    wpAny (model PySem.Challenge.rw_dn0238_02.row.prog w) (callerA.deeper (env02 L fa cd)) (exec (nthS (fnBody law02) 11) (env02 L fa cd)) Q NoE s := by
  revert X; k_fill; intro X
  obtain ⟨sh, sg, sd, st, so⟩ := s
  dsimp only at F N ret
  have lv := hts.length
  have h4 := hJ.2.1
  conv in (exec _ _) => arg 1; whnf
  unfold env02
  conv in (occs := *) (fnScope _) => all_goals whnf
  k_steps
  unfold Stop
  rename Fr _ _ _ _ => Ff
  rename News _ _ _ _ => Nf
  rename IsRange _ _ _ _ _ _ _ _ => Rf
  refine for_range (n := ts.length) (big := news) (news := news) (fun i m nx => J11 lt lh vt vh ct ch ts b tb o to news i m nx) rfl Rf (small_down (by omega) (by omega) (by omega) (by omega)) (by rw [rangeSize_downNat]; omega) Ff Nf (fun _ h => h) hJ ?_ ?_
  · rintro I hbig i t m₁ nx h tk own hi ⟨enx, k1, k2, k3, k4, tt, k5⟩ g1 g4 F1 N1
    have enx := enx.symm
    subst enx
    obtain ⟨k, hk⟩ : ∃ k, ts.length - i = k + 1 := ⟨ts.length - i - 1, by omega⟩
    have ek : ((vt.length : Int) - 1 + (i : Int) * (-1)) = (k : Int) := by omega
    rw [ek] at F1
    rw [hk] at k5
    have e0 : ∀ q, q ≠ Str.ofString "place" → (if q = Str.ofString "place" then some (Value.int (k : Int) t) else m₁ q) = m₁ q := fun q h => if_neg h
    refine turn11_ok w B X T (s := ⟨h, sg, sd, tk, so⟩) (k := k) (x := ts[k]) F1 N1 (List.mem_append_right _ hlt) (List.mem_append_right _ hlh) (hts.mono fun _ h => List.mem_append_right _ h) hvh gts hn ho (by simp) ((e0 _ (by decide +kernel)).trans k1) ((e0 _ (by decide +kernel)).trans k2) ((e0 _ (by decide +kernel)).trans k3) ((e0 _ (by decide +kernel)).trans k4) (if_pos rfl) ((e0 _ (by decide +kernel)).trans k5) ?_
    intro h' tk' m' t' F' N' ht r
    have r' : ∀ q, q ≠ Str.ofString "test" → q ≠ Str.ofString "value" → q ≠ Str.ofString "answer" → q ≠ Str.ofString "other" → q ≠ Str.ofString "head" → q ≠ Str.ofString "cut" → q ≠ Str.ofString "parted" → q ≠ Str.ofString "told" → q ≠ Str.ofString "text" → q ≠ Str.ofString "place" → m' q = m₁ q := fun q a1 a2 a3 a4 a5 a6 a7 a8 a9 a10 => (r q a1 a2 a3 a4 a5 a6 a7 a8 a9).trans (e0 q a10)
    refine TurnEnd.go (news' := news) F' N' (fun q hq => g4 q hq) ⟨rfl, ?_, ?_, ?_, ?_, t', by rw [ht, show ts.length - (i + 1) = k by omega]⟩
    · exact (r' _ (by decide +kernel) (by decide +kernel) (by decide +kernel) (by decide +kernel) (by decide +kernel) (by decide +kernel) (by decide +kernel) (by decide +kernel) (by decide +kernel) (by decide +kernel)).trans k1
    · exact (r' _ (by decide +kernel) (by decide +kernel) (by decide +kernel) (by decide +kernel) (by decide +kernel) (by decide +kernel) (by decide +kernel) (by decide +kernel) (by decide +kernel) (by decide +kernel)).trans k2
    · exact (r' _ (by decide +kernel) (by decide +kernel) (by decide +kernel) (by decide +kernel) (by decide +kernel) (by decide +kernel) (by decide +kernel) (by decide +kernel) (by decide +kernel) (by decide +kernel)).trans k3
    · exact (r' _ (by decide +kernel) (by decide +kernel) (by decide +kernel) (by decide +kernel) (by decide +kernel) (by decide +kernel) (by decide +kernel) (by decide +kernel) (by decide +kernel) (by decide +kernel)).trans k4
  · intro h' tk m' nx F' N' hJ'
    have e := hJ'.1
    subst e
    exact ret _ _ _ F' N' hJ'
local macro_rules | `(tactic| walk_at "subscriptTail Name UnaryOp ref int") => `(tactic| (k_here; (with_reducible show wpAny _ _ (subscriptTail _ _ (Value.ref _) (Value.int (-1) _)) _ _ _); k_dflt (refine' item_last ?N ?l ?_ ?s ?t; (case N => k_asm); (case l => k_mem); (case s => with_unfolding_all rfl); (case t => kmk_pure))))
local macro_rules | `(tactic| walk_at "binaryOp Add str str") => `(tactic| (k_here; (refine SBL.add (hsz := ?hsz) ?_); (case hsz => (simp only [Str.length_append, len_qm, len_colon, sizeLine_eq]; omega)); intro _ _ _))
/-- text = heads[-1] + ':' + otherwise -/
theorem text02 {lh : Addr} {vp : List Value} {ch : Nat} {y o : Str} {ty to : Tok}
    (B : Below callerA base [] h₀) (X : (hd.heap_39 w.params).In h₀) (T : Top p loose mean mg mb h₀) (F : Fr h₀ L s.heap m) (N : News h₀ L s.heap news)
    (hlh : (lh, listOf (vp ++ [Value.str y ty]).toArray ch) ∈ news) (hy : y.length ≤ 2000) (ho : o.length ≤ 5) (h2 : m (Str.ofString "heads") = some (.ref lh)) (h4 : m (Str.ofString "otherwise") = some (.str o to))
    (ret : ∀ h' tk' m' t, Fr h₀ L h' m' → News h₀ L h' news → m' (Str.ofString "text") = some (.str (y ++ Str.ofString ":" ++ o) t) → (∀ q, q ≠ Str.ofString "text" → m' q = m q) → Q .next { s with heap := h', toks := tk' }) :
    wpAny (model PySem.Challenge.rw_dn0238_02.row.prog w) (callerA.deeper (env02 L fa cd)) (exec (nthS (fnBody law02) 10) (env02 L fa cd)) Q NoE s := by
  revert X; k_fill; intro X
  obtain ⟨sh, sg, sd, st, so⟩ := s
  dsimp only at F N ret
  conv in (exec _ _) => arg 1; whnf
  unfold env02
  conv in (occs := *) (fnScope _) => all_goals whnf
  k_steps
  rename Fr _ _ _ _ => Ff
  rename News _ _ _ _ => Nf
  exact ret _ _ _ _ Ff Nf rfl (fun q h => if_neg h)
theorem tup_eq_sn {prog : Program} {A : Around} {E : Value → Shared → Prop} {s : Shared} {h₀ : Heap} {L : Addr} {news : List (Addr × Obj)} {a b : Addr} {x : Str} {t t' : Tok} {Q : Value → Shared → Prop} (N : News h₀ L s.heap news) (ha : (a, tupObj [.str x t, .none]) ∈ news) (hb : (b, tupObj [.str x t', .none]) ∈ news) (hx : Ok x) (hu : A.units + 64 < cLine) (h : Q (.bool true) s) :
    wpAny (model prog w) A (compareOp .Eq (.ref a) (.ref b)) Q E s :=
  have hs : SeqAt.shaped (.tuple [.str x, .none]) = true := by simp [SeqAt.shaped, PyData.canLay0, PyData.canLayAll0, PyData.depth, PyData.depthAll, hx.strOk]
  eq_dataH (reads_tuple_at (N _ ha).1 rfl rfl (.cons (.str _ _) (.cons .none .nil))) (reads_tuple_at (N _ hb).1 rfl rfl (.cons (.str _ _) (.cons .none .nil))) hs hs hu (by
    have e : PyData.eqv (.tuple [.str x, .none]) (.tuple [.str x, .none]) = true := by simp [PyData.eqv, PyData.eqvAll]
    rw [e]; exact h)
local macro_rules | `(tactic| walk_at "call ref") => `(tactic| (k_here; (with_reducible show wpAny _ _ (call (Value.ref 43) _) _ _ _); k_dflt (refine CallOK.use (found_ok _ _ _ _ _ _ _) (by k_asm) (by k_asm) (by k_asm) (by k_asm) (by k_asm) rfl (by ktr_room) (by ktr_units) ⟨by exact .tail _ (by assumption), TstsIn.mono (by assumption) (fun _ h => .tail _ h)⟩ ?_); intro v' add' h' tk' hR' F' N' l1; obtain ⟨t', e1', e2'⟩ := hR'; subst e1'; subst e2'; clear l1; (simp only [List.nil_append] at N'); (try dsimp only); (try k_sweep)))
local macro_rules | `(tactic| walk_at "call ref") => `(tactic| (k_here; (with_reducible show wpAny _ _ (call (Value.ref 36) _) _ _ _); k_dflt (refine' CallOK.use (query_none _ _ _ ?hx ?hr) ?B ?F ?X ?N ?T ?hk ?hd ?hu trivial ?_; (case B => k_asm); (case F => k_asm); (case X => k_asm); (case N => k_asm); (case T => k_asm); (case hk => exact rfl); (case hd => ktr_room); (case hu => ktr_units); (case hr => assumption); (case hx => assumption)); (intro v' add' h' tk' hR' F' N' l1; obtain ⟨D', e1', e2'⟩ := hR'; subst e1'; subst e2'; replace l1 := lt_one l1); (simp only [List.cons_append, List.nil_append] at N'); (try k_lt l1); (try dsimp only); (try k_sweep)))
local macro_rules | `(tactic| walk_at "compareOp Eq ref ref") => `(tactic| (k_here; k_dflt (refine' tup_eq_sn _ ?N ?a ?b ?x ?u ?_; (case N => k_asm); (case a => k_mem); (case b => k_mem); (case x => assumption); (case u => ke_room))))
theorem text_zero (ts : List Tst) (o : Str) : textAt ts o 0 = Str.ofString "h:" ++ found ts o := by
  have e : headT [] ++ Str.ofString ":" = Str.ofString "h:" := by decide +kernel
  rw [textAt, List.take_zero, List.drop_zero, e]
theorem end02 {lt : Addr} {vt : List Value} {ct : Nat} {ts : List Tst} {b : Int} {o : Str} {to tt : Tok}
    (B : Below callerA base [] h₀) (X : (hd.heap_39 w.params).In h₀) (T : Top p loose mean mg mb h₀) (F : Fr h₀ L s.heap m) (N : News h₀ L s.heap news)
    (hlt : (lt, listOf vt.toArray ct) ∈ news) (hts : TstsIn news vt ts) (gts : ∀ x ∈ ts, GoodT b x) (ho : AnsOk o)
    (h1 : m (Str.ofString "tests") = some (.ref lt)) (h4 : m (Str.ofString "otherwise") = some (.str o to)) (h6 : m (Str.ofString "text") = some (.str (textAt ts o 0) tt))
    (ret : ∀ h' tk' m', Fr h₀ L h' m' → Q (.ret (.bool true)) { s with heap := h', toks := tk' }) :
    wpAny (model PySem.Challenge.rw_dn0238_02.row.prog w) (callerA.deeper (env02 L fa cd)) (exec (nthS (fnBody law02) 12) (env02 L fa cd)) Q NoE s := by
  revert X; k_fill; intro X
  obtain ⟨sh, sg, sd, st, so⟩ := s
  dsimp only at F N ret
  have gf := found_ans ho ts gts
  have gf2 := gf.2.2.1
  have l2 : (Str.ofString "h:").length = 2 := by decide +kernel
  have cutQ := text_end ho gts
  rw [text_zero] at cutQ h6
  have okx : Ok (Str.ofString "h:" ++ found ts o) := Ok.app (by show ∀ c ∈ (Str.ofString "h:").cps.toList, c < 0x110000; decide +kernel) gf.2.2.2
  have lnx : (Str.ofString "h:" ++ found ts o).length ≤ sizeLine := by rw [Str.length_append, sizeLine_eq]; omega
  conv in (exec _ _) => arg 1; whnf
  unfold env02
  conv in (occs := *) (fnScope _) => all_goals whnf
  k_steps
  rename Fr _ _ _ _ => Ff
  exact ret _ _ _ Ff
theorem law02_is : fnBody law02 = top5 (fnBody law02) ++ ([nthS (fnBody law02) 5] ++ (grp3 (fnBody law02) 6 ++ ([nthS (fnBody law02) 9] ++ ([nthS (fnBody law02) 10] ++ ([nthS (fnBody law02) 11] ++ [nthS (fnBody law02) 12]))))) := by rfl
theorem law02_ok {ls : Addr} {vs : List Value} {ns : List Int}
    (B : Below callerA base [] h₀) (X : (hd.heap_39 w.params).In h₀) (T : Top p loose mean mg mb h₀) (F : Fr h₀ L s.heap m) (N : News h₀ L s.heap [])
    (hl : h₀.IsList ls vs.toArray) (hi : IntsAre vs ns) (hb : ns.length ≤ 63) (h1 : m (Str.ofString "script") = some (.ref ls))
    (ret : ∀ h' tk' m', Fr h₀ L h' m' → Q (.ret (.bool true)) { s with heap := h', toks := tk' }) :
    wpAny (model PySem.Challenge.rw_dn0238_02.row.prog w) (callerA.deeper (env02 L fa cd)) (execs (fnBody law02) (env02 L fa cd)) Q NoE s := by
  rw [law02_is]
  refine execs_app (head02 w B X T F N hl hi hb h1 ?_)
  intro lw la lt vw va cw ca ct b tb o to h2 tk2 m2 hvw hva F2 N2 hwt hat ho a1 a2 a3 a4 a5 a6
  refine execs_app (execs_one (for5 w B X T (s := { s with heap := h2, toks := tk2 }) F2 N2 hl hi hb (a6.trans h1) hvw hva hwt hat ⟨[], [], ct, .head _, .tail _ (.tail _ (.head _)), .tail _ (.head _), .nil, (fun _ h => nomatch h), Nat.zero_le _, a1, a2, a3, a4, a5⟩ ?_))
  rintro h3 tk3 m3 nx3 F3 N3 ⟨ts, vt, ct3, j1, j2, j3, j4, j5, j6, b1, b2, b3, b4, b5⟩
  have lv := j4.length
  refine execs_app (mid02 w B X T (s := { s with heap := h3, toks := tk3 }) F3 N3 j1 (by omega) b3 b4 j4 j5 ?_)
  intro lh vt' ct' th ts' nx4 h4 tk4 m4 gts hlen hts hlt hlh hne F4 N4 c1 c2
  have htk : ts'.take 0 = [] := rfl
  refine execs_app (execs_one (for9 w B X T (s := { s with heap := h4, toks := tk4 }) F4 N4 hlt hne gts (by omega) ⟨[Value.str (Str.ofString "h") th], 0, hlh, .cons _ _ .nil, hts, (c2 _ (by decide +kernel)).trans b3, c1, (c2 _ (by decide +kernel)).trans b4, (c2 _ (by decide +kernel)).trans b5⟩ ?_))
  rintro h5 tk5 m5 nx5 F5 N5 ⟨vh, ch, d1, d2, d3, d4, d5, d6, d7⟩
  rw [List.take_length] at d2
  obtain ⟨ph, eh⟩ := headsL_last ts'
  have d2' := d2
  rw [eh] at d2'
  rcases strs_last d2' with ⟨_, e⟩ | ⟨vp, q, y, ty, rfl, e, hvp⟩
  · simp at e
  obtain ⟨rfl, e2⟩ := List.append_inj' e rfl
  obtain rfl := (List.cons.inj e2).1
  have hln := headT_length ts' gts
  refine execs_app (execs_one (text02 w B X T (s := { s with heap := h5, toks := tk5 }) F5 N5 (.tail _ d1) (by omega) ho.2.2.1 d5 d7 ?_))
  intro h6 tk6 m6 t6 F6 N6 e1 e3
  have et : headT ts' ++ Str.ofString ":" ++ o = textAt ts' o (ts'.length - 0) := by rw [Nat.sub_zero, textAt, List.take_length, List.drop_length]; rfl
  rw [et] at e1
  have hts' := d3.mono (news' := (lt, listOf vt'.toArray ct') :: nx5) fun _ h => .tail _ h
  refine execs_app (execs_one (for11 w B X T (s := { s with heap := h6, toks := tk6 }) F6 N6 (.head _) (.tail _ d1) hts' d2 gts (by omega) ho ⟨rfl, (e3 _ (by decide +kernel)).trans d4, (e3 _ (by decide +kernel)).trans d5, (e3 _ (by decide +kernel)).trans d6, (e3 _ (by decide +kernel)).trans d7, _, e1⟩ ?_))
  rintro h7 tk7 m7 F7 N7 ⟨_, f1, f2, f3, f4, t7, f5⟩
  rw [Nat.sub_self] at f5
  refine execs_one (end02 w B X T (s := { s with heap := h7, toks := tk7 }) F7 N7 (.head _) hts' gts ho f1 f4 f5 ?_)
  intro h8 tk8 m8 F8
  exact ret _ _ _ F8
end
end Mine
end

open PySem PySem.W PyProof.Rows PySem.Spec PySem.Calls
set_option Elab.async false
set_option maxRecDepth 100000
set_option linter.unusedVariables false
set_option maxHeartbeats 1000000
theorem PySem.Challenge.cw_dn0238_02_holds : PySem.Challenge.rw_dn0238_02.Holds :=
  Mine.hd (by
  k_go0
  rename Fr _ _ _ _ => F0
  rename News _ _ _ _ => N0
  rename IntsAre _ _ => hI
  rename Heap.IsList _ _ _ => hL
  rename Top _ _ _ _ _ _ => T0
  rename Frag.In _ _ => X0
  rename Below _ _ _ _ => B0
  refine wpAny_mono (Mine.law02_ok _ B0 X0 T0 F0 N0 hL hI (by omega) rfl ?r) (fun _ _ h => h) (fun _ _ h => h.elim)
  intro h' tk' m' Ff
  wrow_close)
