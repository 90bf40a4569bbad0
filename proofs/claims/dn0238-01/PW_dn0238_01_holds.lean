import PyProof.Rows.All
import Wide.All
import OpenK.AllK
import Wide.FinOn
import PySem.Challenge.RW_dn0238_01
section
open PySem PySem.W PyProof.Rows PySem.Spec PySem.Calls
set_option Elab.async false
namespace Mine
open PySem.Builtin PySem.Builtin.Str

theorem str_ext {a b : Str} (h : a.cps.toList = b.cps.toList) : a = b := PySem.Str.ext' (Array.ext' h)
theorem cps_app (a b : Str) : (a ++ b).cps.toList = a.cps.toList ++ b.cps.toList := by
  rw [PySem.Str.cps_append, Array.toList_append]
theorem len_toList (a : Str) : a.length = a.cps.toList.length := by simp [Str.length]

theorem rpart_free (x : Str) (c : Nat) (h : c ∉ x.cps.toList) : Txt.rpartition x ⟨#[c]⟩ = (Str.empty, Str.empty, x) := by
  unfold Txt.rpartition
  rcases StrLaws.last_spec x ⟨#[c]⟩ with ⟨e, _⟩ | ⟨i, _, hA, _⟩
  · rw [e]
  · exact absurd (List.mem_of_getElem? ((StrLaws.subAt_one x c i).mp hA)) h

theorem rpart_last (a b : Str) (c : Nat) (h : c ∉ b.cps.toList) : Txt.rpartition (a ++ ⟨#[c]⟩ ++ b) ⟨#[c]⟩ = (a, ⟨#[c]⟩, b) := by
  have hx : (a ++ ⟨#[c]⟩ ++ b : Str).cps.toList = a.cps.toList ++ c :: b.cps.toList := by simp [cps_app]
  have hat : (a ++ ⟨#[c]⟩ ++ b : Str).cps.toList[a.length]? = some c := by
    rw [hx, len_toList, List.getElem?_append_right (Nat.le_refl _)]; simp
  unfold Txt.rpartition
  rcases StrLaws.last_spec (a ++ ⟨#[c]⟩ ++ b) ⟨#[c]⟩ with ⟨_, hn⟩ | ⟨i, e, hA, hn⟩
  · exact absurd ((StrLaws.subAt_one _ c a.length).mpr hat) (hn _)
  · have hi : (a ++ ⟨#[c]⟩ ++ b : Str).cps.toList[i]? = some c := (StrLaws.subAt_one _ c i).mp hA
    have h1 : ¬ i < a.length := fun hlt => hn _ hlt ((StrLaws.subAt_one _ c a.length).mpr hat)
    have h2 : i = a.length := by
      rcases Nat.lt_trichotomy i a.length with q | q | q
      · exact absurd q h1
      · exact q
      · exfalso
        rw [hx, List.getElem?_append_right (by rw [← len_toList]; omega)] at hi
        rw [← len_toList] at hi
        obtain ⟨k, hk⟩ : ∃ k, i - a.length = k + 1 := ⟨i - a.length - 1, by omega⟩
        rw [hk, List.getElem?_cons_succ] at hi
        exact h (List.mem_of_getElem? hi)
    rw [e, h2]
    have e1 : strSub (a ++ ⟨#[c]⟩ ++ b) 0 a.length = a := str_ext (by rw [StrLaws.strSub_toList, hx, len_toList]; simp)
    have hl : (a ++ ⟨#[c]⟩ ++ b : Str).length = a.length + 1 + b.length := by
      rw [PySem.Str.length_append, PySem.Str.length_append]; rfl
    have e2 : strSub (a ++ ⟨#[c]⟩ ++ b) (a.length + (⟨#[c]⟩ : Str).length) (a ++ ⟨#[c]⟩ ++ b : Str).length = b := str_ext (by
      rw [StrLaws.strSub_toList, hx, hl]
      show ((a.cps.toList ++ c :: b.cps.toList).drop (a.length + 1)).take (a.length + 1 + b.length - (a.length + 1)) = _
      rw [len_toList, len_toList, List.drop_append, List.drop_of_length_le (by omega)]
      simp only [List.nil_append, Nat.add_sub_cancel_left, List.drop_succ_cons, List.drop_zero]
      exact List.take_of_length_le (Nat.le_refl _))
    show (strSub (a ++ ⟨#[c]⟩ ++ b) 0 a.length, _, strSub (a ++ ⟨#[c]⟩ ++ b) (a.length + (⟨#[c]⟩ : Str).length) (a ++ ⟨#[c]⟩ ++ b : Str).length) = _
    rw [e1, e2]

/-- a row: the front, and each word behind the mark -/
def rowT (front mark : Str) (ws : List Str) : Str := ws.foldl (fun acc w => acc ++ mark ++ w) front
theorem rowT_nil (f m : Str) : rowT f m [] = f := rfl
theorem rowT_snoc (f m : Str) (ws : List Str) (w : Str) : rowT f m (ws ++ [w]) = rowT f m ws ++ m ++ w := by
  unfold rowT; rw [List.foldl_append]; rfl
theorem rowT_toList (m : Str) : ∀ (ws : List Str) (f : Str), (rowT f m ws).cps.toList = f.cps.toList ++ (ws.map fun w => m.cps.toList ++ w.cps.toList).flatten
  | [], f => by simp [rowT]
  | w :: r, f => by
    show (rowT (f ++ m ++ w) m r).cps.toList = _
    rw [rowT_toList m r, cps_app, cps_app]; simp
theorem join_toList : ∀ l : List Str, (Str.join Str.empty l).cps.toList = (l.map fun w => w.cps.toList).flatten
  | [] => rfl
  | [x] => by simp [Str.join]
  | x :: y :: r => by
    show (x ++ Str.empty ++ Str.join Str.empty (y :: r)).cps.toList = _
    rw [cps_app, cps_app, join_toList (y :: r)]; simp [Str.empty]
theorem rowT_join (f m : Str) (ws : List Str) : f ++ Txt.join (Str.ofString "") (ws.map (fun y => m ++ y)) = rowT f m ws := by
  refine str_ext ?_
  have e : Str.ofString "" = Str.empty := by decide +kernel
  rw [cps_app, rowT_toList, e]
  show _ ++ (Builtin.Str.glued Str.empty (ws.map (fun y => m ++ y))).cps.toList = _
  rw [StrLaws.glued_eq_join, join_toList, List.map_map]
  congr 2
  exact List.map_congr_left fun w _ => cps_app m w
theorem rowT_length (m : Str) : ∀ (ws : List Str) (f : Str) (B : Nat), (∀ w ∈ ws, w.length ≤ B) → (rowT f m ws).length ≤ f.length + ws.length * (m.length + B)
  | [], f, B, _ => by simp [rowT]
  | w :: r, f, B, h => by
    show (rowT (f ++ m ++ w) m r).length ≤ _
    have h1 := rowT_length m r (f ++ m ++ w) B fun x hx => h x (.tail _ hx)
    have h2 := h w (.head _)
    rw [Str.length_append, Str.length_append] at h1
    rw [List.length_cons, Nat.add_mul]
    omega

/-- one sign for another -/
def swap (c d : Nat) (x : Str) : Str := ⟨(x.cps.toList.map fun k => if k = c then d else k).toArray⟩
theorem swap_toList (c d : Nat) (x : Str) : (swap c d x).cps.toList = x.cps.toList.map fun k => if k = c then d else k := by simp [swap]
theorem map_free {c d : Nat} {l : List Nat} (h : c ∉ l) : (l.map fun k => if k = c then d else k) = l := by
  conv => rhs; rw [← List.map_id l]
  exact List.map_congr_left fun k hk => by
    have : k ≠ c := fun e => h (e ▸ hk)
    simp [this]
theorem swap_join (c d : Nat) : ∀ parts : List Str, (∀ p ∈ parts, c ∉ p.cps.toList) → (Str.join ⟨#[c]⟩ parts).cps.toList.map (fun k => if k = c then d else k) = (Str.join ⟨#[d]⟩ parts).cps.toList
  | [], _ => rfl
  | [x], h => map_free (h x (.head _))
  | x :: y :: r, h => by
    show (x ++ ⟨#[c]⟩ ++ Str.join ⟨#[c]⟩ (y :: r)).cps.toList.map _ = (x ++ ⟨#[d]⟩ ++ Str.join ⟨#[d]⟩ (y :: r)).cps.toList
    rw [cps_app, cps_app, cps_app, cps_app, List.map_append, List.map_append, swap_join c d (y :: r) fun p hp => h p (.tail _ hp), map_free (h x (.head _))]
    simp
theorem replace_swap (x : Str) (c d : Nat) : Txt.replace x ⟨#[c]⟩ ⟨#[d]⟩ = swap c d x := by
  refine str_ext ?_
  rw [StrLaws.replace_one, swap_toList, ← swap_join c d _ (StrLaws.split_free x c), StrLaws.join_split]
theorem swap_length (c d : Nat) (x : Str) : (swap c d x).length = x.length := by rw [len_toList, swap_toList, List.length_map, ← len_toList]
theorem swap_not (c d : Nat) (hcd : c ≠ d) (x : Str) : c ∉ (swap c d x).cps.toList := by
  rw [swap_toList]
  intro h
  obtain ⟨k, _, e⟩ := List.mem_map.mp h
  by_cases hk : k = c
  · rw [if_pos hk] at e; exact hcd e.symm
  · rw [if_neg hk] at e; exact hk e
theorem swap_back (c d : Nat) (x : Str) (h : d ∉ x.cps.toList) : swap d c (swap c d x) = x := by
  refine str_ext ?_
  rw [swap_toList, swap_toList, List.map_map]
  conv => rhs; rw [← List.map_id x.cps.toList]
  refine List.map_congr_left fun k hk => ?_
  have hd : k ≠ d := fun e => h (e ▸ hk)
  by_cases hc : k = c
  · simp [hc]
  · simp [hc, hd]

/-- a text of code points -/
def Ok (x : Str) : Prop := ∀ c ∈ x.cps.toList, c < 0x110000
theorem Ok.strOk {x : Str} (h : Ok x) : PyData.strOk x = true := by
  unfold PyData.strOk
  rw [← Array.all_toList, List.all_eq_true]
  exact fun c hc => by simpa using h c hc
theorem Ok.app {x y : Str} (hx : Ok x) (hy : Ok y) : Ok (x ++ y) := fun c hc => by
  rw [cps_app] at hc
  exact (List.mem_append.mp hc).elim (hx c) (hy c)
theorem Ok.row {m : Str} (hm : Ok m) : ∀ (ws : List Str) {f : Str}, Ok f → (∀ w ∈ ws, Ok w) → Ok (rowT f m ws)
  | [], _, hf, _ => hf
  | w :: r, _, hf, h => Ok.row hm r ((hf.app hm).app (h w (.head _))) fun x hx => h x (.tail _ hx)
theorem Ok.swap {x : Str} {c d : Nat} (hx : Ok x) (hd : d < 0x110000) : Ok (swap c d x) := fun k hk => by
  rw [swap_toList] at hk
  obtain ⟨j, hj, rfl⟩ := List.mem_map.mp hk
  by_cases e : j = c
  · simpa [e] using hd
  · simpa [e] using hx j hj
end Mine
end

section
open PySem PySem.W PyProof.Rows PySem.Spec PySem.Calls
set_option Elab.async false
namespace Mine
abbrev tupObj (vs : List Value) : Obj := { cls := .type "tuple", data := .seq vs.toArray }

/-- a contract of a def: what it asks of the ledger, what it hands back and what it adds -/
def CallOK (prog : Program) (w : World) (K : Frag) (f : Addr) (args : List Value) (Pre : List (Addr × Obj) → Prop) (R : Value → List (Addr × Obj) → Prop) : Prop :=
  ∀ (p : Program) (loose : List Str) (mean : ExcName → Option Value) (mg mb : Str → Option Value) (dp un : Nat) (gd : Option (List Code)) (cn : Str) (cs : Scope) (fa : Addr) (ccd : Value) (cl : List (Str × Addr)) (outer : List Env) (A₀ : Around) (base h₀ : Heap) (L : Addr) (m : Str → Option Value) (news : List (Addr × Obj)) (s : Shared)
    (Q E : Value → Shared → Prop),
    Below A₀ base outer h₀ → Fr h₀ L s.heap m → K.In h₀ → News h₀ L s.heap news → Top p loose mean mg mb h₀ → cs.kind = .function → dp + 4 < recursionLimit → un + 128 < cLine → Pre news →
    (∀ v add h' tk', R v add → Fr h₀ L h' m → News h₀ L h' (add ++ news) → (∀ q ∈ add, ∀ p ∈ news, p.1 < q.1) → Q v { s with heap := h', toks := tk' }) →
    wpAny (model prog w) (ktrTop dp un gd cn cs L fa ccd cl outer) (call (.ref f) args) Q E s

theorem CallOK.use {prog : Program} {w : World} {K : Frag} {f : Addr} {args : List Value} {Pre : List (Addr × Obj) → Prop} {R : Value → List (Addr × Obj) → Prop}
    {p : Program} {loose : List Str} {mean : ExcName → Option Value} {mg mb : Str → Option Value} {dp un : Nat} {gd : Option (List Code)} {cn : Str} {cs : Scope} {fa : Addr} {ccd : Value} {cl : List (Str × Addr)} {outer : List Env} {A₀ : Around} {base h₀ : Heap} {L : Addr} {m : Str → Option Value} {news : List (Addr × Obj)} {s : Shared}
    {Q E : Value → Shared → Prop} (c : CallOK prog w K f args Pre R) (B : Below A₀ base outer h₀) (F : Fr h₀ L s.heap m) (X : K.In h₀) (N : News h₀ L s.heap news) (T : Top p loose mean mg mb h₀) (hk : cs.kind = .function) (hd : dp + 4 < recursionLimit) (hu : un + 128 < cLine) (hp : Pre news)
    (ret : ∀ v add h' tk', R v add → Fr h₀ L h' m → News h₀ L h' (add ++ news) → (∀ q ∈ add, ∀ p ∈ news, p.1 < q.1) → Q v { s with heap := h', toks := tk' }) :
    wpAny (model prog w) (ktrTop dp un gd cn cs L fa ccd cl outer) (call (.ref f) args) Q E s :=
  c _ _ _ _ _ _ _ _ _ _ _ _ _ _ _ _ _ _ _ _ _ _ _ B F X N T hk hd hu hp ret
theorem lt_one {D : Addr} {o : Obj} {news : List (Addr × Obj)} (h : ∀ q ∈ [(D, o)], ∀ p ∈ news, p.1 < q.1) : ∀ p ∈ news, p.1 < D := fun p hp => h (D, o) (.head _) p hp
theorem rpart_call {prog : Program} {w : World} {A : Around} {E : Value → Shared → Prop} {s : Shared} {h₀ : Heap} {L : Addr} {m : PySem.Str → Option Value} {news : List (Addr × Obj)} {x y p q r : PySem.Str} {t u : Tok} {Q : Value → Shared → Prop}
    (hrp : Txt.rpartition x y = (p, q, r)) (hF : Fr h₀ L s.heap m) (hN : News h₀ L s.heap news) (hy : (y.length == 0) = false) (hsz : x.length ≤ sizeLine)
    (h : ∀ D ta tb tc h' k, Fr h₀ L h' m → News h₀ L h' ((D, { cls := .type "tuple", data := .seq [.str p ta, .str q tb, .str r tc].toArray }) :: news) → (∀ a ∈ news, a.1 < D) → Q (.ref D) { s with heap := h', toks := k }) :
    wpAny (model prog w) A (call (.builtin "str.rpartition") [.str x t, .str y u]) Q E s :=
  KXpa.rpartition hF hN hy (by rw [hrp]) (by rw [hrp]) (by rw [hrp]) hsz h
theorem sub1 {α : Type} {a b : α} {l : List α} : ∀ p ∈ [a] ++ l, p ∈ a :: b :: l := fun p hp => by
  rcases List.mem_cons.mp hp with rfl | hp
  · exact .head _
  · exact .tail _ (.tail _ hp)
theorem lt1 {D : Addr} {o : Obj} {news : List (Addr × Obj)} (h : AllLt D news) : ∀ q ∈ [(D, o)], ∀ p ∈ news, p.1 < q.1 := by
  intro q hq p hp
  rw [List.mem_singleton.mp hq]
  exact kst_ltOf h p hp
end Mine
end

section
open PySem PySem.W PyProof.Rows PySem.Spec PySem.Calls
set_option Elab.async false
namespace Mine
section
variable {prog : Program} {w : World} {A : Around} {h₀ : Heap} {L : Addr} {m : Str → Option Value} {env : Env} {elt : Expr} {x : Str} {scope : Scope} {cl : List (Str × Addr)} {s : Shared} {S : List (Addr × Obj) → Prop} {Fin : List Value → List (Addr × Obj) → Prop} {news : List (Addr × Obj)}
theorem strs_at : ∀ {vs : List Value} {xs : List Str}, StrsAre vs xs → ∀ (i : Nat) (v : Value), vs[i]? = some v → ∃ y t, xs[i]? = some y ∧ v = .str y t
  | _, _, .nil, i, v, h => by simp at h
  | _, _, .cons y t r, 0, v, h => ⟨y, t, rfl, by simpa using h.symm⟩
  | _, _, .cons y t r, i + 1, v, h => by simpa using strs_at r i v (by simpa using h)

/-- a comprehension over a list of texts whose element leaves the heap as it is -/
theorem crest_strs {vs : List Value} {xs : List Str} (g : Str → Str) (hi : StrsAre vs xs) (hS : S news)
    (turn : ∀ y t I oI C oC D m₂ ys h tk (E' : Value → Shared → Prop), y ∈ xs → LCg.NsObj oC m₂ → m₂ x = some (.str y t) → Fr h₀ L h m → News h₀ L h ((I, oI) :: (C, oC) :: (D, LCg.lst ys) :: news) →
      wpAny (model prog w) A (eval elt (compEnvC scope cl C env)) (fun z s₂ => ∃ t' tk', z = .str (g y) t' ∧ s₂ = { s with heap := h, toks := tk' }) E' { s with heap := h, toks := tk })
    (fin : ∀ ys, StrsAre ys (xs.map g) → Fin ys news) : LCg.CompRest prog w A h₀ L m env elt x scope cl s S (fun i v => vs.toArray[i]? = some v) Fin vs.toArray.size 0 [] news := by
  have hlen : vs.toArray.size = xs.length := by rw [List.size_toArray]; exact hi.length
  rw [hlen]
  have key : ∀ (j i : Nat) (ys : List Value), i + j = xs.length → StrsAre ys ((xs.take i).map g) → LCg.CompRest prog w A h₀ L m env elt x scope cl s S (fun i v => vs.toArray[i]? = some v) Fin j i ys news := by
    intro j
    induction j with
    | zero =>
      intro i ys hij hy
      have e : i = xs.length := by omega
      subst e
      rw [List.take_length] at hy
      exact LCg.CompRest.zero (fin ys hy)
    | succ j ih =>
      intro i ys hij hy
      refine LCg.CompRest.succ ?_
      intro v I oI C oC D m₂ h tk E' hv hC hx F N off ne
      obtain ⟨y, t, hk, rfl⟩ := strs_at hi i v (by simpa using hv)
      refine wpAny_mono (turn y t I oI C oC D m₂ ys h tk E' (List.mem_of_getElem? hk) hC hx F N) (fun z s₂ hq => ?_) fun _ _ e => e
      obtain ⟨t', tk', rfl, rfl⟩ := hq
      refine ⟨h, tk', news, rfl, F, N, off, hS, ?_⟩
      refine ih (i + 1) _ (by omega) ?_
      rw [List.take_add_one, hk]
      simpa using kct_snoc hy
  exact key xs.length 0 [] (by omega) (by simp only [List.take_zero, List.map_nil]; exact .nil)
end
end Mine
end

section
open PySem PySem.W PyProof.Rows PySem.Spec PySem.Calls
set_option Elab.async false
namespace Mine
section
variable {prog : Program} {w : World} {A : Around} {E : Value → Shared → Prop} {s : Shared} {h₀ : Heap} {L D l : Addr} {m : Str → Option Value} {news news' : List (Addr × Obj)}

theorem pick_left (va vb : List Value) (n : Int) (h : n = va.length) : (slicePick (va ++ vb).toArray none (some n) none).toList = va := by
  have e : sliceBounds none (some n) none (va ++ vb).toArray.size = (((0 : Nat) : Int), ((va.length : Nat) : Int), 1) := by
    simp only [sliceBounds, Option.getD_none, show (1 : Int) > 0 by decide, if_true, if_neg (show ¬ (n < 0) by omega), List.size_toArray, List.length_append]
    congr 1
    congr 1
    omega
  rw [kmk_pick_nat _ e]; simp
theorem pick_right (va vb : List Value) (n : Int) (h : n = va.length) : (slicePick (va ++ vb).toArray (some n) none none).toList = vb := by
  have e : sliceBounds (some n) none none (va ++ vb).toArray.size = (((va.length : Nat) : Int), (((va ++ vb).length : Nat) : Int), 1) := by
    simp only [sliceBounds, Option.getD_none, show (1 : Int) > 0 by decide, if_true, if_neg (show ¬ (n < 0) by omega), List.size_toArray, List.length_append]
    congr 1
    omega
  rw [kmk_pick_nat _ e]; simp
theorem pick_init (va : List Value) (v : Value) : (slicePick (va ++ [v]).toArray none (some (-1)) none).toList = va := by
  have e : sliceBounds none (some (-1)) none (va ++ [v]).toArray.size = (((0 : Nat) : Int), ((va.length : Nat) : Int), 1) := by
    simp only [sliceBounds, Option.getD_none, show (1 : Int) > 0 by decide, if_true, List.size_toArray, List.length_append, List.length_singleton]
    congr 1
    congr 1
    rw [if_pos (by decide)]
    omega
  rw [kmk_pick_nat _ e]; simp

theorem tup_ne {a b : Addr} {vs ws : List Value} {ds : List PyData} {as bs : List Addr} {Q : Value → Shared → Prop} (N : News h₀ L s.heap news) (ha : (a, tupObj vs) ∈ news) (hb : (b, tupObj ws) ∈ news)
    (ra : ReadsAll s.heap vs ds as) (rb : ReadsAll s.heap ws ds bs) (hs : SeqAt.shaped (.tuple ds) = true) (he : PyData.eqvAll ds ds = true) (hu : A.units + 64 < cLine) (h : Q (.bool false) s) :
    wpAny (model prog w) A (compareOp .NotEq (.ref a) (.ref b)) Q E s :=
  ne_dataH (reads_tuple_at (N _ ha).1 rfl rfl ra) (reads_tuple_at (N _ hb).1 rfl rfl rb) hs hs hu (by
    have e : PyData.eqv (.tuple ds) (.tuple ds) = true := by simpa [PyData.eqv] using he
    rw [e]; exact h)
theorem tup_ne_ss {a b : Addr} {x y : Str} {t u t' u' : Tok} {Q : Value → Shared → Prop} (N : News h₀ L s.heap news) (ha : (a, tupObj [.str x t, .str y u]) ∈ news) (hb : (b, tupObj [.str x t', .str y u']) ∈ news) (hx : Ok x) (hy : Ok y) (hu : A.units + 64 < cLine) (h : Q (.bool false) s) :
    wpAny (model prog w) A (compareOp .NotEq (.ref a) (.ref b)) Q E s :=
  tup_ne (ds := [.str x, .str y]) N ha hb (.cons (.str _ _) (.cons (.str _ _) .nil)) (.cons (.str _ _) (.cons (.str _ _) .nil)) (by simp [SeqAt.shaped, PyData.canLay0, PyData.canLayAll0, PyData.depth, PyData.depthAll, hx.strOk, hy.strOk]) (by simp [PyData.eqvAll, PyData.eqv]) hu h
theorem tup_ne_sn {a b : Addr} {x : Str} {t t' : Tok} {Q : Value → Shared → Prop} (N : News h₀ L s.heap news) (ha : (a, tupObj [.str x t, .none]) ∈ news) (hb : (b, tupObj [.str x t', .none]) ∈ news) (hx : Ok x) (hu : A.units + 64 < cLine) (h : Q (.bool false) s) :
    wpAny (model prog w) A (compareOp .NotEq (.ref a) (.ref b)) Q E s :=
  tup_ne (ds := [.str x, .none]) N ha hb (.cons (.str _ _) (.cons .none .nil)) (.cons (.str _ _) (.cons .none .nil)) (by simp [SeqAt.shaped, PyData.canLay0, PyData.canLayAll0, PyData.depth, PyData.depthAll, hx.strOk]) (by simp [PyData.eqvAll, PyData.eqv]) hu h
end
end Mine
end

section
open PySem PySem.W PyProof.Rows PySem.Spec PySem.Calls
set_option Elab.async false
namespace Mine
theorem strs_split : ∀ {vs : List Value} {a b : List Str}, StrsAre vs (a ++ b) → ∃ va vb, vs = va ++ vb ∧ StrsAre va a ∧ StrsAre vb b
  | vs, [], b, h => ⟨[], vs, rfl, .nil, h⟩
  | _, x :: r, b, .cons _ t h => by
    obtain ⟨va, vb, rfl, h1, h2⟩ := strs_split (a := r) h
    exact ⟨_ :: va, vb, rfl, .cons _ t h1, h2⟩
theorem strs_app {va vb : List Value} {a b : List Str} : StrsAre va a → StrsAre vb b → StrsAre (va ++ vb) (a ++ b)
  | .nil, h => h
  | .cons x t r, h => .cons x t (strs_app r h)
theorem strs_one {v : Value} {x : Str} {t : Tok} (e : v = .str x t) : StrsAre [v] [x] := by subst e; exact .cons _ _ .nil
theorem strs_areOf : ∀ {vs : List Value} {xs : List Str}, StrsAre vs xs → AreOf ItemKind.str vs xs
  | _, _, .nil => .nil
  | _, _, .cons _ t h => .cons ⟨t, rfl⟩ (strs_areOf h)
theorem strs_rev : ∀ {vs : List Value} {xs : List Str}, StrsAre vs xs → StrsAre vs.reverse xs.reverse
  | _, _, .nil => .nil
  | _, _, .cons x t h => by
    rw [List.reverse_cons, List.reverse_cons]
    exact strs_app (strs_rev h) (.cons x t .nil)
theorem strs_carried : ∀ {ys : List Value} {xs : List Str}, CarriedAll ys (xs.map PyData.str) → StrsAre ys xs
  | _, [], h => by cases h; exact .nil
  | _, x :: r, h => by
    cases h with
    | cons h1 h2 =>
      cases h1
      exact .cons _ _ (strs_carried h2)
theorem strs_last {vs : List Value} {a : List Str} (h : StrsAre vs a) : (vs = [] ∧ a = []) ∨ ∃ vp p u tu, vs = vp ++ [.str u tu] ∧ a = p ++ [u] ∧ StrsAre vp p := by
  rcases List.eq_nil_or_concat a with rfl | ⟨p, u, rfl⟩
  · cases h; exact .inl ⟨rfl, rfl⟩
  · rw [List.concat_eq_append] at h
    obtain ⟨vp, vq, rfl, h1, h2⟩ := strs_split h
    cases h2 with
    | cons x t r => cases r; exact .inr ⟨vp, p, u, t, rfl, by simp, h1⟩
theorem strs_first {vs : List Value} {b : List Str} (h : StrsAre vs b) : (vs = [] ∧ b = []) ∨ ∃ vq q u tu, vs = .str u tu :: vq ∧ b = u :: q ∧ StrsAre vq q := by
  cases h with
  | nil => exact .inl ⟨rfl, rfl⟩
  | cons x t r => exact .inr ⟨_, _, x, t, rfl, rfl, r⟩
section
variable {prog : Program} {w : World} {A : Around} {E : Value → Shared → Prop} {s : Shared} {h₀ : Heap} {L D l : Addr} {m : Str → Option Value} {news news' : List (Addr × Obj)}
theorem tr_nil {c : Nat} {Q : Bool → Shared → Prop} (N : News h₀ L s.heap news) (hm : (l, listOf ([] : List Value).toArray c) ∈ news) (h : Q false { s with toks := s.toks + 1 + 1 }) : wpAny (model prog w) A (truthy (.ref l)) Q E s :=
  kgr_truthy (vs := []) N hm rfl rfl (by decide) h
theorem tr_snoc {c : Nat} {vs : List Value} {v : Value} {Q : Bool → Shared → Prop} (N : News h₀ L s.heap news) (hm : (l, listOf (vs ++ [v]).toArray c) ∈ news) (hz : (vs ++ [v]).length < 2 ^ 62) (h : Q true { s with toks := s.toks + 1 + 1 }) : wpAny (model prog w) A (truthy (.ref l)) Q E s :=
  kgr_truthy (vs := vs ++ [v]) N hm rfl rfl hz (by rw [show (!(vs ++ [v]).isEmpty) = true by simp]; exact h)
theorem item_last {value slice : PySem.Expr} {c : Nat} {vs : List Value} {v : Value} {u : Tok} {Q : Value → Shared → Prop} (N : News h₀ L s.heap news) (hm : (l, listOf (vs ++ [v]).toArray c) ∈ news) (h : Q v s)
    (hs : subscripted slice false (.ref l) (.int (-1) u) = operate [.ref l, .int (-1) u] (getItem (.ref l) (.int (-1) u))) (hg : ∀ r, letTemporaryGo value (.ref l) r = pure ()) :
    wpAny (model prog w) A (subscriptTail value slice (.ref l) (.int (-1) u)) Q E s :=
  kim_back (l := vs ++ [v]) N hm rfl rfl (by decide) (by simp; omega) (by decide) (by
    have e : ((-1 : Int) + ((vs ++ [v]).length : Int)).toNat = vs.length := by simp; omega
    rw [e]; simp) h hs hg
theorem sl_lit {value slice : PySem.Expr} {c : Nat} {vs zs : List Value} {vl vu : Value} {lo hi : Option Int} {Q : Value → Shared → Prop} (F : Fr h₀ L s.heap m) (N : News h₀ L s.heap news) (hm : (l, listOf vs.toArray c) ∈ news) (pl : IsPart vl lo) (pu : IsPart vu hi) (e : (slicePick vs.toArray lo hi none).toList = zs)
    (h : ∀ D h', Fr h₀ L h' m → News h₀ L h' ((D, listOf zs.toArray 0) :: news) → (∀ p ∈ news, p.1 < D) → Q (.ref D) { s with heap := h' })
    (hs : subscripted slice false (.ref l) (.ref s.heap.objs.size) = operate [.ref s.heap.objs.size, .ref l] (getItem (.ref l) (.ref s.heap.objs.size))) (ht : ∀ r, letTemporaryGo value (.ref l) r = pure ()) (hz : vs.length ≤ sizeLine) :
    wpAny (model prog w) A (subscriptTail value slice (.ref l) (.ref s.heap.objs.size)) Q E { s with heap := s.heap.push { cls := .type "slice", data := .fields #[vl, vu, .none] } } :=
  kmk_slice_lit F N (News.isList N hm) pl pu e h hs ht (by rw [List.size_toArray]; exact hz)
end
end Mine
end

section
open PySem PySem.W PyProof.Rows PySem.Spec PySem.Calls
set_option Elab.async false
namespace Mine
section
variable {prog : Program} {w : World} {A : Around} {E : Value → Shared → Prop} {s : Shared} {h₀ : Heap} {L : Addr} {m : Str → Option Value}
/-- what is wanted of the source of «z = [elt for x in iter]», texts in and texts out -/
def CompIn (prog : Program) (w : World) (A : Around) (h₀ : Heap) (L : Addr) (env : Env) (scope : Scope) (elt : Expr) (x z : Str) (g : Str → Str) (Q : Flow → Shared → Prop) (xv : Value) (s₁ : Shared) : Prop :=
  ∃ l vs xs m news, xv = .ref l ∧ s₁.heap.IsList l vs.toArray ∧ StrsAre vs xs ∧ Fr h₀ L s₁.heap m ∧ News h₀ L s₁.heap news ∧ xs.length ≤ sizeLine ∧
    (∀ C y t s₂ m₂ E', y ∈ xs → s₂.heap.Ns (compEnv scope C env).locals m₂ → m₂ x = some (.str y t) → s₁.toks ≤ s₂.toks → wpAny (model prog w) A (eval elt (compEnv scope C env)) (fun r s₃ => Carried r (.str (g y)) ∧ Keeps s₂ s₃) E' s₂) ∧
    (∀ D n ys h' tk, Fr h₀ L h' (fun q => if q = z then some (.ref D) else m q) → News h₀ L h' ((D, listOf (List.toArray ys) n) :: news) → (∀ p ∈ news, p.1 ≠ D) → StrsAre ys (xs.map g) → Q .next { s₁ with heap := h', toks := tk })
theorem comp_texts {name : Str} {fscope : Scope} {a : Addr} {cd : Value} {elt iter : Expr} {x z : Str} {px py : Pos} {scope : Scope} {pos spos : Pos} {Q : Flow → Shared → Prop} (g : Str → Str)
    (_F : Fr h₀ L s.heap m)
    (h : wpAny (model prog w) A (eval iter (envOf name fscope L a cd)) (CompIn prog w A h₀ L (envOf name fscope L a cd) scope elt x z g Q) E s)
    (hh : A.handled = none)
    (hsw : swapsWith (.ListComp elt [⟨.Name x px, iter, [], 0⟩] scope pos) (some (.Name z py)) spos.line (envOf name fscope L a cd) = pure true)
    (hfree : ∀ z ∈ scope.names, z.2 ≠ .free) (hcell : ∀ z ∈ scope.names, z.2 ≠ .cell) (hkind : scope.kind = .function)
    (hnames : ∀ z ∈ scope.names, z.2 = .local → scope.names.lookup z.1 = some .local) (hx : scope.names.lookup x = some .local)
    (hy : (envOf name fscope L a cd).kindOf z = some .local) (hp : ((envOf name fscope L a cd).scope.kind == .class || ((envOf name fscope L a cd).scope.kind == .module && (envOf name fscope L a cd).locals != (envOf name fscope L a cd).globals)) = false)
    (hs : ∀ x, foldedSetIterable iter (envOf name fscope L a cd) x = pure x) :
    wpAny (model prog w) A (exec (.Assign [.Name z py] (.ListComp elt [⟨.Name x px, iter, [], 0⟩] scope pos) spos) (envOf name fscope L a cd)) Q E s := by
  refine Assign_ListComp_rowsP hsw hfree hcell hkind hnames hx hy hp (wpAny_mono h (fun xv s₁ h₁ => ?_) fun _ _ e => e) hs
  obtain ⟨l, vs, xs, m, news, rfl, hl, hi, F, N, hz, hel, hq⟩ := h₁
  refine srcA_listDW (K := ItemKind.str) (pz := fun _ => true) (d := fun y => PyData.str (g y)) hh hl (strs_areOf hi) F N ?_ ?_ ?_ hz
  · intro C y v s₂ m₂ E' _ _ _ _ _
    exact wpAny_tests_nil ⟨rfl, s₂.heap, s₂.toks, rfl, fun _ _ e => e⟩
  · intro C y v s₂ m₂ E' hm hv _ hn hx' ht
    obtain ⟨t, rfl⟩ := hv
    exact hel C y t s₂ m₂ E' hm hn hx' ht
  · intro D ys h' tk F' N' hD hlD hpl hc
    obtain ⟨⟨n, hobj⟩, hne⟩ := hpl
    have hne' : D ≠ L := NewPlain.ne_locals ⟨⟨n, hobj⟩, hne⟩ F'
    refine hq D n ys h' tk F' (fun p hp => ?_) hne (strs_carried (by
      have e : xs.filter (fun _ => true) = xs := List.filter_eq_self.mpr fun _ _ => rfl
      rw [e] at hc
      rw [List.map_map]; exact hc))
    rcases List.mem_cons.mp hp with rfl | hp
    · exact ⟨hobj, hne', hD⟩
    · exact N' p hp
end
end Mine
end

section
open PySem PySem.W PyProof.Rows PySem.Spec PySem.Calls
set_option Elab.async false
namespace Mine
section
variable {prog : Program} {w : World} {A : Around} {E : Value → Shared → Prop} {s : Shared} {h₀ : Heap} {L D l : Addr} {m : Str → Option Value} {news news' : List (Addr × Obj)}
theorem menu_item {P : Str → Prop} {value slice : PySem.Expr} {c : Nat} {vs : List Value} {ws : List Str} {i : Int} {u : Tok} {Q : Value → Shared → Prop} (hP : ∀ y ∈ ws, P y) (N : News h₀ L s.heap news) (hm : (l, listOf vs.toArray c) ∈ news) (hw : StrsAre vs ws) (h0 : 0 ≤ i) (h1 : i < (ws.length : Int)) (hl : ws.length ≤ 8)
    (h : ∀ y t', P y → Q (.str y t') s)
    (hs : subscripted slice false (.ref l) (.int i u) = operate [.ref l, .int i u] (getItem (.ref l) (.int i u))) :
    wpAny (model prog w) A (subscriptTail value slice (.ref l) (.int i u)) Q E s :=
  KTb.item_list (News.isList N hm) hw h0 h1 (by omega) (fun t' hlt => h _ t' (hP _ (by
    rw [List.getD_eq_getElem?_getD, List.getElem?_eq_getElem hlt]; exact List.getElem_mem hlt))) hs
theorem len_item {c : Nat} {vs : List Value} {Q : Value → Shared → Prop} (N : News h₀ L s.heap news) (hm : (l, listOf vs.toArray c) ∈ news) (hfit : (vs.length : Int) < 2 ^ 63)
    (h : Q (.int (vs.length : Int) (s.toks + 1)) { s with toks := s.toks + 1 + 1 }) : wpAny (model prog w) A (call (.builtin "len") [.ref l]) Q E s :=
  kst_len N hm rfl hfit h
theorem insert_at {c : Nat} {va vb : List Value} {x : Int} {u : Tok} {y : Value} {Q : Value → Shared → Prop} (hx : x = (va.length : Int)) (F : Fr h₀ L s.heap m) (N : News h₀ L s.heap news)
    (U : Upd D (listOf (va ++ vb).toArray c) (listOf (va ++ y :: vb).toArray (c + 1)) news news') (hz : (va ++ vb).length ≤ sizeLine) (h : ∀ h', Fr h₀ L h' m → News h₀ L h' news' → Q .none { s with heap := h' }) :
    wpAny (model prog w) A (call (.builtin "list.insert") [.ref D, .int x u, y]) Q E s := by
  have hz' : va.length ≤ 16777216 := by rw [List.length_append, sizeLine_eq] at hz; omega
  refine kl_insert (l := va ++ y :: vb) F N ?_ ?_ U (by simpa using hz) h
  · subst hx
    unfold Builtin.List.listFitsIndex
    simp only [Bool.and_eq_true, decide_eq_true_eq]
    omega
  · subst hx
    unfold kl_ins
    rw [if_neg (by omega)]
    have e : min ((va.length : Int)).toNat (va ++ vb).toArray.toList.length = va.length := by simp
    rw [e]; simp
theorem pop_at {c : Nat} {vp vb : List Value} {x : Int} {u : Tok} {y : Value} {Q : Value → Shared → Prop} (hx : x = (vp.length : Int)) (F : Fr h₀ L s.heap m) (N : News h₀ L s.heap news)
    (U : Upd D (listOf (vp ++ [y] ++ vb).toArray c) (listOf (vp ++ vb).toArray (c + 1)) news news') (hz : (vp ++ [y] ++ vb).length ≤ sizeLine) (h : ∀ h', Fr h₀ L h' m → News h₀ L h' news' → Q y { s with heap := h' }) :
    wpAny (model prog w) A (call (.builtin "list.pop") [.ref D, .int x u]) Q E s := by
  have hz' : vp.length ≤ 16777216 := by simp only [List.length_append, sizeLine_eq] at hz; omega
  have hcut : ∀ p : List Value, kl_cut (p ++ [y] ++ vb) p.length = some (p, y, vb) := by
    intro p
    induction p with
    | nil => rfl
    | cons v r ih =>
      show (match kl_cut (r ++ [y] ++ vb) r.length with | some (p, y, q) => some (v :: p, y, q) | none => none) = _
      rw [ih]
  refine kl_popAt (k := vp.length) (p := vp) (q := vb) F N ?_ ?_ (hcut vp) U (by simpa using hz) h
  · subst hx
    unfold Builtin.List.listFitsIndex
    simp only [Bool.and_eq_true, decide_eq_true_eq]
    omega
  · subst hx
    rw [StrLaws.seqIndex_nonneg (by omega) (by simp; omega)]
    simp
theorem set_at {c : Nat} {vs ws : List Value} {k : Int} {t : Tok} {v : Value} {Q : Unit → Shared → Prop} (F : Fr h₀ L s.heap m) (N : News h₀ L s.heap news) (h0 : 0 ≤ k) (h1 : k < (vs.length : Int)) (hfit : k < 2 ^ 63) (e : vs.set k.toNat v = ws)
    (U : Upd D (listOf vs.toArray c) (listOf ws.toArray c) news news') (h : ∀ h', Fr h₀ L h' m → News h₀ L h' news' → Q () { s with heap := h' }) :
    wpAny (model prog w) A (setItem (.ref D) (.int k t) v) Q E s := by
  subst e
  obtain ⟨pre, post, rfl, rfl, a, b⟩ := U.split
  have z := N (D, listOf vs.toArray c) (List.mem_append.mpr (.inr (.head _)))
  refine ki_setAt z.1 h0 hfit (by simpa using h1) (h _ (F.change (Heap.SameBut.update ..) z.2.1 z.2.2) (ki_turn _ N a b ?_ ?_))
  · show vs.toArray.setIfInBounds k.toNat v = (vs.set k.toNat v).toArray
    apply Array.toList_inj.mp
    simp
  · simp
theorem get_at {value slice : PySem.Expr} {c : Nat} {vs : List Value} {k : Int} {t : Tok} {v : Value} {Q : Value → Shared → Prop} (N : News h₀ L s.heap news) (hm : (D, listOf vs.toArray c) ∈ news) (h0 : 0 ≤ k) (hfit : k < 2 ^ 63) (e : vs[k.toNat]? = some v) (h : Q v s)
    (hs : subscripted slice false (.ref D) (.int k t) = operate [.ref D, .int k t] (getItem (.ref D) (.int k t))) (hg : ∀ r, letTemporaryGo value (.ref D) r = pure ()) :
    wpAny (model prog w) A (subscriptTail value slice (.ref D) (.int k t)) Q E s := kim_list N hm rfl rfl h0 hfit e h hs hg
end
end Mine
end

section
open PySem PySem.W PyProof.Rows PySem.Spec PySem.Calls
set_option Elab.async false
namespace Mine
/-- no exception leaves -/
abbrev NoE : Value → Shared → Prop := fun _ _ => False
/-- a name of the text's own list of statements -/
def nthS : List Stmt → Nat → Stmt
  | [], _ => .Pass default
  | a :: _, 0 => a
  | _ :: r, n + 1 => nthS r n
def fnBody : Stmt → List Stmt
  | .FunctionDef _ _ body _ _ _ _ _ _ _ => body
  | _ => []
def fnScope : Stmt → Scope
  | .FunctionDef _ _ _ _ _ _ scope _ _ _ => scope
  | _ => default
def forBody : Stmt → List Stmt
  | .For _ _ body _ _ => body
  | _ => []
def elseBody : Stmt → List Stmt
  | .If _ _ e _ => e
  | _ => []
def thenBody : Stmt → List Stmt
  | .If _ b _ _ => b
  | _ => []
section
variable {prog : Program} {w : World} {A : Around} {E : Value → Shared → Prop} {s : Shared} {env : Env} {h₀ : Heap} {x : Str} {body : List Stmt} {Q : Flow → Shared → Prop}
/-- what a turn of a loop ends in -/
def TurnEnd (h₀ : Heap) (L : Addr) (I : Addr) (own : List (Addr × Obj)) (J : (Str → Option Value) → List (Addr × Obj) → Prop) (s₁ : Shared) (Q : Flow → Shared → Prop) (f : Flow) (s₂ : Shared) : Prop :=
  match f with
  | .ret v => Q (.ret v) s₂
  | .brk => Q .next s₂
  | _ => ∃ h' tk m' news', s₂ = { s₁ with heap := h', toks := tk } ∧ Fr h₀ L h' m' ∧ News h₀ L h' (own ++ news') ∧ (∀ p ∈ news', p.1 ≠ I) ∧ J m' news'
theorem TurnEnd.go {L I : Addr} {own : List (Addr × Obj)} {J : (Str → Option Value) → List (Addr × Obj) → Prop} {s₁ : Shared} {h' : Heap} {tk : Nat} {m' : Str → Option Value} {news' : List (Addr × Obj)}
    (F : Fr h₀ L h' m') (N : News h₀ L h' (own ++ news')) (hI : ∀ p ∈ news', p.1 ≠ I) (hJ : J m' news') : TurnEnd h₀ L I own J s₁ Q .next { s₁ with heap := h', toks := tk } := ⟨h', tk, m', news', rfl, F, N, hI, hJ⟩
theorem loop_walk {I : Addr} {fp : List Addr} {n : Nat} {P : Nat → Value → Prop} {St : Nat → Heap → Prop} {m₀ : Str → Option Value} {news : List (Addr × Obj)} {s₂ : Shared} (J : Nat → (Str → Option Value) → List (Addr × Obj) → Prop)
    (W : Walks prog w A I fp [I] n P St) (hLf : env.locals ∉ fp) (hI : h₀.get? I = none) (hnw : ∀ p ∈ news, p.1 ≠ I) (hst : St 0 s₂.heap) (F : Fr h₀ env.locals s₂.heap m₀) (N : News h₀ env.locals s₂.heap news) (h0 : J 0 m₀ news)
    (turn : ∀ i v m₁ news₁ h tk own, i < n → P i v → J i m₁ news₁ → (∀ p ∈ news₁, p.1 ≠ I) → (∀ p ∈ own, p.1 ∈ fp) → (∀ b ∈ fp, h₀.get? b = none → ∀ o, h.get? b = some o → (b, o) ∈ own) → St (i + 1) h →
      Fr h₀ env.locals h (fun y => if y = x then some v else m₁ y) → News h₀ env.locals h (own ++ news₁) →
      wpAny (model prog w) A (execs body env) (TurnEnd h₀ env.locals I own (J (i + 1)) { s₂ with heap := h, toks := tk } Q) E { s₂ with heap := h, toks := tk })
    (done : ∀ h' tk m' news', Fr h₀ env.locals h' m' → News h₀ env.locals h' news' → J n m' news' → Q .next { s₂ with heap := h', toks := tk }) :
    LoopAtV prog w A h₀ env x body Q E (.ref I) s₂ := by
  refine ⟨I, fp, [I], n, P, St, m₀, news, J, rfl, W, hLf, fun b hb => (List.mem_singleton.mp hb) ▸ hI, fun p hp h => hnw p hp (List.mem_singleton.mp h), hst, F, N, h0, ?_, fun h' tk m' news' F' N' _ hJ => done h' tk m' news' F' N' hJ⟩
  rintro i v m₁ news₁ _ own ⟨h, tk, rfl⟩ hi hP hJ hoff hown _ hfp hst₁ F₁ N₁
  refine wpAny_mono (turn i v m₁ news₁ h tk own hi hP hJ (fun p hp e => hoff p hp (List.mem_singleton.mpr e)) hown hfp hst₁ F₁ N₁) (fun f s₃ q => ?_) fun _ _ e => e
  have fin : (∃ h' tk' m' news', s₃ = { s₂ with heap := h', toks := tk' } ∧ Fr h₀ env.locals h' m' ∧ News h₀ env.locals h' (own ++ news') ∧ (∀ p ∈ news', p.1 ≠ I) ∧ J (i + 1) m' news') → LoopStepU h₀ env.locals [I] own (J (i + 1)) { s₂ with heap := h, toks := tk } .next s₃ := by
    rintro ⟨h', tk', m', news', e, F', N', hI', hJ'⟩
    exact ⟨rfl, h', tk', m', news', e, F', N', fun p hp h => hI' p hp (List.mem_singleton.mp h), hJ'⟩
  cases f with
  | ret v => exact .ret q
  | brk => exact .brk q
  | next => exact .next (fin q)
  | cont => exact .cont (fin q)

/-- a loop over a list of the ledger -/
theorem for_list {l : Addr} {vs : List Value} {c : Nat} {m₀ : Str → Option Value} {news : List (Addr × Obj)} (J : Nat → (Str → Option Value) → List (Addr × Obj) → Prop)
    (hh : A.handled = none) (hl : (l, listOf vs.toArray c) ∈ news) (F : Fr h₀ env.locals s.heap m₀) (N : News h₀ env.locals s.heap news) (hj : J 0 m₀ news)
    (turn : ∀ I, (∀ p ∈ news, p.1 < I) → ∀ i v m₁ news₁ h tk own, vs[i]? = some v → J i m₁ news₁ → (∀ p ∈ own, p.1 = I ∨ p.1 = l) → (l, listOf vs.toArray c) ∈ own → (∃ oI, (I, oI) ∈ own) → (∀ p ∈ news₁, p.1 ≠ I) →
      Fr h₀ env.locals h (fun y => if y = x then some v else m₁ y) → News h₀ env.locals h (own ++ news₁) →
      wpAny (model prog w) A (execs body env) (TurnEnd h₀ env.locals I own (J (i + 1)) { s with heap := h, toks := tk } Q) E { s with heap := h, toks := tk })
    (done : ∀ h' tk m' news', Fr h₀ env.locals h' m' → News h₀ env.locals h' news' → J vs.length m' news' → Q .next { s with heap := h', toks := tk }) :
    wpAny (model prog w) A (pyIter (.ref l)) (fun it s₂ => LoopAtV prog w A h₀ env x body Q E it s₂) E s := by
  have hol : s.heap.get? l = some (listOf vs.toArray c) := (N _ hl).1
  have hls : s.heap.IsList l vs.toArray := ⟨_, hol, rfl, c, rfl⟩
  have hne : l ≠ s.heap.objs.size := Nat.ne_of_lt (Heap.lt_size hol)
  refine wpAny_pyIter_list hls ?_
  have W := Walks.list (prog := prog) (w := w) hh s.heap.objs.size l hne vs.toArray
  rw [List.size_toArray] at W
  have hlt : ∀ p ∈ news, p.1 < s.heap.objs.size := fun p hp => Heap.lt_size (N p hp).1
  refine loop_walk (news := (l, listOf vs.toArray c) :: news) (fun i m nx => ∃ nx', nx = (l, listOf vs.toArray c) :: nx' ∧ J i m nx') W ?_ (next_is_new F) (fun p hp => ?_) ⟨⟨_, Heap.get?_push_size _ rfl, rfl, rfl⟩, hls.at fun o e => Heap.get?_push_of_some _ e⟩ (F.push _) (fun p hp => ?_) ⟨_, rfl, hj⟩ ?_ ?_
  · intro hm
    rcases List.mem_cons.mp hm with e | hm
    · exact absurd F.ns.lt (e ▸ Nat.lt_irrefl _)
    · exact (N _ hl).2.1 ((List.mem_singleton.mp hm).symm)
  · rcases List.mem_cons.mp hp with rfl | hp
    · exact hne
    · exact Nat.ne_of_lt (hlt p hp)
  · rcases List.mem_cons.mp hp with rfl | hp
    · exact ⟨Heap.get?_push_of_some _ hol, (N _ hl).2⟩
    · exact ⟨Heap.get?_push_of_some _ (N p hp).1, (N p hp).2⟩
  · rintro i v m₁ _ h tk own hi hP ⟨news₁, rfl, hJ⟩ hoff hown hfp hst F₁ N₁
    obtain ⟨oI, hoI, _⟩ := hst.1
    refine wpAny_mono (turn s.heap.objs.size hlt i v m₁ news₁ h tk (own ++ [(l, listOf vs.toArray c)]) (by simpa using hP) hJ (fun p hp => ?_) (List.mem_append_right _ (.head _)) ⟨oI, List.mem_append_left _ (hfp _ (.head _) (next_is_new F) _ hoI)⟩ (fun p hp => hoff p (.tail _ hp)) F₁ (by rw [List.append_assoc]; exact N₁)) (fun f s₃ q => ?_) fun _ _ e => e
    · rcases List.mem_append.mp hp with hp | hp
      · rcases List.mem_cons.mp (hown p hp) with e | e
        · exact .inl e
        · exact .inr (List.mem_singleton.mp e)
      · rw [List.mem_singleton.mp hp]; exact .inr rfl
    · have fin : (∃ h' tk' m' news', s₃ = { s with heap := h', toks := tk' } ∧ Fr h₀ env.locals h' m' ∧ News h₀ env.locals h' (own ++ [(l, listOf vs.toArray c)] ++ news') ∧ (∀ p ∈ news', p.1 ≠ s.heap.objs.size) ∧ J (i + 1) m' news') →
          ∃ h' tk' m' news', s₃ = { s with heap := h', toks := tk' } ∧ Fr h₀ env.locals h' m' ∧ News h₀ env.locals h' (own ++ news') ∧ (∀ p ∈ news', p.1 ≠ s.heap.objs.size) ∧ ∃ nx', news' = (l, listOf vs.toArray c) :: nx' ∧ J (i + 1) m' nx' := by
        rintro ⟨h', tk', m', news', e, F', N', hI', hJ'⟩
        refine ⟨h', tk', m', (l, listOf vs.toArray c) :: news', e, F', by rw [List.append_assoc] at N'; exact N', fun p hp => ?_, _, rfl, hJ'⟩
        rcases List.mem_cons.mp hp with rfl | hp
        · exact hne
        · exact hI' p hp
      cases f with
      | ret v => exact q
      | brk => exact q
      | next => exact fin q
      | cont => exact fin q
  · rintro h' tk m' _ F' N' ⟨news', rfl, hJ⟩
    exact done h' tk m' news' F' (fun p hp => N' p (.tail _ hp)) hJ
/-- one object of the ledger is another one -/
theorem upd_flex {D : Addr} {o : Obj} {news : List (Addr × Obj)} (o' : Obj) : Upd D o o' ((D, o) :: news.filter fun p => decide (p.1 ≠ D)) ((D, o') :: news.filter fun p => decide (p.1 ≠ D)) :=
  Upd.head fun p hp => by simpa using (List.mem_filter.mp hp).2
theorem news_flex {L D : Addr} {o : Obj} {h : Heap} {news : List (Addr × Obj)} (N : News h₀ L h news) (hm : (D, o) ∈ news) : News h₀ L h ((D, o) :: news.filter fun p => decide (p.1 ≠ D)) := fun p hp => by
  rcases List.mem_cons.mp hp with rfl | hp
  · exact N _ hm
  · exact N _ (List.mem_filter.mp hp).1
theorem news_back {L D : Addr} {o' : Obj} {h : Heap} {news : List (Addr × Obj)} (N : News h₀ L h ((D, o') :: news.filter fun p => decide (p.1 ≠ D))) : ∀ news', (∀ p ∈ news', p = (D, o') ∨ (p ∈ news ∧ p.1 ≠ D)) → News h₀ L h news' := fun news' hs p hp => by
  rcases hs p hp with rfl | ⟨h1, h2⟩
  · exact N _ (.head _)
  · exact N _ (.tail _ (List.mem_filter.mpr ⟨h1, by simpa using h2⟩))
/-- the same, where the list stands beside the ledger that the loop keeps -/
theorem for_list2 {l : Addr} {vs : List Value} {c : Nat} {m₀ : Str → Option Value} {big news : List (Addr × Obj)} (J : Nat → (Str → Option Value) → List (Addr × Obj) → Prop)
    (hh : A.handled = none) (hl : (l, listOf vs.toArray c) ∈ big) (F : Fr h₀ env.locals s.heap m₀) (N : News h₀ env.locals s.heap big) (hs : ∀ p ∈ news, p ∈ big) (hj : J 0 m₀ news)
    (turn : ∀ I, (∀ p ∈ big, p.1 < I) → ∀ i v m₁ news₁ h tk own, vs[i]? = some v → J i m₁ news₁ → (∀ p ∈ own, p.1 = I ∨ p.1 = l) → (l, listOf vs.toArray c) ∈ own → (∃ oI, (I, oI) ∈ own) → (∀ p ∈ news₁, p.1 ≠ I) →
      Fr h₀ env.locals h (fun y => if y = x then some v else m₁ y) → News h₀ env.locals h (own ++ news₁) →
      wpAny (model prog w) A (execs body env) (TurnEnd h₀ env.locals I own (J (i + 1)) { s with heap := h, toks := tk } Q) E { s with heap := h, toks := tk })
    (done : ∀ h' tk m' news', Fr h₀ env.locals h' m' → News h₀ env.locals h' news' → J vs.length m' news' → Q .next { s with heap := h', toks := tk }) :
    wpAny (model prog w) A (pyIter (.ref l)) (fun it s₂ => LoopAtV prog w A h₀ env x body Q E it s₂) E s := by
  refine for_list (fun i m nx => ∃ nx', (∀ p ∈ nx', p ∈ nx) ∧ J i m nx') hh hl F N ⟨news, hs, hj⟩ ?_ ?_
  · rintro I hI i v m₁ news₁ h tk own hv ⟨nx', hsub, hJ⟩ h1 h2 h3 h4 F₁ N₁
    refine wpAny_mono (turn I hI i v m₁ nx' h tk own hv hJ h1 h2 h3 (fun p hp => h4 p (hsub p hp)) F₁ fun p hp => ?_) (fun f s₃ q => ?_) fun _ _ e => e
    · rcases List.mem_append.mp hp with hp | hp
      · exact N₁ _ (List.mem_append_left _ hp)
      · exact N₁ _ (List.mem_append_right _ (hsub _ hp))
    · cases f with
      | ret v => exact q
      | brk => exact q
      | next => obtain ⟨h', tk', m', news', e, F', N', hI', hJ'⟩ := q; exact ⟨h', tk', m', news', e, F', N', hI', news', fun _ h => h, hJ'⟩
      | cont => obtain ⟨h', tk', m', news', e, F', N', hI', hJ'⟩ := q; exact ⟨h', tk', m', news', e, F', N', hI', news', fun _ h => h, hJ'⟩
  · rintro h' tk m' news' F' N' ⟨nx', hsub, hJ⟩
    exact done h' tk m' nx' F' (fun p hp => N' p (hsub p hp)) hJ
/-- statements, one group after the other -/
def Then (M : Model) (A : Around) (b : List Stmt) (env : Env) (Q : Flow → Shared → Prop) (E : Value → Shared → Prop) (f : Flow) (s : Shared) : Prop :=
  match f with
  | .next => wpAny M A (execs b env) Q E s
  | f => Q f s
theorem execs_app0 {M : Model} {Γ : PySem.Ctx} {R : Flow → Pos → Shared → Prop} {E' : Value → Pos → Shared → Prop} (b : List Stmt) : ∀ (a : List Stmt) (q : Pos) (s : Shared),
    Sem.wp M Γ (execs a env) (fun f q' s' => match f with | .next => Sem.wp M Γ (execs b env) R E' q' s' | f => R f q' s') E' q s → Sem.wp M Γ (execs (a ++ b) env) R E' q s
  | [], q, s, h => h
  | x :: a, q, s, h => by
    rw [List.cons_append, execs, Sem.wp_bind']
    rw [execs, Sem.wp_bind'] at h
    refine Sem.wp_mono M Γ _ (fun f q' s' hf => ?_) (fun _ _ _ e => e) q s h
    cases f with
    | next => exact execs_app0 b a q' s' hf
    | brk => exact hf
    | cont => exact hf
    | ret v => exact hf
theorem execs_app {M : Model} {a b : List Stmt} (h : wpAny M A (execs a env) (Then M A b env Q E) E s) : wpAny M A (execs (a ++ b) env) Q E s := fun Γ q hΓ => by
  refine execs_app0 b a q s (Sem.wp_mono M Γ _ (fun f q' s' hf => ?_) (fun _ _ _ e => e) q s (h Γ q hΓ))
  cases f with
  | next => exact hf Γ q' hΓ
  | brk => exact hf
  | cont => exact hf
  | ret v => exact hf
theorem execs_one {M : Model} {a : Stmt} (h : wpAny M A (exec a env) Q E s) : wpAny M A (execs [a] env) Q E s := by
  rw [execs]
  refine wpAny_bind (wpAny_mono h (fun f s' hf => ?_) fun _ _ e => e)
  cases f with
  | next => exact wpAny_pure hf
  | brk => exact wpAny_pure hf
  | cont => exact wpAny_pure hf
  | ret v => exact wpAny_pure hf
end
end Mine
end

section
open PySem PySem.W PyProof.Rows
set_option Elab.async false
set_option maxRecDepth 100000
set_option maxHeartbeats 8000000
namespace Mine
open_top hd for PySem.Challenge.rw_dn0238_01
theorem top_off : True := by
  w_top off
  trivial
end Mine
end

section
open PySem PySem.W PyProof.Rows PySem.Spec PySem.Calls
set_option Elab.async false
set_option maxRecDepth 100000
set_option maxHeartbeats 8000000
namespace Mine
abbrev P01 : Program := PySem.Challenge.rw_dn0238_01.row.prog
local macro_rules | `(tactic| walk_at "call builtin:str.rpartition") => `(tactic| (k_here; (with_reducible show wpAny _ _ (call (Value.builtin "str.rpartition") [Value.str _ _, Value.str _ _]) _ _ _); (refine rpart_call (by assumption) (by k_asm) (by k_asm) (by decide) (by assumption) ?_); intro D' _ _ _ _ _ F' N' l1; (try k_lt l1)))
theorem query_some (w : World) (x a b : Str) (t : Tok) (hx : x.length ≤ sizeLine) (hrp : Txt.rpartition x (Str.ofString "?") = (a, Str.ofString "?", b)) :
    CallOK PySem.Challenge.rw_dn0238_01.row.prog w (hd.heap_39 w.params) 21 [.str x t] (fun _ => True) (fun v add => ∃ D t1 t2, v = .ref D ∧ add = [(D, tupObj [.str a t1, .str b t2])]) := by
  unfold CallOK
  k_fill
  intro p loose mean mg mb dp un gd cn cs fa ccd cl outer A₀ base h₀ L m news s Q E B F X N T hk hdp hun hpre ret
  refine wpAny_call ?_
  k_dflt cell_enter
  k_steps
  rename (_ ∧ AllLt _ _) => l9
  exact ret _ _ _ _ ⟨_, _, _, rfl, rfl⟩ (by assumption) (cb_drop (by assumption) sub1) (lt1 l9.2)
theorem query_none (w : World) (x : Str) (t : Tok) (hx : x.length ≤ sizeLine) (hrp : Txt.rpartition x (Str.ofString "?") = (Str.ofString "", Str.ofString "", x)) :
    CallOK PySem.Challenge.rw_dn0238_01.row.prog w (hd.heap_39 w.params) 21 [.str x t] (fun _ => True) (fun v add => ∃ D, v = .ref D ∧ add = [(D, tupObj [.str x t, .none])]) := by
  unfold CallOK
  k_fill
  intro p loose mean mg mb dp un gd cn cs fa ccd cl outer A₀ base h₀ L m news s Q E B F X N T hk hdp hun hpre ret
  refine wpAny_call ?_
  k_dflt cell_enter
  k_steps
  rename (_ ∧ AllLt _ _) => l9
  exact ret _ _ _ _ ⟨_, rfl, rfl⟩ (by assumption) (cb_drop (by assumption) sub1) (lt1 l9.2)
theorem tag_some (w : World) (x a b : Str) (t : Tok) (hx : x.length ≤ sizeLine) (hrp : Txt.rpartition x (Str.ofString "#") = (a, Str.ofString "#", b)) :
    CallOK PySem.Challenge.rw_dn0238_01.row.prog w (hd.heap_39 w.params) 28 [.str x t] (fun _ => True) (fun v add => ∃ D t1 t2, v = .ref D ∧ add = [(D, tupObj [.str a t1, .str b t2])]) := by
  unfold CallOK
  k_fill
  intro p loose mean mg mb dp un gd cn cs fa ccd cl outer A₀ base h₀ L m news s Q E B F X N T hk hdp hun hpre ret
  refine wpAny_call ?_
  k_dflt cell_enter
  k_steps
  rename (_ ∧ AllLt _ _) => l9
  exact ret _ _ _ _ ⟨_, _, _, rfl, rfl⟩ (by assumption) (cb_drop (by assumption) sub1) (lt1 l9.2)
theorem tag_none (w : World) (x : Str) (t : Tok) (hx : x.length ≤ sizeLine) (hrp : Txt.rpartition x (Str.ofString "#") = (Str.ofString "", Str.ofString "", x)) :
    CallOK PySem.Challenge.rw_dn0238_01.row.prog w (hd.heap_39 w.params) 28 [.str x t] (fun _ => True) (fun v add => ∃ D, v = .ref D ∧ add = [(D, tupObj [.str x t, .none])]) := by
  unfold CallOK
  k_fill
  intro p loose mean mg mb dp un gd cn cs fa ccd cl outer A₀ base h₀ L m news s Q E B F X N T hk hdp hun hpre ret
  refine wpAny_call ?_
  k_dflt cell_enter
  k_steps
  rename (_ ∧ AllLt _ _) => l9
  exact ret _ _ _ _ ⟨_, rfl, rfl⟩ (by assumption) (cb_drop (by assumption) sub1) (lt1 l9.2)

theorem row_ok (w : World) (front mark : Str) (t1 t2 : Tok) (l : Addr) (vs : List Value) (ws : List Str) (c : Nat) (hw : StrsAre vs ws) (hz : vs.toArray.size ≤ sizeLine) (hm : mark.length ≤ 1) (hf : front.length ≤ 2) (hws : ∀ y ∈ ws, y.length ≤ 3) (hwl : ws.length ≤ 16) :
    CallOK PySem.Challenge.rw_dn0238_01.row.prog w (hd.heap_39 w.params) 33 [.str front t1, .str mark t2, .ref l] (fun news => (l, listOf vs.toArray c) ∈ news) (fun v add => ∃ t, v = .str (rowT front mark ws) t ∧ add = []) := by
  unfold CallOK
  k_fill
  intro p loose mean mg mb dp un gd cn cs fa ccd cl outer A₀ base h₀ L m news s Q E B F X N T hk hdp hun hpre ret
  refine wpAny_call ?_
  k_dflt (refine' code_defC ?k1 ?k2 ?k3 ?k4 ?k5 ?kA ?kF ?kK ?k6 ?k7 ?k8 ?k9 ?kB ?kD ?_ ?c2 ?c3 ?c4; (case kA => exact rfl); (case kF => exact rfl); (case kK => assumption); (case k1 => k_asm); (case k2 => k_asm); (case k3 => k_asm); (case k4 => k_asm); (case k5 => k_asm); (case k6 => k_is); (case k7 => k_is); (case k8 => ktr_room); (case k9 => first | exact BindsTo.of_eq rfl | exact binds_K (by k_in) rfl (by k_is) rfl rfl rfl); (case kB => exact rfl); (case kD => decide +kernel); (case c2 => exact rfl); (case c3 => exact rfl); (case c4 => exact rfl); k_whole; intro g' L' h' tk' cells' FG' F' N' Y' B' X' T' l1; (try k_lt l1); k_cells Y'; (try simp only [List.cons_append, List.nil_append] at N'); (try dsimp only); (try k_lift B'); (try k_fold))
  k_steps
  k_dflt (refine' LCg.CompSrc.ledger (by rfl) ?F ?N ?M ?Z ?_)
  case F => k_asm
  case N => k_asm
  case M => first | k_mem | assumption | kst_mem
  case Z => assumption
  intro g'
  refine crest_strs (fun y => mark ++ y) (by assumption) (.inr ⟨_, (by first | k_mem | assumption | kst_mem), rfl, _, rfl⟩) (fun y' t' I' oI' C' oC' D' m' ys' h' tk' E' hy' hC' hx' F' N' => ?_) ?_
  · k_steps
    refine SBL.add (fun t9 k9 _ => ⟨t9, k9, rfl, rfl⟩) ?_
    have := hws _ hy'
    rw [sizeLine_eq]; omega
  · intro ys hys D' h' tk' F' N' off'
    have hlen : ((ws.map (mark ++ ·)).map (·.length)).sum ≤ (ws.map (mark ++ ·)).length * 4 := StrLaws.sumLen_le _ (by
      intro y hy
      obtain ⟨z, hz, rfl⟩ := List.mem_map.mp hy
      have := hws _ hz
      rw [Str.length_append]; omega)
    rw [List.length_map] at hlen
    k_steps
    refine join_listW (News.isList N' (.head _)) hys (by decide +kernel) (by rw [List.length_map]; omega) (fun t9 k9 => ?_)
    dsimp only
    refine SBL.add (fun t8 k8 _ => ?_) ?_
    · k_steps
      rw [rowT_join]
      exact ret _ [] _ _ ⟨_, rfl, rfl⟩ (by assumption) (cb_drop (by assumption) (fun p hp => .tail _ (.tail _ hp))) (fun _ h => nomatch h)
    · have e1 : (Txt.join (Str.ofString "") (ws.map (fun y => mark ++ y))).length ≤ 64 := by
        have h1 := rowT_length mark ws (Str.ofString "") 3 hws
        rw [← rowT_join, Str.length_append] at h1
        have h2 : ws.length * (mark.length + 3) ≤ 16 * 4 := Nat.mul_le_mul hwl (by omega)
        have h3 : (Str.ofString "").length = 0 := by decide +kernel
        omega
      rw [sizeLine_eq]; omega
end Mine
end

section
open PySem PySem.W PyProof.Rows PySem.Spec PySem.Calls
set_option Elab.async false
set_option maxRecDepth 100000
set_option maxHeartbeats 8000000
namespace Mine
def grp4 (l : List Stmt) (i : Nat) : List Stmt := match l.drop i with | a :: b :: c :: d :: _ => [a, b, c, d] | _ => []
def law01 : Stmt := nthS PySem.Challenge.pw_dn0238_01.main.body 5
def turn01 : List Stmt := forBody (nthS (fnBody law01) 5)
abbrev env01 (L fa : Addr) (cd : Value) : Env := envOf (Str.ofString "law") (fnScope law01) L fa cd

def Good (x : Str) : Prop := 63 ∉ x.cps.toList ∧ x.length ≤ 3 ∧ Ok x
theorem qm_is : Str.ofString "?" = ⟨#[63]⟩ := by decide +kernel
theorem hs_is : Str.ofString "#" = ⟨#[35]⟩ := by decide +kernel
theorem em_is : Str.ofString "" = Str.empty := by decide +kernel
section
variable {prog : Program} {w : World} {A : Around} {E : Value → Shared → Prop} {s : Shared} {x : Str} {t u v : Tok} {Q : Value → Shared → Prop}
theorem rep1 (hu : @Ne Nat u 0) (hv : @Ne Nat v 0) (huv : @Ne Nat u v) (hx : x.length ≤ 1000) (hq : ∀ t' k, Q (.str (swap 35 63 x) t') { s with toks := k }) :
    wpAny (model prog w) A (call (.builtin "str.replace") [.str x t, .str (Str.ofString "#") u, .str (Str.ofString "?") v]) Q E s := by
  refine SC.replaceW hu hv huv (by decide +kernel) (by omega) (by decide +kernel) fun t' k => ?_
  rw [qm_is, hs_is, replace_swap]
  exact hq t' k
theorem rep2 (hu : @Ne Nat u 0) (hv : @Ne Nat v 0) (huv : @Ne Nat u v) (hx : x.length ≤ 1000) (hq : ∀ t' k, Q (.str (swap 63 35 x) t') { s with toks := k }) :
    wpAny (model prog w) A (call (.builtin "str.replace") [.str x t, .str (Str.ofString "?") u, .str (Str.ofString "#") v]) Q E s := by
  refine SC.replaceW hu hv huv (by decide +kernel) (by omega) (by decide +kernel) fun t' k => ?_
  rw [qm_is, hs_is, replace_swap]
  exact hq t' k
end
structure RowFacts (f mk : Str) (ws : List Str) : Prop where
  ok : Ok (rowT f mk ws)
  len : (rowT f mk ws).length ≤ 66
  ws3 : ∀ y ∈ ws, y.length ≤ 3
  n16 : ws.length ≤ 16
theorem rowFacts {f mk : Str} {ws : List Str} (hf : ∀ c ∈ f.cps.toList, c < 0x110000) (hm : ∀ c ∈ mk.cps.toList, c < 0x110000) (lf : f.length ≤ 2) (lm : mk.length ≤ 1) (h : ∀ y ∈ ws, y.length ≤ 3 ∧ Ok y) (hn : ws.length ≤ 16) : RowFacts f mk ws :=
  ⟨Ok.row hm ws hf fun y hy => (h y hy).2, by
    have h1 := rowT_length mk ws f 3 fun y hy => (h y hy).1
    have h2 : ws.length * (mk.length + 3) ≤ 16 * 4 := Nat.mul_le_mul hn (by omega)
    omega, fun y hy => (h y hy).1, hn⟩
theorem cut_some (f : Str) (ws : List Str) (u : Str) (c : String) (k : Nat) (hc : Str.ofString c = ⟨#[k]⟩) (h : k ∉ u.cps.toList) : Txt.rpartition (rowT f (Str.ofString c) (ws ++ [u])) (Str.ofString c) = (rowT f (Str.ofString c) ws, Str.ofString c, u) := by
  rw [rowT_snoc, hc]
  exact rpart_last _ _ _ h
theorem cut_none (f : Str) (c : String) (k : Nat) (hc : Str.ofString c = ⟨#[k]⟩) (h : k ∉ f.cps.toList) : Txt.rpartition (rowT f (Str.ofString c) []) (Str.ofString c) = (Str.ofString "", Str.ofString "", rowT f (Str.ofString c) []) := by
  rw [hc, em_is]
  exact rpart_free _ _ h
/-- what a cut tells of a row -/
def Cut (f mk : Str) (a : List Str) (x : Str) (v : Value) : Prop := (a = [] ∧ x = rowT f mk [] ∧ v = .none) ∨ ∃ p u t, a = p ++ [u] ∧ x = rowT f mk p ∧ v = .str u t

local macro_rules | `(tactic| walk_at "eval Name") => `(tactic| (k_here; k_dflt (refine' ld ?k1 ?k2 ?_; (case k1 => k_asm); (case k2 => first | exact rfl | assumption); k_whole)))
local macro_rules | `(tactic| k_mem) => `(tactic| assumption)
local macro_rules | `(tactic| walk_at "truthy ref") => `(tactic| (k_here; k_dflt (first | (refine' tr_nil ?N ?m ?_; (case N => k_asm); (case m => k_mem)) | (refine' tr_snoc ?N ?m ?z ?_; (case N => k_asm); (case m => k_mem); (case z => (simp only [List.length_append, List.length_cons, List.length_nil]; omega))))))
local macro_rules | `(tactic| walk_at "subscriptTail Name Slice ref ref") => `(tactic| (k_here; (with_reducible show wpAny _ _ (subscriptTail _ (PySem.Expr.Slice _ _ none _) (Value.ref _) (Value.ref _)) _ _ _); k_dflt (refine' sl_lit ?F ?N ?l ?p ?q ?e ?_ ?s ?t ?z; (case F => k_asm); (case N => k_asm); (case l => k_mem); (case p => kmk_part); (case q => kmk_part); (case e => first | exact pick_left _ _ _ rfl | exact pick_right _ _ _ rfl | exact pick_init _ _); (case s => with_unfolding_all rfl); (case t => kmk_pure); (case z => (simp only [List.length_append, List.length_cons, List.length_nil, sizeLine_eq]; omega))); intro D' h' F' N' l1; (try k_lt l1); (try k_sweep)))
local macro_rules | `(tactic| walk_at "subscriptTail Name UnaryOp ref int") => `(tactic| (k_here; (with_reducible show wpAny _ _ (subscriptTail _ _ (Value.ref _) (Value.int (-1) _)) _ _ _); k_dflt (refine' item_last ?N ?l ?_ ?s ?t; (case N => k_asm); (case l => k_mem); (case s => with_unfolding_all rfl); (case t => kmk_pure))))
local macro_rules | `(tactic| walk_at "call ref") => `(tactic| (k_here; (with_reducible show wpAny _ _ (call (Value.ref 33) _) _ _ _); k_dflt (refine' CallOK.use (row_ok _ _ _ _ _ _ _ _ _ ?hw ?hz (by decide +kernel) (by decide +kernel) ?h3 ?h16) ?B ?F ?X ?N ?T ?hk ?hd ?hu ?hp ?_; (case B => k_asm); (case F => k_asm); (case X => k_asm); (case N => k_asm); (case T => k_asm); (case hk => exact rfl); (case hp => k_mem); (case hw => assumption); (case hz => (simp only [List.size_toArray, List.length_append, List.length_cons, List.length_nil, sizeLine_eq]; omega)); (case h3 => exact RowFacts.ws3 (by assumption)); (case h16 => exact RowFacts.n16 (by assumption)); (case hd => ktr_room); (case hu => ktr_units)); intro v' add' h' tk' hR' F' N' l1; obtain ⟨t', e1', e2'⟩ := hR'; subst e1'; subst e2'; clear l1; (simp only [List.nil_append] at N'); (try dsimp only); (try k_sweep)))
local macro_rules | `(tactic| walk_at "call ref") => `(tactic| (k_here; (with_reducible show wpAny _ _ (call (Value.ref 21) _) _ _ _); k_dflt (first
  | (refine' CallOK.use (query_some _ _ _ _ _ ?hx ?hr) ?B ?F ?X ?N ?T ?hk ?hd ?hu trivial ?_; (case B => k_asm); (case F => k_asm); (case X => k_asm); (case N => k_asm); (case T => k_asm); (case hk => exact rfl); (case hr => assumption); (case hx => exact Nat.le_trans (RowFacts.len (by assumption)) (by rw [sizeLine_eq]; omega)); (case hd => ktr_room); (case hu => ktr_units); (intro v' add' h' tk' hR' F' N' l1; obtain ⟨D', t1', t2', e1', e2'⟩ := hR'; subst e1'; subst e2'; replace l1 := lt_one l1))
  | (refine' CallOK.use (query_none _ _ _ ?hx ?hr) ?B ?F ?X ?N ?T ?hk ?hd ?hu trivial ?_; (case B => k_asm); (case F => k_asm); (case X => k_asm); (case N => k_asm); (case T => k_asm); (case hk => exact rfl); (case hr => assumption); (case hx => exact Nat.le_trans (RowFacts.len (by assumption)) (by rw [sizeLine_eq]; omega)); (case hd => ktr_room); (case hu => ktr_units); (intro v' add' h' tk' hR' F' N' l1; obtain ⟨D', e1', e2'⟩ := hR'; subst e1'; subst e2'; replace l1 := lt_one l1))); (simp only [List.cons_append, List.nil_append] at N'); (try k_lt l1); (try dsimp only); (try k_sweep)))
local macro_rules | `(tactic| walk_at "call ref") => `(tactic| (k_here; (with_reducible show wpAny _ _ (call (Value.ref 28) _) _ _ _); k_dflt (first
  | (refine' CallOK.use (tag_some _ _ _ _ _ ?hx ?hr) ?B ?F ?X ?N ?T ?hk ?hd ?hu trivial ?_; (case B => k_asm); (case F => k_asm); (case X => k_asm); (case N => k_asm); (case T => k_asm); (case hk => exact rfl); (case hr => assumption); (case hx => exact Nat.le_trans (RowFacts.len (by assumption)) (by rw [sizeLine_eq]; omega)); (case hd => ktr_room); (case hu => ktr_units); (intro v' add' h' tk' hR' F' N' l1; obtain ⟨D', t1', t2', e1', e2'⟩ := hR'; subst e1'; subst e2'; replace l1 := lt_one l1))
  | (refine' CallOK.use (tag_none _ _ _ ?hx ?hr) ?B ?F ?X ?N ?T ?hk ?hd ?hu trivial ?_; (case B => k_asm); (case F => k_asm); (case X => k_asm); (case N => k_asm); (case T => k_asm); (case hk => exact rfl); (case hr => assumption); (case hx => exact Nat.le_trans (RowFacts.len (by assumption)) (by rw [sizeLine_eq]; omega)); (case hd => ktr_room); (case hu => ktr_units); (intro v' add' h' tk' hR' F' N' l1; obtain ⟨D', e1', e2'⟩ := hR'; subst e1'; subst e2'; replace l1 := lt_one l1))); (simp only [List.cons_append, List.nil_append] at N'); (try k_lt l1); (try dsimp only); (try k_sweep)))
local macro_rules | `(tactic| walk_at "compareOp NotEq ref ref") => `(tactic| (k_here; k_dflt (first
  | (refine' tup_ne_ss ?N ?a ?b ?x ?y ?u ?_; (case N => k_asm); (case a => k_mem); (case b => k_mem); (case x => exact RowFacts.ok (by assumption)); (case y => assumption); (case u => ke_room))
  | (refine' tup_ne_sn ?N ?a ?b ?x ?u ?_; (case N => k_asm); (case a => k_mem); (case b => k_mem); (case x => exact RowFacts.ok (by assumption)); (case u => ke_room)))))
section
variable (w : World) {p : Program} {loose : List Str} {mean : ExcName → Option Value} {mg mb : Str → Option Value} {base h₀ : Heap} {L fa : Addr} {cd : Value} {m : Str → Option Value} {news : List (Addr × Obj)} {s : Shared} {Q : Flow → Shared → Prop}
theorem gone01 {a : List Str} {va : List Value} {la : Addr} {c : Nat} {tl : Tok}
    (B : Below callerA base [] h₀) (X : (hd.heap_39 w.params).In h₀) (T : Top p loose mean mg mb h₀) (F : Fr h₀ L s.heap m) (N : News h₀ L s.heap news)
    (hva : StrsAre va a) (hla : (la, listOf va.toArray c) ∈ news) (ga : ∀ x ∈ a, Good x) (hn : va.length ≤ 16)
    (h1 : m (Str.ofString "ahead") = some (.ref la)) (h2 : m (Str.ofString "left") = some (.str (rowT (Str.ofString "h#") (Str.ofString "?") a) tl))
    (ret : ∀ D x tx v h' tk' m', Cut (Str.ofString "h#") (Str.ofString "?") a x v → Fr h₀ L h' m' → News h₀ L h' ((D, tupObj [.str x tx, v]) :: news) → (∀ p ∈ news, p.1 < D) → m' (Str.ofString "gone") = some (.ref D) → (∀ q, q ≠ Str.ofString "due" → q ≠ Str.ofString "gone" → m' q = m q) → Q .next { s with heap := h', toks := tk' }) :
    wpAny (model PySem.Challenge.rw_dn0238_01.row.prog w) (callerA.deeper (env01 L fa cd)) (execs (grp4 turn01 4) (env01 L fa cd)) Q NoE s := by
  revert X; k_fill; intro X
  obtain ⟨sh, sg, sd, st, so⟩ := s
  dsimp only at F N ret
  conv in (execs _ _) => arg 1; whnf
  unfold env01
  conv in (occs := *) (fnScope _) => all_goals whnf
  rcases strs_last hva with ⟨rfl, rfl⟩ | ⟨vp, p, u, tu, rfl, rfl, hvp⟩
  · have rfA : RowFacts (Str.ofString "h#") (Str.ofString "?") [] := rowFacts (by decide +kernel) (by decide +kernel) (by decide +kernel) (by decide +kernel) (fun y hy => nomatch hy) (by decide)
    have cutA := cut_none (Str.ofString "h#") "?" 63 qm_is (by decide +kernel)
    k_steps
    exact ret _ _ _ _ _ _ _ (.inl ⟨rfl, rfl, rfl⟩) (by assumption) (cb_drop (by assumption) (by intro q hq; rcases List.mem_cons.mp hq with rfl | hq; (· exact .head _); (repeat' (first | exact hq | refine .tail _ ?_)))) (by rename (_ ∧ _) => l9; first | exact kst_ltOf l9.2 | exact kst_ltOf l9.2.2 | exact kst_ltOf l9.2.2.2 | exact kst_ltOf l9.2.2.2.2) rfl (fun q h1 h2 => by simp only [h1, h2, if_false])
  · have rfA : RowFacts (Str.ofString "h#") (Str.ofString "?") (p ++ [u]) := rowFacts (by decide +kernel) (by decide +kernel) (by decide +kernel) (by decide +kernel) (fun y hy => (ga y hy).2) (by rw [← hva.length]; omega)
    simp only [List.length_append, List.length_cons, List.length_nil] at hn
    have rfB : RowFacts (Str.ofString "h#") (Str.ofString "?") p := rowFacts (by decide +kernel) (by decide +kernel) (by decide +kernel) (by decide +kernel) (fun y hy => (ga y (List.mem_append_left _ hy)).2) (by rw [← hvp.length]; omega)
    have gu := ga u (List.mem_append_right _ (.head _))
    have oku := gu.2.2
    have cutA := cut_some (Str.ofString "h#") p u "?" 63 qm_is gu.1
    k_steps
    exact ret _ _ _ _ _ _ _ (.inr ⟨_, _, _, rfl, rfl, rfl⟩) (by assumption) (cb_drop (by assumption) (by intro q hq; rcases List.mem_cons.mp hq with rfl | hq; (· exact .head _); (repeat' (first | exact hq | refine .tail _ ?_)))) (by rename (_ ∧ _) => l9; first | exact kst_ltOf l9.2 | exact kst_ltOf l9.2.2 | exact kst_ltOf l9.2.2.2 | exact kst_ltOf l9.2.2.2.2) rfl (fun q h1 h2 => by simp only [h1, h2, if_false])
theorem come01 {a : List Str} {va : List Value} {la : Addr} {c : Nat} {tl : Tok}
    (B : Below callerA base [] h₀) (X : (hd.heap_39 w.params).In h₀) (T : Top p loose mean mg mb h₀) (F : Fr h₀ L s.heap m) (N : News h₀ L s.heap news)
    (hva : StrsAre va a) (hla : (la, listOf va.toArray c) ∈ news) (ga : ∀ x ∈ a, 35 ∉ x.cps.toList ∧ x.length ≤ 3 ∧ Ok x) (hn : va.length ≤ 16)
    (h1 : m (Str.ofString "behind") = some (.ref la)) (h2 : m (Str.ofString "right") = some (.str (rowT (Str.ofString "h?") (Str.ofString "#") a) tl))
    (ret : ∀ D x tx v h' tk' m', Cut (Str.ofString "h?") (Str.ofString "#") a x v → Fr h₀ L h' m' → News h₀ L h' ((D, tupObj [.str x tx, v]) :: news) → (∀ p ∈ news, p.1 < D) → m' (Str.ofString "come") = some (.ref D) → (∀ q, q ≠ Str.ofString "due" → q ≠ Str.ofString "come" → m' q = m q) → Q .next { s with heap := h', toks := tk' }) :
    wpAny (model PySem.Challenge.rw_dn0238_01.row.prog w) (callerA.deeper (env01 L fa cd)) (execs (grp4 turn01 8) (env01 L fa cd)) Q NoE s := by
  revert X; k_fill; intro X
  obtain ⟨sh, sg, sd, st, so⟩ := s
  dsimp only at F N ret
  conv in (execs _ _) => arg 1; whnf
  unfold env01
  conv in (occs := *) (fnScope _) => all_goals whnf
  rcases strs_last hva with ⟨rfl, rfl⟩ | ⟨vp, p, u, tu, rfl, rfl, hvp⟩
  · have rfA : RowFacts (Str.ofString "h?") (Str.ofString "#") [] := rowFacts (by decide +kernel) (by decide +kernel) (by decide +kernel) (by decide +kernel) (fun y hy => nomatch hy) (by decide)
    have cutA := cut_none (Str.ofString "h?") "#" 35 hs_is (by decide +kernel)
    k_steps
    exact ret _ _ _ _ _ _ _ (.inl ⟨rfl, rfl, rfl⟩) (by assumption) (cb_drop (by assumption) (by intro q hq; rcases List.mem_cons.mp hq with rfl | hq; (· exact .head _); (repeat' (first | exact hq | refine .tail _ ?_)))) (by rename (_ ∧ _) => l9; first | exact kst_ltOf l9.2 | exact kst_ltOf l9.2.2 | exact kst_ltOf l9.2.2.2 | exact kst_ltOf l9.2.2.2.2) rfl (fun q h1 h2 => by simp only [h1, h2, if_false])
  · have rfA : RowFacts (Str.ofString "h?") (Str.ofString "#") (p ++ [u]) := rowFacts (by decide +kernel) (by decide +kernel) (by decide +kernel) (by decide +kernel) (fun y hy => (ga y hy).2) (by rw [← hva.length]; omega)
    simp only [List.length_append, List.length_cons, List.length_nil] at hn
    have rfB : RowFacts (Str.ofString "h?") (Str.ofString "#") p := rowFacts (by decide +kernel) (by decide +kernel) (by decide +kernel) (by decide +kernel) (fun y hy => (ga y (List.mem_append_left _ hy)).2) (by rw [← hvp.length]; omega)
    have gu := ga u (List.mem_append_right _ (.head _))
    have oku := gu.2.2
    have cutA := cut_some (Str.ofString "h?") p u "#" 35 hs_is gu.1
    k_steps
    exact ret _ _ _ _ _ _ _ (.inr ⟨_, _, _, rfl, rfl, rfl⟩) (by assumption) (cb_drop (by assumption) (by intro q hq; rcases List.mem_cons.mp hq with rfl | hq; (· exact .head _); (repeat' (first | exact hq | refine .tail _ ?_)))) (by rename (_ ∧ _) => l9; first | exact kst_ltOf l9.2 | exact kst_ltOf l9.2.2 | exact kst_ltOf l9.2.2.2 | exact kst_ltOf l9.2.2.2.2) rfl (fun q h1 h2 => by simp only [h1, h2, if_false])
end
end Mine
end

section
open PySem PySem.W PyProof.Rows PySem.Spec PySem.Calls
set_option Elab.async false
set_option maxRecDepth 100000
set_option linter.unusedVariables false
set_option maxHeartbeats 8000000
namespace Mine
local macro_rules | `(tactic| walk_at "eval Name") => `(tactic| (k_here; k_dflt (refine' ld ?k1 ?k2 ?_; (case k1 => k_asm); (case k2 => first | exact rfl | assumption); k_whole)))
local macro_rules | `(tactic| k_mem) => `(tactic| assumption)
local macro_rules | `(tactic| walk_at "truthy ref") => `(tactic| (k_here; k_dflt (first | (refine' tr_nil ?N ?m ?_; (case N => k_asm); (case m => k_mem)) | (refine' tr_snoc ?N ?m ?z ?_; (case N => k_asm); (case m => k_mem); (case z => (simp only [List.length_append, List.length_cons, List.length_nil]; omega))))))
local macro_rules | `(tactic| walk_at "subscriptTail Name Slice ref ref") => `(tactic| (k_here; (with_reducible show wpAny _ _ (subscriptTail _ (PySem.Expr.Slice _ _ none _) (Value.ref _) (Value.ref _)) _ _ _); k_dflt (refine' sl_lit ?F ?N ?l ?p ?q ?e ?_ ?s ?t ?z; (case F => k_asm); (case N => k_asm); (case l => k_mem); (case p => kmk_part); (case q => kmk_part); (case e => first | exact pick_left _ _ _ rfl | exact pick_right _ _ _ rfl | exact pick_init _ _); (case s => with_unfolding_all rfl); (case t => kmk_pure); (case z => (simp only [List.length_append, List.length_cons, List.length_nil, sizeLine_eq]; omega))); intro D' h' F' N' l1; (try k_lt l1); (try k_sweep)))
local macro_rules | `(tactic| walk_at "subscriptTail Name UnaryOp ref int") => `(tactic| (k_here; (with_reducible show wpAny _ _ (subscriptTail _ _ (Value.ref _) (Value.int (-1) _)) _ _ _); k_dflt (refine' item_last ?N ?l ?_ ?s ?t; (case N => k_asm); (case l => k_mem); (case s => with_unfolding_all rfl); (case t => kmk_pure))))
local macro_rules | `(tactic| walk_at "call ref") => `(tactic| (k_here; (with_reducible show wpAny _ _ (call (Value.ref 33) _) _ _ _); k_dflt (refine' CallOK.use (row_ok _ _ _ _ _ _ _ _ _ ?hw ?hz (by decide +kernel) (by decide +kernel) ?h3 ?h16) ?B ?F ?X ?N ?T ?hk ?hd ?hu ?hp ?_; (case B => k_asm); (case F => k_asm); (case X => k_asm); (case N => k_asm); (case T => k_asm); (case hk => exact rfl); (case hp => k_mem); (case hw => assumption); (case hz => (simp only [List.size_toArray, List.length_append, List.length_cons, List.length_nil, sizeLine_eq]; omega)); (case h3 => exact RowFacts.ws3 (by assumption)); (case h16 => exact RowFacts.n16 (by assumption)); (case hd => ktr_room); (case hu => ktr_units)); intro v' add' h' tk' hR' F' N' l1; obtain ⟨t', e1', e2'⟩ := hR'; subst e1'; subst e2'; clear l1; (simp only [List.nil_append] at N'); (try dsimp only); (try k_sweep)))
local macro_rules | `(tactic| walk_at "call ref") => `(tactic| (k_here; (with_reducible show wpAny _ _ (call (Value.ref 21) _) _ _ _); k_dflt (first
  | (refine' CallOK.use (query_some _ _ _ _ _ ?hx ?hr) ?B ?F ?X ?N ?T ?hk ?hd ?hu trivial ?_; (case B => k_asm); (case F => k_asm); (case X => k_asm); (case N => k_asm); (case T => k_asm); (case hk => exact rfl); (case hr => assumption); (case hx => exact Nat.le_trans (RowFacts.len (by assumption)) (by rw [sizeLine_eq]; omega)); (case hd => ktr_room); (case hu => ktr_units); (intro v' add' h' tk' hR' F' N' l1; obtain ⟨D', t1', t2', e1', e2'⟩ := hR'; subst e1'; subst e2'; replace l1 := lt_one l1))
  | (refine' CallOK.use (query_none _ _ _ ?hx ?hr) ?B ?F ?X ?N ?T ?hk ?hd ?hu trivial ?_; (case B => k_asm); (case F => k_asm); (case X => k_asm); (case N => k_asm); (case T => k_asm); (case hk => exact rfl); (case hr => assumption); (case hx => exact Nat.le_trans (RowFacts.len (by assumption)) (by rw [sizeLine_eq]; omega)); (case hd => ktr_room); (case hu => ktr_units); (intro v' add' h' tk' hR' F' N' l1; obtain ⟨D', e1', e2'⟩ := hR'; subst e1'; subst e2'; replace l1 := lt_one l1))); (simp only [List.cons_append, List.nil_append] at N'); (try k_lt l1); (try dsimp only); (try k_sweep)))
local macro_rules | `(tactic| walk_at "call ref") => `(tactic| (k_here; (with_reducible show wpAny _ _ (call (Value.ref 28) _) _ _ _); k_dflt (first
  | (refine' CallOK.use (tag_some _ _ _ _ _ ?hx ?hr) ?B ?F ?X ?N ?T ?hk ?hd ?hu trivial ?_; (case B => k_asm); (case F => k_asm); (case X => k_asm); (case N => k_asm); (case T => k_asm); (case hk => exact rfl); (case hr => assumption); (case hx => exact Nat.le_trans (RowFacts.len (by assumption)) (by rw [sizeLine_eq]; omega)); (case hd => ktr_room); (case hu => ktr_units); (intro v' add' h' tk' hR' F' N' l1; obtain ⟨D', t1', t2', e1', e2'⟩ := hR'; subst e1'; subst e2'; replace l1 := lt_one l1))
  | (refine' CallOK.use (tag_none _ _ _ ?hx ?hr) ?B ?F ?X ?N ?T ?hk ?hd ?hu trivial ?_; (case B => k_asm); (case F => k_asm); (case X => k_asm); (case N => k_asm); (case T => k_asm); (case hk => exact rfl); (case hr => assumption); (case hx => exact Nat.le_trans (RowFacts.len (by assumption)) (by rw [sizeLine_eq]; omega)); (case hd => ktr_room); (case hu => ktr_units); (intro v' add' h' tk' hR' F' N' l1; obtain ⟨D', e1', e2'⟩ := hR'; subst e1'; subst e2'; replace l1 := lt_one l1))); (simp only [List.cons_append, List.nil_append] at N'); (try k_lt l1); (try dsimp only); (try k_sweep)))
local macro_rules | `(tactic| walk_at "compareOp NotEq ref ref") => `(tactic| (k_here; k_dflt (first
  | (refine' tup_ne_ss ?N ?a ?b ?x ?y ?u ?_; (case N => k_asm); (case a => k_mem); (case b => k_mem); (case x => exact RowFacts.ok (by assumption)); (case y => assumption); (case u => ke_room))
  | (refine' tup_ne_sn ?N ?a ?b ?x ?u ?_; (case N => k_asm); (case a => k_mem); (case b => k_mem); (case x => exact RowFacts.ok (by assumption)); (case u => ke_room)))))
local macro_rules | `(tactic| walk_at "subscriptTail Name Slice ref ref") => `(tactic| (k_here; (with_reducible show wpAny _ _ (subscriptTail _ (PySem.Expr.Slice none none (some _) _) (Value.ref _) (Value.ref _)) _ _ _); k_dflt (refine' krv_lit ?F ?N ?l ?k ?e ?_ ?s ?t ?z; (case F => k_asm); (case N => k_asm); (case l => exact News.isList (by k_asm) (by k_mem)); (case k => exact IsPart.int _ _); (case e => exact rfl); (case s => with_unfolding_all rfl); (case t => kmk_pure); (case z => (simp only [List.size_toArray, List.length_append, List.length_cons, List.length_nil, sizeLine_eq]; omega))); intro D' h' F' N' l1; (try k_lt l1); (try k_sweep)))
local macro_rules | `(tactic| walk_at "exec Assign cons ListComp") => `(tactic| (k_here; k_dflt (refine' comp_texts (swap 35 63) ?F ?_ ?hh ?a ?b ?c ?d ?e ?f ?g ?h ?i; (case F => k_asm); (case hh => rfl); (case a => with_unfolding_all rfl); (case b => decide); (case c => decide); (case d => rfl); (case e => decide); (case f => rfl); (case g => rfl); (case h => rfl); (case i => (intro _; rfl)))))
theorem menu_item8 {prog : Program} {w : World} {A : Around} {E : Value → Shared → Prop} {s : Shared} {h₀ : Heap} {L l : Addr} {news : List (Addr × Obj)} {P : Str → Prop} {value slice : PySem.Expr} {c : Nat} {vs : List Value} {ws : List Str} {i : Int} {u : Tok} {Q : Value → Shared → Prop} (hP : ∀ y ∈ ws, P y) (N : News h₀ L s.heap news) (hm : (l, listOf vs.toArray c) ∈ news) (hw : StrsAre vs ws) (hl : ws.length = 8) 
    (h : ∀ y t', P y → Q (.str y t') s)
    (hs : subscripted slice false (.ref l) (.int (Int.fmod i 8) u) = operate [.ref l, .int (Int.fmod i 8) u] (getItem (.ref l) (.int (Int.fmod i 8) u))) :
    wpAny (model prog w) A (subscriptTail value slice (.ref l) (.int (Int.fmod i 8) u)) Q E s :=
  menu_item hP N hm hw (Int.fmod_nonneg_of_pos _ (by decide)) (by rw [hl]; exact Int.fmod_lt_of_pos _ (by decide)) (by omega) h hs
local macro_rules | `(tactic| walk_at "subscriptTail Name BinOp ref int") => `(tactic| (k_here; k_dflt (refine' menu_item8 (P := Good) ?P ?N ?l ?w ?c ?_ ?s; (case N => k_asm); (case l => k_mem); (case w => assumption); (case P => assumption); (case c => assumption); (case s => with_unfolding_all rfl)); intro wd' twd' hwd'))
local macro_rules | `(tactic| walk_at "call builtin:str.replace") => `(tactic| (k_here; (with_reducible show wpAny _ _ (call (Value.builtin "str.replace") [Value.str _ _, Value.str _ _, Value.str _ _]) _ _ _); (first | (refine rep1 (by omega) (by omega) (by omega) (by first | omega | (rw [swap_length]; omega)) ?_) | (refine rep2 (by omega) (by omega) (by omega) (by first | omega | (rw [swap_length]; omega)) ?_)); intro _ _))
section
variable (w : World) {p : Program} {loose : List Str} {mean : ExcName → Option Value} {mg mb : Str → Option Value} {base h₀ : Heap} {L fa : Addr} {cd : Value} {m : Str → Option Value} {news : List (Addr × Obj)} {s : Shared} {Q : Flow → Shared → Prop}
theorem first01 {a b menu : List Str} {va vb vm : List Value} {lw lm : Addr} {c cm : Nat} {n : Int} {tn tc : Tok}
    (B : Below callerA base [] h₀) (X : (hd.heap_39 w.params).In h₀) (T : Top p loose mean mg mb h₀) (F : Fr h₀ L s.heap m) (N : News h₀ L s.heap news)
    (hva : StrsAre va a) (hvb : StrsAre vb b) (hlw : (lw, listOf (va ++ vb).toArray c) ∈ news) (hlm : (lm, listOf vm.toArray cm) ∈ news) (hvm : StrsAre vm menu) (hm8 : menu.length = 8) (gm : ∀ y ∈ menu, Good y)
    (gb : ∀ x ∈ b, Good x) (hn : va.length + vb.length ≤ 16)
    (h1 : m (Str.ofString "number") = some (.int n tn)) (h2 : m (Str.ofString "menu") = some (.ref lm)) (h3 : m (Str.ofString "words") = some (.ref lw)) (h4 : m (Str.ofString "cursor") = some (.int (va.length : Int) tc))
    (ret : ∀ la lb c2 wd ys h' tk' m', Good wd → StrsAre ys (b.reverse.map (swap 35 63)) → Fr h₀ L h' m' → News h₀ L h' ((la, listOf va.toArray 0) :: (lb, listOf ys.toArray c2) :: news) →
      (∃ t, m' (Str.ofString "kind") = some (.int (Int.fmod n 6) t)) → (∃ t, m' (Str.ofString "word") = some (.str wd t)) → m' (Str.ofString "ahead") = some (.ref la) → m' (Str.ofString "behind") = some (.ref lb) →
      (∀ q, q ≠ Str.ofString "kind" → q ≠ Str.ofString "word" → q ≠ Str.ofString "ahead" → q ≠ Str.ofString "behind" → m' q = m q) → Q .next { s with heap := h', toks := tk' }) :
    wpAny (model PySem.Challenge.rw_dn0238_01.row.prog w) (callerA.deeper (env01 L fa cd)) (execs (grp4 turn01 0) (env01 L fa cd)) Q NoE s := by
  revert X; k_fill; intro X
  obtain ⟨sh, sg, sd, st, so⟩ := s
  dsimp only at F N ret
  conv in (execs _ _) => arg 1; whnf
  unfold env01
  conv in (occs := *) (fnScope _) => all_goals whnf
  k_steps
  refine ⟨_, _, b.reverse, _, _, rfl, News.isList (by k_asm) (.head _), strs_rev hvb, by k_asm, by k_asm, ?_, ?_, ?_⟩
  · rw [List.length_reverse, ← hvb.length, sizeLine_eq]; omega
  · intro C y t s₂ m₂ E' hy hn hx ht
    have gy := (gb y (List.mem_reverse.mp hy)).2.1
    dsimp only at ht
    k_steps
    · exact .str _ _
    · exact ⟨_, _, rfl, fun _ _ e => e⟩
  · intro D n ys h' tk F' N' hne hys
    k_steps
    refine ret _ _ n _ _ _ _ _ (by assumption) hys (by assumption) ?_ ⟨_, rfl⟩ ⟨_, rfl⟩ rfl rfl (fun q h1 h2 h3 h4 => by simp only [h1, h2, h3, h4, if_false])
    exact cb_drop (by assumption) (by intro q hq; simp only [List.mem_cons] at hq ⊢; rcases hq with h | h | h <;> simp only [h, true_or, or_true])
end
end Mine
end

section
open PySem PySem.W PyProof.Rows PySem.Spec PySem.Calls
set_option Elab.async false
set_option maxRecDepth 100000
set_option linter.unusedVariables false
set_option maxHeartbeats 1000000
namespace Mine
def Inv01 (words : List Str) (cursor : Int) (left right : Str) : Prop :=
  ∃ a b, words = a ++ b ∧ cursor = (a.length : Int) ∧ a.length + b.length ≤ 16 ∧ (∀ x ∈ a, Good x) ∧ (∀ x ∈ b, Good x) ∧
  left = rowT (Str.ofString "h#") (Str.ofString "?") a ∧ right = rowT (Str.ofString "h?") (Str.ofString "#") (b.reverse.map (swap 35 63))
theorem len_qm : (Str.ofString "?").length = 1 := by decide +kernel
theorem len_hs : (Str.ofString "#").length = 1 := by decide +kernel
theorem good_app {p : List Str} {u : Str} (h : ∀ x ∈ p, Good x) (hu : Good u) : ∀ x ∈ p ++ [u], Good x := fun x hx => (List.mem_append.mp hx).elim (h x) fun h => by rw [List.mem_singleton.mp h]; exact hu
theorem good_cons {p : List Str} {u : Str} (h : ∀ x ∈ p, Good x) (hu : Good u) : ∀ x ∈ u :: p, Good x := fun x hx => (List.mem_cons.mp hx).elim (fun e => e ▸ hu) (h x)
theorem rowT_add (f m : Str) (ws : List Str) (u : Str) : rowT f m ws ++ (m ++ u) = rowT f m (ws ++ [u]) := by rw [rowT_snoc, Str.append_assoc]
theorem rev_cons (b : List Str) (u : Str) : (u :: b).reverse.map (swap 35 63) = b.reverse.map (swap 35 63) ++ [swap 35 63 u] := by rw [List.reverse_cons, List.map_append]; rfl
theorem back_good {v : Str} (h : Good v) : swap 63 35 (swap 35 63 v) = v := swap_back 35 63 v h.1
section
variable {prog : Program} {w : World} {A : Around} {E : Value → Shared → Prop} {s : Shared} {h₀ : Heap} {L D l : Addr} {m : Str → Option Value} {news : List (Addr × Obj)}
theorem insert_flex {c : Nat} {va vb : List Value} {x : Int} {u : Tok} {y : Value} {Q : Value → Shared → Prop} (F : Fr h₀ L s.heap m) (N : News h₀ L s.heap news)
    (hm : (D, listOf (va ++ vb).toArray c) ∈ news) (hx : x = (va.length : Int)) (hz : (va ++ vb).length ≤ sizeLine) (h : ∀ h', Fr h₀ L h' m → News h₀ L h' ((D, listOf (va ++ y :: vb).toArray (c + 1)) :: news.filter fun p => decide (p.1 ≠ D)) → Q .none { s with heap := h' }) :
    wpAny (model prog w) A (call (.builtin "list.insert") [.ref D, .int x u, y]) Q E s := insert_at hx F (news_flex N hm) (upd_flex _) hz h
theorem set_flex {c : Nat} {vs ws : List Value} {k : Int} {t : Tok} {v : Value} {Q : Unit → Shared → Prop} (F : Fr h₀ L s.heap m) (N : News h₀ L s.heap news) (hm : (D, listOf vs.toArray c) ∈ news) (h0 : 0 ≤ k) (h1 : k < (vs.length : Int)) (hfit : k < 2 ^ 63) (e : vs.set k.toNat v = ws)
    (h : ∀ h', Fr h₀ L h' m → News h₀ L h' ((D, listOf ws.toArray c) :: news.filter fun p => decide (p.1 ≠ D)) → Q () { s with heap := h' }) :
    wpAny (model prog w) A (setItem (.ref D) (.int k t) v) Q E s := set_at F (news_flex N hm) h0 h1 hfit e (upd_flex _) h
theorem got_r (vp vq : List Value) (x y : Value) : (vp ++ [x] ++ (y :: vq))[(((vp.length + (0 + 1) : Nat) : Int)).toNat]? = some y := by simp
theorem got_l (vp vq : List Value) (x y : Value) : (vp ++ [x] ++ (y :: vq))[((((vp.length + (0 + 1) : Nat) : Int)) - 1).toNat]? = some x := by simp
theorem put_r (vp vq : List Value) (x y z : Value) : (vp ++ [x] ++ (y :: vq)).set (((vp.length + (0 + 1) : Nat) : Int)).toNat z = vp ++ [x] ++ (z :: vq) := by simp
theorem put_l (vp vq : List Value) (x y z : Value) : (vp ++ [x] ++ (y :: vq)).set ((((vp.length + (0 + 1) : Nat) : Int)) - 1).toNat z = vp ++ [z] ++ (y :: vq) := by simp
theorem news_back' {o' : Obj} {h : Heap} {big : List (Addr × Obj)} (N : News h₀ L h ((D, o') :: big)) (hb : ∀ p ∈ news, p.1 ≠ D → p ∈ big) : ∀ news', (∀ p ∈ news', p = (D, o') ∨ (p ∈ news ∧ p.1 ≠ D)) → News h₀ L h news' := fun news' hs p hp => by
  rcases hs p hp with rfl | ⟨h1, h2⟩
  · exact N _ (.head _)
  · exact N _ (.tail _ (hb _ h1 h2))
theorem pop_flex {c : Nat} {vp vb : List Value} {x : Int} {u : Tok} {y : Value} {Q : Value → Shared → Prop} (F : Fr h₀ L s.heap m) (N : News h₀ L s.heap news)
    (hm : (D, listOf (vp ++ [y] ++ vb).toArray c) ∈ news) (hx : x = (vp.length : Int)) (hz : (vp ++ [y] ++ vb).length ≤ sizeLine) (h : ∀ h', Fr h₀ L h' m → News h₀ L h' ((D, listOf (vp ++ vb).toArray (c + 1)) :: news.filter fun p => decide (p.1 ≠ D)) → Q y { s with heap := h' }) :
    wpAny (model prog w) A (call (.builtin "list.pop") [.ref D, .int x u]) Q E s := pop_at hx F (news_flex N hm) (upd_flex _) hz h
end
local macro_rules | `(tactic| walk_at "eval Name") => `(tactic| (k_here; k_dflt (refine' ld ?k1 ?k2 ?_; (case k1 => k_asm); (case k2 => first | exact rfl | assumption); k_whole)))
local macro_rules | `(tactic| walk_at "loadName") => `(tactic| (k_here; k_dflt (refine' ldn ?k1 ?k2 ?_; (case k1 => k_asm); (case k2 => first | exact rfl | assumption); k_whole)))
local macro_rules | `(tactic| k_mem) => `(tactic| assumption)
local macro_rules | `(tactic| walk_at "truthy ref") => `(tactic| (k_here; k_dflt (first | (refine' tr_nil ?N ?m ?_; (case N => k_asm); (case m => k_mem)) | (refine' tr_snoc ?N ?m ?z ?_; (case N => k_asm); (case m => k_mem); (case z => (simp only [List.length_append, List.length_cons, List.length_nil]; omega))))))
local macro_rules | `(tactic| walk_at "subscriptTail Name Slice ref ref") => `(tactic| (k_here; (with_reducible show wpAny _ _ (subscriptTail _ (PySem.Expr.Slice _ _ none _) (Value.ref _) (Value.ref _)) _ _ _); k_dflt (refine' sl_lit ?F ?N ?l ?p ?q ?e ?_ ?s ?t ?z; (case F => k_asm); (case N => k_asm); (case l => k_mem); (case p => kmk_part); (case q => kmk_part); (case e => first | exact pick_left _ _ _ rfl | exact pick_right _ _ _ rfl | exact pick_init _ _); (case s => with_unfolding_all rfl); (case t => kmk_pure); (case z => (simp only [List.length_append, List.length_cons, List.length_nil, sizeLine_eq]; omega))); intro D' h' F' N' l1; (try k_lt l1); (try k_sweep)))
local macro_rules | `(tactic| walk_at "subscriptTail Name UnaryOp ref int") => `(tactic| (k_here; (with_reducible show wpAny _ _ (subscriptTail _ _ (Value.ref _) (Value.int (-1) _)) _ _ _); k_dflt (refine' item_last ?N ?l ?_ ?s ?t; (case N => k_asm); (case l => k_mem); (case s => with_unfolding_all rfl); (case t => kmk_pure))))
local macro_rules | `(tactic| walk_at "call ref") => `(tactic| (k_here; (with_reducible show wpAny _ _ (call (Value.ref 33) _) _ _ _); k_dflt (refine' CallOK.use (row_ok _ _ _ _ _ _ _ _ _ ?hw ?hz (by decide +kernel) (by decide +kernel) ?h3 ?h16) ?B ?F ?X ?N ?T ?hk ?hd ?hu ?hp ?_; (case B => k_asm); (case F => k_asm); (case X => k_asm); (case N => k_asm); (case T => k_asm); (case hk => exact rfl); (case hp => k_mem); (case hw => assumption); (case hz => (simp only [List.size_toArray, List.length_append, List.length_cons, List.length_nil, sizeLine_eq]; omega)); (case h3 => exact RowFacts.ws3 (by assumption)); (case h16 => exact RowFacts.n16 (by assumption)); (case hd => ktr_room); (case hu => ktr_units)); intro v' add' h' tk' hR' F' N' l1; obtain ⟨t', e1', e2'⟩ := hR'; subst e1'; subst e2'; clear l1; (simp only [List.nil_append] at N'); (try dsimp only); (try k_sweep)))
local macro_rules | `(tactic| walk_at "call ref") => `(tactic| (k_here; (with_reducible show wpAny _ _ (call (Value.ref 21) _) _ _ _); k_dflt (first
  | (refine' CallOK.use (query_some _ _ _ _ _ ?hx ?hr) ?B ?F ?X ?N ?T ?hk ?hd ?hu trivial ?_; (case B => k_asm); (case F => k_asm); (case X => k_asm); (case N => k_asm); (case T => k_asm); (case hk => exact rfl); (case hr => assumption); (case hx => exact Nat.le_trans (RowFacts.len (by assumption)) (by rw [sizeLine_eq]; omega)); (case hd => ktr_room); (case hu => ktr_units); (intro v' add' h' tk' hR' F' N' l1; obtain ⟨D', t1', t2', e1', e2'⟩ := hR'; subst e1'; subst e2'; replace l1 := lt_one l1))
  | (refine' CallOK.use (query_none _ _ _ ?hx ?hr) ?B ?F ?X ?N ?T ?hk ?hd ?hu trivial ?_; (case B => k_asm); (case F => k_asm); (case X => k_asm); (case N => k_asm); (case T => k_asm); (case hk => exact rfl); (case hr => assumption); (case hx => exact Nat.le_trans (RowFacts.len (by assumption)) (by rw [sizeLine_eq]; omega)); (case hd => ktr_room); (case hu => ktr_units); (intro v' add' h' tk' hR' F' N' l1; obtain ⟨D', e1', e2'⟩ := hR'; subst e1'; subst e2'; replace l1 := lt_one l1))); (simp only [List.cons_append, List.nil_append] at N'); (try k_lt l1); (try dsimp only); (try k_sweep)))
local macro_rules | `(tactic| walk_at "call ref") => `(tactic| (k_here; (with_reducible show wpAny _ _ (call (Value.ref 28) _) _ _ _); k_dflt (first
  | (refine' CallOK.use (tag_some _ _ _ _ _ ?hx ?hr) ?B ?F ?X ?N ?T ?hk ?hd ?hu trivial ?_; (case B => k_asm); (case F => k_asm); (case X => k_asm); (case N => k_asm); (case T => k_asm); (case hk => exact rfl); (case hr => assumption); (case hx => exact Nat.le_trans (RowFacts.len (by assumption)) (by rw [sizeLine_eq]; omega)); (case hd => ktr_room); (case hu => ktr_units); (intro v' add' h' tk' hR' F' N' l1; obtain ⟨D', t1', t2', e1', e2'⟩ := hR'; subst e1'; subst e2'; replace l1 := lt_one l1))
  | (refine' CallOK.use (tag_none _ _ _ ?hx ?hr) ?B ?F ?X ?N ?T ?hk ?hd ?hu trivial ?_; (case B => k_asm); (case F => k_asm); (case X => k_asm); (case N => k_asm); (case T => k_asm); (case hk => exact rfl); (case hr => assumption); (case hx => exact Nat.le_trans (RowFacts.len (by assumption)) (by rw [sizeLine_eq]; omega)); (case hd => ktr_room); (case hu => ktr_units); (intro v' add' h' tk' hR' F' N' l1; obtain ⟨D', e1', e2'⟩ := hR'; subst e1'; subst e2'; replace l1 := lt_one l1))); (simp only [List.cons_append, List.nil_append] at N'); (try k_lt l1); (try dsimp only); (try k_sweep)))
local macro_rules | `(tactic| walk_at "compareOp NotEq ref ref") => `(tactic| (k_here; k_dflt (first
  | (refine' tup_ne_ss ?N ?a ?b ?x ?y ?u ?_; (case N => k_asm); (case a => k_mem); (case b => k_mem); (case x => exact RowFacts.ok (by assumption)); (case y => assumption); (case u => ke_room))
  | (refine' tup_ne_sn ?N ?a ?b ?x ?u ?_; (case N => k_asm); (case a => k_mem); (case b => k_mem); (case x => exact RowFacts.ok (by assumption)); (case u => ke_room)))))
local macro_rules | `(tactic| walk_at "subscriptTail Name Slice ref ref") => `(tactic| (k_here; (with_reducible show wpAny _ _ (subscriptTail _ (PySem.Expr.Slice none none (some _) _) (Value.ref _) (Value.ref _)) _ _ _); k_dflt (refine' krv_lit ?F ?N ?l ?k ?e ?_ ?s ?t ?z; (case F => k_asm); (case N => k_asm); (case l => exact News.isList (by k_asm) (by k_mem)); (case k => exact IsPart.int _ _); (case e => exact rfl); (case s => with_unfolding_all rfl); (case t => kmk_pure); (case z => (simp only [List.size_toArray, List.length_append, List.length_cons, List.length_nil, sizeLine_eq]; omega))); intro D' h' F' N' l1; (try k_lt l1); (try k_sweep)))
local macro_rules | `(tactic| walk_at "exec Assign cons ListComp") => `(tactic| (k_here; k_dflt (refine' comp_texts (swap 35 63) ?F ?_ ?hh ?a ?b ?c ?d ?e ?f ?g ?h ?i; (case F => k_asm); (case hh => rfl); (case a => with_unfolding_all rfl); (case b => decide); (case c => decide); (case d => rfl); (case e => decide); (case f => rfl); (case g => rfl); (case h => rfl); (case i => (intro _; rfl)))))
local macro_rules | `(tactic| walk_at "call builtin:str.replace") => `(tactic| (k_here; (with_reducible show wpAny _ _ (call (Value.builtin "str.replace") [Value.str _ _, Value.str _ _, Value.str _ _]) _ _ _); (first | (refine rep1 (by omega) (by omega) (by omega) (by first | omega | (rw [swap_length]; omega)) ?_) | (refine rep2 (by omega) (by omega) (by omega) (by first | omega | (rw [swap_length]; omega)) ?_)); intro _ _))
local macro_rules | `(tactic| walk_at "binaryOp Add str str") => `(tactic| (k_here; (refine SBL.add (hsz := ?hsz) ?_); (case hsz => (simp only [Str.length_append, swap_length, len_qm, len_hs, sizeLine_eq]; omega)); intro _ _ _))
local macro_rules | `(tactic| walk_at "inplaceOp Add str str") => `(tactic| (k_here; (refine SBL.iadd (hsz := ?hsz) ?_); (case hsz => (simp only [Str.length_append, swap_length, len_qm, len_hs, sizeLine_eq]; omega)); intro _ _ _))
local macro_rules | `(tactic| walk_at "call builtin:list.insert") => `(tactic| (k_here; k_dflt (refine' insert_flex ?F ?N ?l ?x ?z ?_; (case F => k_asm); (case N => k_asm); (case l => k_mem); (case x => rfl); (case z => (simp only [List.length_append, sizeLine_eq]; omega))); intro h' F' N'; (try k_sweep)))
local macro_rules | `(tactic| walk_at "call builtin:list.pop") => `(tactic| (k_here; k_dflt (refine' pop_flex ?F ?N ?l ?x ?z ?_; (case F => k_asm); (case N => k_asm); (case l => k_mem); (case x => (simp only [List.length_append, List.length_cons, List.length_nil]; omega)); (case z => (simp only [List.length_append, List.length_cons, List.length_nil, sizeLine_eq]; omega))); intro h' F' N'; (try k_sweep)))
local macro_rules | `(tactic| walk_at "call builtin:len") => `(tactic| (k_here; k_dflt (refine' len_item ?N ?l ?z ?_; (case N => k_asm); (case l => k_mem); (case z => (simp only [List.length_append, List.length_cons, List.length_nil]; omega)))))
section
variable (w : World) {p : Program} {loose : List Str} {mean : ExcName → Option Value} {mg mb : Str → Option Value} {base h₀ : Heap} {L fa : Addr} {cd : Value} {m : Str → Option Value} {news : List (Addr × Obj)} {s : Shared} {Q : Flow → Shared → Prop}
theorem last01 {a b : List Str} {va vb ys : List Value} {lw la lb Dg Dc : Addr} {c ca cb : Nat} {k : Int} {tk0 tw tc tl tr tg tq : Tok} {wd xg xc : Str} {vg vc : Value}
    (B : Below callerA base [] h₀) (X : (hd.heap_39 w.params).In h₀) (T : Top p loose mean mg mb h₀) (F : Fr h₀ L s.heap m) (N : News h₀ L s.heap news)
    (hva : StrsAre va a) (hvb : StrsAre vb b) (hys : StrsAre ys (b.reverse.map (swap 35 63))) (hlw : (lw, listOf (va ++ vb).toArray c) ∈ news) (hla : (la, listOf va.toArray ca) ∈ news) (hlb : (lb, listOf ys.toArray cb) ∈ news)
    (hDg : (Dg, tupObj [.str xg tg, vg]) ∈ news) (hDc : (Dc, tupObj [.str xc tq, vc]) ∈ news) (cg : Cut (Str.ofString "h#") (Str.ofString "?") a xg vg) (cc : Cut (Str.ofString "h?") (Str.ofString "#") (b.reverse.map (swap 35 63)) xc vc)
    (ga : ∀ x ∈ a, Good x) (gb : ∀ x ∈ b, Good x) (gw : Good wd) (hn : va.length + vb.length ≤ 16) (hk0 : 0 ≤ k) (hk6 : k < 6)
    (h1 : m (Str.ofString "kind") = some (.int k tk0)) (h2 : m (Str.ofString "word") = some (.str wd tw)) (h3 : m (Str.ofString "words") = some (.ref lw)) (h4 : m (Str.ofString "cursor") = some (.int (va.length : Int) tc))
    (h5 : m (Str.ofString "ahead") = some (.ref la)) (h6 : m (Str.ofString "behind") = some (.ref lb)) (h7 : m (Str.ofString "gone") = some (.ref Dg)) (h8 : m (Str.ofString "come") = some (.ref Dc))
    (h9 : m (Str.ofString "left") = some (.str (rowT (Str.ofString "h#") (Str.ofString "?") a) tl)) (h10 : m (Str.ofString "right") = some (.str (rowT (Str.ofString "h?") (Str.ofString "#") (b.reverse.map (swap 35 63))) tr))
    (ret : ∀ words' vs' c' cur' left' right' h' tk' m', StrsAre vs' words' → Inv01 words' cur' left' right' → Fr h₀ L h' m' → (∀ news', (∀ p ∈ news', p = (lw, listOf vs'.toArray c') ∨ (p ∈ news ∧ p.1 ≠ lw)) → News h₀ L h' news') →
      (∃ t, m' (Str.ofString "cursor") = some (.int cur' t)) → (∃ t, m' (Str.ofString "left") = some (.str left' t)) → (∃ t, m' (Str.ofString "right") = some (.str right' t)) →
      (∀ q, q ≠ Str.ofString "cursor" → q ≠ Str.ofString "left" → q ≠ Str.ofString "right" → m' q = m q) → Q .next { s with heap := h', toks := tk' }) :
    wpAny (model PySem.Challenge.rw_dn0238_01.row.prog w) (callerA.deeper (env01 L fa cd)) (exec (nthS turn01 12) (env01 L fa cd)) Q NoE s := by
  revert X; k_fill; intro X
  obtain ⟨sh, sg, sd, st, so⟩ := s
  dsimp only at F N ret
  conv in (exec _ _) => arg 1; whnf
  unfold env01
  conv in (occs := *) (fnScope _) => all_goals whnf
  have keep : ∀ h', News h₀ L h' news → ∀ news', (∀ p ∈ news', p = (lw, listOf (va ++ vb).toArray c) ∨ (p ∈ news ∧ p.1 ≠ lw)) → News h₀ L h' news' := fun h' N' news' hs q hq => by
    rcases hs q hq with rfl | ⟨h, _⟩
    · exact N' _ hlw
    · exact N' _ h
  have la' := hva.length
  have lb' := hvb.length
  have same : Inv01 (a ++ b) (va.length : Int) (rowT (Str.ofString "h#") (Str.ofString "?") a) (rowT (Str.ofString "h?") (Str.ofString "#") (b.reverse.map (swap 35 63))) := ⟨a, b, rfl, by rw [la'], by omega, ga, gb, rfl, rfl⟩
  have hR : ∀ y ∈ b.reverse.map (swap 35 63), y.length ≤ 3 ∧ Ok y := fun y hy => by
    obtain ⟨z, hz, rfl⟩ := List.mem_map.mp hy
    have gz := gb z (List.mem_reverse.mp hz)
    exact ⟨by rw [swap_length]; exact gz.2.1, gz.2.2.swap (by decide)⟩
  have lnA := (rowFacts (f := Str.ofString "h#") (mk := Str.ofString "?") (by decide +kernel) (by decide +kernel) (by decide +kernel) (by decide +kernel) (fun y hy => (ga y hy).2) (by omega : a.length ≤ 16)).len
  have lnB := (rowFacts (f := Str.ofString "h?") (mk := Str.ofString "#") (by decide +kernel) (by decide +kernel) (by decide +kernel) (by decide +kernel) hR (by rw [List.length_map, List.length_reverse]; omega)).len
  have lnw := gw.2.1
  rcases (by omega : k = 0 ∨ k = 1 ∨ k = 2 ∨ k = 3 ∨ k = 4 ∨ k = 5) with rfl | rfl | rfl | rfl | rfl | rfl
  · -- back over a word
    rcases cg with ⟨rfl, rfl, rfl⟩ | ⟨p, u, t, rfl, rfl, rfl⟩
    · cases hva
      k_steps
      rename Fr _ _ _ _ => Ff; rename News _ _ _ _ => Nf; exact ret _ _ _ _ _ _ _ _ _ (strs_app .nil hvb) same Ff (keep _ Nf) ⟨_, h4⟩ ⟨_, h9⟩ ⟨_, h10⟩ (fun _ _ _ _ => rfl)
    · obtain ⟨vp, vq, rfl, hvp, hvq⟩ := strs_split hva
      cases hvq with
      | cons _ tu r =>
      cases r
      have gu := ga u (List.mem_append_right _ (.head _))
      have lnu := gu.2.1
      have lp := hvp.length
      simp only [List.length_append, List.length_cons, List.length_nil] at hn la'
      k_steps
      rename Fr _ _ _ _ => Ff
      rename News _ _ _ _ => Nf
      refine ret _ _ _ _ _ _ _ _ _ (strs_app hva hvb) ?_ Ff (keep _ Nf) ⟨_, rfl⟩ ⟨_, rfl⟩ ⟨_, rfl⟩ (fun q h1 h2 h3 => by simp only [h1, h2, h3, if_false])
      exact ⟨p, u :: b, by simp, by simp [lp], by simp only [List.length_cons]; omega, fun x hx => ga x (List.mem_append_left _ hx), good_cons gb gu, rfl, by rw [rev_cons, ← rowT_add]⟩
  · -- on over a word
    rcases cc with ⟨e, rfl, rfl⟩ | ⟨P, U, t, e, rfl, rfl⟩
    · have hb0 : b = [] := by simpa using e
      subst hb0
      cases hvb
      cases hys
      k_steps
      rename Fr _ _ _ _ => Ff; rename News _ _ _ _ => Nf; exact ret _ _ _ _ _ _ _ _ _ (strs_app hva .nil) same Ff (keep _ Nf) ⟨_, h4⟩ ⟨_, h9⟩ ⟨_, h10⟩ (fun _ _ _ _ => rfl)
    · cases b with
      | nil => simp at e
      | cons v q =>
      rw [rev_cons] at e
      obtain ⟨rfl, e2⟩ := List.append_inj' e rfl
      obtain rfl := (List.cons.inj e2).1
      rw [rev_cons] at hys
      obtain ⟨yq, yl, rfl, hyq, hyl⟩ := strs_split hys
      cases hyl with
      | cons _ tyv hnil =>
      cases hnil
      have gv := gb v (.head _)
      have lnv := gv.2.1
      have ly := hyq.length
      rw [List.length_map, List.length_reverse] at ly
      simp only [List.length_cons] at lb'
      k_steps
      rename Fr _ _ _ _ => Ff
      rename News _ _ _ _ => Nf
      refine ret _ _ _ _ _ _ _ _ _ (strs_app hva hvb) ?_ Ff (keep _ Nf) ⟨_, rfl⟩ ⟨_, rfl⟩ ⟨_, rfl⟩ (fun q h1 h2 h3 => by simp only [h1, h2, h3, if_false])
      exact ⟨a ++ [v], q, by simp, by simp [la'], by simp only [List.length_append, List.length_cons, List.length_nil]; omega, good_app ga gv, fun x hx => gb x (.tail _ hx), by rw [back_good gv, rowT_add], rfl⟩
  · -- a word ahead
    k_steps
    · rename ((_ : Int) < 16) => h16
      simp only [List.length_append] at h16
      rename Fr _ _ _ _ => Ff
      rename News _ _ _ _ => Nf
      refine ret _ _ _ _ _ _ _ _ _ (strs_app hva (.cons _ _ hvb)) ?_ Ff (news_back Nf) ⟨_, rfl⟩ ⟨_, rfl⟩ ⟨_, h10⟩ (fun q h1 h2 h3 => by simp only [h1, h2, h3, if_false])
      exact ⟨a ++ [wd], b, by simp, by simp [la'], by simp only [List.length_append, List.length_cons, List.length_nil]; omega, good_app ga gw, gb, rowT_add _ _ _ _, rfl⟩
    · rename Fr _ _ _ _ => Ff; rename News _ _ _ _ => Nf; exact ret _ _ _ _ _ _ _ _ _ (strs_app hva hvb) same Ff (keep _ Nf) ⟨_, h4⟩ ⟨_, h9⟩ ⟨_, h10⟩ (fun _ _ _ _ => rfl)
  · -- a word behind
    k_steps
    · rename ((_ : Int) < 16) => h16
      simp only [List.length_append] at h16
      rename Fr _ _ _ _ => Ff
      rename News _ _ _ _ => Nf
      refine ret _ _ _ _ _ _ _ _ _ (strs_app hva (.cons _ _ hvb)) ?_ Ff (news_back Nf) ⟨_, h4⟩ ⟨_, h9⟩ ⟨_, rfl⟩ (fun q h1 h2 h3 => by simp only [h1, h2, h3, if_false])
      exact ⟨a, wd :: b, rfl, by rw [la'], by simp only [List.length_cons]; omega, ga, good_cons gb gw, rfl, by rw [rev_cons, ← rowT_add]⟩
    · rename Fr _ _ _ _ => Ff; rename News _ _ _ _ => Nf; exact ret _ _ _ _ _ _ _ _ _ (strs_app hva hvb) same Ff (keep _ Nf) ⟨_, h4⟩ ⟨_, h9⟩ ⟨_, h10⟩ (fun _ _ _ _ => rfl)
  · -- the word ahead goes out
    rcases cg with ⟨rfl, rfl, rfl⟩ | ⟨p, u, t, rfl, rfl, rfl⟩
    · cases hva
      k_steps
      rename Fr _ _ _ _ => Ff; rename News _ _ _ _ => Nf; exact ret _ _ _ _ _ _ _ _ _ (strs_app .nil hvb) same Ff (keep _ Nf) ⟨_, h4⟩ ⟨_, h9⟩ ⟨_, h10⟩ (fun _ _ _ _ => rfl)
    · obtain ⟨vp, vq, rfl, hvp, hvq⟩ := strs_split hva
      cases hvq with
      | cons _ tu r =>
      cases r
      have lp := hvp.length
      simp only [List.length_append, List.length_cons, List.length_nil] at hn la'
      k_steps
      rename Fr _ _ _ _ => Ff
      rename News _ _ _ _ => Nf
      refine ret _ _ _ _ _ _ _ _ _ (strs_app hvp hvb) ?_ Ff (news_back Nf) ⟨_, rfl⟩ ⟨_, rfl⟩ ⟨_, h10⟩ (fun q h1 h2 h3 => by simp only [h1, h2, h3, if_false])
      exact ⟨p, b, rfl, by simp [lp], by omega, fun x hx => ga x (List.mem_append_left _ hx), gb, rfl, rfl⟩
  · -- two words change places
    rcases cg with ⟨rfl, rfl, rfl⟩ | ⟨p, u, t, rfl, rfl, rfl⟩
    · cases hva
      k_steps
      rename Fr _ _ _ _ => Ff; rename News _ _ _ _ => Nf; exact ret _ _ _ _ _ _ _ _ _ (strs_app .nil hvb) same Ff (keep _ Nf) ⟨_, h4⟩ ⟨_, h9⟩ ⟨_, h10⟩ (fun _ _ _ _ => rfl)
    · obtain ⟨vp, vq, rfl, hvp, hvq⟩ := strs_split hva
      cases hvq with
      | cons _ tu r =>
      cases r
      rcases cc with ⟨e, rfl, rfl⟩ | ⟨P, U, t, e, rfl, rfl⟩
      · have hb0 : b = [] := by simpa using e
        subst hb0
        cases hvb
        cases hys
        simp only [List.length_append, List.length_cons, List.length_nil] at hn
        k_steps
        rename Fr _ _ _ _ => Ff; rename News _ _ _ _ => Nf; exact ret _ _ _ _ _ _ _ _ _ (strs_app hva .nil) same Ff (keep _ Nf) ⟨_, h4⟩ ⟨_, h9⟩ ⟨_, h10⟩ (fun _ _ _ _ => rfl)
      · cases b with
        | nil => simp at e
        | cons v q =>
        rw [rev_cons] at e
        obtain ⟨rfl, e2⟩ := List.append_inj' e rfl
        obtain rfl := (List.cons.inj e2).1
        rw [rev_cons] at hys
        obtain ⟨yq, yl, rfl, hyq, hyl⟩ := strs_split hys
        cases hyl with
        | cons _ tyv hnil =>
        cases hnil
        cases hvb with
        | cons _ tv hvq =>
        rename_i vq
        have gu := ga u (List.mem_append_right _ (.head _))
        have lnu := gu.2.1
        have gv := gb v (.head _)
        have lnv := gv.2.1
        have ly := hyq.length
        rw [List.length_map, List.length_reverse] at ly
        have lp := hvp.length
        simp only [List.length_append, List.length_cons, List.length_nil] at hn la' lb'
        rw [rowT_snoc, Str.length_append] at lnA
        rw [rev_cons, rowT_snoc, Str.length_append] at lnB
        simp only [Str.length_append] at lnA lnB
        k_steps
        k_dflt (refine' get_at ?N hlw ?h0 ?hf ?e ?_ ?s ?g; (case N => k_asm); (case h0 => omega); (case hf => (simp only [List.length_append, List.length_cons, List.length_nil]; omega)); (case e => (simp only [List.length_append, List.length_cons, List.length_nil]; exact got_r _ _ _ _)); (case s => with_unfolding_all rfl); (case g => kmk_pure))
        k_steps
        k_dflt (refine' get_at ?N hlw ?h0 ?hf ?e ?_ ?s ?g; (case N => k_asm); (case h0 => (simp only [List.length_append, List.length_cons, List.length_nil]; omega)); (case hf => (simp only [List.length_append, List.length_cons, List.length_nil]; omega)); (case e => (simp only [List.length_append, List.length_cons, List.length_nil]; exact got_l _ _ _ _)); (case s => with_unfolding_all rfl); (case g => kmk_pure))
        k_steps
        k_dflt (refine' set_flex ?F ?N ?l ?h0 ?h1 ?hf ?e ?_; (case F => k_asm); (case N => k_asm); (case l => k_mem); (case h0 => (simp only [List.length_append, List.length_cons, List.length_nil]; omega)); (case h1 => (simp only [List.length_append, List.length_cons, List.length_nil]; omega)); (case hf => (simp only [List.length_append, List.length_cons, List.length_nil]; omega)); (case e => (simp only [List.length_append, List.length_cons, List.length_nil]; exact put_l _ _ _ _ _)))
        intro h' F' N'
        k_sweep
        k_steps
        k_dflt (refine' set_flex ?F ?N ?l ?h0 ?h1 ?hf ?e ?_; (case F => k_asm); (case N => k_asm); (case l => exact .head _); (case h0 => (simp only [List.length_append, List.length_cons, List.length_nil]; omega)); (case h1 => (simp only [List.length_append, List.length_cons, List.length_nil]; omega)); (case hf => (simp only [List.length_append, List.length_cons, List.length_nil]; omega)); (case e => (simp only [List.length_append, List.length_cons, List.length_nil]; exact put_r _ _ _ _ _)))
        intro h' F' N'
        k_sweep
        k_steps
        rename Fr _ _ _ _ => Ff
        rename News _ _ _ _ => Nf
        refine ret (p ++ [v] ++ (u :: q)) _ _ _ _ _ _ _ _ (strs_app (strs_app hvp (.cons _ _ .nil)) (.cons _ _ hvq)) ?_ Ff (news_back' Nf (fun r h1 h2 => by simp [h1, h2])) ⟨_, h4⟩ ⟨_, rfl⟩ ⟨_, rfl⟩ (fun q h1 h2 h3 => by simp only [h1, h2, h3, if_false])
        exact ⟨p ++ [v], u :: q, rfl, by simp [lp], by simp only [List.length_append, List.length_cons, List.length_nil]; omega, good_app (fun x hx => ga x (List.mem_append_left _ hx)) gv, good_cons (fun x hx => gb x (.tail _ hx)) gu, by rw [back_good gv, rowT_snoc], by rw [rev_cons, rowT_snoc]⟩
end
end Mine
end

section
open PySem PySem.W PyProof.Rows PySem.Spec PySem.Calls
set_option Elab.async false
set_option maxRecDepth 100000
set_option linter.unusedVariables false
set_option maxHeartbeats 1000000
namespace Mine
def J01 (lw lm : Addr) (vm : List Value) (cm : Nat) (m : Str → Option Value) (news : List (Addr × Obj)) : Prop :=
  ∃ words vs c cursor tc left tl right tr, news = [(lw, listOf vs.toArray c), (lm, listOf vm.toArray cm)] ∧ StrsAre vs words ∧ Inv01 words cursor left right ∧
  m (Str.ofString "words") = some (.ref lw) ∧ m (Str.ofString "menu") = some (.ref lm) ∧ m (Str.ofString "cursor") = some (.int cursor tc) ∧ m (Str.ofString "left") = some (.str left tl) ∧ m (Str.ofString "right") = some (.str right tr)
theorem turn01_is : turn01 = grp4 turn01 0 ++ (grp4 turn01 4 ++ (grp4 turn01 8 ++ [nthS turn01 12])) := by rfl
section
variable (w : World) {p : Program} {loose : List Str} {mean : ExcName → Option Value} {mg mb : Str → Option Value} {base h₀ : Heap} {L fa : Addr} {cd : Value} {m : Str → Option Value} {news : List (Addr × Obj)} {s : Shared} {Q : Flow → Shared → Prop}
theorem turn01_ok {menu : List Str} {vm : List Value} {lw lm I : Addr} {cm : Nat} {n : Int} {tn : Tok} {own : List (Addr × Obj)}
    (B : Below callerA base [] h₀) (X : (hd.heap_39 w.params).In h₀) (T : Top p loose mean mg mb h₀) (F : Fr h₀ L s.heap fun y => if y = Str.ofString "number" then some (.int n tn) else m y) (N : News h₀ L s.heap (own ++ news))
    (hJ : J01 lw lm vm cm m news) (hown : ∀ p ∈ own, p.1 ≠ lw) (hI : lw ≠ I) (hIm : lm ≠ I) (hlm : lm ≠ lw) (hvm : StrsAre vm menu) (hm8 : menu.length = 8) (gm : ∀ y ∈ menu, Good y) :
    wpAny (model PySem.Challenge.rw_dn0238_01.row.prog w) (callerA.deeper (env01 L fa cd)) (execs turn01 (env01 L fa cd)) (TurnEnd h₀ L I own (J01 lw lm vm cm) s Q) NoE s := by
  obtain ⟨words, vs, c, cursor, tc, left, tl, right, tr, rfl, hvs, ⟨a, b, rfl, rfl, hab, ga, gb, rfl, rfl⟩, j1, j2, j3, j4, j5⟩ := hJ
  obtain ⟨va, vb, rfl, hva, hvb⟩ := strs_split hvs
  have la := hva.length
  have lb := hvb.length
  have hn : va.length + vb.length ≤ 16 := by omega
  rw [turn01_is]
  have e0 : ∀ q, q ≠ Str.ofString "number" → (if q = Str.ofString "number" then some (Value.int n tn) else m q) = m q := fun q h => if_neg h
  have hR : ∀ y ∈ b.reverse.map (swap 35 63), 35 ∉ y.cps.toList ∧ y.length ≤ 3 ∧ Ok y := fun y hy => by
    obtain ⟨z, hz, rfl⟩ := List.mem_map.mp hy
    have gz := gb z (List.mem_reverse.mp hz)
    exact ⟨swap_not 35 63 (by decide) z, by rw [swap_length]; exact gz.2.1, gz.2.2.swap (by decide)⟩
  refine execs_app (first01 w B X T F N hva hvb (List.mem_append_right _ (.head _)) (List.mem_append_right _ (.tail _ (.head _))) hvm hm8 gm gb hn (if_pos rfl) ((e0 _ (by decide +kernel)).trans j2) ((e0 _ (by decide +kernel)).trans j1) ((e0 _ (by decide +kernel)).trans (by rw [la]; exact j3)) ?_)
  intro lA lB c2 wd ys h1 tk1 m1 gw hys F1 N1 ⟨tk, k1⟩ ⟨tw, k2⟩ k3 k4 r1
  have r1' : ∀ q, q ≠ Str.ofString "kind" → q ≠ Str.ofString "word" → q ≠ Str.ofString "ahead" → q ≠ Str.ofString "behind" → q ≠ Str.ofString "number" → m1 q = m q := fun q a1 a2 a3 a4 a5 => (r1 q a1 a2 a3 a4).trans (e0 q a5)
  refine execs_app (gone01 w B X T (s := { s with heap := h1, toks := tk1 }) F1 N1 hva (.head _) ga (by omega) k3 ((r1' _ (by decide +kernel) (by decide +kernel) (by decide +kernel) (by decide +kernel) (by decide +kernel)).trans j4) ?_)
  intro Dg xg tg vg h2 tk2 m2 cg F2 N2 l2 g1 r2
  have lys : ys.length = b.length := by rw [hys.length, List.length_map, List.length_reverse]
  refine execs_app (come01 w B X T (s := { s with heap := h2, toks := tk2 }) F2 N2 hys (.tail _ (.tail _ (.head _))) hR (by omega) ((r2 _ (by decide +kernel) (by decide +kernel)).trans k4) ((r2 _ (by decide +kernel) (by decide +kernel)).trans ((r1' _ (by decide +kernel) (by decide +kernel) (by decide +kernel) (by decide +kernel) (by decide +kernel)).trans j5)) ?_)
  intro Dc xc tq vc h3 tk3 m3 cc F3 N3 l3 g2 r3
  have r3' : ∀ q, q ≠ Str.ofString "due" → q ≠ Str.ofString "come" → q ≠ Str.ofString "gone" → m3 q = m1 q := fun q a1 a2 a3 => (r3 q a1 a2).trans (r2 q a1 a3)
  have r3'' : ∀ q, q ≠ Str.ofString "due" → q ≠ Str.ofString "come" → q ≠ Str.ofString "gone" → q ≠ Str.ofString "kind" → q ≠ Str.ofString "word" → q ≠ Str.ofString "ahead" → q ≠ Str.ofString "behind" → q ≠ Str.ofString "number" → m3 q = m q := fun q a1 a2 a3 b1 b2 b3 b4 b5 => (r3' q a1 a2 a3).trans (r1' q b1 b2 b3 b4 b5)
  have kk : (0:Int) ≤ Int.fmod n 6 ∧ Int.fmod n 6 < 6 := ⟨Int.fmod_nonneg_of_pos _ (by decide), Int.fmod_lt_of_pos _ (by decide)⟩
  refine execs_one (last01 w B X T (s := { s with heap := h3, toks := tk3 }) (k := Int.fmod n 6) F3 N3 hva hvb hys (lw := lw) (la := lA) (lb := lB) (Dg := Dg) (Dc := Dc)
    (.tail _ (.tail _ (.tail _ (.tail _ (List.mem_append_right _ (.head _)))))) (.tail _ (.tail _ (.head _))) (.tail _ (.tail _ (.tail _ (.head _)))) (.tail _ (.head _)) (.head _) cg cc ga gb gw hn kk.1 kk.2
    ((r3' _ (by decide +kernel) (by decide +kernel) (by decide +kernel)).trans k1) ((r3' _ (by decide +kernel) (by decide +kernel) (by decide +kernel)).trans k2)
    ((r3'' _ (by decide +kernel) (by decide +kernel) (by decide +kernel) (by decide +kernel) (by decide +kernel) (by decide +kernel) (by decide +kernel) (by decide +kernel)).trans j1)
    ((r3'' _ (by decide +kernel) (by decide +kernel) (by decide +kernel) (by decide +kernel) (by decide +kernel) (by decide +kernel) (by decide +kernel) (by decide +kernel)).trans (by rw [la]; exact j3))
    ((r3' _ (by decide +kernel) (by decide +kernel) (by decide +kernel)).trans k3) ((r3' _ (by decide +kernel) (by decide +kernel) (by decide +kernel)).trans k4)
    ((r3 _ (by decide +kernel) (by decide +kernel)).trans g1) g2
    ((r3'' _ (by decide +kernel) (by decide +kernel) (by decide +kernel) (by decide +kernel) (by decide +kernel) (by decide +kernel) (by decide +kernel) (by decide +kernel)).trans j4)
    ((r3'' _ (by decide +kernel) (by decide +kernel) (by decide +kernel) (by decide +kernel) (by decide +kernel) (by decide +kernel) (by decide +kernel) (by decide +kernel)).trans j5) ?_)
  intro words' vs' c' cur' left' right' h4 tk4 m4 hvs' inv' F4 N4 ⟨t1, q1⟩ ⟨t2, q2⟩ ⟨t3, q3⟩ r4
  have r4' : ∀ q, q ≠ Str.ofString "cursor" → q ≠ Str.ofString "left" → q ≠ Str.ofString "right" → q ≠ Str.ofString "due" → q ≠ Str.ofString "come" → q ≠ Str.ofString "gone" → q ≠ Str.ofString "kind" → q ≠ Str.ofString "word" → q ≠ Str.ofString "ahead" → q ≠ Str.ofString "behind" → q ≠ Str.ofString "number" → m4 q = m q := fun q a1 a2 a3 b1 b2 b3 c1 c2 c3 c4 c5 => (r4 q a1 a2 a3).trans (r3'' q b1 b2 b3 c1 c2 c3 c4 c5)
  refine TurnEnd.go (news' := [(lw, listOf vs'.toArray c'), (lm, listOf vm.toArray cm)]) F4 (N4 _ fun q hq => ?_) (fun q hq => ?_) ⟨words', vs', c', cur', t1, left', t2, right', t3, rfl, hvs', inv', ?_, ?_, q1, q2, q3⟩
  · rcases List.mem_append.mp hq with h | h
    · exact .inr ⟨.tail _ (.tail _ (.tail _ (.tail _ (List.mem_append_left _ h)))), hown q h⟩
    · rcases List.mem_cons.mp h with rfl | h
      · exact .inl rfl
      · rw [List.mem_singleton.mp h]
        exact .inr ⟨.tail _ (.tail _ (.tail _ (.tail _ (List.mem_append_right _ (.tail _ (.head _)))))), hlm⟩
  · rcases List.mem_cons.mp hq with rfl | h
    · exact hI
    · rw [List.mem_singleton.mp h]; exact hIm
  · exact (r4' _ (by decide +kernel) (by decide +kernel) (by decide +kernel) (by decide +kernel) (by decide +kernel) (by decide +kernel) (by decide +kernel) (by decide +kernel) (by decide +kernel) (by decide +kernel) (by decide +kernel)).trans j1
  · exact (r4' _ (by decide +kernel) (by decide +kernel) (by decide +kernel) (by decide +kernel) (by decide +kernel) (by decide +kernel) (by decide +kernel) (by decide +kernel) (by decide +kernel) (by decide +kernel) (by decide +kernel)).trans j2
end
end Mine
end

section
open PySem PySem.W PyProof.Rows PySem.Spec PySem.Calls
set_option Elab.async false
set_option maxRecDepth 100000
set_option linter.unusedVariables false
set_option maxHeartbeats 1000000
namespace Mine
def menu01 : List Str := [Str.ofString "x", Str.ofString "", Str.ofString "#", Str.ofString "a#b", Str.ofString "/p", Str.ofString "@:", Str.ofString "##", Str.ofString "ä"]
theorem good_dec {x : Str} (h : (decide (63 ∉ x.cps.toList) && decide (x.length ≤ 3) && x.cps.toList.all fun c => decide (c < 0x110000)) = true) : Good x := by
  simp only [Bool.and_eq_true, decide_eq_true_eq, List.all_eq_true] at h
  exact ⟨h.1.1, h.1.2, fun c hc => by simpa using h.2 c hc⟩
theorem menu01_good : ∀ y ∈ menu01, Good y := by
  intro y hy
  simp only [menu01, List.mem_cons, List.not_mem_nil, or_false] at hy
  rcases hy with rfl | rfl | rfl | rfl | rfl | rfl | rfl | rfl <;> exact good_dec (by decide +kernel)
theorem inv01_start : Inv01 [Str.ofString "a", Str.ofString "", Str.ofString "b#"] 3 (Str.ofString "h#?a??b#") (Str.ofString "h?") := by
  refine ⟨[Str.ofString "a", Str.ofString "", Str.ofString "b#"], [], rfl, by decide, by decide, ?_, (fun _ h => nomatch h), by decide +kernel, by decide +kernel⟩
  intro y hy
  simp only [List.mem_cons, List.not_mem_nil, or_false] at hy
  rcases hy with rfl | rfl | rfl <;> exact good_dec (by decide +kernel)
def top5 (l : List Stmt) : List Stmt := match l with | a :: b :: c :: d :: e :: _ => [a, b, c, d, e] | _ => []
theorem law01_is : fnBody law01 = top5 (fnBody law01) ++ ([nthS (fnBody law01) 5] ++ [nthS (fnBody law01) 6]) := by rfl
local macro_rules | `(tactic| walk_at "eval Name") => `(tactic| (k_here; k_dflt (refine' ld ?k1 ?k2 ?_; (case k1 => k_asm); (case k2 => first | exact rfl | assumption); k_whole)))
section
variable (w : World) {p : Program} {loose : List Str} {mean : ExcName → Option Value} {mg mb : Str → Option Value} {base h₀ : Heap} {L fa : Addr} {cd : Value} {m : Str → Option Value} {news : List (Addr × Obj)} {s : Shared} {Q : Flow → Shared → Prop}
theorem head01
    (B : Below callerA base [] h₀) (X : (hd.heap_39 w.params).In h₀) (T : Top p loose mean mg mb h₀) (F : Fr h₀ L s.heap m) (N : News h₀ L s.heap news)
    (ret : ∀ lw lm vs vm c cm tc tl tr h' tk' m', StrsAre vs [Str.ofString "a", Str.ofString "", Str.ofString "b#"] → StrsAre vm menu01 → Fr h₀ L h' m' → News h₀ L h' ((lw, listOf vs.toArray c) :: (lm, listOf vm.toArray cm) :: news) → lm ≠ lw →
      m' (Str.ofString "words") = some (.ref lw) → m' (Str.ofString "menu") = some (.ref lm) → m' (Str.ofString "cursor") = some (.int 3 tc) → m' (Str.ofString "left") = some (.str (Str.ofString "h#?a??b#") tl) → m' (Str.ofString "right") = some (.str (Str.ofString "h?") tr) → m' (Str.ofString "script") = m (Str.ofString "script") → Q .next { s with heap := h', toks := tk' }) :
    wpAny (model PySem.Challenge.rw_dn0238_01.row.prog w) (callerA.deeper (env01 L fa cd)) (execs (top5 (fnBody law01)) (env01 L fa cd)) Q NoE s := by
  revert X; k_fill; intro X
  obtain ⟨sh, sg, sd, st, so⟩ := s
  dsimp only at F N ret
  conv in (execs _ _) => arg 1; whnf
  unfold env01
  conv in (occs := *) (fnScope _) => all_goals whnf
  k_steps
  rename Fr _ _ _ _ => Ff
  rename News _ _ _ _ => Nf
  rename _ ∧ AllLt _ _ => lf
  refine ret _ _ _ _ _ _ _ _ _ _ _ _ (.cons _ _ (.cons _ _ (.cons _ _ .nil))) (.cons _ _ (.cons _ _ (.cons _ _ (.cons _ _ (.cons _ _ (.cons _ _ (.cons _ _ (.cons _ _ .nil)))))))) Ff Nf (Nat.ne_of_lt lf.1) rfl rfl rfl rfl rfl rfl
theorem ints_at : ∀ {vs : List Value} {ns : List Int}, IntsAre vs ns → ∀ (i : Nat) (v : Value), vs[i]? = some v → ∃ n t, ns[i]? = some n ∧ v = .int n t
  | _, _, .nil, i, v, h => by simp at h
  | _, _, .cons y t r, 0, v, h => ⟨y, t, rfl, by simpa using h.symm⟩
  | _, _, .cons y t r, i + 1, v, h => by simpa using ints_at r i v (by simpa using h)
def Stop (P : Prop) : Prop := P
theorem stop_here {P : Prop} (h : Stop P) : P := h
local macro_rules | `(tactic| walk_at "pyIter ref") => `(tactic| (k_here; refine stop_here ?_))
local macro_rules | `(tactic| walk_at "exec For Name BinOp cons nil") => `(tactic| (k_here; (rename Fr _ _ _ _ => lF'); (with_unfolding_all refine' For_invVF lF' ?k1 ?k2 ?_ ?k3 ?k4; (case k1 => exact rfl); (case k2 => exact rfl); (case k3 => (intro _; rfl)); (case k4 => exact PassesOwn.never); k_whole)))
theorem for01 {ls lw lm : Addr} {vs ws vm : List Value} {ns : List Int} {c cm : Nat}
    (B : Below callerA base [] h₀) (X : (hd.heap_39 w.params).In h₀) (T : Top p loose mean mg mb h₀) (F : Fr h₀ L s.heap m) (N : News h₀ L s.heap [(lw, listOf ws.toArray c), (lm, listOf vm.toArray cm)]) (hlm : lm ≠ lw) (hvm : StrsAre vm menu01)
    (hl : h₀.IsList ls vs.toArray) (hi : IntsAre vs ns) (hb : ns.length ≤ 63) (h1 : m (Str.ofString "script") = some (.ref ls))
    (hJ : J01 lw lm vm cm m [(lw, listOf ws.toArray c), (lm, listOf vm.toArray cm)])
    (ret : ∀ h' tk' m', Fr h₀ L h' m' → Q .next { s with heap := h', toks := tk' }) :
    wpAny (model PySem.Challenge.rw_dn0238_01.row.prog w) (callerA.deeper (env01 L fa cd)) (exec (nthS (fnBody law01) 5) (env01 L fa cd)) Q NoE s := by
  revert X; k_fill; intro X
  obtain ⟨sh, sg, sd, st, so⟩ := s
  dsimp only at F N ret
  conv in (exec _ _) => arg 1; whnf
  unfold env01
  conv in (occs := *) (fnScope _) => all_goals whnf
  k_steps
  rename Fr _ _ _ _ => Ff
  rename News _ _ _ _ => Nf
  rename IntsAre _ (_ ++ _) => hI
  rename _ ∧ _ ∧ _ ∧ _ => lf
  unfold Stop
  refine for_list2 (news := [(lw, listOf ws.toArray c), (lm, listOf vm.toArray cm)]) (fun _ m nx => J01 lw lm vm cm m nx) rfl (.head _) Ff Nf (fun q hq => .tail _ (.tail _ (.tail _ hq))) hJ ?_ ?_
  · intro I hbig i v m₁ news₁ h tk own hv hJ h1 h2 h3 h4 F1 N1
    obtain ⟨n, t, _, rfl⟩ := ints_at hI i v hv
    have hIw : lw < I := hbig _ (.tail _ (.tail _ (.tail _ (.head _))))
    have hIm : lm < I := hbig _ (.tail _ (.tail _ (.tail _ (.tail _ (.head _)))))
    refine turn01_ok w B X T (s := ⟨h, sg, sd, tk, so⟩) F1 N1 hJ (fun q hq => ?_) (Nat.ne_of_lt hIw) (Nat.ne_of_lt hIm) hlm hvm rfl menu01_good
    rcases h1 q hq with e | e
    · rw [e]; exact Nat.ne_of_gt hIw
    · rw [e]; exact Nat.ne_of_gt lf.2.2.1
  · intro h' tk m' news' F' N' hJ'
    exact ret _ _ _ F'
theorem law01_ok {ls : Addr} {vs : List Value} {ns : List Int}
    (B : Below callerA base [] h₀) (X : (hd.heap_39 w.params).In h₀) (T : Top p loose mean mg mb h₀) (F : Fr h₀ L s.heap m) (N : News h₀ L s.heap [])
    (hl : h₀.IsList ls vs.toArray) (hi : IntsAre vs ns) (hb : ns.length ≤ 63) (h1 : m (Str.ofString "script") = some (.ref ls))
    (ret : ∀ h' tk' m', Fr h₀ L h' m' → Q (.ret (.bool true)) { s with heap := h', toks := tk' }) :
    wpAny (model PySem.Challenge.rw_dn0238_01.row.prog w) (callerA.deeper (env01 L fa cd)) (execs (fnBody law01) (env01 L fa cd)) Q NoE s := by
  rw [law01_is]
  refine execs_app (head01 w B X T F N ?_)
  intro lw lm ws vm c cm tc tl tr h2 tk2 m2 hws hvm F2 N2 hlm k1 k2 k3 k4 k5 k6
  refine execs_app (execs_one (for01 w B X T (s := { s with heap := h2, toks := tk2 }) F2 N2 hlm hvm hl hi hb (k6.trans h1) ⟨_, ws, c, 3, tc, _, tl, _, tr, rfl, hws, inv01_start, k1, k2, k3, k4, k5⟩ ?_))
  intro h3 tk3 m3 F3
  refine execs_one ?_
  revert X; k_fill; intro X
  conv in (exec _ _) => arg 1; whnf
  unfold env01
  conv in (occs := *) (fnScope _) => all_goals whnf
  k_steps
  exact ret _ _ _ F3
end
end Mine
end

open PySem PySem.W PyProof.Rows PySem.Spec PySem.Calls
set_option Elab.async false
set_option maxRecDepth 100000
set_option linter.unusedVariables false
set_option maxHeartbeats 1000000
theorem PySem.Challenge.cw_dn0238_01_holds : PySem.Challenge.rw_dn0238_01.Holds :=
  Mine.hd (by
  k_go0
  rename Fr _ _ _ _ => F0
  rename News _ _ _ _ => N0
  rename IntsAre _ _ => hI
  rename Heap.IsList _ _ _ => hL
  rename Top _ _ _ _ _ _ => T0
  rename Frag.In _ _ => X0
  rename Below _ _ _ _ => B0
  refine wpAny_mono (Mine.law01_ok _ B0 X0 T0 F0 N0 hL hI (by omega) rfl ?r) (fun _ _ h => h) (fun _ _ h => h.elim)
  intro h' tk' m' Ff
  wrow_close)
