import PyProof.Rows.All
import Wide.All
import OpenK.AllK
import Wide.FinOn
import Lean
import PySem.Challenge.RW_dz0129_01
open PySem PySem.W PyProof.Rows
set_option Elab.async false
namespace Mine
set_option maxRecDepth 100000 in
set_option maxHeartbeats 8000000 in
open_top hd for PySem.Challenge.rw_dz0129_01
end Mine
set_option maxRecDepth 100000
namespace Mine
def Fill (_ : OpenLaw) (_ : Params → Frag) : Prop := True
abbrev Led := List (Addr × Obj)
/-- what a call of the def at f with vs does, from any frame at any depth: nothing that stood changes; the ledger gains tl -/
def Tel (prog : Program) (w : World) (mean : ExcName → Option Value) (mg mb : Str → Option Value) (f : Addr) (sz : Nat) (vs : List Value) (Pre : Led → Prop) (Post : Led → Value → Prop) : Prop :=
  ∀ (dp un : Nat) (gd : Option (List Code)) (cn : Str) (cs : Scope) (a : Addr) (ccd : Value) (cl : List (Str × Addr)) (outer : List Env) (A₀ : Around) (base h₀ : Heap) (L : Addr) (m : Str → Option Value) (news : Led) (s : Shared)
    (Q E : Value → Shared → Prop),
    Below A₀ base outer h₀ → Fr h₀ L s.heap m → (hd.heap_39 w.params).In h₀ → News h₀ L s.heap news → Top hd.view_39 (looseW hd.view_39 []) mean mg mb h₀ → cs.kind = .function → Pre news → dp + sz < recursionLimit → un + 8 * sz < cLine →
    (∀ r tl h' tk', Fr h₀ L h' m → News h₀ L h' (tl ++ news) → Post tl r → Q r { s with heap := h', toks := tk' }) →
    wpAny (model prog w) (ktrTop dp un gd cn cs L a ccd cl outer) (call (.ref f) vs) Q E s
theorem Tel.use {prog : Program} {w : World} {mean : ExcName → Option Value} {mg mb : Str → Option Value} {f : Addr} {sz : Nat} {vs : List Value} {Pre : Led → Prop} {Post : Led → Value → Prop}
    {dp un : Nat} {gd : Option (List Code)} {cn : Str} {cs : Scope} {a : Addr} {ccd : Value} {cl : List (Str × Addr)} {outer : List Env} {A₀ : Around} {base h₀ : Heap} {L : Addr} {m : Str → Option Value} {news : Led} {s : Shared}
    {Q E : Value → Shared → Prop} (C : Tel prog w mean mg mb f sz vs Pre Post)
    (B : Below A₀ base outer h₀) (F : Fr h₀ L s.heap m) (X : (hd.heap_39 w.params).In h₀) (N : News h₀ L s.heap news) (T : Top hd.view_39 (looseW hd.view_39 []) mean mg mb h₀) (hk : cs.kind = .function) (hP : Pre news) (hd : dp + sz < recursionLimit) (hu : un + 8 * sz < cLine)
    (ret : ∀ r tl h' tk', Fr h₀ L h' m → News h₀ L h' (tl ++ news) → Post tl r → Q r { s with heap := h', toks := tk' }) :
    wpAny (model prog w) (ktrTop dp un gd cn cs L a ccd cl outer) (call (.ref f) vs) Q E s := C _ _ _ _ _ _ _ _ _ _ _ _ _ _ _ _ _ _ B F X N T hk hP hd hu ret
/-- a text by its signs -/
def tx (l : List Nat) : Str := ⟨l.toArray⟩
theorem tx_append (a b : List Nat) : tx a ++ tx b = tx (a ++ b) := by
  refine Str.ext' ?_
  rw [Str.cps_append]
  simp [tx]
theorem tx_length (a : List Nat) : (tx a).length = a.length := by simp [tx, Str.length]
theorem tx_inj {a b : List Nat} (h : tx a = tx b) : a = b := by
  have := congrArg (fun x : Str => x.cps.toList) h
  simpa [tx] using this
theorem tx_eq (x : Str) : tx x.cps.toList = x := by
  obtain ⟨c⟩ := x
  simp [tx]
end Mine
namespace Mine
/-! general steps -/
/-- None or a text -/
def ov (t : Tok) : Option (List Nat) → Value
  | none => .none
  | some x => .str (tx x) t
def shorter : Option (List Nat) → Option (List Nat) → Option (List Nat)
  | none, b => b
  | some a, none => some a
  | some a, some b => if b.length < a.length then some b else some a
def olen : Option (List Nat) → Nat
  | none => 0
  | some x => x.length
def sp (c : Nat) : Bool := Unicode.isSpace c
def trim (l : List Nat) : List Nat := ((l.dropWhile sp).reverse.dropWhile sp).reverse
theorem dropWhile_eq_drop (p : Nat → Bool) (l : List Nat) : l.dropWhile p = l.drop (l.takeWhile p).length := by
  induction l with
  | nil => rfl
  | cons a l ih =>
    by_cases h : p a
    · simp [h, ih]
    · simp [h]
theorem strip_tx (l : List Nat) : Txt.strip (tx l) = tx (trim l) := by
  rw [Txt.strip, W.stripBy_eq]
  refine Str.ext' (Array.toList_inj.mp ?_)
  show (Array.extract (tx l).cps _ _).toList = _
  simp only [if_true]
  rw [Array.toList_extract]
  show List.extract l _ _ = trim l
  unfold trim
  rw [List.extract_eq_take_drop]
  have e : (tx l).cps.toList = l := by simp [tx]
  rw [e]
  have hd := dropWhile_eq_drop sp l
  have hlo : (List.takeWhile Unicode.isSpace l).length = (l.takeWhile sp).length := rfl
  rw [hlo, tx_length]
  rw [hd]
  generalize hr : l.drop (l.takeWhile sp).length = r
  have hlen : r.length = l.length - (l.takeWhile sp).length := by rw [← hr, List.length_drop]
  rw [dropWhile_eq_drop sp r.reverse, List.drop_reverse, List.reverse_reverse]
  have : (r.reverse.takeWhile sp).length ≤ r.length := by
    have := (List.takeWhile_sublist (p := sp) (l := r.reverse)).length_le; rwa [List.length_reverse] at this
  have e2 : (List.takeWhile Unicode.isSpace r.reverse).length = (r.reverse.takeWhile sp).length := rfl
  rw [e2]
  congr 1
  omega
section
variable {prog : Program} {w : World} {A : Around} {E : Value → Shared → Prop} {s : Shared} {Q : Value → Shared → Prop} {t u : Tok}
theorem iadd_tx {p : List Nat} {n : Nat} (hb : p.length ≤ 100000) (h : ∀ t' k, Q (.str (tx (p ++ [n])) t') { s with toks := k }) : wpAny (model prog w) A (inplaceOp .Add (.str (tx p) t) (.str ⟨#[n]⟩ u)) Q E s :=
  iadd_str (fun t' k => by have e := h t' k; rw [← tx_append] at e; exact e) (by rw [tx_length]; show p.length + 1 ≤ _; simp only [sizeLine]; omega)
theorem add_tx {p q : List Nat} (hb : p.length + q.length ≤ 1000000) (h : ∀ t' k, Q (.str (tx (p ++ q)) t') { s with toks := k }) : wpAny (model prog w) A (binaryOp .Add (.str (tx p) t) (.str (tx q) u)) Q E s :=
  add_str (fun t' k => by have e := h t' k; rw [← tx_append] at e; exact e) (by rw [tx_length, tx_length]; simp only [sizeLine]; omega)
theorem truthy_tx {Q : Bool → Shared → Prop} {p : List Nat} (hb : p.length ≤ 100000) (h : Q (!p.isEmpty) { s with toks := s.toks + 1 + 1 }) : wpAny (model prog w) A (truthy (.str (tx p) t)) Q E s :=
  P.truthy_str (by rw [tx_length]; omega) (by
    rw [tx_length]
    have e : ((p.length : Int) != 0) = !p.isEmpty := by
      cases p with
      | nil => rfl
      | cons a p => simp; omega
    rw [e]; exact h)
theorem len_tx_call {p : List Nat} (hb : p.length ≤ 1000000) (h : ∀ t' k, Q (.int (p.length : Int) t') { s with toks := k }) : wpAny (model prog w) A (call (.builtin "len") [.str (tx p) t]) Q E s :=
  PyProof.Rows.len_str (by rw [tx_length]; omega) (by rw [tx_length]; exact h _ _)
theorem strip_tx_call {p : List Nat} (hb : p.length ≤ 100000) (h : ∀ t' k, Q (.str (tx (trim p)) t') { s with toks := k }) : wpAny (model prog w) A (call (.builtin "str.strip") [.str (tx p) t]) Q E s :=
  SC.strip (fun t' k => by rw [strip_tx]; exact h t' k) (by rw [tx_length]; simp only [sizeLine]; omega)
end
theorem sg_of {n k : Nat} {y : Str} (hy : y = tx [k]) : ((⟨#[n]⟩ : Str) == y) = decide (n = k) := by
  subst hy
  rw [Bool.eq_iff_iff, beq_iff_eq, decide_eq_true_iff]
  constructor
  · intro h
    have := tx_inj (a := [n]) (b := [k]) h
    simpa using this
  · rintro rfl; rfl
theorem sg44 (n : Nat) : ((⟨#[n]⟩ : Str) == Str.ofString ",") = decide (n = 44) := sg_of (by decide +kernel)
theorem sg34 (n : Nat) : ((⟨#[n]⟩ : Str) == Str.ofString "\"") = decide (n = 34) := sg_of (by decide +kernel)
theorem sg92 (n : Nat) : ((⟨#[n]⟩ : Str) == Str.ofString "\\") = decide (n = 92) := sg_of (by decide +kernel)
section
variable {prog : Program} {w : World} {A : Around} {h₀ : Heap} {L : Addr} {m : Str → Option Value} {env : Env} {elt : Expr} {x : Str} {scope : Scope} {cl : List (Str × Addr)} {s : Shared} {S : List (Addr × Obj) → Prop} {P : Nat → Value → Prop} {Fin : List Value → List (Addr × Obj) → Prop} {news : List (Addr × Obj)}
/-- a comprehension by what holds of the list made so far -/
theorem comp_gen {n : Nat} (G : Nat → List Value → Prop) (g0 : G 0 [])
    (turn : ∀ i ys v I oI C oC D m₂ h tk (E' : Value → Shared → Prop), i < n → P i v → G i ys → LCg.NsObj oC m₂ → m₂ x = some v → Fr h₀ L h m → News h₀ L h ((I, oI) :: (C, oC) :: (D, LCg.lst ys) :: news) → LCg.Off3 I C D news → ((@Ne Nat I C) ∧ (@Ne Nat I D) ∧ (@Ne Nat C D)) →
      wpAny (model prog w) A (eval elt (compEnvC scope cl C env)) (LCg.CompEnd h₀ L m { s with heap := h, toks := tk } I oI C oC D (LCg.lst ys) S (fun y news' => news' = news ∧ G (i + 1) (ys ++ [y]))) E' { s with heap := h, toks := tk })
    (fin : ∀ ys, G n ys → Fin ys news) : LCg.CompRest prog w A h₀ L m env elt x scope cl s S P Fin n 0 [] news := by
  have key : ∀ (j i : Nat) (ys : List Value), i + j = n → G i ys → LCg.CompRest prog w A h₀ L m env elt x scope cl s S P Fin j i ys news := by
    intro j
    induction j with
    | zero =>
      intro i ys hi hy
      have e : i = n := by omega
      subst e
      exact LCg.CompRest.zero (fin ys hy)
    | succ j ih =>
      intro i ys hi hy
      refine LCg.CompRest.succ ?_
      intro v I oI C oC D m₂ h tk E' hv hC hx F N off ne
      refine wpAny_mono (turn i ys v I oI C oC D m₂ h tk E' (by omega) hv hy hC hx F N off ne) (fun y s₂ hq => ?_) fun _ _ e => e
      obtain ⟨h', tk', nw, e, F', N', off', hS, hn, hg⟩ := hq
      rw [hn] at N' off' hS
      exact ⟨h', tk', news, e, F', N', off', hS, ih (i + 1) _ (by omega) hg⟩
  exact key n 0 [] (by omega) g0
end
theorem strs_get {vs : List Value} {ws : List Str} (h : StrsAre vs ws) : ∀ {i : Nat} {v : Value}, vs[i]? = some v → ∃ x t, ws[i]? = some x ∧ v = .str x t := by
  induction h with
  | nil => intro i v h; simp at h
  | cons y t _ ih =>
    intro i v h
    cases i with
    | zero => simp at h; exact ⟨y, t, by simp, h.symm⟩
    | succ i => simpa using ih (by simpa using h)
theorem get_map {l : List (List Nat)} {i : Nat} {y : Str} (h : (l.map tx)[i]? = some y) : ∃ r, l[i]? = some r ∧ tx r = y := by
  rw [List.getElem?_map] at h
  simpa using h
theorem strs_len {vs : List Value} {ws : List Str} (h : StrsAre vs ws) : vs.length = ws.length := by
  induction h with
  | nil => rfl
  | cons _ _ _ ih => simp [ih]
end Mine
namespace Mine
theorem range_filterMap (p : List Nat) (a : Nat) : ∀ n, a + n ≤ p.length → ((List.range n).map (fun k => a + k)).filterMap (fun i => p[i]?) = (p.take (a + n)).drop a := by
  intro n
  induction n with
  | zero => intro _; simp
  | succ n ih =>
    intro h
    rw [List.range_succ, List.map_append, List.filterMap_append, ih (by omega)]
    have e : p[a + n]? = some (p[a + n]'(by omega)) := List.getElem?_eq_getElem _
    rw [show a + (n + 1) = (a + n) + 1 by omega, List.take_add_one, List.drop_append]
    simp only [List.map_cons, List.map_nil, List.filterMap_cons, List.filterMap_nil]
    rw [e]
    have hl : (p.take (a + n)).length = a + n := by rw [List.length_take]; omega
    simp [hl]
theorem slice_of {p : List Nat} {l u : Option Int} {a b : Nat} (hab : a ≤ b) (hb : b ≤ p.length) (e : Builtin.Str.strSliceIndices l u 1 p.length = (List.range (b - a)).map (fun k => a + k)) :
    Txt.slice (tx p) l u = tx ((p.take b).drop a) := by
  unfold Txt.slice
  rw [tx_length, e]
  have key : (((List.range (b - a)).map (fun k => a + k)).filterMap (fun i => (tx p).cps[i]?)) = (p.take b).drop a := by
    have h := range_filterMap p a (b - a) (by omega)
    rw [show a + (b - a) = b by omega] at h
    rw [← h]
    congr 1
    funext i
    simp [tx]
  split
  · rename_i h
    simp only [Bool.and_eq_true, beq_iff_eq, List.length_map, List.length_range] at h
    have h2 : b - a = p.length := h.2
    have ha : a = 0 := by omega
    have hb' : b = p.length := by omega
    subst ha hb'
    simp
  · rw [key]; rfl
theorem idx_ss {n a b : Nat} (hab : a ≤ b) (hb : b ≤ n) : Builtin.Str.strSliceIndices (some (a : Int)) (some (b : Int)) 1 n = (List.range (b - a)).map (fun k => a + k) := by
  unfold Builtin.Str.strSliceIndices sliceRange
  simp only [show (1 : Int) > 0 by decide, if_true]
  have e1 : (max 0 (min (if (a : Int) < 0 then (a : Int) + n else a) n) : Int) = a := by rw [if_neg (by omega)]; omega
  have e2 : (max 0 (min (if (b : Int) < 0 then (b : Int) + n else b) n) : Int) = b := by rw [if_neg (by omega)]; omega
  rw [e1, e2]
  have e3 : (if (a : Int) < b then ((b : Int) - a + 1 - 1) / 1 else 0).toNat = b - a := by split <;> omega
  rw [e3]
  refine List.map_congr_left fun k _ => ?_
  omega
theorem idx_ns {n b : Nat} (hb : b ≤ n) : Builtin.Str.strSliceIndices none (some (b : Int)) 1 n = (List.range (b - 0)).map (fun k => 0 + k) := by
  unfold Builtin.Str.strSliceIndices sliceRange
  simp only [show (1 : Int) > 0 by decide, if_true]
  have e2 : (max 0 (min (if (b : Int) < 0 then (b : Int) + n else b) n) : Int) = b := by rw [if_neg (by omega)]; omega
  rw [e2]
  have e3 : (if (0 : Int) < b then ((b : Int) - 0 + 1 - 1) / 1 else 0).toNat = b - 0 := by split <;> omega
  rw [e3]
  refine List.map_congr_left fun k _ => ?_
  omega
theorem idx_sn {n a : Nat} (ha : a ≤ n) : Builtin.Str.strSliceIndices (some (a : Int)) none 1 n = (List.range (n - a)).map (fun k => a + k) := by
  unfold Builtin.Str.strSliceIndices sliceRange
  simp only [show (1 : Int) > 0 by decide, if_true]
  have e1 : (max 0 (min (if (a : Int) < 0 then (a : Int) + n else a) n) : Int) = a := by rw [if_neg (by omega)]; omega
  rw [e1]
  have e3 : (if (a : Int) < (n : Int) then ((n : Int) - a + 1 - 1) / 1 else 0).toNat = n - a := by split <;> omega
  rw [e3]
  refine List.map_congr_left fun k _ => ?_
  omega
theorem slice_ss {p : List Nat} {a b : Nat} (hab : a ≤ b) (hb : b ≤ p.length) : Txt.slice (tx p) (some (a : Int)) (some (b : Int)) = tx ((p.take b).drop a) := slice_of hab hb (idx_ss hab hb)
theorem slice_ns {p : List Nat} {b : Nat} (hb : b ≤ p.length) : Txt.slice (tx p) none (some (b : Int)) = tx (p.take b) := slice_of (a := 0) (Nat.zero_le _) hb (idx_ns hb)
theorem slice_sn {p : List Nat} {a : Nat} (ha : a ≤ p.length) : Txt.slice (tx p) (some (a : Int)) none = tx (p.drop a) := by
  have h := slice_of (p := p) (l := some (a : Int)) (u := none) ha (Nat.le_refl _) (idx_sn ha)
  rw [List.take_length] at h; exact h
theorem item_txt {p : List Nat} {k : Int} {c : Nat} (h0 : 0 ≤ k) (hc : p[k.toNat]? = some c) : Txt.item (tx p) k = ⟨#[c]⟩ := by
  have hlt : k.toNat < p.length := by
    rcases Nat.lt_or_ge k.toNat p.length with h | h
    · exact h
    · rw [List.getElem?_eq_none h] at hc; cases hc
  have e : Txt.charAt (tx p) k = some c := by
    unfold Txt.charAt
    have e1 : seqIndex? k (tx p).length = some k.toNat := by
      rw [tx_length]
      unfold seqIndex?
      have hn : ¬ k < 0 := by omega
      simp only [hn, if_false]
      rw [if_pos (by simp; omega)]
    rw [e1]
    simpa [tx] using hc
  unfold Txt.item
  rw [e]; rfl
section
variable {prog : Program} {w : World} {A : Around} {E : Value → Shared → Prop} {s : Shared} {Q : Value → Shared → Prop} {t u : Tok} {value slice : Expr} {h₀ : Heap} {L : Addr} {m : Str → Option Value} {news : List (Addr × Obj)}
theorem item_tx {p : List Nat} {k : Int} {c : Nat} (h0 : 0 ≤ k) (hb : p.length ≤ 1000000) (hc : p[k.toNat]? = some c) (h : ∀ t' kk, Q (.str ⟨#[c]⟩ t') { s with toks := kk })
    (hs : subscripted slice false (.str (tx p) t) (.int k u) = operate [.str (tx p) t, .int k u] (getItem (.str (tx p) t) (.int k u)) := by with_unfolding_all rfl)
    (ht : ∀ r, letTemporaryGo value (.str (tx p) t) r = pure () := by intro _; with_unfolding_all rfl) :
    wpAny (model prog w) A (subscriptTail value slice (.str (tx p) t) (.int k u)) Q E s := by
  have hlt : k.toNat < p.length := by
    rcases Nat.lt_or_ge k.toNat p.length with h | h
    · exact h
    · rw [List.getElem?_eq_none h] at hc; cases hc
  refine item_str (fitsSsize_of (N := 9223372036854775808) (by omega) (by omega) (Int.le_refl _)) (by rw [tx_length]; omega) (by rw [tx_length]; omega) (fun _ => ?_) hs ht
  rw [item_txt h0 hc]
  exact h _ _
theorem slice_tx_ss {p : List Nat} {a b : Nat} {ui uj : Tok} (hab : a ≤ b) (hb : b ≤ p.length) (hp : p.length ≤ 1000000) (hF : Fr h₀ L s.heap m) (hN : News h₀ L s.heap news) (h : ∀ h' t' k, Fr h₀ L h' m → News h₀ L h' news → Q (.str (tx ((p.take b).drop a)) t') { s with heap := h', toks := k })
    (hs : subscripted slice false (.str (tx p) t) (.ref s.heap.objs.size) = operate [.ref s.heap.objs.size, .str (tx p) t] (getItem (.str (tx p) t) (.ref s.heap.objs.size)) := by with_unfolding_all rfl)
    (ht : ∀ r, letTemporaryGo value (.str (tx p) t) r = pure () := by intro _; with_unfolding_all rfl) :
    wpAny (model prog w) A (subscriptTail value slice (.str (tx p) t) (.ref s.heap.objs.size)) Q E { s with heap := s.heap.push { cls := .type "slice", data := .fields #[.int (a : Int) ui, .int (b : Int) uj, .none] } } :=
  slice_strN_ss hF hN (fun h' t' k F N => by rw [slice_ss hab hb]; exact h h' t' k F N) hs ht (by rw [tx_length]; simp only [sizeLine]; omega)
theorem slice_tx_ns {p : List Nat} {b : Nat} {uj : Tok} (hb : b ≤ p.length) (hp : p.length ≤ 1000000) (hF : Fr h₀ L s.heap m) (hN : News h₀ L s.heap news) (h : ∀ h' t' k, Fr h₀ L h' m → News h₀ L h' news → Q (.str (tx (p.take b)) t') { s with heap := h', toks := k })
    (hs : subscripted slice false (.str (tx p) t) (.ref s.heap.objs.size) = operate [.ref s.heap.objs.size, .str (tx p) t] (getItem (.str (tx p) t) (.ref s.heap.objs.size)) := by with_unfolding_all rfl)
    (ht : ∀ r, letTemporaryGo value (.str (tx p) t) r = pure () := by intro _; with_unfolding_all rfl) :
    wpAny (model prog w) A (subscriptTail value slice (.str (tx p) t) (.ref s.heap.objs.size)) Q E { s with heap := s.heap.push { cls := .type "slice", data := .fields #[.none, .int (b : Int) uj, .none] } } :=
  slice_strN_ns hF hN (fun h' t' k F N => by rw [slice_ns hb]; exact h h' t' k F N) hs ht (by rw [tx_length]; simp only [sizeLine]; omega)
theorem slice_tx_sn {p : List Nat} {a : Nat} {i : Int} {ui : Tok} (hi : i = (a : Int)) (ha : a ≤ p.length) (hp : p.length ≤ 1000000) (hF : Fr h₀ L s.heap m) (hN : News h₀ L s.heap news) (h : ∀ h' t' k, Fr h₀ L h' m → News h₀ L h' news → Q (.str (tx (p.drop a)) t') { s with heap := h', toks := k })
    (hs : subscripted slice false (.str (tx p) t) (.ref s.heap.objs.size) = operate [.ref s.heap.objs.size, .str (tx p) t] (getItem (.str (tx p) t) (.ref s.heap.objs.size)) := by with_unfolding_all rfl)
    (ht : ∀ r, letTemporaryGo value (.str (tx p) t) r = pure () := by intro _; with_unfolding_all rfl) :
    wpAny (model prog w) A (subscriptTail value slice (.str (tx p) t) (.ref s.heap.objs.size)) Q E { s with heap := s.heap.push { cls := .type "slice", data := .fields #[.int i ui, .none, .none] } } := by
  subst hi
  exact slice_strN_sn hF hN (fun h' t' k F N => by rw [slice_sn ha]; exact h h' t' k F N) hs ht (by rw [tx_length]; simp only [sizeLine]; omega)
theorem isspace_tx {c : Nat} (h : Q (.bool (sp c)) s) : wpAny (model prog w) A (call (.builtin "str.isspace") [.str ⟨#[c]⟩ t]) Q E s :=
  SC.isspace (by
    have e : Txt.isspace (⟨#[c]⟩ : Str) = sp c := by simp [Txt.isspace, Str.length, sp]
    rw [e]; exact h)
end
end Mine
namespace Mine
theorem fillM : Fill PySem.Challenge.rw_dz0129_01 hd.heap_39 := by
  k_fill
  trivial
set_option maxRecDepth 100000 in
set_option maxHeartbeats 8000000 in
theorem tel_more {prog w mean mg mb} (o : Option (List Nat)) (y : List Nat) (t u : Tok) (hz : olen o + y.length ≤ 100000) : Tel prog w mean mg mb 45 1 [ov t o, .str (tx y) u] (fun _ => True) (fun tl r => tl = [] ∧ ∃ t', r = ov t' (o.map (· ++ y))) := by
  k_with_none
  w_top off
  unfold Tel
  intro dp un gd cn cs a ccd cl outer A₀ base h₀ L m news s Q E B F X N T hk hP hd hu hret
  k_with "binaryOp Add str str" => (refine add_tx (by omega) ?_; intro t' k')
  cases o <;> simp only [ov, olen] at hz ⊢
  · refine wpAny_call ?_
    k_dflt ktr_enter
    k_steps
    exact hret _ [] _ _ (by assumption) (by assumption) ⟨rfl, 0, rfl⟩
  · refine wpAny_call ?_
    k_dflt ktr_enter
    k_steps
    exact hret _ [] _ _ (by assumption) (by assumption) ⟨rfl, _, rfl⟩
set_option maxRecDepth 100000 in
set_option maxHeartbeats 8000000 in
theorem tel_shorter {prog w mean mg mb} (p q : Option (List Nat)) (t u : Tok) (hp1 : olen p ≤ 100000) (hq1 : olen q ≤ 100000) : Tel prog w mean mg mb 52 1 [ov t p, ov u q] (fun _ => True) (fun tl r => tl = [] ∧ ∃ t', r = ov t' (shorter p q)) := by
  k_with_none
  w_top off
  unfold Tel
  intro dp un gd cn cs a ccd cl outer A₀ base h₀ L m news s Q E B F X N T hk hP hd hu hret
  k_with "call builtin:len" => (refine len_tx_call (by omega) ?_; intro t' k')
  cases p <;> cases q <;> simp only [ov, olen] at hp1 hq1 ⊢
  all_goals (refine wpAny_call ?_; k_dflt ktr_enter; k_steps)
  · exact hret _ [] _ _ (by assumption) (by assumption) ⟨rfl, 0, rfl⟩
  · exact hret _ [] _ _ (by assumption) (by assumption) ⟨rfl, _, rfl⟩
  · exact hret _ [] _ _ (by assumption) (by assumption) ⟨rfl, _, rfl⟩
  · exact hret _ [] _ _ (by assumption) (by assumption) ⟨rfl, _, by simp only [shorter]; rw [if_pos (by omega)]; rfl⟩
  · exact hret _ [] _ _ (by assumption) (by assumption) ⟨rfl, _, by simp only [shorter]; rw [if_neg (by omega)]; rfl⟩
end Mine
namespace Mine
theorem trim_lo {x : List Nat} {k : Nat} (h1 : (x.take k).all sp = true) (h2 : k = x.length ∨ ∃ c, x[k]? = some c ∧ sp c = false) (h0 : k ≤ x.length) : k = (x.takeWhile sp).length := by
  induction x generalizing k with
  | nil => simp at h0; simp [h0]
  | cons a x ih =>
    cases k with
    | zero =>
      rcases h2 with h2 | ⟨c, hc, hs⟩
      · simp at h2
      · simp at hc; subst hc; simp [hs]
    | succ k =>
      simp only [List.take_succ_cons, List.all_cons, Bool.and_eq_true] at h1
      simp only [List.length_cons] at h0
      rw [List.takeWhile_cons, if_pos h1.1, List.length_cons]
      congr 1
      refine ih h1.2 ?_ (by omega)
      rcases h2 with h2 | ⟨c, hc, hs⟩
      · left; simpa using h2
      · right; exact ⟨c, by simpa using hc, hs⟩
theorem all_snoc {x : List Nat} {k c : Nat} (h1 : (x.take k).all sp = true) (hc : x[k]? = some c) (hs : sp c = true) : (x.take (k + 1)).all sp = true := by
  rw [List.take_add_one, hc, List.all_append, h1]
  simp [hs]
theorem trim_hi {x : List Nat} {lo e : Nat} (hlo : lo = (x.takeWhile sp).length) (h0 : lo ≤ e) (h1 : e ≤ x.length) (h2 : (x.drop e).all sp = true) (h3 : e = lo ∨ ∃ c, x[e - 1]? = some c ∧ sp c = false ∧ lo < e) :
    (x.take e).drop lo = trim x := by
  unfold trim
  rw [dropWhile_eq_drop sp x, ← hlo]
  have e1 : x.drop lo = (x.take e).drop lo ++ x.drop e := by
    conv => lhs; rw [← List.take_append_drop e x]
    rw [List.drop_append, List.length_take]
    rw [show lo - min e x.length = 0 by omega, List.drop_zero]
  rw [e1, List.reverse_append]
  have e2 : ∀ a b : List Nat, a.all sp = true → (a ++ b).dropWhile sp = b.dropWhile sp := by
    intro a b h
    induction a with
    | nil => rfl
    | cons c a ih =>
      simp only [List.all_cons, Bool.and_eq_true] at h
      rw [List.cons_append, List.dropWhile_cons, if_pos h.1, ih h.2]
  rw [e2 _ _ (by rw [List.all_reverse]; exact h2)]
  rcases h3 with h3 | ⟨c, hc, hs, hlt⟩
  · have : (x.take e).drop lo = [] := by
      rw [List.drop_eq_nil_iff, List.length_take]; omega
    rw [this]; rfl
  · have hel : e - 1 < x.length := by omega
    have hc' : x[e - 1] = c := by rw [List.getElem?_eq_getElem hel] at hc; exact Option.some.inj hc
    have e3 : (x.take e).drop lo = (x.take (e - 1)).drop lo ++ [c] := by
      conv => lhs; rw [show e = (e - 1) + 1 by omega, List.take_add_one, hc, List.drop_append]
      rw [List.length_take, show lo - min (e - 1) x.length = 0 by omega, List.drop_zero]
      rfl
    rw [e3, List.reverse_append, List.reverse_singleton, List.singleton_append, List.dropWhile_cons, if_neg (by rw [hs]; exact Bool.false_ne_true)]
    simp
theorem all_pred {x : List Nat} {e c : Nat} (h : (x.drop e).all sp = true) (hc : x[e - 1]? = some c) (he : 0 < e) (hs : sp c = true) : (x.drop (e - 1)).all sp = true := by
  have hel : e - 1 < x.length := by
    rcases Nat.lt_or_ge (e - 1) x.length with h | h
    · exact h
    · rw [List.getElem?_eq_none h] at hc; cases hc
  have hc' : x[e - 1] = c := by rw [List.getElem?_eq_getElem hel] at hc; exact Option.some.inj hc
  rw [List.drop_eq_getElem_cons hel, List.all_cons, hc', hs, show e - 1 + 1 = e by omega, h]
  rfl
theorem fillR : Fill PySem.Challenge.rw_dz0129_01 hd.heap_39 := by
  k_fill
  trivial
set_option maxRecDepth 100000 in
set_option maxHeartbeats 8000000 in
theorem tel_trim {prog w mean mg mb} (x : List Nat) (t : Tok) (hz : x.length ≤ 100000) : Tel prog w mean mg mb 33 1 [.str (tx x) t] (fun _ => True) (fun tl r => tl = [] ∧ ∃ t', r = .str (tx (trim x)) t') := by
  k_with_none
  w_top off
  unfold Tel
  intro dp un gd cn cs a ccd cl outer A₀ base h₀ L m news s Q E B F X N T hk hP hd hu hret
  refine wpAny_call ?_
  k_dflt ktr_enter
  iterate 6 (all_goals (first | (k_unfold; (try dsimp only)) | (k_end; wrow_close) | walk1 | (dsimp only; walk1) | (leave1; try dsimp only)))
  rename Fr _ _ _ _ => F1
  rename News _ _ _ _ => N1
  refine ksw_while (σ := Nat × Tok) (fun _ => news) (fun c => [(Str.ofString "start", .int (c.1 : Int) c.2)]) (fun _ => True) [] (fun c => c.1 ≤ x.length ∧ (x.take c.1).all sp = true) (fun c => x.length - c.1) (0, _) F1 N1 trivial (List.forall_mem_cons.mpr ⟨by with_unfolding_all rfl, List.forall_mem_nil _⟩) ⟨Nat.zero_le _, rfl⟩ ?_
  intro c u h tk _ hp F N
  obtain ⟨k, kt⟩ := c
  obtain ⟨hk1, hk2⟩ := hp
  dsimp only [kstB] at F N hk1 hk2
  clear F1 N1
  k_with "call builtin:len" => (refine len_tx_call (by omega) ?_; intro t' k')
  k_with "subscriptTail Name Name str int" => (refine item_tx (by omega) (by omega) (by assumption) ?_; intro t' k')
  k_with "subscriptTail Name BinOp str int" => (refine item_tx (by omega) (by omega) (by assumption) ?_; intro t' k')
  k_with "call builtin:str.isspace" => (refine isspace_tx ?_)
  k_with "exec While" => ((rename Fr _ _ _ _ => F2); (rename News _ _ _ _ => N2); (refine ksw_while (σ := Nat × Tok) (fun _ => news) (fun c => [(Str.ofString "end", .int (c.1 : Int) c.2)]) (fun _ => True) [] (fun c => k ≤ c.1 ∧ c.1 ≤ x.length ∧ (x.drop c.1).all sp = true) (fun c => c.1) (x.length, _) F2 N2 trivial (List.forall_mem_cons.mpr ⟨by with_unfolding_all rfl, List.forall_mem_nil _⟩) ⟨hk1, Nat.le_refl _, by simp⟩ ?_); clear F2 N2; (intro c2 u2 h2 tk2 _ hp2 F3 N3); (obtain ⟨e, et⟩ := c2); (obtain ⟨he1, he2, he3⟩ := hp2); (dsimp only [kstB] at F3 N3 he1 he2 he3); (rcases Nat.lt_or_ge k e with hke | hke); (obtain ⟨c2, hc2⟩ := hex2 e hke he2))
  have hex : k < x.length → ∃ c, x[(k : Int).toNat]? = some c := fun h => ⟨_, List.getElem?_eq_getElem (by simpa using h)⟩
  have hex2 : ∀ e : Nat, k < e → e ≤ x.length → ∃ c, x[((e : Int) - 1).toNat]? = some c := fun e h1 h2 => ⟨_, List.getElem?_eq_getElem (by omega)⟩
  k_with "subscriptTail Name Slice str ref" => ((with_reducible rename Fr _ _ _ _ => F'); (with_reducible rename News _ _ _ _ => N'); (refine slice_tx_ss (s := ⟨_, _, _, _, _⟩) (by omega) (by omega) (by omega) F' N' ?_); (intro h' t' k' F4 N4))
  by_cases hlt : k < x.length
  · obtain ⟨c, hc⟩ := hex hlt
    k_steps
    all_goals first
      | (rename Fr _ _ _ _ => Fx; rename News _ _ _ _ => Nx; exact ksw_end (k + 1, _) Fx Nx (fun p hp => hp) trivial (List.forall_mem_cons.mpr ⟨by with_unfolding_all rfl, List.forall_mem_nil _⟩) (by intro z hz _; have g1 := hz _ (.head _); dsimp only at g1; simp only [if_neg g1, List.contains_nil, Bool.false_eq_true, if_false]) ⟨by dsimp only; omega, all_snoc hk2 hc (by assumption)⟩ (by dsimp only; omega))
      | (rename Fr _ _ _ _ => Fx; rename News _ _ _ _ => Nx; have hx1 : (e : Int) - 1 = ((e - 1 : Nat) : Int) := (by omega); rw [hx1] at Fx; exact ksw_end (e - 1, _) Fx Nx (fun p hp => hp) trivial (List.forall_mem_cons.mpr ⟨by with_unfolding_all rfl, List.forall_mem_nil _⟩) (by intro z hz _; have g1 := hz _ (.head _); dsimp only at g1; simp only [if_neg g1, List.contains_nil, Bool.false_eq_true, if_false]) ⟨by dsimp only; omega, by dsimp only; omega, all_pred he3 (by rw [← hc2]; congr 1; omega) (by omega) (by assumption)⟩ (by dsimp only; omega))
      | (exact hret _ [] _ _ (by assumption) (by assumption) ⟨rfl, _, by rw [trim_hi (trim_lo hk2 (Or.inr ⟨c, hc, by assumption⟩) hk1) he1 he2 he3 (by first | exact Or.inl (by omega) | exact Or.inr ⟨c2, by rw [← hc2]; congr 1; omega, by assumption, hke⟩)]⟩)
      | (exact hret _ [] _ _ (by assumption) (by assumption) ⟨rfl, _, by rw [trim_hi (trim_lo hk2 (Or.inl (by omega)) hk1) he1 he2 he3 (by first | exact Or.inl (by omega) | exact Or.inr ⟨c2, by rw [← hc2]; congr 1; omega, by assumption, hke⟩)]⟩)
      | (exfalso; omega)
  · skip
    k_steps
    all_goals first
      | (rename Fr _ _ _ _ => Fx; rename News _ _ _ _ => Nx; exact ksw_end (k + 1, _) Fx Nx (fun p hp => hp) trivial (List.forall_mem_cons.mpr ⟨by with_unfolding_all rfl, List.forall_mem_nil _⟩) (by intro z hz _; have g1 := hz _ (.head _); dsimp only at g1; simp only [if_neg g1, List.contains_nil, Bool.false_eq_true, if_false]) ⟨by dsimp only; omega, all_snoc hk2 hc (by assumption)⟩ (by dsimp only; omega))
      | (rename Fr _ _ _ _ => Fx; rename News _ _ _ _ => Nx; have hx1 : (e : Int) - 1 = ((e - 1 : Nat) : Int) := (by omega); rw [hx1] at Fx; exact ksw_end (e - 1, _) Fx Nx (fun p hp => hp) trivial (List.forall_mem_cons.mpr ⟨by with_unfolding_all rfl, List.forall_mem_nil _⟩) (by intro z hz _; have g1 := hz _ (.head _); dsimp only at g1; simp only [if_neg g1, List.contains_nil, Bool.false_eq_true, if_false]) ⟨by dsimp only; omega, by dsimp only; omega, all_pred he3 (by rw [← hc2]; congr 1; omega) (by omega) (by assumption)⟩ (by dsimp only; omega))
      | (exact hret _ [] _ _ (by assumption) (by assumption) ⟨rfl, _, by rw [trim_hi (trim_lo hk2 (Or.inr ⟨c, hc, by assumption⟩) hk1) he1 he2 he3 (by first | exact Or.inl (by omega) | exact Or.inr ⟨c2, by rw [← hc2]; congr 1; omega, by assumption, hke⟩)]⟩)
      | (exact hret _ [] _ _ (by assumption) (by assumption) ⟨rfl, _, by rw [trim_hi (trim_lo hk2 (Or.inl (by omega)) hk1) he1 he2 he3 (by first | exact Or.inl (by omega) | exact Or.inr ⟨c2, by rw [← hc2]; congr 1; omega, by assumption, hke⟩)]⟩)
      | (exfalso; omega)
end Mine
namespace Mine
local macro_rules | `(tactic| walk_at "call ref") => `(tactic| k_extra "call ref")
def istep (st : Option (List Nat) × Option (List Nat)) (c : Nat) : Option (List Nat) × Option (List Nat) :=
  if c = 34 then (st.2.map (· ++ [c]), shorter (st.1.map (· ++ [c])) (st.2.map (· ++ [92, 34])))
  else if c = 92 then (st.1.map (· ++ [c]), st.2.map (· ++ [92, 92]))
  else if c = 44 then (none, st.2.map (· ++ [c]))
  else (st.1.map (· ++ [c]), st.2.map (· ++ [c]))
def ifold (l : List Nat) : Option (List Nat) × Option (List Nat) := l.foldl istep (some [], none)
def item (l : List Nat) (last : Bool) : Option (List Nat) := if trim l = l then (if last then shorter (ifold l).1 (ifold l).2 else (ifold l).1) else none
theorem olen_map (o : Option (List Nat)) (y : List Nat) : olen (o.map (· ++ y)) ≤ olen o + y.length := by
  cases o <;> simp [olen]
theorem olen_shorter (a b : Option (List Nat)) : olen (shorter a b) ≤ max (olen a) (olen b) := by
  cases a with
  | none => simp only [shorter]; omega
  | some a =>
    cases b with
    | none => simp only [shorter]; omega
    | some b => simp only [shorter]; split <;> simp only [olen] <;> omega
structure IC where
  o : Option (List Nat)
  ot : Tok
  h : Option (List Nat)
  ht : Tok
def IC.Ok (x : List Nat) (pre : List Int) (c : IC) : Prop :=
  pre.length ≤ x.length ∧ olen c.o ≤ 2 * pre.length ∧ olen c.h ≤ 2 * pre.length ∧ (c.o, c.h) = ifold (pre.map Int.toNat)
theorem fillI : Fill PySem.Challenge.rw_dz0129_01 hd.heap_39 := by
  k_fill
  trivial
theorem moreS {prog w mean mg mb} (o : Option (List Nat)) (n : Nat) (t u : Tok) (hz : olen o ≤ 50000) : Tel prog w mean mg mb 45 1 [ov t o, .str ⟨#[n]⟩ u] (fun _ => True) (fun tl r => tl = [] ∧ ∃ t', r = ov t' (o.map (· ++ [n]))) :=
  tel_more o [n] t u (by simp; omega)
theorem moreQ {prog w mean mg mb} (o : Option (List Nat)) (t u : Tok) (hz : olen o ≤ 50000) : Tel prog w mean mg mb 45 1 [ov t o, .str (Str.ofString "\\\"") u] (fun _ => True) (fun tl r => tl = [] ∧ ∃ t', r = ov t' (o.map (· ++ [92, 34]))) := by
  rw [show Str.ofString "\\\"" = tx [92, 34] by decide +kernel]
  exact tel_more o [92, 34] t u (by simp; omega)
theorem moreB {prog w mean mg mb} (o : Option (List Nat)) (t u : Tok) (hz : olen o ≤ 50000) : Tel prog w mean mg mb 45 1 [ov t o, .str (Str.ofString "\\\\") u] (fun _ => True) (fun tl r => tl = [] ∧ ∃ t', r = ov t' (o.map (· ++ [92, 92]))) := by
  rw [show Str.ofString "\\\\" = tx [92, 92] by decide +kernel]
  exact tel_more o [92, 92] t u (by simp; omega)
theorem shorterM {prog w mean mg mb} (p q : Option (List Nat)) (y z : List Nat) (t u : Tok) (hp1 : olen p ≤ 50000) (hq1 : olen q ≤ 50000) (hy : y.length ≤ 2) (hz : z.length ≤ 2) : Tel prog w mean mg mb 52 1 [ov t (p.map (· ++ y)), ov u (q.map (· ++ z))] (fun _ => True) (fun tl r => tl = [] ∧ ∃ t', r = ov t' (shorter (p.map (· ++ y)) (q.map (· ++ z)))) :=
  tel_shorter _ _ t u (by have := olen_map p y; omega) (by have := olen_map q z; omega)
theorem ic_step {x : List Nat} {pre post : List Int} {n : Nat} {c c' : IC} (hc : KStt.codes (tx x) = pre ++ (n : Int) :: post) (hp : IC.Ok x pre c) (hst : istep (c.o, c.h) n = (c'.o, c'.h)) : IC.Ok x (pre ++ [(n : Int)]) c' := by
  obtain ⟨h1, h2, h3, h4⟩ := hp
  have hl := congrArg List.length hc
  rw [KStt.codes_length, tx_length, List.length_append, List.length_cons] at hl
  have key : ∀ st : Option (List Nat) × Option (List Nat), olen (istep st n).1 ≤ max (olen st.1) (olen st.2) + 2 ∧ olen (istep st n).2 ≤ max (olen st.1) (olen st.2) + 2 := by
    intro st
    have a1 := olen_map st.1 [n]
    have a2 := olen_map st.2 [n]
    have a3 := olen_map st.2 [92, 34]
    have a4 := olen_map st.2 [92, 92]
    have a5 := olen_shorter (st.1.map (· ++ [n])) (st.2.map (· ++ [92, 34]))
    simp only [List.length_cons, List.length_nil] at a1 a2 a3 a4
    unfold istep
    split
    · exact ⟨by dsimp only; omega, by dsimp only; omega⟩
    · split
      · exact ⟨by dsimp only; omega, by dsimp only; omega⟩
      · split
        · exact ⟨by simp [olen], by dsimp only; omega⟩
        · exact ⟨by dsimp only; omega, by dsimp only; omega⟩
  have k1 := key (c.o, c.h)
  rw [hst] at k1
  dsimp only at k1
  refine ⟨?_, ?_, ?_, ?_⟩
  · rw [List.length_append, List.length_singleton]; omega
  · rw [List.length_append, List.length_singleton]; omega
  · rw [List.length_append, List.length_singleton]; omega
  · rw [← hst, h4, List.map_append]
    simp [ifold]
theorem ic_done {x : List Nat} {c : IC} (hp : IC.Ok x (KStt.codes (tx x)) c) : olen c.o ≤ 2 * x.length ∧ olen c.h ≤ 2 * x.length ∧ (c.o, c.h) = ifold x := by
  obtain ⟨h1, h2, h3, h4⟩ := hp
  have e : (KStt.codes (tx x)).map Int.toNat = x := by
    simp [KStt.codes, tx, Function.comp_def]
  rw [e] at h4
  rw [KStt.codes_length, tx_length] at h2 h3
  exact ⟨h2, h3, h4⟩
set_option maxRecDepth 100000 in
set_option maxHeartbeats 8000000 in
theorem tel_item {prog w mean mg mb} (x : List Nat) (last : Bool) (t : Tok) (hz : x.length ≤ 10000) : Tel prog w mean mg mb 59 2 [.str (tx x) t, .bool last] (fun _ => True) (fun tl r => tl = [] ∧ ∃ t', r = ov t' (item x last)) := by
  k_with_none
  w_top off
  unfold Tel
  intro dp un gd cn cs a ccd cl outer A₀ base h₀ L m news s Q E B F X N T hk hP hd hu hret
  refine wpAny_call ?_
  k_dflt ktr_enter
  k_with "pyIter str" => fail "here"
  k_with "call ref" => (k_dflt (refine' Tel.use (tel_trim _ _ ?kz) ?k1 ?k2 ?k3 ?k4 ?k5 ?kK trivial ?kd ?ku ?_; (case kz => omega); (case k1 => k_asm); (case k2 => k_asm); (case k3 => k_asm); (case k4 => k_asm); (case k5 => k_asm); (case kK => first | exact rfl | assumption); (case kd => ktr_room); (case ku => ktr_units); intro r tl h' tk' F' N' hq; obtain ⟨rfl, t', rfl⟩ := hq; simp only [List.nil_append] at N'))
  k_steps
  · rename ((_ != _) = true) => hne
    have htr : ¬ trim x = x := by
      intro e
      rw [e] at hne
      simp at hne
    exact hret _ [] _ _ (by assumption) (by assumption) ⟨rfl, 0, by unfold item; rw [if_neg htr]; rfl⟩
  rename Fr _ _ _ _ => F1
  rename News _ _ _ _ => N1
  refine KStt.kst_text (σ := IC) (fun c => news) (fun c => [(Str.ofString "out", ov c.ot c.o), (Str.ofString "held", ov c.ht c.h)]) (fun c => True) [] (IC.Ok x) ⟨some [], _, none, 0⟩ rfl F1 (fun p hp => N1 p (.tail _ hp)) trivial (List.forall_mem_cons.mpr ⟨by with_unfolding_all rfl, List.forall_mem_cons.mpr ⟨by with_unfolding_all rfl, List.forall_mem_nil _⟩⟩) ⟨Nat.zero_le _, Nat.le_refl _, Nat.le_refl _, rfl⟩ ?_ ?_
  · intro c pre post n tn u h tk own hc hoff hf hp F N
    obtain ⟨o, ot, hh, ht⟩ := c
    have hb : olen o ≤ 50000 ∧ olen hh ≤ 50000 := by
      obtain ⟨b1, b2, b3, _⟩ := hp
      dsimp only at b2 b3
      exact ⟨by omega, by omega⟩
    obtain ⟨hb1, hb2⟩ := hb
    dsimp only [kstB] at F N
    clear F1 N1
    k_with "call ref" => first
      | (k_dflt (refine' Tel.use (moreS _ _ _ _ ?kz) ?k1 ?k2 ?k3 ?k4 ?k5 ?kK trivial ?kd ?ku ?_; (case kz => assumption); (case k1 => k_asm); (case k2 => k_asm); (case k3 => k_asm); (case k4 => k_asm); (case k5 => k_asm); (case kK => first | exact rfl | assumption); (case kd => ktr_room); (case ku => ktr_units); intro r tl h' tk' F' N' hq; obtain ⟨rfl, t', rfl⟩ := hq; simp only [List.nil_append] at N'))
      | (k_dflt (refine' Tel.use (moreQ _ _ _ ?kz) ?k1 ?k2 ?k3 ?k4 ?k5 ?kK trivial ?kd ?ku ?_; (case kz => assumption); (case k1 => k_asm); (case k2 => k_asm); (case k3 => k_asm); (case k4 => k_asm); (case k5 => k_asm); (case kK => first | exact rfl | assumption); (case kd => ktr_room); (case ku => ktr_units); intro r tl h' tk' F' N' hq; obtain ⟨rfl, t', rfl⟩ := hq; simp only [List.nil_append] at N'))
      | (k_dflt (refine' Tel.use (moreB _ _ _ ?kz) ?k1 ?k2 ?k3 ?k4 ?k5 ?kK trivial ?kd ?ku ?_; (case kz => assumption); (case k1 => k_asm); (case k2 => k_asm); (case k3 => k_asm); (case k4 => k_asm); (case k5 => k_asm); (case kK => first | exact rfl | assumption); (case kd => ktr_room); (case ku => ktr_units); intro r tl h' tk' F' N' hq; obtain ⟨rfl, t', rfl⟩ := hq; simp only [List.nil_append] at N'))
      | (k_dflt (refine' Tel.use (shorterM _ _ _ _ _ _ ?kz1 ?kz2 ?kz3 ?kz4) ?k1 ?k2 ?k3 ?k4 ?k5 ?kK trivial ?kd ?ku ?_; (case kz1 => assumption); (case kz2 => assumption); (case kz3 => simp); (case kz4 => simp); (case k1 => k_asm); (case k2 => k_asm); (case k3 => k_asm); (case k4 => k_asm); (case k5 => k_asm); (case kK => first | exact rfl | assumption); (case kd => ktr_room); (case ku => ktr_units); intro r tl h' tk' F' N' hq; obtain ⟨rfl, t', rfl⟩ := hq; simp only [List.nil_append] at N'))
    k_steps
    all_goals (simp only [sg44, sg34, sg92, decide_eq_true_eq, decide_eq_false_iff_not] at *)
    all_goals (rename Fr _ _ _ _ => Fx; rename News _ _ _ _ => Nx)
    all_goals first
      | (refine kst_end (x := Str.ofString "sign") (⟨hh.map (· ++ [n]), _, shorter (o.map (· ++ [n])) (hh.map (· ++ [92, 34])), _⟩ : IC) Fx Nx ?_ ?_ rfl trivial (List.forall_mem_cons.mpr ⟨by with_unfolding_all rfl, List.forall_mem_cons.mpr ⟨by with_unfolding_all rfl, List.forall_mem_nil _⟩⟩) ?_ (ic_step hc hp ?_))
      | (refine kst_end (x := Str.ofString "sign") (⟨o.map (· ++ [n]), _, hh.map (· ++ [92, 92]), _⟩ : IC) Fx Nx ?_ ?_ rfl trivial (List.forall_mem_cons.mpr ⟨by with_unfolding_all rfl, List.forall_mem_cons.mpr ⟨by with_unfolding_all rfl, List.forall_mem_nil _⟩⟩) ?_ (ic_step hc hp ?_))
      | (refine kst_end (x := Str.ofString "sign") (⟨none, 0, hh.map (· ++ [n]), _⟩ : IC) Fx Nx ?_ ?_ rfl trivial (List.forall_mem_cons.mpr ⟨by with_unfolding_all rfl, List.forall_mem_cons.mpr ⟨by with_unfolding_all rfl, List.forall_mem_nil _⟩⟩) ?_ (ic_step hc hp ?_))
      | (refine kst_end (x := Str.ofString "sign") (⟨o.map (· ++ [n]), _, hh.map (· ++ [n]), _⟩ : IC) Fx Nx ?_ ?_ rfl trivial (List.forall_mem_cons.mpr ⟨by with_unfolding_all rfl, List.forall_mem_cons.mpr ⟨by with_unfolding_all rfl, List.forall_mem_nil _⟩⟩) ?_ (ic_step hc hp ?_))
    all_goals first
      | (intro p hp'; exact .tail _ (List.mem_append_left _ hp'))
      | (intro p hp'; exact .tail _ (List.mem_append_right _ hp'))
      | (simp [istep, *]; done)
      | (intro z hz1 hz2 _; have g1 := hz2 _ (.head _); have g2 := hz2 _ (.tail _ (.head _)); dsimp only at g1 g2; simp only [if_neg g1, if_neg g2, if_neg hz1, List.contains_nil, Bool.false_eq_true, if_false]; done)
  · intro c u h tk hf hp F N
    obtain ⟨hb1, hb2, hst⟩ := ic_done hp
    obtain ⟨o, ot, hh, ht⟩ := c
    dsimp only at hb1 hb2 hst
    dsimp only [kstB] at F N
    dsimp only
    clear F1 N1
    rename ((_ != _) = false) => hne
    have htr : trim x = x := by
      have e : tx x = tx (trim x) := by simpa using hne
      exact (tx_inj e).symm
    k_with "call ref" => (k_dflt (refine' Tel.use (tel_shorter _ _ _ _ ?kz1 ?kz2) ?k1 ?k2 ?k3 ?k4 ?k5 ?kK trivial ?kd ?ku ?_; (case kz1 => omega); (case kz2 => omega); (case k1 => k_asm); (case k2 => k_asm); (case k3 => k_asm); (case k4 => k_asm); (case k5 => k_asm); (case kK => first | exact rfl | assumption); (case kd => ktr_room); (case ku => ktr_units); intro r tl h' tk' F' N' hq; obtain ⟨rfl, t', rfl⟩ := hq; simp only [List.nil_append] at N'))
    cases last
    · k_steps
      refine hret _ [] _ _ (by assumption) (by assumption) ⟨rfl, ot, ?_⟩
      unfold item
      rw [if_pos htr, ← hst]
      rfl
    · k_steps
      refine hret _ [] _ _ (by assumption) (by assumption) ⟨rfl, t', ?_⟩
      unfold item
      rw [if_pos htr, ← hst]
      rfl
end Mine
namespace Mine
/-- each a text or None -/
inductive OptsAre : List Value → List (Option (List Nat)) → Prop
  | nil : OptsAre [] []
  | cons (o : Option (List Nat)) (t : Tok) {vs os} : OptsAre vs os → OptsAre (ov t o :: vs) (o :: os)
theorem OptsAre.snoc {vs : List Value} {os : List (Option (List Nat))} {o : Option (List Nat)} {t : Tok} (h : OptsAre vs os) : OptsAre (vs ++ [ov t o]) (os ++ [o]) := by
  induction h with
  | nil => exact .cons _ _ .nil
  | cons _ _ _ ih => exact .cons _ _ ih
theorem OptsAre.mem {vs : List Value} {os : List (Option (List Nat))} (h : OptsAre vs os) : ∀ v ∈ vs, ∃ o t, v = ov t o := by
  induction h with
  | nil => intro v hv; cases hv
  | cons o t _ ih =>
    intro v hv
    rcases List.mem_cons.mp hv with rfl | hv
    · exact ⟨o, t, rfl⟩
    · exact ih v hv
def isNoneV : Value → Bool
  | .none => true
  | _ => false
theorem OptsAre.any {vs : List Value} {os : List (Option (List Nat))} (h : OptsAre vs os) : vs.any isNoneV = os.any (·.isNone) := by
  induction h with
  | nil => rfl
  | cons o t _ ih => rw [List.any_cons, List.any_cons, ih]; cases o <;> rfl
theorem OptsAre.strs {vs : List Value} {os : List (Option (List Nat))} (h : OptsAre vs os) (hn : os.any (·.isNone) = false) : ∃ ls : List (List Nat), os = ls.map some ∧ StrsAre vs (ls.map tx) := by
  induction h with
  | nil => exact ⟨[], rfl, .nil⟩
  | cons o t _ ih =>
    rw [List.any_cons, Bool.or_eq_false_iff] at hn
    obtain ⟨ls, e, hs⟩ := ih hn.2
    cases o with
    | none => simp at hn
    | some a => exact ⟨a :: ls, by rw [e]; rfl, .cons _ _ hs⟩
theorem OptsAre.length {vs : List Value} {os : List (Option (List Nat))} (h : OptsAre vs os) : vs.length = os.length := by
  induction h with
  | nil => rfl
  | cons _ _ _ ih => simp [ih]
section
variable {prog : Program} {w : World} {A : Around} {E : Value → Shared → Prop} {s : Shared} {Q : Value → Shared → Prop} {h₀ : Heap} {L : Addr} {m : Str → Option Value} {news : List (Addr × Obj)}
theorem none_in {l : Addr} {vs : List Value} {os : List (Option (List Nat))} (hl : s.heap.IsList l vs.toArray) (ho : OptsAre vs os) (h : Q (.bool (os.any (·.isNone))) s) : wpAny (model prog w) A (compareOp .In .none (.ref l)) Q E s := by
  refine SeqAt.in_listAt isNoneV hl (fun y hy => ?_) (by
    have e : vs.toArray.any isNoneV = os.any (·.isNone) := by rw [← ho.any]; simp
    rw [e]; exact h)
  obtain ⟨o, t, rfl⟩ := ho.mem y (by simpa using hy)
  cases o with
  | none => exact SeqAt.EqAt.same _
  | some a => exact SeqAt.EqAt.str_none _ _
theorem all_eq {ls ms : List (List Nat)} (h : ls.length = ms.length) : (List.range ls.length).all (fun j => tx (ls.getD j []) == tx (ms.getD j [])) = decide (ls = ms) := by
  rw [Bool.eq_iff_iff, decide_eq_true_iff, List.all_eq_true]
  constructor
  · intro h1
    refine List.ext_getElem h fun j j1 j2 => ?_
    have := h1 j (List.mem_range.mpr j1)
    have := tx_inj (eq_of_beq this)
    simpa [j1, j2] using this
  · rintro rfl j _
    simp
theorem items_eq {vs us : List Value} {ls ms : List (List Nat)} (ha : StrsAre vs (ls.map tx)) (hb : StrsAre us (ms.map tx)) (j : Nat) (h1 : j < vs.toArray.size) (h2 : j < us.toArray.size) {A : Around} {s : Shared} :
    SeqAt.EqAt A s vs.toArray[j] us.toArray[j] (tx (ls.getD j []) == tx (ms.getD j [])) := by
  have j1 : j < vs.length := by simpa using h1
  have j2 : j < us.length := by simpa using h2
  obtain ⟨x, t, hx, e1⟩ := strs_get ha (List.getElem?_eq_getElem j1)
  obtain ⟨y, u, hy, e2⟩ := strs_get hb (List.getElem?_eq_getElem j2)
  obtain ⟨p, hp, rfl⟩ := get_map hx
  obtain ⟨q, hq, rfl⟩ := get_map hy
  have e3 : ls.getD j [] = p := by simp [List.getD, hp]
  have e4 : ms.getD j [] = q := by simp [List.getD, hq]
  rw [e3, e4]
  have e5 : vs.toArray[j] = .str (tx p) t := by simpa using e1
  have e6 : us.toArray[j] = .str (tx q) u := by simpa using e2
  rw [e5, e6]
  exact SeqAt.EqAt.str_str _ _ _ _
theorem eq_lists {a b : Addr} {vs us : List Value} {ls ms : List (List Nat)} (hl : s.heap.IsList a vs.toArray) (ha : StrsAre vs (ls.map tx)) (hl' : s.heap.IsList b us.toArray) (hb : StrsAre us (ms.map tx)) (hu : A.units < cLine)
    (h : Q (.bool (decide (ls = ms))) s) : wpAny (model prog w) A (compareOp .Eq (.ref a) (.ref b)) Q E s := by
  have n1 : vs.toArray.size = ls.length := by rw [List.size_toArray, strs_len ha, List.length_map]
  have n2 : us.toArray.size = ms.length := by rw [List.size_toArray, strs_len hb, List.length_map]
  by_cases hsz : ls.length = ms.length
  · rw [← all_eq hsz, ← n1] at h
    exact SeqAt.RcAt.lists hl hl' (by omega) hu (fun j j1 j2 => items_eq ha hb j j1 j2) prog w E Q h
  · rw [decide_eq_false (fun e => hsz (by rw [e]))] at h
    exact SeqAt.RcAt.lists_lengths hl hl' (by rw [n1, n2]; simpa using hsz) hu prog w E Q h
theorem ne_lists {a b : Addr} {vs us : List Value} {ls ms : List (List Nat)} (hl : s.heap.IsList a vs.toArray) (ha : StrsAre vs (ls.map tx)) (hl' : s.heap.IsList b us.toArray) (hb : StrsAre us (ms.map tx)) (hu : A.units < cLine)
    (h : Q (.bool (!decide (ls = ms))) s) : wpAny (model prog w) A (compareOp .NotEq (.ref a) (.ref b)) Q E s := by
  have n1 : vs.toArray.size = ls.length := by rw [List.size_toArray, strs_len ha, List.length_map]
  have n2 : us.toArray.size = ms.length := by rw [List.size_toArray, strs_len hb, List.length_map]
  by_cases hsz : ls.length = ms.length
  · rw [← all_eq hsz, ← n1] at h
    exact SeqAt.RcNeAt.lists hl hl' (by omega) hu (fun j j1 j2 => items_eq ha hb j j1 j2) prog w E Q h
  · rw [decide_eq_false (fun e => hsz (by rw [e]))] at h
    exact SeqAt.RcNeAt.lists_lengths hl hl' (by rw [n1, n2]; simpa using hsz) hu prog w E Q h
theorem len_led {l : Addr} {vs : List Value} {n : Nat} (N : News h₀ L s.heap news) (hm : (l, W.listOf vs.toArray n) ∈ news) (hb : vs.length ≤ 1000000) (h : ∀ t k, Q (.int (vs.length : Int) t) { s with toks := k }) :
    wpAny (model prog w) A (call (.builtin "len") [.ref l]) Q E s := by
  refine Calls.call_len_list (News.isList N hm) (by rw [List.size_toArray]; omega) ?_
  rw [List.size_toArray]
  exact h _ _
theorem item_led {value slice : Expr} {l : Addr} {vs : List Value} {n : Nat} {k : Int} {u : Tok} {v : Value} (N : News h₀ L s.heap news) (hm : (l, W.listOf vs.toArray n) ∈ news) (h0 : 0 ≤ k) (hhi : k < 2 ^ 63) (hx : vs[k.toNat]? = some v) (h : Q v s)
    (hs : subscripted slice false (.ref l) (.int k u) = operate [.ref l, .int k u] (getItem (.ref l) (.int k u)) := by with_unfolding_all rfl) :
    wpAny (model prog w) A (subscriptTail value slice (.ref l) (.int k u)) Q E s :=
  have hl : s.heap.IsList l vs.toArray := News.isList N hm
  tail_any hl.typeIs slot_list_getitem.lookup (wpAny_getItem_list hl h0 hhi (by simpa using hx) h) hs
theorem last_led {value slice : Expr} {l : Addr} {vs : List Value} {n : Nat} {u : Tok} {v : Value} (N : News h₀ L s.heap news) (hm : (l, W.listOf vs.toArray n) ∈ news) (hx : vs.getLast? = some v) (h : Q v s)
    (hs : subscripted slice false (.ref l) (.int (-1) u) = operate [.ref l, .int (-1) u] (getItem (.ref l) (.int (-1) u)) := by with_unfolding_all rfl) :
    wpAny (model prog w) A (subscriptTail value slice (.ref l) (.int (-1) u)) Q E s := by
  have hl : s.heap.IsList l vs.toArray := News.isList N hm
  have hp : 0 < vs.length := by
    cases vs with
    | nil => cases hx
    | cons a r => simp
  refine tail_any hl.typeIs slot_list_getitem.lookup (wpAny_getItem_list_neg hl (by decide) (by rw [List.size_toArray]; omega) (by decide) ?_ h) hs
  rw [List.size_toArray, show ((-1 : Int) + (vs.length : Int)).toNat = vs.length - 1 by omega]
  rw [List.getLast?_eq_getElem?] at hx
  simpa using hx
/-- the texts, a comma between each two -/
def jn : List (List Nat) → List Nat
  | [] => []
  | [a] => a
  | a :: b :: r => a ++ 44 :: jn (b :: r)
theorem jn_tx : ∀ ls : List (List Nat), Str.join (tx [44]) (ls.map tx) = tx (jn ls)
  | [] => rfl
  | [a] => rfl
  | a :: b :: r => by
    have ih := jn_tx (b :: r)
    show tx a ++ tx [44] ++ Str.join (tx [44]) ((b :: r).map tx) = _
    rw [ih, tx_append, tx_append]
    simp [jn]
theorem jn_len : ∀ ls : List (List Nat), (jn ls).length ≤ (ls.map List.length).sum + ls.length
  | [] => Nat.le_refl _
  | [a] => by simp [jn]
  | a :: b :: r => by
    have ih := jn_len (b :: r)
    simp only [jn, List.length_append, List.length_cons, List.map_cons, List.sum_cons] at ih ⊢
    omega
theorem join0_tx : ∀ ls : List (List Nat), Str.join (tx []) (ls.map tx) = tx ls.flatten
  | [] => rfl
  | [a] => by simp [Str.join]
  | a :: b :: r => by
    have ih := join0_tx (b :: r)
    show tx a ++ tx [] ++ Str.join (tx []) ((b :: r).map tx) = _
    rw [ih, tx_append, tx_append]
    simp
theorem sum_le {ls : List (List Nat)} {b : Nat} (h : ∀ l ∈ ls, l.length ≤ b) : (ls.map List.length).sum ≤ ls.length * b := by
  induction ls with
  | nil => simp
  | cons a ls ih =>
    have h1 := h a (.head _)
    have h2 := ih fun l hl => h l (.tail _ hl)
    simp only [List.map_cons, List.sum_cons, List.length_cons]
    rw [Nat.add_mul]
    omega
theorem lens_tx (ls : List (List Nat)) : (ls.map tx).map (·.length) = ls.map List.length := by
  rw [List.map_map]
  exact List.map_congr_left fun a _ => tx_length a
theorem join_led {t : Tok} {l : Addr} {vs : List Value} {n : Nat} {ls : List (List Nat)} (N : News h₀ L s.heap news) (hm : (l, W.listOf vs.toArray n) ∈ news) (hs : StrsAre vs (ls.map tx)) (h1 : ls.length ≤ 1000) (h2 : ∀ l ∈ ls, l.length ≤ 1000)
    (h : ∀ t' k, Q (.str (tx (jn ls)) t') { s with toks := k }) : wpAny (model prog w) A (call (.builtin "str.join") [.str (Str.ofString ",") t, .ref l]) Q E s := by
  refine join_listC (News.isList N hm) (by simpa using hs) (by decide) ?_ ?_
  · rw [lens_tx, List.length_map]
    have h3 := sum_le h2
    have h4 : ls.length * 1000 ≤ 1000 * 1000 := Nat.mul_le_mul_right _ h1
    omega
  · intro t' k
    have e : Txt.join (Str.ofString ",") (ls.map tx) = tx (jn ls) := by
      rw [Txt.join, StrLaws.glued_eq_join, show Str.ofString "," = tx [44] by decide +kernel, jn_tx]
    rw [e]
    exact h t' k
theorem join0_led {t : Tok} {l : Addr} {vs : List Value} {n : Nat} {ls : List (List Nat)} (N : News h₀ L s.heap news) (hm : (l, W.listOf vs.toArray n) ∈ news) (hs : StrsAre vs (ls.map tx)) (h1 : ls.length ≤ 1000) (h2 : ∀ l ∈ ls, l.length ≤ 1000)
    (h : ∀ t' k, Q (.str (tx ls.flatten) t') { s with toks := k }) : wpAny (model prog w) A (call (.builtin "str.join") [.str (Str.ofString "") t, .ref l]) Q E s := by
  refine join_listC (News.isList N hm) (by simpa using hs) (by decide) ?_ ?_
  · rw [lens_tx, List.length_map]
    have h3 := sum_le h2
    have h4 : ls.length * 1000 ≤ 1000 * 1000 := Nat.mul_le_mul_right _ h1
    omega
  · intro t' k
    have e : Txt.join (Str.ofString "") (ls.map tx) = tx ls.flatten := by
      rw [Txt.join, StrLaws.glued_eq_join, show Str.ofString "" = tx [] by decide +kernel, join0_tx]
    rw [e]
    exact h t' k
end
end Mine
namespace Mine
local macro_rules | `(tactic| walk_at "call ref") => `(tactic| k_extra "call ref")
def texts (its : List (List Nat)) (n : Nat) : List (Option (List Nat)) := (List.range n).map fun k => item (its.getD k []) (decide (k + 1 = its.length))
def lst (its : List (List Nat)) : Option (List Nat) :=
  if (texts its its.length).any (·.isNone) then none else some (jn ((texts its its.length).map (·.getD [])) ++ if its.getLast? = some [] then [44] else [])
theorem istep_len (st : Option (List Nat) × Option (List Nat)) (n : Nat) : max (olen (istep st n).1) (olen (istep st n).2) ≤ max (olen st.1) (olen st.2) + 2 := by
  have a1 := olen_map st.1 [n]
  have a2 := olen_map st.2 [n]
  have a3 := olen_map st.2 [92, 34]
  have a4 := olen_map st.2 [92, 92]
  have a5 := olen_shorter (st.1.map (· ++ [n])) (st.2.map (· ++ [92, 34]))
  simp only [List.length_cons, List.length_nil] at a1 a2 a3 a4
  unfold istep
  split
  · dsimp only; omega
  · split
    · dsimp only; omega
    · split
      · have e0 : olen none = 0 := rfl
        dsimp only; omega
      · dsimp only; omega
theorem ifold_len_from (l : List Nat) : ∀ st : Option (List Nat) × Option (List Nat), max (olen (l.foldl istep st).1) (olen (l.foldl istep st).2) ≤ max (olen st.1) (olen st.2) + 2 * l.length := by
  induction l with
  | nil => intro st; simp
  | cons c l ih =>
    intro st
    have h1 := ih (istep st c)
    have h2 := istep_len st c
    rw [List.foldl_cons, List.length_cons]
    omega
theorem item_len (l : List Nat) (b : Bool) : olen (item l b) ≤ 2 * l.length := by
  have h := ifold_len_from l (some [], none)
  have e0 : olen (some []) = 0 := rfl
  have e1 : olen none = 0 := rfl
  dsimp only at h
  have h' : max (olen (ifold l).1) (olen (ifold l).2) ≤ 2 * l.length := by unfold ifold; omega
  unfold item
  split
  · split
    · have := olen_shorter (ifold l).1 (ifold l).2; omega
    · omega
  · simp [olen]
theorem texts_succ (its : List (List Nat)) (i : Nat) : texts its (i + 1) = texts its i ++ [item (its.getD i []) (decide (i + 1 = its.length))] := by
  unfold texts
  rw [List.range_succ, List.map_append]
  rfl
theorem texts_snoc {its : List (List Nat)} {i n : Nat} {y : List Nat} {ys : List Value} {t : Tok} (hn : n = its.length) (hi : its[i]? = some y) (hG : OptsAre ys (texts its i)) : OptsAre (ys ++ [ov t (item y ((0 : Int) + (i : Int) == (n : Int) - 1))]) (texts its (i + 1)) := by
  rw [texts_succ]
  have e1 : its.getD i [] = y := by simp [List.getD, hi]
  have e2 : ((0 : Int) + (i : Int) == (n : Int) - 1) = decide (i + 1 = its.length) := by
    rw [Bool.eq_iff_iff, beq_iff_eq, decide_eq_true_iff]; omega
  rw [e1, e2]
  exact hG.snoc
theorem texts_length (its : List (List Nat)) (n : Nat) : (texts its n).length = n := by simp [texts]
theorem texts_short {its ls : List (List Nat)} {n : Nat} (hz2 : ∀ i ∈ its, i.length ≤ 100) (e : texts its n = ls.map some) : ls.length = n ∧ ∀ l ∈ ls, l.length ≤ 200 := by
  constructor
  · have := congrArg List.length e; rw [texts_length, List.length_map] at this; exact this.symm
  · intro l hl
    have hm : some l ∈ texts its n := by rw [e]; exact List.mem_map_of_mem hl
    unfold texts at hm
    obtain ⟨k, _, hk⟩ := List.mem_map.mp hm
    have h1 := item_len (its.getD k []) (decide (k + 1 = its.length))
    rw [hk] at h1
    have h2 : (its.getD k []).length ≤ 100 := by
      rw [List.getD_eq_getElem?_getD]
      cases hx : its[k]? with
      | none => simp
      | some y => exact hz2 y (List.mem_of_getElem? hx)
    simp only [olen] at h1
    omega
theorem getD_some (ls : List (List Nat)) : (ls.map some).map (fun o => o.getD []) = ls := by
  rw [List.map_map]
  exact (List.map_congr_left (g := id) fun a _ => rfl).trans (List.map_id _)
theorem lst_none {its : List (List Nat)} {n : Nat} (hn : n = its.length) (h : (texts its n).any (·.isNone) = true) : lst its = none := by
  subst hn
  unfold lst
  rw [if_pos h]
theorem lst_some {its ls : List (List Nat)} {n : Nat} (hn : n = its.length) (e : texts its n = ls.map some) : lst its = some (jn ls ++ if its.getLast? = some [] then [44] else []) := by
  subst hn
  unfold lst
  rw [if_neg (by rw [e]; simp), e, getD_some]
theorem add_comma {prog : Program} {w : World} {A : Around} {E : Value → Shared → Prop} {s : Shared} {Q : Value → Shared → Prop} {t u : Tok} {p : List Nat} (hb : p.length ≤ 100000) (h : ∀ t' k, Q (.str (tx (p ++ [44])) t') { s with toks := k }) : wpAny (model prog w) A (binaryOp .Add (.str (tx p) t) (.str (Str.ofString ",") u)) Q E s := by
  rw [show Str.ofString "," = tx [44] by decide +kernel]
  exact add_tx (by simp; omega) h
theorem strs_last {vs : List Value} {its : List (List Nat)} {z : List Nat} (hs : StrsAre vs (its.map tx)) (h : its.getLast? = some z) : ∃ t, vs.getLast? = some (.str (tx z) t) := by
  have hl : vs.length = its.length := by rw [strs_len hs, List.length_map]
  rw [List.getLast?_eq_getElem?] at h ⊢
  have hlt : its.length - 1 < its.length := by
    rcases Nat.lt_or_ge (its.length - 1) its.length with h' | h'
    · exact h'
    · rw [List.getElem?_eq_none h'] at h; cases h
  obtain ⟨x, t, hx, e⟩ := strs_get hs (List.getElem?_eq_getElem (by omega : vs.length - 1 < vs.length))
  obtain ⟨y, hy, rfl⟩ := get_map hx
  rw [hl, h] at hy
  cases hy
  exact ⟨t, by rw [List.getElem?_eq_getElem (by omega : vs.length - 1 < vs.length), e]⟩
theorem rangeSize_up (n : Nat) : Builtin.Range.rangeSize 0 (n : Int) 1 = (n : Int) := by
  unfold Builtin.Range.rangeSize
  rw [if_pos (by decide)]
  split <;> omega
theorem end_plain {its ls : List (List Nat)} {n : Nat} {t : Tok} (hn : n = its.length) (e : texts its n = ls.map some) (hl : its.getLast? ≠ some []) : Value.str (tx (jn ls)) t = ov t (lst its) := by
  rw [lst_some hn e, if_neg hl, List.append_nil]; rfl
theorem end_comma {its ls : List (List Nat)} {n : Nat} {t : Tok} (hn : n = its.length) (e : texts its n = ls.map some) (hl : its.getLast? = some []) : Value.str (tx (jn ls ++ [44])) t = ov t (lst its) := by
  rw [lst_some hn e, if_pos hl]; rfl
theorem empty_tx (z : List Nat) : (tx z == Str.ofString "") = decide (z = []) := by
  rw [show Str.ofString "" = tx [] by decide +kernel, Bool.eq_iff_iff, beq_iff_eq, decide_eq_true_iff]
  exact ⟨tx_inj, fun h => by rw [h]⟩
theorem fillLi : Fill PySem.Challenge.rw_dz0129_01 hd.heap_39 := by
  k_fill
  trivial
set_option maxRecDepth 100000 in
set_option maxHeartbeats 8000000 in
theorem tel_list {prog w mean mg mb} (l : Addr) (vs : List Value) (nn : Nat) (its : List (List Nat)) (hs : StrsAre vs (its.map tx)) (hz1 : its.length ≤ 100) (hz2 : ∀ i ∈ its, i.length ≤ 100) :
    Tel prog w mean mg mb 64 3 [.ref l] (fun news => (l, W.listOf vs.toArray nn) ∈ news) (fun tl r => tl = [] ∧ ∃ t', r = ov t' (lst its)) := by
  k_with_none
  w_top off
  unfold Tel
  intro dp un gd cn cs a ccd cl outer A₀ base h₀ L m news s Q E B F X N T hk hP hd hu hret
  replace hP : (l, W.listOf vs.toArray nn) ∈ news := hP
  refine wpAny_call ?_
  k_dflt (refine' code_defC ?k1 ?k2 ?k3 ?k4 ?k5 ?kA ?kF ?kK ?k6 ?k7 ?k8 ?k9 ?kB ?kD ?_ ?c2 ?c3 ?c4; (case kA => exact rfl); (case kF => exact rfl); (case kK => assumption); (case k1 => k_asm); (case k2 => k_asm); (case k3 => k_asm); (case k4 => k_asm); (case k5 => k_asm); (case k6 => k_is); (case k7 => k_is); (case k8 => ktr_room); (case k9 => exact BindsTo.of_eq rfl); (case kB => exact rfl); (case kD => decide +kernel); (case c2 => exact rfl); (case c3 => exact rfl); (case c4 => exact rfl); k_whole; intro g' L' h' tk' cells' FG' F' N' Y' B' X' T' l1; k_cells Y'; (try simp only [List.cons_append, List.nil_append] at N'); (try dsimp only); (try k_fold))
  have hvl : vs.length = its.length := by rw [strs_len hs, List.length_map]
  have hget : ∀ k : Nat, k < its.length → ∃ y t, vs[((k : Int)).toNat]? = some (.str (tx y) t) ∧ its[k]? = some y := by
    intro k hk
    obtain ⟨x, t, hx, e⟩ := strs_get hs (List.getElem?_eq_getElem (by omega : k < vs.length))
    obtain ⟨y, hy, rfl⟩ := get_map hx
    exact ⟨y, t, by rw [Int.toNat_natCast, List.getElem?_eq_getElem (by omega : k < vs.length), e], hy⟩
  k_with "exec Assign cons ListComp" => (k_dflt (refine LCg.Assign_ListComp_U (F₀ := by k_asm) (by rfl) (by with_unfolding_all rfl) (by with_unfolding_all rfl) (by decide) (by rfl) (by decide) (by rfl) (by rfl) (by rfl) ?_))
  k_with "call builtin:len" => (k_dflt (refine' len_led ?k1 ?k2 ?k3 ?_; (case k1 => k_asm); (case k2 => (repeat' (first | exact hP | refine List.mem_cons_of_mem _ ?_))); (case k3 => omega); intro t' k'))
  iterate 15 (first | (k_unfold; (try dsimp only)) | (k_end; wrow_close) | walk1 | (dsimp only; walk1) | (leave1; try dsimp only))
  rename IsRange _ _ _ _ _ _ _ _ => hR
  refine LCg.CompSrc.range (n := vs.length) rfl (by assumption) (by assumption) hR (small_one (by omega) (by omega) (by omega) (by omega)) ?_ (by simp only [sizeLine]; omega) ?_
  · exact rangeSize_up _
  intro g₁
  refine comp_gen (fun i ys => OptsAre ys (texts its i)) .nil ?_ ?_
  · intro i ys v I oI C oC D m₂ h tk E' hi hv hG hC hx F N off ne
    obtain ⟨ti, rfl⟩ := hv
    obtain ⟨y, ty, hy, hyi⟩ := hget i (by omega)
    have hyl : y.length ≤ 10000 := Nat.le_trans (hz2 y (List.mem_of_getElem? hyi)) (by decide)
    k_with "subscriptTail Name Name ref int" => (k_dflt (refine' item_led (v := Value.str (tx y) ty) ?k1 ?k2 ?k3 ?k4 ?k5 ?_; (case k1 => k_asm); (case k2 => (repeat' (first | exact hP | refine List.mem_cons_of_mem _ ?_))); (case k3 => omega); (case k4 => omega); (case k5 => (rw [Int.zero_add]; exact hy))))
    k_with "call ref" => (k_dflt (refine' Tel.use (tel_item _ _ _ ?kz) ?k1 ?k2 ?k3 ?k4 ?k5 ?kK trivial ?kd ?ku ?_; (case kz => assumption); (case k1 => k_asm); (case k2 => k_asm); (case k3 => k_asm); (case k4 => k_asm); (case k5 => k_asm); (case kK => first | exact rfl | assumption); (case kd => ktr_room); (case ku => ktr_units); intro r tl h' tk' F' N' hq; obtain ⟨rfl, t', rfl⟩ := hq; simp only [List.nil_append] at N'))
    k_steps
    exact LCg.CompEnd.intro (by assumption) (by assumption) _ (fun p hp => hp) off trivial ⟨rfl, texts_snoc hvl hyi hG⟩
  · intro ys hys
    unfold LCg.FinA
    intro D h tk F N o1
    dsimp only
    k_with "compareOp In none ref" => (refine none_in (News.isList (by k_asm) (List.Mem.head _)) hys ?_; rw [hn])
    cases hn : (texts its vs.length).any (·.isNone)
    · obtain ⟨ls, els, hls⟩ := hys.strs hn
      obtain ⟨hl1, hl2⟩ := texts_short hz2 els
      have hjl : (jn ls).length ≤ 100000 := by
        have h1 := jn_len ls
        have h2 := sum_le hl2
        have h3 : ls.length * 200 ≤ 100 * 200 := Nat.mul_le_mul_right _ (by omega)
        omega
      have hl3 : ∀ l ∈ ls, l.length ≤ 1000 := fun l hl => Nat.le_trans (hl2 l hl) (by decide)
      k_with "call builtin:str.join" => (k_dflt (refine' join_led (ls := ls) ?k1 ?k2 ?k3 ?k4 ?k5 ?_; (case k1 => k_asm); (case k2 => exact List.mem_cons_of_mem _ (List.Mem.head _)); (case k3 => assumption); (case k4 => omega); (case k5 => assumption); intro t' k'))
      k_with "binaryOp Add str str" => (refine add_comma (by assumption) ?_; intro t' k')
      k_with "compareOp NotEq ref ref" => (k_dflt (refine' ne_lists (ls := its) (ms := []) (News.isList (by k_asm) ?m1) hs (vs := vs) (us := []) (News.isList (by k_asm) (List.Mem.head _)) .nil ?u ?_; (case m1 => (repeat' (first | exact hP | refine List.mem_cons_of_mem _ ?_))); (case u => (show un + 3 < cLine; omega))); rw [hdec])
      rcases hlast : its.getLast? with _ | z
      · have hits : its = [] := by simpa using hlast
        have hdec : decide (its = []) = true := by simpa using hits
        k_steps
        exact hret _ [] _ _ (by assumption) (fun p hp => by rename News _ _ _ _ => Nx; exact Nx p (.tail _ (.tail _ (.tail _ hp)))) ⟨rfl, t', end_plain hvl els (by rw [hlast]; simp)⟩
      · have hits : its ≠ [] := by rintro rfl; cases hlast
        have hdec : decide (its = []) = false := by simpa using hits
        obtain ⟨tz, hvlast⟩ := strs_last hs hlast
        k_with "subscriptTail Name UnaryOp ref int" => (k_dflt (refine' last_led ?k1 ?k2 hvlast ?_; (case k1 => k_asm); (case k2 => (repeat' (first | exact hP | refine List.mem_cons_of_mem _ ?_)))))
        k_steps
        all_goals (simp only [empty_tx, decide_eq_true_eq, decide_eq_false_iff_not] at *)
        · exact hret _ [] _ _ (by assumption) (fun p hp => by rename News _ _ _ _ => Nx; exact Nx p (.tail _ (.tail _ (.tail _ hp)))) ⟨rfl, t', end_comma hvl els (by rw [hlast]; congr 1)⟩
        · rename (¬ _ = []) => hz
          exact hret _ [] _ _ (by assumption) (fun p hp => by rename News _ _ _ _ => Nx; exact Nx p (.tail _ (.tail _ (.tail _ hp)))) ⟨rfl, t', end_plain hvl els (by rw [hlast]; intro e; exact hz (Option.some.inj e))⟩
    · k_steps
      exact hret _ [] _ _ (by assumption) (fun p hp => by rename News _ _ _ _ => Nx; exact Nx p (.tail _ (.tail _ hp))) ⟨rfl, 0, by rw [lst_none hvl hn]; rfl⟩
end Mine
namespace Mine
local macro_rules | `(tactic| walk_at "call ref") => `(tactic| k_extra "call ref")
def wish1 (its : List (List Nat)) (k : Nat) : List Nat := if (item (its.getD k []) (decide (k + 1 = its.length))).isNone then 34 :: (its.getD k [] ++ [34]) else its.getD k []
def wish (its : List (List Nat)) (n : Nat) : List (List Nat) := (List.range n).map (wish1 its)
structure WC where
  vs : List Value
  n : Nat
section
variable {prog : Program} {w : World} {A : Around} {E : Value → Shared → Prop} {s : Shared} {Q : Value → Shared → Prop} {t u : Tok}
theorem addQL {p : List Nat} (hb : p.length ≤ 100000) (h : ∀ t' k, Q (.str (tx (34 :: p)) t') { s with toks := k }) : wpAny (model prog w) A (binaryOp .Add (.str (Str.ofString "\"") t) (.str (tx p) u)) Q E s := by
  rw [show Str.ofString "\"" = tx [34] by decide +kernel]
  exact add_tx (by simp; omega) h
theorem addQR {p : List Nat} (hb : p.length ≤ 100000) (h : ∀ t' k, Q (.str (tx (34 :: (p ++ [34]))) t') { s with toks := k }) : wpAny (model prog w) A (binaryOp .Add (.str (tx (34 :: p)) t) (.str (Str.ofString "\"") u)) Q E s := by
  rw [show Str.ofString "\"" = tx [34] by decide +kernel]
  exact add_tx (by simp; omega) h
end
theorem wish_succ (its : List (List Nat)) (n : Nat) : wish its (n + 1) = wish its n ++ [wish1 its n] := by
  unfold wish
  rw [List.range_succ, List.map_append]
  rfl
theorem wish_none {its : List (List Nat)} {n v : Nat} {y : List Nat} (hv : v = its.length) (hy : its[n]? = some y) (hi : item y ((n : Int) == (v : Int) - 1) = none) : wish1 its n = 34 :: (y ++ [34]) := by
  have e1 : its.getD n [] = y := by simp [List.getD, hy]
  have e2 : ((n : Int) == (v : Int) - 1) = decide (n + 1 = its.length) := by
    rw [Bool.eq_iff_iff, beq_iff_eq, decide_eq_true_iff]; omega
  unfold wish1
  rw [e1, ← e2, hi]
  rfl
theorem wish_some {its : List (List Nat)} {n v : Nat} {y z : List Nat} (hv : v = its.length) (hy : its[n]? = some y) (hi : item y ((n : Int) == (v : Int) - 1) = some z) : wish1 its n = y := by
  have e1 : its.getD n [] = y := by simp [List.getD, hy]
  have e2 : ((n : Int) == (v : Int) - 1) = decide (n + 1 = its.length) := by
    rw [Bool.eq_iff_iff, beq_iff_eq, decide_eq_true_iff]; omega
  unfold wish1
  rw [e1, ← e2, hi]
  rfl
theorem wish_snoc {its : List (List Nat)} {us : List Value} {pre : List Int} {k : Int} {x : List Nat} {t : Tok} (hp : StrsAre us ((wish its pre.length).map tx)) (hx : wish1 its pre.length = x) : StrsAre (us ++ [.str (tx x) t]) ((wish its (pre ++ [k]).length).map tx) := by
  rw [List.length_append, List.length_singleton, wish_succ, hx, List.map_append]
  exact hp.append' (.cons _ _ .nil)
theorem fillW : Fill PySem.Challenge.rw_dz0129_01 hd.heap_39 := by
  k_fill
  trivial
set_option maxRecDepth 100000 in
set_option maxHeartbeats 8000000 in
theorem tel_wished {prog w mean mg mb} (l : Addr) (vs : List Value) (nn : Nat) (its : List (List Nat)) (hs : StrsAre vs (its.map tx)) (hz1 : its.length ≤ 100) (hz2 : ∀ i ∈ its, i.length ≤ 100) :
    Tel prog w mean mg mb 71 3 [.ref l] (fun news => (l, W.listOf vs.toArray nn) ∈ news) (fun tl r => ∃ b us n, r = .ref b ∧ tl = [(b, W.listOf us.toArray n)] ∧ StrsAre us ((wish its its.length).map tx)) := by
  k_with_none
  w_top off
  unfold Tel
  intro dp un gd cn cs a ccd cl outer A₀ base h₀ L m news s Q E B F X N T hk hP hd hu hret
  replace hP : (l, W.listOf vs.toArray nn) ∈ news := hP
  refine wpAny_call ?_
  k_dflt ktr_enter
  have hvl : vs.length = its.length := by rw [strs_len hs, List.length_map]
  have hget : ∀ k : Nat, k < its.length → ∃ y t, vs[((k : Int)).toNat]? = some (.str (tx y) t) ∧ its[k]? = some y := by
    intro k hk
    obtain ⟨x, t, hx, e⟩ := strs_get hs (List.getElem?_eq_getElem (by omega : k < vs.length))
    obtain ⟨y, hy, rfl⟩ := get_map hx
    exact ⟨y, t, by rw [Int.toNat_natCast, List.getElem?_eq_getElem (by omega : k < vs.length), e], hy⟩
  k_with "call builtin:len" => (k_dflt (refine' len_led ?k1 ?k2 ?k3 ?_; (case k1 => k_asm); (case k2 => (repeat' (first | exact hP | refine List.mem_cons_of_mem _ ?_ | exact List.mem_append_left _ (List.mem_cons_of_mem _ hP)))); (case k3 => omega); intro t' k'))
  k_with "exec For Name Call cons nil" => (k_here; (rename Fr _ _ _ _ => lF'); (with_unfolding_all refine' For_invVF lF' ?k1 ?k2 ?_; (case k1 => exact rfl); (case k2 => exact rfl); k_whole))
  iterate 22 (first | (k_unfold; (try dsimp only)) | (k_end; wrow_close) | walk1 | (dsimp only; walk1) | (leave1; try dsimp only))
  rename IsRange _ _ _ _ _ _ _ _ => hR
  rename Fr _ _ _ _ => F1
  rename News _ _ _ _ => N1
  rename (∀ p ∈ news, p.1 < _) => hl'
  rename_i l' _ _ _ _ _ _ _ _ _ _
  refine kst_range (σ := WC) (n := vs.length) (fun c => (_, W.listOf c.vs.toArray c.n) :: news) (fun c => []) (fun c => True) [] (fun pre c => StrsAre c.vs ((wish its pre.length).map tx)) ⟨[], 0⟩ rfl hR (small_one (by omega) (by omega) (by omega) (by omega)) (rangeSize_up _) F1 N1 trivial (List.forall_mem_nil _) .nil ?_ ?_
  · intro c pre k t u h tk own hke hlt hoff hf hp F N
    obtain ⟨us, wn⟩ := c
    dsimp only [kstB] at F N hp
    rw [Int.zero_add] at hke
    subst hke
    obtain ⟨y, ty, hy, hyi⟩ := hget pre.length (by omega)
    have hyl : y.length ≤ 10000 := Nat.le_trans (hz2 y (List.mem_of_getElem? hyi)) (by decide)
    have hus : us.length = pre.length := by rw [strs_len hp, List.length_map]; simp [wish]
    have hne : ∀ p ∈ news ++ own, p.1 ≠ l' := by
      intro p hp
      rcases List.mem_append.mp hp with hp | hp
      · exact Nat.ne_of_lt (hl' p hp)
      · exact hoff p hp l' (List.Mem.head _)
    clear F1 N1 hR
    k_with "call builtin:len" => (k_dflt (refine' len_led ?k1 ?k2 ?k3 ?_; (case k1 => k_asm); (case k2 => exact List.mem_append_left _ (List.mem_cons_of_mem _ hP)); (case k3 => omega); intro t' k'))
    k_with "subscriptTail Name Name ref int" => (k_dflt (refine' item_led (v := Value.str (tx y) ty) ?k1 ?k2 ?k3 ?k4 ?k5 ?_; (case k1 => k_asm); (case k2 => exact List.mem_append_left _ (List.mem_cons_of_mem _ hP)); (case k3 => omega); (case k4 => omega); (case k5 => exact hy)))
    k_with "call ref" => (k_dflt (refine' Tel.use (tel_item y _ _ ?kz) ?k1 ?k2 ?k3 ?k4 ?k5 ?kK trivial ?kd ?ku ?_; (case kz => assumption); (case k1 => k_asm); (case k2 => k_asm); (case k3 => k_asm); (case k4 => k_asm); (case k5 => k_asm); (case kK => first | exact rfl | assumption); (case kd => ktr_room); (case ku => ktr_units); intro r tl h' tk' F' N' hq; obtain ⟨rfl, t', hr⟩ := hq; (generalize hi : item y _ = oi at hr); cases oi <;> (simp only [ov] at hr; subst hr; simp only [List.nil_append] at N')))
    k_with "call builtin:list.append" => (refine' append_K ?k1 ?k2 (Upd.head ?k3) ?_ ?z; (case k1 => k_asm); (case k2 => k_asm); (case k3 => assumption); (case z => simp [sizeLine]; omega); intro h' F' N'; (try k_sweep))
    k_with "binaryOp Add str str" => (first | (refine addQL (by omega) ?_; intro t' k') | (refine addQR (by omega) ?_; intro t' k'))
    k_steps
    all_goals (rename Fr _ _ _ _ => Fx; rename News _ _ _ _ => Nx; simp only [List.push_toArray] at Nx)
    · exact kst_end (x := Str.ofString "k") (⟨us ++ [.str (tx (34 :: (y ++ [34]))) _], wn + 1⟩ : WC) Fx Nx (fun p hp => by rcases List.mem_cons.mp hp with rfl | hp; exact .head _; exact .tail _ (List.mem_append_left _ hp)) (fun p hp => .tail _ (List.mem_append_right _ hp)) rfl trivial (List.forall_mem_nil _) (by intro z hz1 hz2 _; simp only [if_neg hz1, List.contains_nil, Bool.false_eq_true, if_false]) (wish_snoc hp (wish_none hvl hyi hi))
    · exact kst_end (x := Str.ofString "k") (⟨us ++ [.str (tx y) _], wn + 1⟩ : WC) Fx Nx (fun p hp => by rcases List.mem_cons.mp hp with rfl | hp; exact .head _; exact .tail _ (List.mem_append_left _ hp)) (fun p hp => .tail _ (List.mem_append_right _ hp)) rfl trivial (List.forall_mem_nil _) (by intro z hz1 hz2 _; simp only [if_neg hz1, List.contains_nil, Bool.false_eq_true, if_false]) (wish_snoc hp (wish_some hvl hyi hi))
  · intro c u h tk hf hp F N
    obtain ⟨us, wn⟩ := c
    dsimp only [kstB] at F N hp
    dsimp only
    rw [rangeKs_length, hvl] at hp
    clear F1 N1 hR
    k_steps
    rename News _ _ _ _ => Nx
    exact hret _ [(l', W.listOf us.toArray wn)] _ _ (by assumption) Nx ⟨l', us, wn, rfl, rfl, hp⟩
end Mine
namespace Mine
/-! a loop down a range that makes tuples and keeps them -/
def GrowEnd {σ : Type} (h₀ : Heap) (L : Addr) (own nx : Led) (ps : σ → List (Str × Value)) (Pn : σ → Led → Prop) (s₁ s₂ : Shared) : Prop :=
  ∃ h' tk m' news' added c', s₂ = { s₁ with heap := h', toks := tk } ∧ Fr h₀ L h' m' ∧ News h₀ L h' news' ∧ (∀ p ∈ own, p ∈ news') ∧ (∀ p ∈ nx, p ∈ news') ∧ (∀ p ∈ added, p ∈ news' ∧ p.2.cls = .type "tuple") ∧ (∀ p ∈ ps c', m' p.1 = some p.2) ∧ Pn c' (added ++ nx)
def GrowPost {σ : Type} (h₀ : Heap) (L : Addr) (own nx : Led) (ps : σ → List (Str × Value)) (Pn : σ → Led → Prop) (s₁ : Shared) (Q : Flow → Shared → Prop) (f : Flow) (s₂ : Shared) : Prop :=
  match f with
  | .ret v => Q (.ret v) s₂
  | .brk => Q .next s₂
  | _ => GrowEnd h₀ L own nx ps Pn s₁ s₂
theorem GrowPost.next {σ : Type} {h₀ : Heap} {L : Addr} {own nx : Led} {ps : σ → List (Str × Value)} {Pn : σ → Led → Prop} {s₁ : Shared} {Q : Flow → Shared → Prop} {s₂ : Shared} (h : GrowEnd h₀ L own nx ps Pn s₁ s₂) : GrowPost h₀ L own nx ps Pn s₁ Q .next s₂ := h
theorem GrowEnd.intro {σ : Type} {h₀ : Heap} {L : Addr} {own nx : Led} {ps : σ → List (Str × Value)} {Pn : σ → Led → Prop} {s₁ : Shared} {h' : Heap} {tk : Nat} {m' : Str → Option Value} {news' : Led} (added : Led) (c' : σ)
    (F : Fr h₀ L h' m') (N : News h₀ L h' news') (ho : ∀ p ∈ own, p ∈ news') (hn : ∀ p ∈ nx, p ∈ news') (ha : ∀ p ∈ added, p ∈ news' ∧ p.2.cls = .type "tuple") (hk : ∀ p ∈ ps c', m' p.1 = some p.2) (hp : Pn c' (added ++ nx)) :
    GrowEnd h₀ L own nx ps Pn s₁ { s₁ with heap := h', toks := tk } := ⟨h', tk, m', news', added, c', rfl, F, N, ho, hn, ha, hk, hp⟩
theorem fr_kstB {h₀ h : Heap} {L : Addr} {m : Str → Option Value} {ps : List (Str × Value)} (hk : ∀ p ∈ ps, m p.1 = some p.2) (F : Fr h₀ L h m) : Fr h₀ L h (kstB m ps) := by
  have e : kstB m ps = m := by funext y; exact kstB_eq hk fun _ => rfl
  rw [e]; exact F
theorem fr_kstB' {h₀ h : Heap} {L : Addr} {m : Str → Option Value} {ps : List (Str × Value)} {x : Str} {v : Value} (hk : ∀ p ∈ ps, m p.1 = some p.2) (F : Fr h₀ L h (fun y => if y = x then some v else m y)) : Fr h₀ L h (fun y => if y = x then some v else kstB m ps y) := by
  have e : kstB m ps = m := by funext y; exact kstB_eq hk fun _ => rfl
  rw [e]; exact F
section
variable {prog : Program} {w : World} {A : Around} {E : Value → Shared → Prop} {s : Shared} {env : Env} {h₀ : Heap} {x : Str} {body : List Stmt} {Q : Flow → Shared → Prop}
theorem grow_down {σ : Type} {r : Addr} {a₀ b₀ : Int} {t₀ u₀ v₀ : Tok} {n : Nat} {m₀ : Str → Option Value} {news : Led} (ps : σ → List (Str × Value)) (P : Nat → σ → Led → Prop) (c₀ : σ)
    (hh : A.handled = none) (hr : IsRange s.heap r a₀ b₀ (-1) t₀ u₀ v₀) (hsmall : Builtin.Range.small a₀ b₀ (-1) = true) (hn : Builtin.Range.rangeSize a₀ b₀ (-1) = (n : Int)) (F : Fr h₀ env.locals s.heap m₀) (N : News h₀ env.locals s.heap news) (hk : ∀ p ∈ ps c₀, m₀ p.1 = some p.2) (hp : P 0 c₀ news)
    (turn : ∀ (c : σ) (i : Nat) t (m₁ : Str → Option Value) (nx : Led) h tk own, i < n → P i c nx →
      Fr h₀ env.locals h (fun y => if y = x then some (.int (a₀ - (i : Int)) t) else kstB m₁ (ps c) y) → News h₀ env.locals h (own ++ nx) →
      wpAny (model prog w) A (execs body env) (GrowPost h₀ env.locals own nx ps (P (i + 1)) { s with heap := h, toks := tk } Q) E { s with heap := h, toks := tk })
    (done : ∀ (c : σ) (m₁ : Str → Option Value) (nx : Led) h tk, P n c nx → Fr h₀ env.locals h (kstB m₁ (ps c)) → News h₀ env.locals h nx → Q .next { s with heap := h, toks := tk }) :
    wpAny (model prog w) A (pyIter (.ref r)) (fun it s₂ => LoopAtV prog w A h₀ env x body Q E it s₂) E s := by
  refine wpAny_pyIter_range hr hsmall ?_
  have W : Walks prog w A s.heap.objs.size [s.heap.objs.size] [s.heap.objs.size] n (fun i v => ∃ t, v = .int (a₀ + i * (-1)) t)
      (fun i h => IsRangeIter h s.heap.objs.size (a₀ + (i : Nat) * (-1)) ((n : Int) - (i : Nat)) (-1)) := Walks.range hh _ a₀ (-1) n
  refine ⟨s.heap.objs.size, [s.heap.objs.size], [s.heap.objs.size], n, _, _, m₀, news, fun i m nx => ∃ c, (∀ p ∈ ps c, m p.1 = some p.2) ∧ P i c nx, rfl, W, ?_, ?_, ?_, (by show IsRangeIter _ _ _ _ _; rw [hn]; simpa using Heap.get?_push_size _ rfl), F.push _, (fun p hp => ⟨Heap.get?_push_of_some _ (N p hp).1, (N p hp).2⟩), ⟨c₀, hk, hp⟩, ?_, ?_⟩
  · intro hm
    exact absurd F.ns.lt ((List.mem_singleton.mp hm) ▸ Nat.lt_irrefl _)
  · intro b hb
    rw [List.mem_singleton.mp hb]
    exact next_is_new F
  · intro p hp hI
    exact absurd (Heap.lt_size (N p hp).1) ((List.mem_singleton.mp hI) ▸ Nat.lt_irrefl _)
  · rintro i v m₁ nx s₁ own ⟨h, tk, rfl⟩ hi ⟨t, rfl⟩ ⟨c, hkc, hpc⟩ hoff hown hown2 hown3 hst F₁ N₁
    have e1 : a₀ + (i : Int) * (-1) = a₀ - (i : Int) := by omega
    rw [e1] at F₁
    obtain ⟨oI, hoI, hclsI⟩ : ∃ oI, h.get? s.heap.objs.size = some oI ∧ oI.cls ≠ .type "tuple" := ⟨_, hst, by intro e; simp at e⟩
    have hIown : (s.heap.objs.size, oI) ∈ own := hown3 _ (List.mem_singleton.mpr rfl) (next_is_new F) oI hoI
    refine wpAny_mono (turn c i t m₁ nx h tk own hi hpc (fr_kstB' hkc F₁) N₁) (fun f s₂ hq => ?_) fun _ _ e => e
    have fin : GrowEnd h₀ env.locals own nx ps (P (i + 1)) { s with heap := h, toks := tk } s₂ → LoopStepU h₀ env.locals [s.heap.objs.size] own (fun m nx => ∃ c, (∀ p ∈ ps c, m p.1 = some p.2) ∧ P (i + 1) c nx) { s with heap := h, toks := tk } .next s₂ := by
      rintro ⟨h', tk', m', news', added, c', rfl, F', N', ho, hn', ha, hk', hp'⟩
      refine ⟨rfl, h', tk', m', added ++ nx, rfl, F', fun p hp => N' p ?_, fun p hp hI => ?_, c', hk', hp'⟩
      · rcases List.mem_append.mp hp with hp | hp
        · exact ho p hp
        · rcases List.mem_append.mp hp with hp | hp
          · exact (ha p hp).1
          · exact hn' p hp
      · have hI' := List.mem_singleton.mp hI
        rcases List.mem_append.mp hp with hp | hp
        · have g1 := (N' p (ha p hp).1).1
          have g2 := (N' _ (ho _ hIown)).1
          rw [hI', g2] at g1
          have g3 : oI = p.2 := Option.some.inj g1
          exact hclsI (by rw [g3]; exact (ha p hp).2)
        · exact hoff p hp hI
    cases f with
    | ret v => exact .ret hq
    | brk => exact .brk hq
    | next => exact .next (fin hq)
    | cont => exact .cont (fin hq)
  · rintro h' tk m' news' F' N' _ ⟨c, hkc, hpc⟩
    exact done c m' news' h' tk hpc (fr_kstB hkc F') N'
end
/-! chains -/
abbrev tupO (vs : List Value) : Obj := { cls := .type "tuple", data := .seq vs.toArray }
inductive ChIn (news : Led) : Value → List (List Nat) → Prop
  | nil : ChIn news .none []
  | cons {a : Addr} {y : List Nat} {t : Tok} {v : Value} {ls : List (List Nat)} : (a, tupO [.str (tx y) t, v]) ∈ news → ChIn news v ls → ChIn news (.ref a) (y :: ls)
theorem ChIn.mono {news news' : Led} {v : Value} {ls : List (List Nat)} (hs : ∀ p ∈ news, p ∈ news') (h : ChIn news v ls) : ChIn news' v ls := by
  induction h with
  | nil => exact .nil
  | cons hm _ ih => exact .cons (hs _ hm) ih
theorem ChIn.open {news : Led} {v : Value} {ls : List (List Nat)} (h : ChIn news v ls) (hne : ls ≠ []) : ∃ a y t v' r, v = .ref a ∧ ls = y :: r ∧ (a, tupO [.str (tx y) t, v']) ∈ news ∧ ChIn news v' r := by
  cases h with
  | nil => exact absurd rfl hne
  | cons hm r => exact ⟨_, _, _, _, _, rfl, rfl, hm, r⟩
/-! the reading from the end -/
def push (c : Nat) : List (List Nat) → List (List Nat)
  | [] => []
  | y :: r => (c :: y) :: r
structure RS where
  p : List (List Nat)
  h : List (List Nat)
  f : List (List Nat)
def rstep (c : Nat) (st : RS) : RS :=
  if c = 34 then ⟨push c st.h, push c st.p, push c st.h⟩
  else if c = 92 then ⟨push c st.p, st.f, push c st.h⟩
  else if c = 44 then ⟨[] :: st.p, push c st.h, push c st.h⟩
  else ⟨push c st.p, push c st.h, push c st.h⟩
def rst (l : List Nat) : RS := l.foldr rstep ⟨[[]], [[]], [[]]⟩
def readL (l : List Nat) : List (List Nat) := (if (rst l).p.getLast? = some [] then (rst l).p.dropLast else (rst l).p).map trim
theorem push_ne {c : Nat} {l : List (List Nat)} (h : l ≠ []) : push c l ≠ [] := by
  cases l with
  | nil => exact absurd rfl h
  | cons y r => simp [push]
def RS.Ne (st : RS) : Prop := st.p ≠ [] ∧ st.h ≠ [] ∧ st.f ≠ []
theorem rstep_ne {c : Nat} {st : RS} (h : st.Ne) : (rstep c st).Ne := by
  obtain ⟨h1, h2, h3⟩ := h
  unfold rstep
  split
  · exact ⟨push_ne h2, push_ne h1, push_ne h2⟩
  · split
    · exact ⟨push_ne h1, h3, push_ne h2⟩
    · split
      · exact ⟨by simp, push_ne h2, push_ne h2⟩
      · exact ⟨push_ne h1, push_ne h2, push_ne h2⟩
theorem rst_ne (l : List Nat) : (rst l).Ne := by
  induction l with
  | nil => exact ⟨by simp [rst], by simp [rst], by simp [rst]⟩
  | cons c l ih => exact rstep_ne ih
def RS.Short (st : RS) (n : Nat) : Prop := ((∀ y ∈ st.p, y.length ≤ n) ∧ st.p.length ≤ n + 1) ∧ ((∀ y ∈ st.h, y.length ≤ n) ∧ st.h.length ≤ n + 1) ∧ ((∀ y ∈ st.f, y.length ≤ n) ∧ st.f.length ≤ n + 1)
theorem push_short {c n : Nat} {l : List (List Nat)} (h : (∀ y ∈ l, y.length ≤ n) ∧ l.length ≤ n + 1) : (∀ y ∈ push c l, y.length ≤ n + 1) ∧ (push c l).length ≤ n + 1 + 1 := by
  cases l with
  | nil => simp [push]
  | cons z r =>
    refine ⟨fun y hy => ?_, by have := h.2; simp only [push, List.length_cons] at this ⊢; omega⟩
    simp only [push] at hy
    rcases List.mem_cons.mp hy with rfl | hy
    · have := h.1 z (.head _); simp only [List.length_cons]; omega
    · have := h.1 y (.tail _ hy); omega
theorem more_short {n : Nat} {l : List (List Nat)} (h : (∀ y ∈ l, y.length ≤ n) ∧ l.length ≤ n + 1) : (∀ y ∈ l, y.length ≤ n + 1) ∧ l.length ≤ n + 1 + 1 := ⟨fun y hy => Nat.le_succ_of_le (h.1 y hy), Nat.le_succ_of_le h.2⟩
theorem rstep_short {c n : Nat} {st : RS} (h : st.Short n) : (rstep c st).Short (n + 1) := by
  obtain ⟨h1, h2, h3⟩ := h
  unfold rstep
  split
  · exact ⟨push_short h2, push_short h1, push_short h2⟩
  · split
    · exact ⟨push_short h1, more_short h3, push_short h2⟩
    · split
      · refine ⟨⟨fun y hy => ?_, by have := h1.2; simp only [List.length_cons]; omega⟩, push_short h2, push_short h2⟩
        rcases List.mem_cons.mp hy with rfl | hy
        · simp
        · exact (more_short h1).1 y hy
      · exact ⟨push_short h1, push_short h2, push_short h2⟩
theorem rst_short (l : List Nat) : (rst l).Short l.length := by
  induction l with
  | nil =>
    have e : (∀ y ∈ ([[]] : List (List Nat)), y.length ≤ 0) ∧ ([[]] : List (List Nat)).length ≤ 0 + 1 := by simp
    exact ⟨e, e, e⟩
  | cons c l ih => exact rstep_short ih
end Mine
namespace Mine
local macro_rules | `(tactic| walk_at "call ref") => `(tactic| k_extra "call ref")
theorem fillD : Fill PySem.Challenge.rw_dz0129_01 hd.heap_39 := by
  k_fill
  trivial
structure RC where
  st : RS
  vp : Value
  vh : Value
  vf : Value
def RC.Ok (x : List Nat) (i : Nat) (c : RC) (nx : Led) : Prop :=
  ChIn nx c.vp c.st.p ∧ ChIn nx c.vh c.st.h ∧ ChIn nx c.vf c.st.f ∧ c.st = rst (x.drop (x.length - i)) ∧ i ≤ x.length
theorem push_eq {c : Nat} {p : List (List Nat)} {y : List Nat} {r : List (List Nat)} (h : p = y :: r) : push c p = (c :: y) :: r := by rw [h]; rfl
theorem rst_cons {x : List Nat} {i c : Nat} {st : RS} (hi : i < x.length) (hc : x[(((x.length : Int) - 1) - (i : Int)).toNat]? = some c) (hst : st = rst (x.drop (x.length - i))) : rstep c st = rst (x.drop (x.length - (i + 1))) := by
  have e : (((x.length : Int) - 1) - (i : Int)).toNat = x.length - (i + 1) := by omega
  rw [e] at hc
  have hlt : x.length - (i + 1) < x.length := by omega
  rw [List.drop_eq_getElem_cons hlt, show x.length - (i + 1) + 1 = x.length - i by omega]
  have : x[x.length - (i + 1)] = c := by rw [List.getElem?_eq_getElem hlt] at hc; exact Option.some.inj hc
  rw [this, hst]
  rfl
theorem addS {prog : Program} {w : World} {A : Around} {E : Value → Shared → Prop} {s : Shared} {Q : Value → Shared → Prop} {t u : Tok} {c : Nat} {p : List Nat} (hb : p.length ≤ 100000) (h : ∀ t' k, Q (.str (tx (c :: p)) t') { s with toks := k }) : wpAny (model prog w) A (binaryOp .Add (.str ⟨#[c]⟩ t) (.str (tx p) u)) Q E s :=
  add_tx (p := [c]) (q := p) (by simp; omega) h
theorem grow3 {σ : Type} {h₀ : Heap} {L : Addr} {own nx : Led} {ps : σ → List (Str × Value)} {Pn : σ → Led → Prop} {s₁ : Shared} {h' : Heap} {tk : Nat} {m' : Str → Option Value} {q3 q2 q1 : Addr × Obj} (c' : σ)
    (F : Fr h₀ L h' m') (N : News h₀ L h' (q3 :: q2 :: q1 :: (own ++ nx))) (c3 : q3.2.cls = .type "tuple") (c2 : q2.2.cls = .type "tuple") (c1 : q1.2.cls = .type "tuple") (hk : ∀ p ∈ ps c', m' p.1 = some p.2) (hp : Pn c' (q3 :: q2 :: q1 :: nx)) :
    GrowEnd h₀ L own nx ps Pn s₁ { s₁ with heap := h', toks := tk } :=
  GrowEnd.intro [q3, q2, q1] c' F N (fun p hp => .tail _ (.tail _ (.tail _ (List.mem_append_left _ hp)))) (fun p hp => .tail _ (.tail _ (.tail _ (List.mem_append_right _ hp))))
    (List.forall_mem_cons.mpr ⟨⟨.head _, c3⟩, List.forall_mem_cons.mpr ⟨⟨.tail _ (.head _), c2⟩, List.forall_mem_cons.mpr ⟨⟨.tail _ (.tail _ (.head _)), c1⟩, List.forall_mem_nil _⟩⟩⟩) hk hp
theorem grow4 {σ : Type} {h₀ : Heap} {L : Addr} {own nx : Led} {ps : σ → List (Str × Value)} {Pn : σ → Led → Prop} {s₁ : Shared} {h' : Heap} {tk : Nat} {m' : Str → Option Value} {q4 q3 q2 q1 : Addr × Obj} (c' : σ)
    (F : Fr h₀ L h' m') (N : News h₀ L h' (q4 :: q3 :: q2 :: q1 :: (own ++ nx))) (c4 : q4.2.cls = .type "tuple") (c3 : q3.2.cls = .type "tuple") (c2 : q2.2.cls = .type "tuple") (c1 : q1.2.cls = .type "tuple") (hk : ∀ p ∈ ps c', m' p.1 = some p.2) (hp : Pn c' (q4 :: q3 :: q2 :: q1 :: nx)) :
    GrowEnd h₀ L own nx ps Pn s₁ { s₁ with heap := h', toks := tk } :=
  GrowEnd.intro [q4, q3, q2, q1] c' F N (fun p hp => .tail _ (.tail _ (.tail _ (.tail _ (List.mem_append_left _ hp))))) (fun p hp => .tail _ (.tail _ (.tail _ (.tail _ (List.mem_append_right _ hp)))))
    (List.forall_mem_cons.mpr ⟨⟨.head _, c4⟩, List.forall_mem_cons.mpr ⟨⟨.tail _ (.head _), c3⟩, List.forall_mem_cons.mpr ⟨⟨.tail _ (.tail _ (.head _)), c2⟩, List.forall_mem_cons.mpr ⟨⟨.tail _ (.tail _ (.tail _ (.head _))), c1⟩, List.forall_mem_nil _⟩⟩⟩⟩) hk hp
theorem sub3 {q3 q2 q1 : Addr × Obj} {nx : Led} : ∀ p ∈ nx, p ∈ q3 :: q2 :: q1 :: nx := fun _ h => .tail _ (.tail _ (.tail _ h))
theorem sub4 {q4 q3 q2 q1 : Addr × Obj} {nx : Led} : ∀ p ∈ nx, p ∈ q4 :: q3 :: q2 :: q1 :: nx := fun _ h => .tail _ (.tail _ (.tail _ (.tail _ h)))
theorem rc_of {x : List Nat} {i c : Nat} {st : RS} {led : Led} {vp vh vf : Value} {p h f : List (List Nat)} (e : rstep c st = ⟨p, h, f⟩) (h1 : ChIn led vp p) (h2 : ChIn led vh h) (h3 : ChIn led vf f) (hst : rstep c st = rst (x.drop (x.length - (i + 1)))) (hi : i < x.length) :
    RC.Ok x (i + 1) ⟨rstep c st, vp, vh, vf⟩ led := by
  refine ⟨?_, ?_, ?_, hst, hi⟩
  · dsimp only; rw [e]; exact h1
  · dsimp only; rw [e]; exact h2
  · dsimp only; rw [e]; exact h3
theorem e34 {c : Nat} {st : RS} {yp yh : List Nat} {rp rh : List (List Nat)} (hc : c = 34) (hp : st.p = yp :: rp) (hh : st.h = yh :: rh) : rstep c st = ⟨(c :: yh) :: rh, (c :: yp) :: rp, (c :: yh) :: rh⟩ := by
  unfold rstep; rw [if_pos hc, push_eq hp, push_eq hh]
theorem e92 {c : Nat} {st : RS} {yp yh : List Nat} {rp rh : List (List Nat)} (h1 : ¬ c = 34) (hc : c = 92) (hp : st.p = yp :: rp) (hh : st.h = yh :: rh) : rstep c st = ⟨(c :: yp) :: rp, st.f, (c :: yh) :: rh⟩ := by
  unfold rstep; rw [if_neg h1, if_pos hc, push_eq hp, push_eq hh]
theorem e44 {c : Nat} {st : RS} {yp yh : List Nat} {rp rh : List (List Nat)} (h1 : ¬ c = 34) (h2 : ¬ c = 92) (hc : c = 44) (hp : st.p = yp :: rp) (hh : st.h = yh :: rh) : rstep c st = ⟨[] :: yp :: rp, (c :: yh) :: rh, (c :: yh) :: rh⟩ := by
  unfold rstep; rw [if_neg h1, if_neg h2, if_pos hc, push_eq hh, hp]
theorem e00 {c : Nat} {st : RS} {yp yh : List Nat} {rp rh : List (List Nat)} (h1 : ¬ c = 34) (h2 : ¬ c = 92) (h3 : ¬ c = 44) (hp : st.p = yp :: rp) (hh : st.h = yh :: rh) : rstep c st = ⟨(c :: yp) :: rp, (c :: yh) :: rh, (c :: yh) :: rh⟩ := by
  unfold rstep; rw [if_neg h1, if_neg h2, if_neg h3, push_eq hp, push_eq hh]
theorem kl_last_of {vs : List Value} {y : Value} (h : vs.getLast? = some y) : kl_last vs = some (vs.dropLast, y) := by
  induction vs with
  | nil => cases h
  | cons x r ih =>
    cases r with
    | nil => simp at h; subst h; rfl
    | cons z r =>
      have h' : (z :: r).getLast? = some y := by simpa [List.getLast?_cons_cons] using h
      have e := ih h'
      show (match kl_last (z :: r) with | some (p, y) => some (x :: p, y) | none => some ([], x)) = _
      rw [e]
      rfl
theorem pop_led {prog : Program} {w : World} {A : Around} {E : Value → Shared → Prop} {s : Shared} {Q : Value → Shared → Prop} {h₀ : Heap} {L D : Addr} {m : Str → Option Value} {nx : Led} {vs : List Value} {y : Value} {n : Nat} (F : Fr h₀ L s.heap m) (N : News h₀ L s.heap ((D, W.listOf vs.toArray n) :: nx)) (hy : vs.getLast? = some y) (hne : ∀ p ∈ nx, p.1 ≠ D) (hz : vs.length ≤ 100000)
    (h : ∀ h', Fr h₀ L h' m → News h₀ L h' ((D, W.listOf vs.dropLast.toArray (n + 1)) :: nx) → Q y { s with heap := h' }) : wpAny (model prog w) A (call (.builtin "list.pop") [.ref D]) Q E s :=
  kl_pop F N (kl_last_of (by simpa using hy)) (Upd.head hne) (by simp only [sizeLine]; simp; omega) h
theorem strs_dropLast {vs : List Value} {ws : List Str} (h : StrsAre vs ws) : StrsAre vs.dropLast ws.dropLast := by
  induction h with
  | nil => exact .nil
  | cons y t r ih =>
    cases r with
    | nil => exact .nil
    | cons z u r' => exact .cons y t ih
theorem rd_snoc {res : List (List Nat)} {i : Nat} {r : List Nat} {ys : List Value} {t : Tok} (hr : res[i]? = some r) (h : StrsAre ys ((res.take i).map fun r => tx (trim r))) : StrsAre (ys ++ [.str (tx (trim r)) t]) ((res.take (i + 1)).map fun r => tx (trim r)) := by
  rw [List.take_add_one, hr]
  simpa using h.append' (.cons _ t .nil)
theorem rd_fin1 {x : List Nat} {st : RS} {vs ys : List Value} (hst : st = rst x) (hf : StrsAre vs (st.p.dropLast.map tx)) (hl : st.p.getLast? = some []) (hys : StrsAre ys ((st.p.dropLast.take vs.toArray.size).map fun r => tx (trim r))) : StrsAre ys ((readL x).map tx) := by
  have e : vs.toArray.size = st.p.dropLast.length := by rw [List.size_toArray, strs_len hf, List.length_map]
  rw [e, List.take_length] at hys
  unfold readL
  rw [← hst, if_pos hl, List.map_map]
  exact hys
theorem rd_fin2 {x : List Nat} {st : RS} {vs ys : List Value} (hst : st = rst x) (hf : StrsAre vs (st.p.map tx)) (hl : st.p.getLast? ≠ some []) (hys : StrsAre ys ((st.p.take vs.toArray.size).map fun r => tx (trim r))) : StrsAre ys ((readL x).map tx) := by
  have e : vs.toArray.size = st.p.length := by rw [List.size_toArray, strs_len hf, List.length_map]
  rw [e, List.take_length] at hys
  unfold readL
  rw [← hst, if_neg hl, List.map_map]
  exact hys
structure WhC where
  dn : List Value
  n : Nat
  v : Value
  front : List (List Nat)
  rest : List (List Nat)
theorem empty_s : Str.ofString "" = tx [] := by decide +kernel
set_option maxRecDepth 100000 in
set_option maxHeartbeats 8000000 in
theorem tel_read {prog w mean mg mb} (x : List Nat) (t : Tok) (hz : x.length ≤ 10000) :
    Tel prog w mean mg mb 38 2 [.str (tx x) t] (fun _ => True) (fun tl r => ∃ b vs n, r = .ref b ∧ tl = [(b, W.listOf vs.toArray n)] ∧ StrsAre vs ((readL x).map tx)) := by
  k_with_none
  w_top off
  unfold Tel
  intro dp un gd cn cs a ccd cl outer A₀ base h₀ L m news s Q E B F X N T hk hP hd hu hret
  refine wpAny_call ?_
  k_dflt ktr_enter
  k_with "call builtin:len" => (refine len_tx_call (by omega) ?_; intro t' k')
  k_with "exec For Name Call cons nil" => (k_here; (rename Fr _ _ _ _ => lF'); (with_unfolding_all refine' For_invVF lF' ?k1 ?k2 ?_; (case k1 => exact rfl); (case k2 => exact rfl); k_whole))
  iterate 60 (first | (k_unfold; (try dsimp only)) | (k_end; wrow_close) | walk1 | (dsimp only; walk1) | (leave1; try dsimp only))
  rename IsRange _ _ _ _ _ _ _ _ => hR
  rename Fr _ _ _ _ => F1
  rename News _ _ _ _ => N1
  rw [empty_s] at N1
  refine grow_down (σ := RC) (n := x.length) (fun c => [(Str.ofString "plain", c.vp), (Str.ofString "held", c.vh), (Str.ofString "freed", c.vf), (Str.ofString "text", .str (tx x) t)]) (fun i c nx => RC.Ok x i c nx ∧ ∀ p ∈ news, p ∈ nx) ⟨⟨[[]], [[]], [[]]⟩, .ref _, .ref _, .ref _⟩ rfl hR (small_down (by omega) (by omega) (by omega) (by omega)) (by rw [rangeSize_downNat]; omega) F1 N1
    (List.forall_mem_cons.mpr ⟨by with_unfolding_all rfl, List.forall_mem_cons.mpr ⟨by with_unfolding_all rfl, List.forall_mem_cons.mpr ⟨by with_unfolding_all rfl, List.forall_mem_cons.mpr ⟨by with_unfolding_all rfl, List.forall_mem_nil _⟩⟩⟩⟩)
    ⟨⟨.cons (.tail _ (.tail _ (.head _))) .nil, .cons (.tail _ (.head _)) .nil, .cons (.head _) .nil, by simp [rst], Nat.zero_le _⟩, fun p hp => .tail _ (.tail _ (.tail _ hp))⟩ ?_ ?_
  · intro c i ti m₁ nx h tk own hi hok F N
    obtain ⟨⟨hcp, hch, hcf, hst, hil⟩, hsub⟩ := hok
    obtain ⟨st, vp, vh, vf⟩ := c
    dsimp only [kstB] at F N hcp hch hcf hst
    have hne := rst_ne (x.drop (x.length - i))
    have hsh := rst_short (x.drop (x.length - i))
    rw [← hst] at hne hsh
    obtain ⟨ap, yp, tp, vp', rp, rfl, hpe, hmp, hcp'⟩ := hcp.open hne.1
    obtain ⟨ah, yh, th, vh', rh, rfl, hhe, hmh, hch'⟩ := hch.open hne.2.1
    obtain ⟨c, hc⟩ : ∃ c, x[(((x.length : Int) - 1) - (i : Int)).toNat]? = some c := ⟨_, List.getElem?_eq_getElem (by omega)⟩
    have hb1 : yp.length ≤ 100000 := by
      have := hsh.1.1 yp (by rw [hpe]; exact .head _); rw [List.length_drop] at this; omega
    have hb2 : yh.length ≤ 100000 := by
      have := hsh.2.1.1 yh (by rw [hhe]; exact .head _); rw [List.length_drop] at this; omega
    have hst2 := rst_cons hi hc hst
    clear F1 N1 hR
    k_with "subscriptTail Name Name str int" => (refine item_tx (by omega) (by omega) (by assumption) ?_; intro t' k')
    k_with "subscriptTail Name Constant ref int" => (k_dflt (first
      | (refine' item_tupleT (t := ap) (l := [.str (tx yp) tp, vp']) (News.isTup (by k_asm) ?m1) (by decide) (by decide) rfl rfl ?_; (case m1 => (repeat' (first | exact List.mem_append_right _ hmp | refine List.mem_cons_of_mem _ ?_))))
      | (refine' item_tupleT (t := ah) (l := [.str (tx yh) th, vh']) (News.isTup (by k_asm) ?m1) (by decide) (by decide) rfl rfl ?_; (case m1 => (repeat' (first | exact List.mem_append_right _ hmh | refine List.mem_cons_of_mem _ ?_))))))
    k_with "binaryOp Add str str" => (refine addS (by assumption) ?_; intro t' k')
    k_steps
    all_goals (simp only [sg44, sg34, sg92, decide_eq_true_eq, decide_eq_false_iff_not] at *)
    all_goals (rename Fr _ _ _ _ => Fx; rename News _ _ _ _ => Nx; refine GrowPost.next ?_)
    · exact grow3 (⟨rstep c st, .ref _, .ref _, .ref _⟩ : RC) Fx Nx rfl rfl rfl (List.forall_mem_cons.mpr ⟨by with_unfolding_all rfl, List.forall_mem_cons.mpr ⟨by with_unfolding_all rfl, List.forall_mem_cons.mpr ⟨by with_unfolding_all rfl, List.forall_mem_cons.mpr ⟨by with_unfolding_all rfl, List.forall_mem_nil _⟩⟩⟩⟩)
        ⟨rc_of (e34 (by assumption) hpe hhe) (.cons (.tail _ (.head _)) (hch'.mono sub3)) (.cons (.tail _ (.tail _ (.head _))) (hcp'.mono sub3)) (.cons (.tail _ (.head _)) (hch'.mono sub3)) hst2 hi, fun p hp => sub3 p (hsub p hp)⟩
    · exact grow3 (⟨rstep c st, .ref _, vf, .ref _⟩ : RC) Fx Nx rfl rfl rfl (List.forall_mem_cons.mpr ⟨by with_unfolding_all rfl, List.forall_mem_cons.mpr ⟨by with_unfolding_all rfl, List.forall_mem_cons.mpr ⟨by with_unfolding_all rfl, List.forall_mem_cons.mpr ⟨by with_unfolding_all rfl, List.forall_mem_nil _⟩⟩⟩⟩)
        ⟨rc_of (e92 (by assumption) (by assumption) hpe hhe) (.cons (.tail _ (.tail _ (.head _))) (hcp'.mono sub3)) (hcf.mono sub3) (.cons (.tail _ (.head _)) (hch'.mono sub3)) hst2 hi, fun p hp => sub3 p (hsub p hp)⟩
    · rw [empty_s] at Nx
      exact grow4 (⟨rstep c st, .ref _, .ref _, .ref _⟩ : RC) Fx Nx rfl rfl rfl rfl (List.forall_mem_cons.mpr ⟨by with_unfolding_all rfl, List.forall_mem_cons.mpr ⟨by with_unfolding_all rfl, List.forall_mem_cons.mpr ⟨by with_unfolding_all rfl, List.forall_mem_cons.mpr ⟨by with_unfolding_all rfl, List.forall_mem_nil _⟩⟩⟩⟩)
        ⟨rc_of (e44 (by assumption) (by assumption) (by assumption) hpe hhe) (.cons (.tail _ (.head _)) (.cons (sub4 _ hmp) (hcp'.mono sub4))) (.cons (.tail _ (.tail _ (.head _))) (hch'.mono sub4)) (.cons (.tail _ (.tail _ (.head _))) (hch'.mono sub4)) hst2 hi, fun p hp => sub4 p (hsub p hp)⟩
    · exact grow3 (⟨rstep c st, .ref _, .ref _, .ref _⟩ : RC) Fx Nx rfl rfl rfl (List.forall_mem_cons.mpr ⟨by with_unfolding_all rfl, List.forall_mem_cons.mpr ⟨by with_unfolding_all rfl, List.forall_mem_cons.mpr ⟨by with_unfolding_all rfl, List.forall_mem_cons.mpr ⟨by with_unfolding_all rfl, List.forall_mem_nil _⟩⟩⟩⟩)
        ⟨rc_of (e00 (by assumption) (by assumption) (by assumption) hpe hhe) (.cons (.tail _ (.tail _ (.head _))) (hcp'.mono sub3)) (.cons (.tail _ (.head _)) (hch'.mono sub3)) (.cons (.tail _ (.head _)) (hch'.mono sub3)) hst2 hi, fun p hp => sub3 p (hsub p hp)⟩
  · intro c m₁ nx h tk hok F N
    obtain ⟨⟨hcp, hch, hcf, hst, hil⟩, hsub⟩ := hok
    obtain ⟨st, vp, vh, vf⟩ := c
    dsimp only [kstB] at F N hcp hch hcf hst
    dsimp only
    rw [Nat.sub_self, List.drop_zero] at hst
    have hne0 := rst_ne x
    have hsh := rst_short x
    rw [← hst] at hne0 hsh
    clear F1 N1 hR
    iterate 8 (first | (k_unfold; (try dsimp only)) | (k_end; wrow_close) | walk1 | (dsimp only; walk1) | (leave1; try dsimp only))
    rename Fr _ _ _ _ => F2
    rename News _ _ _ _ => N2
    rename (∀ p ∈ nx, p.1 < _) => hl'
    rename_i l' _ _ _ _
    have hnl : ∀ p ∈ nx, p.1 ≠ l' := fun p hp => Nat.ne_of_lt (hl' p hp)
    refine ksw_while (σ := WhC) (fun c => (l', W.listOf c.dn.toArray c.n) :: nx) (fun c => [(Str.ofString "plain", c.v)]) (fun c => StrsAre c.dn (c.front.map tx) ∧ ChIn nx c.v c.rest) [] (fun c => c.front ++ c.rest = st.p) (fun c => c.rest.length) ⟨[], 0, vp, [], st.p⟩ F2 N2 ⟨.nil, hcp⟩ (List.forall_mem_cons.mpr ⟨by with_unfolding_all rfl, List.forall_mem_nil _⟩) rfl ?_
    intro c u h tk hf hp F N
    obtain ⟨dn, n, v, front, rest⟩ := c
    obtain ⟨hfs, hfc⟩ := hf
    dsimp only [kstB] at F N hp hfs hfc
    have hdl : dn.length ≤ 10001 := by
      have h1 : dn.length = front.length := by rw [strs_len hfs, List.length_map]
      have h2 : front.length ≤ st.p.length := by rw [← hp, List.length_append]; omega
      have h3 := hsh.1.2
      omega
    clear F2 N2
    k_with "call builtin:list.append" => (refine' append_K ?k1 ?k2 (Upd.head ?k3) ?_ ?z; (case k1 => k_asm); (case k2 => k_asm); (case k3 => assumption); (case z => simp [sizeLine]; omega); intro h' F' N'; (try k_sweep))
    cases hfc with
    | nil =>
      rw [List.append_nil] at hp
      subst hp
      k_with "eval ListComp" => (k_dflt (refine LCg.ListComp_U (F₀ := by k_asm) (by rfl) (by decide) (by rfl) (by decide) (by rfl) ?_))
      obtain ⟨z, hlast⟩ : ∃ z, st.p.getLast? = some z := by
        cases hq : st.p.getLast? with
        | none => exact absurd (by simpa using hq) hne0.1
        | some z => exact ⟨z, rfl⟩
      obtain ⟨tz, hvlast⟩ := strs_last hfs hlast
      have hplen : ∀ r ∈ st.p, r.length ≤ 10000 := fun r hr => Nat.le_trans (hsh.1.1 r hr) hz
      k_with "subscriptTail Name UnaryOp ref int" => (k_dflt (refine' last_led ?k1 (List.Mem.head _) hvlast ?_; (case k1 => k_asm)))
      k_with "call builtin:list.pop" => (k_dflt (refine' pop_led ?k1 ?k2 hvlast hnl ?k3 ?_; (case k1 => k_asm); (case k2 => k_asm); (case k3 => omega); intro h' F' N'))
      k_with "CompSrc" => fail "here"
      k_steps
      · rename ((tx _ == _) = true) => hze
        rw [empty_tx, decide_eq_true_eq] at hze
        subst hze
        have hfd : StrsAre dn.dropLast (st.p.dropLast.map tx) := by
          have := strs_dropLast hfs
          rwa [← List.map_dropLast] at this
        have hdl2 : dn.dropLast.length ≤ 10001 := by rw [List.length_dropLast]; omega
        refine LCg.CompSrc.ledger rfl (by assumption) (by assumption) (List.Mem.head _) (by simp [sizeLine]; omega) ?_
        intro g₁
        refine comp_gen (fun i ys => StrsAre ys (((st.p.dropLast).take i).map fun r => tx (trim r))) .nil ?_ ?_
        · intro i ys v I oI C oC D m₂ h tk E' hi hv hG hC hx F N off ne
          obtain ⟨y, ty, hy, rfl⟩ := strs_get hfd (by simpa using hv)
          obtain ⟨r, hr, rfl⟩ := get_map hy
          have hrl : r.length ≤ 10000 := hplen r (List.dropLast_subset _ (List.mem_of_getElem? hr))
          k_with "call ref" => (k_dflt (refine' Tel.use (tel_trim _ _ ?kz) ?k1 ?k2 ?k3 ?k4 ?k5 ?kK trivial ?kd ?ku ?_; (case kz => omega); (case k1 => k_asm); (case k2 => k_asm); (case k3 => k_asm); (case k4 => k_asm); (case k5 => k_asm); (case kK => first | exact rfl | assumption); (case kd => ktr_room); (case ku => ktr_units); intro r tl h' tk' F' N' hq; obtain ⟨rfl, t', rfl⟩ := hq; simp only [List.nil_append] at N'))
          k_steps
          exact LCg.CompEnd.intro (by assumption) (by assumption) _ (fun p hp => hp) off (Or.inr ⟨_, List.Mem.head _, rfl, _, rfl⟩) ⟨rfl, rd_snoc hr hG⟩
        · intro ys hys
          unfold LCg.FinE
          intro D h tk F N o1
          dsimp only
          k_steps
          rename Fr _ _ _ _ => Fx
          rename News _ _ _ _ => Nx
          refine hret _ [(D, LCg.lst ys)] _ _ Fx (fun p hp => Nx p ?_) ⟨D, ys, ys.length, rfl, rfl, ?_⟩
          · rcases List.mem_append.mp hp with hp | hp
            · rw [List.mem_singleton.mp hp]; exact .head _
            · exact .tail _ (.tail _ (hsub p hp))
          · exact rd_fin1 hst hfd hlast hys
      · rename ((tx _ == _) = false) => hze
        rw [empty_tx, decide_eq_false_iff_not] at hze
        refine LCg.CompSrc.ledger rfl (by assumption) (by assumption) (List.Mem.head _) (by simp [sizeLine]; omega) ?_
        intro g₁
        refine comp_gen (fun i ys => StrsAre ys (((st.p).take i).map fun r => tx (trim r))) .nil ?_ ?_
        · intro i ys v I oI C oC D m₂ h tk E' hi hv hG hC hx F N off ne
          obtain ⟨y, ty, hy, rfl⟩ := strs_get hfs (by simpa using hv)
          obtain ⟨r, hr, rfl⟩ := get_map hy
          have hrl : r.length ≤ 10000 := hplen r (List.mem_of_getElem? hr)
          k_with "call ref" => (k_dflt (refine' Tel.use (tel_trim _ _ ?kz) ?k1 ?k2 ?k3 ?k4 ?k5 ?kK trivial ?kd ?ku ?_; (case kz => omega); (case k1 => k_asm); (case k2 => k_asm); (case k3 => k_asm); (case k4 => k_asm); (case k5 => k_asm); (case kK => first | exact rfl | assumption); (case kd => ktr_room); (case ku => ktr_units); intro r tl h' tk' F' N' hq; obtain ⟨rfl, t', rfl⟩ := hq; simp only [List.nil_append] at N'))
          k_steps
          exact LCg.CompEnd.intro (by assumption) (by assumption) _ (fun p hp => hp) off (Or.inr ⟨_, List.Mem.head _, rfl, _, rfl⟩) ⟨rfl, rd_snoc hr hG⟩
        · intro ys hys
          unfold LCg.FinE
          intro D h tk F N o1
          dsimp only
          k_steps
          rename Fr _ _ _ _ => Fx
          rename News _ _ _ _ => Nx
          refine hret _ [(D, LCg.lst ys)] _ _ Fx (fun p hp => Nx p ?_) ⟨D, ys, ys.length, rfl, rfl, ?_⟩
          · rcases List.mem_append.mp hp with hp | hp
            · rw [List.mem_singleton.mp hp]; exact .head _
            · exact .tail _ (.tail _ (hsub p hp))
          · exact rd_fin2 hst hfs (by rw [hlast]; intro e; exact hze (Option.some.inj e)) hys
    | @cons a1 y1 t1 v1 ls1 hm1 hr1 =>
      k_with "subscriptTail Name Constant ref int" => (k_dflt (refine' item_tupleT (t := a1) (l := [.str (tx y1) t1, v1]) (News.isTup (by k_asm) ?m1) (by decide) (by decide) rfl rfl ?_; (case m1 => exact List.mem_cons_of_mem _ hm1)))
      k_steps
      rename Fr _ _ _ _ => Fx
      rename News _ _ _ _ => Nx
      rw [List.push_toArray] at Nx
      exact ksw_end (⟨dn ++ [.str (tx y1) t1], n + 1, v1, front ++ [y1], ls1⟩ : WhC) Fx Nx (fun p hp => hp) ⟨by dsimp only; rw [List.map_append]; exact hfs.append' (.cons _ _ .nil), hr1⟩ (List.forall_mem_cons.mpr ⟨by with_unfolding_all rfl, List.forall_mem_nil _⟩) (by intro z hz _; have g1 := hz _ (.head _); dsimp only at g1; simp only [if_neg g1, List.contains_nil, Bool.false_eq_true, if_false]) (by dsimp only; rw [List.append_assoc]; exact hp) (by simp)
end Mine
namespace Mine
theorem getD_short {l : List Str} {i : Nat} (h : (l.all fun x => decide (x.length ≤ 1)) = true) : (l.getD i Str.empty).cps.toList.length ≤ 1 := by
  have e : (l.getD i Str.empty).cps.toList.length = (l.getD i Str.empty).length := by simp [Str.length]
  rw [e, List.getD_eq_getElem?_getD]
  cases hx : l[i]? with
  | none => simp; decide
  | some x => exact of_decide_eq_true (List.all_eq_true.mp h x (List.mem_of_getElem? hx))
theorem fillS : Fill PySem.Challenge.rw_dz0129_01 hd.heap_39 := by
  k_fill
  trivial
set_option maxRecDepth 100000 in
set_option maxHeartbeats 8000000 in
theorem tel_sign {prog w mean mg mb} (n : Int) (t : Tok) : Tel prog w mean mg mb 26 1 [.int n t] (fun _ => True) (fun tl r => tl = [] ∧ ∃ c t', r = .str (tx c) t' ∧ c.length ≤ 1) := by
  k_with_none
  w_top off
  unfold Tel
  intro dp un gd cn cs a ccd cl outer A₀ base h₀ L m news s Q E B F X N T hk hP hd hu hret
  refine wpAny_call ?_
  k_dflt ktr_enter
  k_with "table" => skip
  k_steps
  · exact hret _ [] _ _ (by assumption) (by assumption) ⟨rfl, [_], _, rfl, Nat.le_refl _⟩
  · rename News _ _ _ _ => Nx
    exact hret _ [] _ _ (by assumption) (fun p hp => Nx p (.tail _ hp)) ⟨rfl, _, _, by rw [tx_eq], getD_short (by decide +kernel)⟩
end Mine
namespace Mine
structure PSt where
  part : List Nat
  esc : Bool
  quo : Bool
  res : List (List Nat)
def pstep (st : PSt) (c : Nat) : PSt :=
  if st.esc then ⟨st.part ++ [c], false, st.quo, st.res⟩
  else if st.quo then
    if c = 92 then ⟨st.part, true, true, st.res⟩
    else if c = 34 then ⟨st.part ++ [c], false, false, st.res⟩
    else ⟨st.part ++ [c], false, true, st.res⟩
  else if c = 44 then ⟨[], false, false, st.res ++ [st.part]⟩
  else if c = 34 then ⟨st.part ++ [c], false, true, st.res⟩
  else ⟨st.part ++ [c], false, false, st.res⟩
def pfold (l : List Nat) : PSt := l.foldl pstep ⟨[], false, false, []⟩
def parse (l : List Nat) : List (List Nat) := ((if (pfold l).part.isEmpty then (pfold l).res else (pfold l).res ++ [(pfold l).part])).map trim
structure PC where
  st : PSt
  tk : Tok
  vs : List Value
  n : Nat
def PC.Ok (x : List Nat) (pre : List Int) (c : PC) : Prop :=
  pre.length ≤ x.length ∧ c.st.part.length ≤ pre.length ∧ c.vs.length ≤ pre.length ∧ c.st = pfold (pre.map Int.toNat)
theorem ok_bound {x : List Nat} {pre post : List Int} {n : Nat} {c : PC} (hc : KStt.codes (tx x) = pre ++ (n : Int) :: post) (hp : PC.Ok x pre c) (hz : x.length ≤ 10000) : c.vs.length ≤ 10000 ∧ c.st.part.length ≤ 10000 := by
  obtain ⟨h1, h2, h3, _⟩ := hp
  exact ⟨by omega, by omega⟩
theorem ok_step {x : List Nat} {pre post : List Int} {n : Nat} {c c' : PC} (hc : KStt.codes (tx x) = pre ++ (n : Int) :: post) (hp : PC.Ok x pre c) (hst : pstep c.st n = c'.st) (hv : c'.vs.length ≤ c.vs.length + 1)
    (hq : c'.st.part.length ≤ c.st.part.length + 1) : PC.Ok x (pre ++ [(n : Int)]) c' := by
  obtain ⟨h1, h2, h3, h4⟩ := hp
  have hl := congrArg List.length hc
  rw [KStt.codes_length, tx_length, List.length_append, List.length_cons] at hl
  refine ⟨?_, ?_, ?_, ?_⟩
  · rw [List.length_append, List.length_singleton]; omega
  · rw [List.length_append, List.length_singleton]; omega
  · rw [List.length_append, List.length_singleton]; omega
  · rw [← hst, h4, List.map_append]
    simp [pfold]
theorem ok_done {x : List Nat} {c : PC} (hp : PC.Ok x (KStt.codes (tx x)) c) : c.vs.length ≤ x.length ∧ c.st.part.length ≤ x.length ∧ c.st = pfold x := by
  obtain ⟨h1, h2, h3, h4⟩ := hp
  have e : (KStt.codes (tx x)).map Int.toNat = x := by
    simp [KStt.codes, tx, Function.comp_def]
  rw [e] at h4
  rw [KStt.codes_length, tx_length] at h2 h3
  exact ⟨h3, h2, h4⟩
theorem pstep_sum (st : PSt) (c : Nat) : (pstep st c).part.length + ((pstep st c).res.map List.length).sum ≤ st.part.length + (st.res.map List.length).sum + 1 := by
  unfold pstep
  (repeat' split) <;> (simp only [List.length_append, List.length_cons, List.length_nil, List.map_append, List.map_cons, List.map_nil, List.sum_append, List.sum_cons, List.sum_nil]) <;> omega
theorem pfold_sum_from (l : List Nat) : ∀ st : PSt, (l.foldl pstep st).part.length + ((l.foldl pstep st).res.map List.length).sum ≤ st.part.length + (st.res.map List.length).sum + l.length := by
  induction l with
  | nil => intro st; simp
  | cons c l ih =>
    intro st
    have h1 := ih (pstep st c)
    have h2 := pstep_sum st c
    rw [List.foldl_cons, List.length_cons]
    omega
theorem len_le_sum {l : List (List Nat)} {r : List Nat} (h : r ∈ l) : r.length ≤ (l.map List.length).sum := by
  induction l with
  | nil => cases h
  | cons a l ih =>
    rw [List.map_cons, List.sum_cons]
    rcases List.mem_cons.mp h with rfl | h
    · omega
    · have := ih h; omega
theorem pfold_res {l : List Nat} {r : List Nat} (h : r ∈ (pfold l).res) : r.length ≤ l.length := by
  have h1 := pfold_sum_from l ⟨[], false, false, []⟩
  have h2 := len_le_sum h
  unfold pfold at h2
  simp only [List.length_nil, List.map_nil, List.sum_nil] at h1
  omega
theorem comp_snoc {res : List (List Nat)} {i : Nat} {r : List Nat} {ys : List Value} {t : Tok} (hr : res[i]? = some r) (h : StrsAre ys ((res.take i).map fun r => tx (trim r))) : StrsAre (ys ++ [.str (tx (trim r)) t]) ((res.take (i + 1)).map fun r => tx (trim r)) := by
  rw [List.take_add_one, hr]
  simpa using h.append' (.cons _ t .nil)
theorem fin_eq {x part : List Nat} {esc quo : Bool} {res : List (List Nat)} {vs ys : List Value} (hst : PSt.mk part esc quo res = pfold x) (hf : StrsAre vs (res.map tx)) (hpe : part.isEmpty = true)
    (hys : StrsAre ys ((res.take vs.toArray.size).map fun r => tx (trim r))) : StrsAre ys ((parse x).map tx) := by
  have e : vs.toArray.size = res.length := by rw [List.size_toArray, strs_len hf, List.length_map]
  rw [e, List.take_length] at hys
  unfold parse
  rw [← hst, if_pos (by simpa using hpe), List.map_map]
  exact hys
theorem fin_strs {part : List Nat} {res : List (List Nat)} {vs : List Value} {t : Tok} (hf : StrsAre vs (res.map tx)) : StrsAre (vs ++ [.str (tx part) t]) ((res ++ [part]).map tx) := by
  rw [List.map_append]; exact hf.append' (.cons _ _ .nil)
theorem fin_eq2 {x part : List Nat} {esc quo : Bool} {res : List (List Nat)} {vs ys : List Value} (hst : PSt.mk part esc quo res = pfold x) (hf : StrsAre vs ((res ++ [part]).map tx)) (hpe : part.isEmpty = false)
    (hys : StrsAre ys (((res ++ [part]).take vs.toArray.size).map fun r => tx (trim r))) : StrsAre ys ((parse x).map tx) := by
  have e : vs.toArray.size = (res ++ [part]).length := by rw [List.size_toArray, strs_len hf, List.length_map]
  rw [e, List.take_length] at hys
  unfold parse
  rw [← hst, if_neg (by simpa using hpe), List.map_map]
  exact hys
theorem fin_news {h₀ h : Heap} {L l : Addr} {vs : List Value} {v : Value} {n : Nat} {news : Led} (N : News h₀ L h ((l, W.listOf (vs.toArray.push v) n) :: news)) : News h₀ L h ((l, W.listOf (vs ++ [v]).toArray n) :: news) := by
  rw [← List.push_toArray]; exact N
theorem fillP : Fill PySem.Challenge.rw_dz0129_01 hd.heap_39 := by
  k_fill
  trivial
set_option maxRecDepth 100000 in
set_option maxHeartbeats 8000000 in
theorem tel_parse {prog w mean mg mb} (x : List Nat) (t : Tok) (hz : x.length ≤ 10000) : Tel prog w mean mg mb 19 1 [.str (tx x) t] (fun _ => True) (fun tl r => ∃ b vs n, r = .ref b ∧ tl = [(b, W.listOf vs.toArray n)] ∧ StrsAre vs ((parse x).map tx)) := by
  k_with_none
  w_top off
  unfold Tel
  intro dp un gd cn cs a ccd cl outer A₀ base h₀ L m news s Q E B F X N T hk hP hd hu hret
  refine wpAny_call ?_
  k_dflt ktr_enter
  k_with "pyIter str" => fail "here"
  k_steps
  rename_i l' _ hl' _ _ _ h' F' N'
  refine KStt.kst_text (σ := PC) (fun c => (l', W.listOf c.vs.toArray c.n) :: news) (fun c => [(Str.ofString "part", .str (tx c.st.part) c.tk), (Str.ofString "escape", .bool c.st.esc), (Str.ofString "quote", .bool c.st.quo)]) (fun c => StrsAre c.vs (c.st.res.map tx)) [] (PC.Ok x) ⟨⟨[], false, false, []⟩, _, [], 0⟩ rfl F' N' .nil (List.forall_mem_cons.mpr ⟨by with_unfolding_all rfl, List.forall_mem_cons.mpr ⟨by with_unfolding_all rfl, List.forall_mem_cons.mpr ⟨by with_unfolding_all rfl, List.forall_mem_nil _⟩⟩⟩) ?_ ?_ ?_
  · exact ⟨Nat.zero_le _, Nat.le_refl _, Nat.le_refl _, rfl⟩
  · intro c pre post n tn u h tk own hc hoff hf hp F N
    obtain ⟨⟨part, esc, quo, res⟩, ptk, vs, nn⟩ := c
    dsimp only [kstB] at F N hf
    have hne : ∀ p ∈ news ++ own, p.1 ≠ l' := by
      intro p hp
      rcases List.mem_append.mp hp with hp | hp
      · exact Nat.ne_of_lt (hl' p hp)
      · exact hoff p hp l' (List.Mem.head _)
    have hb := ok_bound hc hp hz
    dsimp only at hb
    have hb1 := hb.2
    k_with "call builtin:list.append" => (refine' append_K ?k1 ?k2 (Upd.head ?k3) ?_ ?z; (case k1 => k_asm); (case k2 => k_asm); (case k3 => assumption); (case z => simp [sizeLine]; omega); intro h' F' N'; (try k_sweep))
    k_with "inplaceOp Add str str" => (refine iadd_tx (by omega) ?_; intro t' k')
    cases esc <;> cases quo
    all_goals k_steps
    all_goals (simp only [sg44, sg34, sg92, decide_eq_true_eq, decide_eq_false_iff_not] at *)
    all_goals (rename Fr _ _ _ _ => Fx; rename News _ _ _ _ => Nx)
    all_goals first
      | (refine kst_end (x := Str.ofString "cur") (⟨⟨[], false, false, res ++ [part]⟩, _, vs ++ [.str (tx part) ptk], nn + 1⟩ : PC) Fx Nx ?_ ?_ rfl ?_ (List.forall_mem_cons.mpr ⟨by with_unfolding_all rfl, List.forall_mem_cons.mpr ⟨by with_unfolding_all rfl, List.forall_mem_cons.mpr ⟨by with_unfolding_all rfl, List.forall_mem_nil _⟩⟩⟩) ?_ (ok_step hc hp ?_ ?_ ?_))
      | (refine kst_end (x := Str.ofString "cur") (⟨⟨part, true, true, res⟩, ptk, vs, nn⟩ : PC) Fx Nx ?_ ?_ rfl ?_ (List.forall_mem_cons.mpr ⟨by with_unfolding_all rfl, List.forall_mem_cons.mpr ⟨by with_unfolding_all rfl, List.forall_mem_cons.mpr ⟨by with_unfolding_all rfl, List.forall_mem_nil _⟩⟩⟩) ?_ (ok_step hc hp ?_ ?_ ?_))
      | (refine kst_end (x := Str.ofString "cur") (⟨⟨part ++ [n], false, false, res⟩, _, vs, nn⟩ : PC) Fx Nx ?_ ?_ rfl ?_ (List.forall_mem_cons.mpr ⟨by with_unfolding_all rfl, List.forall_mem_cons.mpr ⟨by with_unfolding_all rfl, List.forall_mem_cons.mpr ⟨by with_unfolding_all rfl, List.forall_mem_nil _⟩⟩⟩) ?_ (ok_step hc hp ?_ ?_ ?_))
      | (refine kst_end (x := Str.ofString "cur") (⟨⟨part ++ [n], false, true, res⟩, _, vs, nn⟩ : PC) Fx Nx ?_ ?_ rfl ?_ (List.forall_mem_cons.mpr ⟨by with_unfolding_all rfl, List.forall_mem_cons.mpr ⟨by with_unfolding_all rfl, List.forall_mem_cons.mpr ⟨by with_unfolding_all rfl, List.forall_mem_nil _⟩⟩⟩) ?_ (ok_step hc hp ?_ ?_ ?_))
    all_goals first
      | (intro p hp'; exact List.mem_append_left _ hp')
      | (intro p hp'; exact List.mem_append_right _ hp')
      | (intro p hp'; exact List.mem_append_right (_ :: _) hp')
      | assumption
      | (dsimp only; rw [List.map_append]; exact hf.append' (.cons _ _ .nil))
      | (intro p hp'; dsimp only at hp'; rcases List.mem_cons.mp hp' with rfl | hp'; exact .head _; exact .tail _ (List.mem_append_left _ hp'))
      | (intro p hp'; dsimp only at hp'; rcases List.mem_cons.mp hp' with rfl | hp'; (simp only [List.push_toArray]; exact .head _); exact .tail _ (List.mem_append_left _ hp'))
      | (simp [pstep, *]; done)
      | (dsimp only; omega)
      | (intro z hz1 hz2 _; have g1 := hz2 _ (.head _); have g2 := hz2 _ (.tail _ (.head _)); have g3 := hz2 _ (.tail _ (.tail _ (.head _))); dsimp only at g1 g2 g3; simp only [if_neg g1, if_neg g2, if_neg g3, if_neg hz1, List.contains_nil, Bool.false_eq_true, if_false]; done)
  · intro c u h tk hf hp F N
    obtain ⟨hv, hq, hst⟩ := ok_done hp
    obtain ⟨⟨part, esc, quo, res⟩, ptk, vs, nn⟩ := c
    dsimp only [kstB] at F N hf hv hq hst
    dsimp only
    have hne : ∀ p ∈ news, p.1 ≠ l' := fun p hp => Nat.ne_of_lt (hl' p hp)
    have hres : ∀ r ∈ res, r.length ≤ x.length := fun r hr => pfold_res (by rw [← hst]; exact hr)
    k_with "call builtin:list.append" => (refine' append_K ?k1 ?k2 (Upd.head ?k3) ?_ ?z; (case k1 => k_asm); (case k2 => k_asm); (case k3 => assumption); (case z => simp [sizeLine]; omega); intro h' F' N'; (try k_sweep))
    k_with "truthy str" => (refine truthy_tx (by omega) ?_)
    k_with "eval ListComp" => (k_dflt (refine LCg.ListComp_U (F₀ := by k_asm) (by rfl) (by decide) (by rfl) (by decide) (by rfl) ?_))
    k_with "CompSrc" => (fail "here")
    k_steps
    · rename (List.isEmpty _ = true) => hpe
      refine LCg.CompSrc.ledger rfl (by assumption) (by assumption) (List.Mem.head _) (by simp [sizeLine]; omega) ?_
      intro g₁
      refine comp_gen (fun i ys => StrsAre ys (((res).take i).map fun r => tx (trim r))) .nil ?_ ?_
      · intro i ys v I oI C oC D m₂ h tk E' hi hv hG hC hx F N off ne
        obtain ⟨y, ty, hy, rfl⟩ := strs_get hf (by simpa using hv)
        obtain ⟨r, hr, rfl⟩ := get_map hy
        have hrl : r.length ≤ 10000 := Nat.le_trans (hres r (List.mem_of_getElem? hr)) hz
        k_with "call builtin:str.strip" => (refine strip_tx_call (by omega) ?_; intro t' k')
        k_steps
        exact LCg.CompEnd.intro (by assumption) (by assumption) _ (fun p hp => hp) off (Or.inr ⟨_, List.Mem.head _, rfl, _, rfl⟩) ⟨rfl, comp_snoc hr hG⟩
      · intro ys hys
        unfold LCg.FinE
        intro D h tk F N o1
        dsimp only
        k_steps
        rename Fr _ _ _ _ => Fx
        rename News _ _ _ _ => Nx
        refine hret _ [(D, LCg.lst ys)] _ _ Fx (fun p hp => Nx p ?_) ⟨D, ys, ys.length, rfl, rfl, ?_⟩
        · rcases List.mem_append.mp hp with hp | hp
          · rw [List.mem_singleton.mp hp]; exact .head _
          · exact .tail _ (.tail _ hp)
        · exact fin_eq hst hf hpe hys
    · rename (List.isEmpty _ = false) => hpe
      rename News _ _ _ _ => Nz
      have hf2 := fin_strs (part := part) (t := ptk) hf
      have Nz2 := fin_news Nz
      clear Nz
      refine LCg.CompSrc.ledger rfl (by assumption) (by assumption) (List.Mem.head _) (by simp [sizeLine]; omega) ?_
      intro g₁
      refine comp_gen (fun i ys => StrsAre ys (((res ++ [part]).take i).map fun r => tx (trim r))) .nil ?_ ?_
      · intro i ys v I oI C oC D m₂ h tk E' hi hv hG hC hx F N off ne
        obtain ⟨y, ty, hy, rfl⟩ := strs_get hf2 (by simpa using hv)
        obtain ⟨r, hr, rfl⟩ := get_map hy
        have hrl : r.length ≤ 10000 := (by rcases List.mem_append.mp (List.mem_of_getElem? hr) with h | h; exact Nat.le_trans (hres r h) hz; rw [List.mem_singleton.mp h]; omega)
        k_with "call builtin:str.strip" => (refine strip_tx_call (by omega) ?_; intro t' k')
        k_steps
        exact LCg.CompEnd.intro (by assumption) (by assumption) _ (fun p hp => hp) off (Or.inr ⟨_, List.Mem.head _, rfl, _, rfl⟩) ⟨rfl, comp_snoc hr hG⟩
      · intro ys hys
        unfold LCg.FinE
        intro D h tk F N o1
        dsimp only
        k_steps
        rename Fr _ _ _ _ => Fx
        rename News _ _ _ _ => Nx
        refine hret _ [(D, LCg.lst ys)] _ _ Fx (fun p hp => Nx p ?_) ⟨D, ys, ys.length, rfl, rfl, ?_⟩
        · rcases List.mem_append.mp hp with hp | hp
          · rw [List.mem_singleton.mp hp]; exact .head _
          · exact .tail _ (.tail _ hp)
        · exact fin_eq2 hst hf2 hpe hys
end Mine
namespace Mine
structure PL : Prop where
  a : ∀ x, parse x = readL x
  b : ∀ x, ∃ m, lst (parse x) = some m ∧ m.length ≤ x.length ∧ parse m = parse x
  c : ∀ ts : List (List Nat), ∃ wr, lst (wish ts ts.length) = some wr ∧ parse wr = wish ts ts.length ∧ ∀ k, k < wr.length → parse (wr.take k ++ wr.drop (k + 1)) ≠ wish ts ts.length
def SignsAre (i : Nat) (ys : List Value) : Prop := ∃ ls : List (List Nat), StrsAre ys (ls.map tx) ∧ ls.length = i ∧ ∀ l ∈ ls, l.length ≤ 1
theorem SignsAre.nil : SignsAre 0 [] := ⟨[], .nil, rfl, fun _ h => nomatch h⟩
theorem SignsAre.snoc {i : Nat} {ys : List Value} {c : List Nat} {t : Tok} (h : SignsAre i ys) (hc : c.length ≤ 1) : SignsAre (i + 1) (ys ++ [.str (tx c) t]) := by
  obtain ⟨ls, h1, h2, h3⟩ := h
  refine ⟨ls ++ [c], by rw [List.map_append]; exact h1.append' (.cons _ _ .nil), by simp [h2], fun l hl => ?_⟩
  rcases List.mem_append.mp hl with hl | hl
  · exact h3 l hl
  · rw [List.mem_singleton.mp hl]; exact hc
theorem flatten_len {ls : List (List Nat)} (h : ∀ l ∈ ls, l.length ≤ 1) : ls.flatten.length ≤ ls.length := by
  have := sum_le h
  rw [List.length_flatten]
  omega
theorem trim_len (l : List Nat) : (trim l).length ≤ l.length := by
  unfold trim
  rw [List.length_reverse]
  have h1 := (List.dropWhile_sublist (l := (l.dropWhile sp).reverse) sp).length_le
  have h2 := (List.dropWhile_sublist (l := l) sp).length_le
  rw [List.length_reverse] at h1
  omega
theorem pfold_count_from (l : List Nat) : ∀ st : PSt, (l.foldl pstep st).res.length ≤ st.res.length + l.length := by
  induction l with
  | nil => intro st; simp
  | cons c l ih =>
    intro st
    have h1 := ih (pstep st c)
    have h2 : (pstep st c).res.length ≤ st.res.length + 1 := by
      unfold pstep
      (repeat' split) <;> simp
    rw [List.foldl_cons, List.length_cons]
    omega
theorem parse_count (l : List Nat) : (parse l).length ≤ l.length + 1 := by
  have h := pfold_count_from l ⟨[], false, false, []⟩
  unfold parse
  rw [List.length_map]
  split
  · unfold pfold; simp at h; omega
  · rw [List.length_append, List.length_singleton]; unfold pfold; simp at h; omega
theorem parse_short {l r : List Nat} (h : r ∈ parse l) : r.length ≤ l.length := by
  unfold parse at h
  obtain ⟨q, hq, rfl⟩ := List.mem_map.mp h
  refine Nat.le_trans (trim_len q) ?_
  have hp : (pfold l).part.length ≤ l.length := by
    have h1 := pfold_sum_from l ⟨[], false, false, []⟩
    simp only [List.length_nil, List.map_nil, List.sum_nil] at h1
    unfold pfold
    omega
  split at hq
  · exact pfold_res hq
  · rcases List.mem_append.mp hq with hq | hq
    · exact pfold_res hq
    · rw [List.mem_singleton.mp hq]; exact hp
theorem wish_count (ts : List (List Nat)) : (wish ts ts.length).length = ts.length := by simp [wish]
theorem wish_short {ts : List (List Nat)} {b : Nat} (h : ∀ i ∈ ts, i.length ≤ b) {r : List Nat} (hr : r ∈ wish ts ts.length) : r.length ≤ b + 2 := by
  unfold wish at hr
  obtain ⟨k, _, rfl⟩ := List.mem_map.mp hr
  have h2 : (ts.getD k []).length ≤ b := by
    rw [List.getD_eq_getElem?_getD]
    cases hx : ts[k]? with
    | none => simp
    | some y => exact h y (List.mem_of_getElem? hx)
  unfold wish1
  split
  · simp only [List.length_cons, List.length_append, List.length_nil]; omega
  · omega
theorem lst_len {its : List (List Nat)} {m : List Nat} {b : Nat} (h : lst its = some m) (hb : ∀ i ∈ its, i.length ≤ b) : m.length ≤ its.length * (2 * b) + its.length + 1 := by
  unfold lst at h
  split at h
  · cases h
  · rename_i hn
    have e := Option.some.inj h
    rw [← e, List.length_append]
    have h1 := jn_len ((texts its its.length).map (·.getD []))
    rw [List.length_map, texts_length] at h1
    have h2 : ∀ l ∈ (texts its its.length).map (·.getD []), l.length ≤ 2 * b := by
      intro l hl
      obtain ⟨o, ho, rfl⟩ := List.mem_map.mp hl
      unfold texts at ho
      obtain ⟨k, _, rfl⟩ := List.mem_map.mp ho
      have h3 := item_len (its.getD k []) (decide (k + 1 = its.length))
      have h4 : (its.getD k []).length ≤ b := by
        rw [List.getD_eq_getElem?_getD]
        cases hx : its[k]? with
        | none => simp
        | some y => exact hb y (List.mem_of_getElem? hx)
      cases hi : item (its.getD k []) (decide (k + 1 = its.length)) with
      | none => simp
      | some z => rw [hi] at h3; simp only [olen] at h3; simp only [Option.getD_some]; omega
    have h5 := sum_le h2
    rw [List.length_map, texts_length] at h5
    have h6 : (if its.getLast? = some [] then [44] else []).length ≤ 1 := by split <;> simp
    omega
section
variable {prog : Program} {w : World} {A : Around} {E : Value → Shared → Prop} {s : Shared} {Q : Value → Shared → Prop} {t u : Tok} {h₀ : Heap} {L : Addr} {m : Str → Option Value} {news : List (Addr × Obj)}
theorem ne_lists_f {a b : Addr} {vs us : List Value} {ls ms : List (List Nat)} (hl : s.heap.IsList a vs.toArray) (ha : StrsAre vs (ls.map tx)) (hl' : s.heap.IsList b us.toArray) (hb : StrsAre us (ms.map tx)) (hu : A.units < cLine) (he : ls = ms)
    (h : Q (.bool false) s) : wpAny (model prog w) A (compareOp .NotEq (.ref a) (.ref b)) Q E s := ne_lists hl ha hl' hb hu (by rw [decide_eq_true he]; exact h)
theorem eq_lists_t {a b : Addr} {vs us : List Value} {ls ms : List (List Nat)} (hl : s.heap.IsList a vs.toArray) (ha : StrsAre vs (ls.map tx)) (hl' : s.heap.IsList b us.toArray) (hb : StrsAre us (ms.map tx)) (hu : A.units < cLine) (he : ls = ms)
    (h : Q (.bool true) s) : wpAny (model prog w) A (compareOp .Eq (.ref a) (.ref b)) Q E s := eq_lists hl ha hl' hb hu (by rw [decide_eq_true he]; exact h)
theorem eq_lists_f {a b : Addr} {vs us : List Value} {ls ms : List (List Nat)} (hl : s.heap.IsList a vs.toArray) (ha : StrsAre vs (ls.map tx)) (hl' : s.heap.IsList b us.toArray) (hb : StrsAre us (ms.map tx)) (hu : A.units < cLine) (he : ls ≠ ms)
    (h : Q (.bool false) s) : wpAny (model prog w) A (compareOp .Eq (.ref a) (.ref b)) Q E s := eq_lists hl ha hl' hb hu (by rw [decide_eq_false he]; exact h)
theorem split_count (x : Str) : (Txt.split x (Str.ofString "|")).length ≤ x.length + 2 := by
  unfold Txt.split
  split
  · simp
  · split
    · simp
    · rw [length_partsBetween]
      have := StrLaws.occ_length_le x (Str.ofString "|") 0 x.length (x.length + 1)
      omega
theorem split_led {x : List Nat} (hF : Fr h₀ L s.heap m) (hN : News h₀ L s.heap news) (hb : x.length ≤ 63)
    (h : ∀ l vs n (ts : List (List Nat)) h' k, StrsAre vs (ts.map tx) → ts.length ≤ 65 → (∀ i ∈ ts, i.length ≤ 63) → Fr h₀ L h' m → News h₀ L h' ((l, W.listOf vs.toArray n) :: news) → Q (.ref l) { s with heap := h', toks := k }) :
    wpAny (model prog w) A (call (.builtin "str.split") [.str (tx x) t, .str (Str.ofString "|") u]) Q E s := by
  refine splitN1A hF hN (by decide +kernel) (fun l h' k e1 hst hlen _ F N => ?_) (by rw [tx_length]; simp only [sizeLine]; omega)
  have e2 : (l.map (fun p => p.1.cps.toList)).map tx = l.map (·.1) := by
    rw [List.map_map]
    exact List.map_congr_left fun p _ => tx_eq p.1
  refine h _ (strValues l) 0 (l.map (fun p => p.1.cps.toList)) h' k (by rw [e2]; exact hst) ?_ ?_ F N
  · have h1 := split_count (tx x)
    rw [← e1, tx_length, List.length_map] at h1
    rw [List.length_map]
    omega
  · intro i hi
    obtain ⟨p, hp, rfl⟩ := List.mem_map.mp hi
    have h2 := hlen p.1 (List.mem_map_of_mem hp)
    rw [tx_length] at h2
    simp only [Str.length] at h2
    simp only [Array.length_toList]
    omega
end
section
variable {prog : Program} {w : World} {A : Around} {E : Value → Shared → Prop} {s : Shared} {env : Env} {h₀ : Heap} {x : Str} {body : List Stmt} {Q : Flow → Shared → Prop}
/-- a loop that stores nothing, over a range by any positive step -/
theorem scan_range {r : Addr} {b₀ c₀ : Int} {t₀ u₀ v₀ : Tok} {n cc : Nat} {m₀ : Str → Option Value} {news : Led}
    (hh : A.handled = none) (hcc : c₀ = (cc : Int)) (hr : IsRange s.heap r 0 b₀ c₀ t₀ u₀ v₀) (hsmall : Builtin.Range.small 0 b₀ c₀ = true) (hn : Builtin.Range.rangeSize 0 b₀ c₀ = (n : Int)) (F : Fr h₀ env.locals s.heap m₀) (N : News h₀ env.locals s.heap news)
    (turn : ∀ (i : Nat) t h tk own, i < n →
      Fr h₀ env.locals h (fun y => if y = x then some (.int ((i * cc : Nat) : Int) t) else m₀ y) → News h₀ env.locals h (news ++ own) →
      wpAny (model prog w) A (execs body env) (InvPostN h₀ env.locals (fun m nx => nx = news ∧ ∀ z, z ≠ x → m z = m₀ z) own (news.map (·.1)) { s with heap := h, toks := tk } Q) E { s with heap := h, toks := tk })
    (done : ∀ (u : Str → Option Value) h tk, Fr h₀ env.locals h (fun y => if y = x then u y else m₀ y) → News h₀ env.locals h news → Q .next { s with heap := h, toks := tk }) :
    wpAny (model prog w) A (pyIter (.ref r)) (fun it s₂ => LoopAtV prog w A h₀ env x body Q E it s₂) E s := by
  refine wpAny_pyIter_range hr hsmall ?_
  have hmul : ∀ i : Nat, (i : Int) * c₀ = ((i * cc : Nat) : Int) := fun i => by rw [hcc]; push_cast; rfl
  have W : Walks prog w A s.heap.objs.size [s.heap.objs.size] [s.heap.objs.size] n (fun i v => ∃ t, v = .int (0 + i * c₀) t)
      (fun i h => IsRangeIter h s.heap.objs.size (0 + (i : Nat) * c₀) ((n : Int) - (i : Nat)) c₀) := Walks.range hh _ 0 c₀ n
  refine loop_invN (fun _ m nx => nx = news ∧ ∀ z, z ≠ x → m z = m₀ z) W ?_ ?_ ?_ ?_ (by show IsRangeIter _ _ _ _ _; rw [hn]; simpa using Heap.get?_push_size _ rfl) (F.push _) (fun p hp => ⟨Heap.get?_push_of_some _ (N p hp).1, (N p hp).2⟩) ⟨rfl, fun _ _ => rfl⟩ ?_ ?_
  · intro hm
    exact absurd F.ns.lt ((List.mem_singleton.mp hm) ▸ Nat.lt_irrefl _)
  · intro b hb
    rw [List.mem_singleton.mp hb]
    exact next_is_new F
  · intro p hp hI
    exact absurd (Heap.lt_size (N p hp).1) ((List.mem_singleton.mp hI) ▸ Nat.lt_irrefl _)
  · intro p hp hI
    exact absurd (Heap.lt_size (N p hp).1) ((List.mem_singleton.mp hI) ▸ Nat.lt_irrefl _)
  · rintro i v m₁ nx h tk own hi ⟨t, rfl⟩ _ hoff ⟨rfl, hm⟩ F₁ N₁
    rw [Int.zero_add, hmul] at F₁
    have e : (fun y => if y = x then some (Value.int ((i * cc : Nat) : Int) t) else m₁ y) = fun y => if y = x then some (Value.int ((i * cc : Nat) : Int) t) else m₀ y := by
      funext y
      by_cases hy : y = x
      · simp [hy]
      · simp only [if_neg hy]; exact hm y hy
    rw [e] at F₁
    exact turn i t h tk own hi F₁ N₁
  · rintro m₁ nx h tk ⟨rfl, hm⟩ F₁ N₁
    refine done m₁ h tk ?_ N₁
    have e : (fun y => if y = x then m₁ y else m₀ y) = m₁ := by
      funext y
      by_cases hy : y = x
      · simp [hy]
      · simp only [if_neg hy]; exact (hm y hy).symm
    rw [e]; exact F₁
end
theorem step_eq (n : Nat) : Int.fdiv (n : Int) 6 + 1 = ((n / 6 + 1 : Nat) : Int) := by
  rw [Int.fdiv_eq_ediv_of_nonneg _ (by decide)]
  push_cast
  rfl
theorem scan_size {len c : Nat} (hc : 0 < c) : Builtin.Range.rangeSize 0 (len : Int) (c : Int) = ((if 0 < len then (len - 1) / c + 1 else 0 : Nat) : Int) := by
  unfold Builtin.Range.rangeSize
  rw [if_pos (by omega)]
  by_cases h : 0 < len
  · rw [if_pos (by omega), if_pos h]
    have : ((len : Int) - 0 - 1) = ((len - 1 : Nat) : Int) := by omega
    rw [this]
    push_cast
    rfl
  · rw [if_neg (by omega), if_neg h]
    rfl
theorem scan_small {len c q : Nat} (hc : 0 < c) (hl : len ≤ 10000) (hcl : c ≤ 10000) (hq : q ≤ 10001) (e : Builtin.Range.rangeSize 0 (len : Int) (c : Int) = (q : Int)) : Builtin.Range.small 0 (len : Int) (c : Int) = true := by
  unfold Builtin.Range.small
  rw [e, if_pos (by omega)]
  simp only [Builtin.Range.rangeFitsLong, Bool.and_eq_true, Bool.or_eq_true, decide_eq_true_eq, beq_iff_eq]
  omega
theorem scan_facts {len c : Nat} (hc : 0 < c) (hl : len ≤ 10000) (hcl : c ≤ 10000) : ∃ n : Nat, Builtin.Range.rangeSize 0 (len : Int) (c : Int) = (n : Int) ∧ (∀ i, i < n → i * c < len) ∧ Builtin.Range.small 0 (len : Int) (c : Int) = true := by
  have hdiv : (len - 1) / c ≤ len - 1 := Nat.div_le_self _ _
  refine ⟨if 0 < len then (len - 1) / c + 1 else 0, scan_size hc, ?_, scan_small hc hl hcl (by split <;> omega) (scan_size hc)⟩
  intro i hi
  split at hi
  · have h1 : i ≤ (len - 1) / c := by omega
    have h2 := Nat.mul_le_mul_right c h1
    have h3 := Nat.div_mul_le_self (len - 1) c
    omega
  · omega
end Mine
namespace Mine
/-! what `rst` reads from the end is what `pfold` reads from the start -/
def glue (y : List Nat) : List (List Nat) → List (List Nat)
  | [] => []
  | z :: r => (y ++ z) :: r
theorem glue_push (y : List Nat) (c : Nat) (l : List (List Nat)) : glue (y ++ [c]) l = glue y (push c l) := by
  cases l <;> simp [glue, push]
theorem glue_nil (l : List (List Nat)) : glue [] l = l := by cases l <;> simp [glue]
theorem fold_p (l : List Nat) : ∀ (part : List Nat) (res : List (List Nat)),
    (let st := l.foldl pstep ⟨part, false, false, res⟩; st.res ++ [st.part] = res ++ glue part (rst l).p)
    ∧ (let st := l.foldl pstep ⟨part, false, true, res⟩; st.res ++ [st.part] = res ++ glue part (rst l).h)
    ∧ (let st := l.foldl pstep ⟨part, true, true, res⟩; st.res ++ [st.part] = res ++ glue part (rst l).f) := by
  induction l with
  | nil => intro part res; simp [rst, glue]
  | cons c l ih =>
    intro part res
    have e : rst (c :: l) = rstep c (rst l) := rfl
    have hnp := (rst_ne l).1
    dsimp only at ih
    dsimp only
    rw [e]
    simp only [List.foldl_cons]
    generalize hst : rst l = st at *
    refine ⟨?_, ?_, ?_⟩
    · by_cases h44 : c = 44
      · subst h44
        have e1 : pstep ⟨part, false, false, res⟩ 44 = ⟨[], false, false, res ++ [part]⟩ := rfl
        have e2 : (rstep 44 st).p = [] :: st.p := rfl
        rw [e1, e2, (ih [] (res ++ [part])).1]
        rw [glue_nil]; simp [glue]
      · by_cases h34 : c = 34
        · subst h34
          have e1 : pstep ⟨part, false, false, res⟩ 34 = ⟨part ++ [34], false, true, res⟩ := rfl
          have e2 : (rstep 34 st).p = push 34 st.h := rfl
          rw [e1, e2, (ih (part ++ [34]) res).2.1, glue_push]
        · have e1 : pstep ⟨part, false, false, res⟩ c = ⟨part ++ [c], false, false, res⟩ := by simp [pstep, h44, h34]
          have e2 : (rstep c st).p = push c st.p := by unfold rstep; rw [if_neg h34, if_neg h44]; split <;> rfl
          rw [e1, e2, (ih (part ++ [c]) res).1, glue_push]
    · by_cases h92 : c = 92
      · subst h92
        have e1 : pstep ⟨part, false, true, res⟩ 92 = ⟨part, true, true, res⟩ := rfl
        have e2 : (rstep 92 st).h = st.f := rfl
        rw [e1, e2, (ih part res).2.2]
      · by_cases h34 : c = 34
        · subst h34
          have e1 : pstep ⟨part, false, true, res⟩ 34 = ⟨part ++ [34], false, false, res⟩ := rfl
          have e2 : (rstep 34 st).h = push 34 st.p := rfl
          rw [e1, e2, (ih (part ++ [34]) res).1, glue_push]
        · have e1 : pstep ⟨part, false, true, res⟩ c = ⟨part ++ [c], false, true, res⟩ := by simp [pstep, h92, h34]
          have e2 : (rstep c st).h = push c st.h := by unfold rstep; rw [if_neg h34, if_neg h92]; split <;> rfl
          rw [e1, e2, (ih (part ++ [c]) res).2.1, glue_push]
    · have e1 : pstep ⟨part, true, true, res⟩ c = ⟨part ++ [c], false, true, res⟩ := rfl
      have e2 : (rstep c st).f = push c st.h := by unfold rstep; (repeat' split) <;> rfl
      rw [e1, e2, (ih (part ++ [c]) res).2.1, glue_push]
theorem plain_a (x : List Nat) : parse x = readL x := by
  have h := (fold_p x [] []).1
  dsimp only at h
  rw [glue_nil, List.nil_append] at h
  unfold parse readL
  rw [← h]
  unfold pfold
  generalize List.foldl pstep ⟨[], false, false, []⟩ x = st
  congr 1
  cases hp : st.part with
  | nil => simp
  | cons a r => simp
/-! one item: its texts -/
inductive Q3 where
  | out | held | esc
inductive Rd : List Nat → List Nat → Q3 → Prop
  | nil : Rd [] [] .out
  | out {t y : List Nat} {c : Nat} : Rd t y .out → c ≠ 44 → c ≠ 34 → Rd (t ++ [c]) (y ++ [c]) .out
  | quo {t y : List Nat} : Rd t y .out → Rd (t ++ [34]) (y ++ [34]) .held
  | unq {t y : List Nat} : Rd t y .held → Rd (t ++ [34]) (y ++ [34]) .out
  | esc {t y : List Nat} : Rd t y .held → Rd (t ++ [92]) y .esc
  | held {t y : List Nat} {c : Nat} : Rd t y .held → c ≠ 34 → c ≠ 92 → Rd (t ++ [c]) (y ++ [c]) .held
  | free {t y : List Nat} {c : Nat} : Rd t y .esc → Rd (t ++ [c]) (y ++ [c]) .held
theorem ifold_snoc (y : List Nat) (c : Nat) : ifold (y ++ [c]) = istep (ifold y) c := by simp [ifold]
/-- a written length, if there is one, is at most n -/
def Le (o : Option (List Nat)) (n : Nat) : Prop := ∃ m, o = some m ∧ m.length ≤ n
theorem Le.more {o : Option (List Nat)} {n k : Nat} {w : List Nat} (h : Le o n) (hk : n + w.length ≤ k) : Le (o.map (· ++ w)) k := by
  obtain ⟨m, rfl, hm⟩ := h
  exact ⟨m ++ w, rfl, by rw [List.length_append]; omega⟩
theorem Le.mono {o : Option (List Nat)} {n k : Nat} (h : Le o n) (hk : n ≤ k) : Le o k := by
  obtain ⟨m, rfl, hm⟩ := h
  exact ⟨m, rfl, by omega⟩
theorem Le.left {a b : Option (List Nat)} {n : Nat} (h : Le a n) : Le (shorter a b) n := by
  obtain ⟨m, rfl, hm⟩ := h
  cases b with
  | none => exact ⟨m, rfl, hm⟩
  | some b =>
    simp only [shorter]
    split
    · exact ⟨b, rfl, by omega⟩
    · exact ⟨m, rfl, hm⟩
theorem Le.right {a b : Option (List Nat)} {n : Nat} (h : Le b n) : Le (shorter a b) n := by
  obtain ⟨m, rfl, hm⟩ := h
  cases a with
  | none => exact ⟨m, rfl, hm⟩
  | some a =>
    simp only [shorter]
    split
    · exact ⟨m, rfl, hm⟩
    · exact ⟨a, rfl, by omega⟩
def Low (t y : List Nat) : Q3 → Prop
  | .out => Le (ifold y).1 t.length
  | .held => Le (ifold y).2 t.length
  | .esc => ∃ k, k + 1 = t.length ∧ Le (ifold y).2 k
theorem Rd.low {t y : List Nat} {q : Q3} (h : Rd t y q) : Low t y q := by
  induction h with
  | nil => exact ⟨[], rfl, Nat.le_refl _⟩
  | @out t y c _ h1 h2 ih =>
    show Le _ _
    rw [ifold_snoc]
    unfold istep
    rw [if_neg h2, if_neg h1]
    split <;> exact Le.more ih (by simp)
  | @quo t y _ ih =>
    show Le _ _
    rw [ifold_snoc]
    unfold istep
    rw [if_pos rfl]
    exact Le.left (Le.more ih (by simp))
  | @unq t y _ ih =>
    show Le _ _
    rw [ifold_snoc]
    unfold istep
    rw [if_pos rfl]
    exact Le.more ih (by simp)
  | @esc t y _ ih => exact ⟨t.length, by simp, ih⟩
  | @held t y c _ h1 h2 ih =>
    show Le _ _
    rw [ifold_snoc]
    unfold istep
    rw [if_neg h1, if_neg h2]
    split <;> exact Le.more ih (by simp)
  | @free t y c _ ih =>
    obtain ⟨k, hk, ih⟩ := ih
    show Le _ _
    rw [ifold_snoc]
    unfold istep
    rw [List.length_append, List.length_singleton]
    (repeat' split)
    · exact Le.right (Le.more ih (by simp; omega))
    · exact Le.more ih (by simp; omega)
    · exact Le.more ih (by simp; omega)
    · exact Le.more ih (by simp; omega)
theorem shorter_is {a b : Option (List Nat)} {m : List Nat} (h : shorter a b = some m) : a = some m ∨ b = some m := by
  cases a with
  | none => exact Or.inr h
  | some a =>
    cases b with
    | none => exact Or.inl h
    | some b =>
      simp only [shorter] at h
      split at h
      · exact Or.inr h
      · exact Or.inl h
theorem snoc_or (W : List (List Nat)) : W = [] ∨ ∃ A z, W = A ++ [z] := by
  rcases List.eq_nil_or_concat W with h | ⟨A, z, h⟩
  · exact Or.inl h
  · exact Or.inr ⟨A, z, by rw [h, List.concat_eq_append]⟩
theorem snoc_ind {P : List Nat → Prop} (h0 : P []) (h1 : ∀ l c, P l → P (l ++ [c])) (l : List Nat) : P l := by
  have : ∀ r : List Nat, P r.reverse := by
    intro r
    induction r with
    | nil => exact h0
    | cons c r ih => rw [List.reverse_cons]; exact h1 _ _ ih
  have h := this l.reverse
  rwa [List.reverse_reverse] at h
theorem map_is {o : Option (List Nat)} {w m : List Nat} (h : o.map (· ++ w) = some m) : ∃ m', o = some m' ∧ m = m' ++ w := by
  cases o with
  | none => cases h
  | some a => exact ⟨a, rfl, (Option.some.inj h).symm⟩
theorem ifold_reads (y : List Nat) : (∀ m, (ifold y).1 = some m → Rd m y .out) ∧ (∀ m, (ifold y).2 = some m → Rd m y .held) := by
  induction y using snoc_ind with
  | h0 =>
    refine ⟨fun m h => ?_, fun m h => by cases h⟩
    have : [] = m := Option.some.inj h
    rw [← this]; exact .nil
  | h1 y c ih =>
    rw [ifold_snoc]
    unfold istep
    by_cases h34 : c = 34
    · subst h34
      rw [if_pos rfl]
      refine ⟨fun m h => ?_, fun m h => ?_⟩
      · obtain ⟨m', e, rfl⟩ := map_is h
        exact .unq (ih.2 _ e)
      · rcases shorter_is h with h | h
        · obtain ⟨m', e, rfl⟩ := map_is h
          exact .quo (ih.1 _ e)
        · obtain ⟨m', e, rfl⟩ := map_is h
          have := Rd.free (c := 34) (.esc (ih.2 _ e))
          rwa [List.append_assoc] at this
    · rw [if_neg h34]
      by_cases h92 : c = 92
      · subst h92
        rw [if_pos rfl]
        refine ⟨fun m h => ?_, fun m h => ?_⟩
        · obtain ⟨m', e, rfl⟩ := map_is h
          exact .out (ih.1 _ e) (by decide) (by decide)
        · obtain ⟨m', e, rfl⟩ := map_is h
          have := Rd.free (c := 92) (.esc (ih.2 _ e))
          rwa [List.append_assoc] at this
      · rw [if_neg h92]
        by_cases h44 : c = 44
        · subst h44
          rw [if_pos rfl]
          refine ⟨fun m h => (by cases h), fun m h => ?_⟩
          obtain ⟨m', e, rfl⟩ := map_is h
          exact .held (ih.2 _ e) h34 h92
        · rw [if_neg h44]
          refine ⟨fun m h => ?_, fun m h => ?_⟩
          · obtain ⟨m', e, rfl⟩ := map_is h
            exact .out (ih.1 _ e) h44 h34
          · obtain ⟨m', e, rfl⟩ := map_is h
            exact .held (ih.2 _ e) h34 h92
def Q3.e : Q3 → Bool
  | .esc => true
  | _ => false
def Q3.q : Q3 → Bool
  | .out => false
  | _ => true
theorem Rd.fold {t y : List Nat} {q : Q3} (h : Rd t y q) (res : List (List Nat)) : t.foldl pstep ⟨[], false, false, res⟩ = ⟨y, q.e, q.q, res⟩ := by
  induction h with
  | nil => rfl
  | out _ h1 h2 ih => rw [List.foldl_append, ih]; simp [pstep, Q3.e, Q3.q, h1, h2]
  | quo _ ih => rw [List.foldl_append, ih]; simp [pstep, Q3.e, Q3.q]
  | unq _ ih => rw [List.foldl_append, ih]; simp [pstep, Q3.e, Q3.q]
  | esc _ ih => rw [List.foldl_append, ih]; simp [pstep, Q3.e, Q3.q]
  | held _ h1 h2 ih => rw [List.foldl_append, ih]; simp [pstep, Q3.e, Q3.q, h1, h2]
  | free _ ih => rw [List.foldl_append, ih]; simp [pstep, Q3.e, Q3.q]
/-! any text is cut into texts of items -/
def cost (y : List Nat) : Nat := olen (ifold y).1 + 1
def Cut (n : Nat) (st : PSt) : Prop := (∀ y ∈ st.res, (ifold y).1.isSome = true) ∧ ∃ t q, Rd t st.part q ∧ st.esc = q.e ∧ st.quo = q.q ∧ (st.res.map cost).sum + t.length ≤ n
theorem Cut.step {n : Nat} {st : PSt} (h : Cut n st) (c : Nat) : Cut (n + 1) (pstep st c) := by
  obtain ⟨part, esc, quo, res⟩ := st
  obtain ⟨h1, t, q, hr, he, hq, hn⟩ := h
  dsimp only at h1 hr he hq hn
  subst he hq
  have hn' : (res.map cost).sum + (t ++ [c]).length ≤ n + 1 := by rw [List.length_append, List.length_singleton]; omega
  cases q with
  | out =>
    simp only [Q3.e, Q3.q, pstep, Bool.false_eq_true, if_false]
    by_cases h44 : c = 44
    · subst h44
      rw [if_pos rfl]
      have hl : Le (ifold part).1 t.length := hr.low
      obtain ⟨m, hm, hml⟩ := hl
      refine ⟨?_, [], .out, .nil, rfl, rfl, ?_⟩
      · intro y hy
        rcases List.mem_append.mp hy with hy | hy
        · exact h1 y hy
        · rw [List.mem_singleton.mp hy, hm]; rfl
      · simp only [List.map_append, List.map_cons, List.map_nil, List.sum_append, List.sum_cons, List.sum_nil, List.length_nil]
        have hc : cost part = m.length + 1 := by unfold cost; rw [hm]; rfl
        omega
    · rw [if_neg h44]
      by_cases h34 : c = 34
      · subst h34
        rw [if_pos rfl]
        exact ⟨h1, _, .held, .quo hr, rfl, rfl, hn'⟩
      · rw [if_neg h34]
        exact ⟨h1, _, .out, .out hr h44 h34, rfl, rfl, hn'⟩
  | held =>
    simp only [Q3.e, Q3.q, pstep, Bool.false_eq_true, if_false, if_true]
    by_cases h92 : c = 92
    · subst h92
      rw [if_pos rfl]
      exact ⟨h1, _, .esc, .esc hr, rfl, rfl, hn'⟩
    · rw [if_neg h92]
      by_cases h34 : c = 34
      · subst h34
        rw [if_pos rfl]
        exact ⟨h1, _, .out, .unq hr, rfl, rfl, hn'⟩
      · rw [if_neg h34]
        exact ⟨h1, _, .held, .held hr h34 h92, rfl, rfl, hn'⟩
  | esc =>
    simp only [Q3.e, Q3.q, pstep, if_true]
    exact ⟨h1, _, .held, .free hr, rfl, rfl, hn'⟩
theorem pfold_cut (x : List Nat) : Cut x.length (pfold x) := by
  induction x using snoc_ind with
  | h0 => exact ⟨fun _ h => (nomatch h), [], .out, .nil, rfl, rfl, Nat.le_refl _⟩
  | h1 x c ih =>
    have e : pfold (x ++ [c]) = pstep (pfold x) c := by simp [pfold]
    rw [e, List.length_append, List.length_singleton]
    exact ih.step c
/-! trimming never makes an item's text longer -/
theorem sp34 : sp 34 = false := by decide +kernel
theorem sp44 : sp 44 = false := by decide +kernel
theorem sp92 : sp 92 = false := by decide +kernel
theorem sp_ne {c : Nat} (h : sp c = true) : c ≠ 34 ∧ c ≠ 92 ∧ c ≠ 44 := by
  refine ⟨?_, ?_, ?_⟩
  · rintro rfl; rw [sp34] at h; cases h
  · rintro rfl; rw [sp92] at h; cases h
  · rintro rfl; rw [sp44] at h; cases h
/-- at most as long, when there is one at all -/
def OLe (a b : Option (List Nat)) : Prop := ∀ n, Le b n → Le a n
theorem istep_sp (st : Option (List Nat) × Option (List Nat)) {c : Nat} (h : sp c = true) : istep st c = (st.1.map (· ++ [c]), st.2.map (· ++ [c])) := by
  obtain ⟨h1, h2, h3⟩ := sp_ne h
  unfold istep
  rw [if_neg h1, if_neg h2, if_neg h3]
theorem OLe.more (o : Option (List Nat)) (w : List Nat) : OLe o (o.map (· ++ w)) := by
  rintro n ⟨m, hm, hn⟩
  obtain ⟨m', rfl, rfl⟩ := map_is hm
  rw [List.length_append] at hn
  exact ⟨m', rfl, by omega⟩
theorem ifold_end {y : List Nat} {c : Nat} (h : sp c = true) : OLe (ifold y).1 (ifold (y ++ [c])).1 ∧ OLe (ifold y).2 (ifold (y ++ [c])).2 := by
  rw [ifold_snoc, istep_sp _ h]
  exact ⟨OLe.more _ _, OLe.more _ _⟩
def pre (w : List Nat) (st : Option (List Nat) × Option (List Nat)) : Option (List Nat) × Option (List Nat) := (st.1.map (w ++ ·), st.2.map (w ++ ·))
theorem pre_shorter (w : List Nat) (a b : Option (List Nat)) : shorter (a.map (w ++ ·)) (b.map (w ++ ·)) = (shorter a b).map (w ++ ·) := by
  cases a with
  | none => cases b <;> rfl
  | some a =>
    cases b with
    | none => rfl
    | some b =>
      simp only [shorter, Option.map_some, List.length_append]
      by_cases h : b.length < a.length
      · rw [if_pos h, if_pos (by omega)]; rfl
      · rw [if_neg h, if_neg (by omega)]; rfl
theorem pre_more (w v : List Nat) (a : Option (List Nat)) : (a.map (w ++ ·)).map (· ++ v) = (a.map (· ++ v)).map (w ++ ·) := by
  cases a <;> simp
theorem pre_istep (w : List Nat) (st : Option (List Nat) × Option (List Nat)) (c : Nat) : istep (pre w st) c = pre w (istep st c) := by
  unfold istep pre
  simp only [pre_more, pre_shorter]
  (repeat' split) <;> rfl
theorem pre_fold (w : List Nat) (l : List Nat) : ∀ st, l.foldl istep (pre w st) = pre w (l.foldl istep st) := by
  induction l with
  | nil => intro st; rfl
  | cons c l ih => intro st; rw [List.foldl_cons, List.foldl_cons, pre_istep, ih]
theorem ifold_start {y : List Nat} {c : Nat} (h : sp c = true) : ifold (c :: y) = pre [c] (ifold y) := by
  unfold ifold
  rw [List.foldl_cons, istep_sp _ h]
  exact pre_fold [c] y (some [], none)
theorem OLe.pre (o : Option (List Nat)) (w : List Nat) : OLe o (o.map (w ++ ·)) := by
  rintro n ⟨m, hm, hn⟩
  cases o with
  | none => cases hm
  | some a =>
    have e : w ++ a = m := Option.some.inj hm
    rw [← e, List.length_append] at hn
    exact ⟨a, rfl, by omega⟩
theorem ifold_drop (y : List Nat) : OLe (ifold (y.dropWhile sp)).1 (ifold y).1 ∧ OLe (ifold (y.dropWhile sp)).2 (ifold y).2 := by
  induction y with
  | nil => exact ⟨fun _ h => h, fun _ h => h⟩
  | cons c y ih =>
    by_cases h : sp c = true
    · rw [List.dropWhile_cons_of_pos h, ifold_start h]
      exact ⟨fun n hn => ih.1 n (OLe.pre _ _ n hn), fun n hn => ih.2 n (OLe.pre _ _ n hn)⟩
    · rw [List.dropWhile_cons_of_neg h]
      exact ⟨fun _ h => h, fun _ h => h⟩
theorem ifold_rdrop (r : List Nat) : OLe (ifold (r.dropWhile sp).reverse).1 (ifold r.reverse).1 ∧ OLe (ifold (r.dropWhile sp).reverse).2 (ifold r.reverse).2 := by
  induction r with
  | nil => exact ⟨fun _ h => h, fun _ h => h⟩
  | cons c r ih =>
    by_cases h : sp c = true
    · rw [List.dropWhile_cons_of_pos h, List.reverse_cons]
      have he := ifold_end (y := r.reverse) h
      exact ⟨fun n hn => ih.1 n (he.1 n hn), fun n hn => ih.2 n (he.2 n hn)⟩
    · rw [List.dropWhile_cons_of_neg h]
      exact ⟨fun _ h => h, fun _ h => h⟩
theorem ifold_trim (y : List Nat) : OLe (ifold (trim y)).1 (ifold y).1 ∧ OLe (ifold (trim y)).2 (ifold y).2 := by
  have h1 := ifold_drop y
  have h2 := ifold_rdrop (y.dropWhile sp).reverse
  rw [List.reverse_reverse] at h2
  exact ⟨fun n hn => h2.1 n (h1.1 n hn), fun n hn => h2.2 n (h1.2 n hn)⟩
/-! trim -/
theorem dropWhile_idem (l : List Nat) : (l.dropWhile sp).dropWhile sp = l.dropWhile sp := by
  induction l with
  | nil => rfl
  | cons c l ih =>
    by_cases h : sp c = true
    · rw [List.dropWhile_cons_of_pos h, ih]
    · rw [List.dropWhile_cons_of_neg h, List.dropWhile_cons_of_neg h]
/-- trimmed: no space at either end -/
theorem drop_rdrop (l : List Nat) (h : l.dropWhile sp = l) : ((l.reverse.dropWhile sp).reverse).dropWhile sp = (l.reverse.dropWhile sp).reverse := by
  cases l with
  | nil => rfl
  | cons c l =>
    have hc : ¬ sp c = true := by
      intro hc
      rw [List.dropWhile_cons_of_pos hc] at h
      have h1 := (List.dropWhile_sublist (l := l) sp).length_le
      rw [h, List.length_cons] at h1
      omega
    have key : ∀ r : List Nat, ((r ++ [c]).dropWhile sp) = (r.dropWhile sp) ++ [c] := by
      intro r
      induction r with
      | nil => rw [List.nil_append, List.dropWhile_cons_of_neg hc]; rfl
      | cons a r ih =>
        by_cases ha : sp a = true
        · rw [List.cons_append, List.dropWhile_cons_of_pos ha, List.dropWhile_cons_of_pos ha, ih]
        · rw [List.cons_append, List.dropWhile_cons_of_neg ha, List.dropWhile_cons_of_neg ha]; rfl
    rw [List.reverse_cons, key, List.reverse_append, List.reverse_singleton, List.singleton_append, List.dropWhile_cons_of_neg hc]
theorem trim_trim (l : List Nat) : trim (trim l) = trim l := by
  have h1 : (trim l).dropWhile sp = trim l := drop_rdrop _ (dropWhile_idem l)
  have h2 : trim (trim l) = ((trim l).reverse.dropWhile sp).reverse := by
    show (((trim l).dropWhile sp).reverse.dropWhile sp).reverse = _
    rw [h1]
  rw [h2]
  show ((trim l).reverse.dropWhile sp).reverse = trim l
  have h3 : (trim l).reverse = (l.dropWhile sp).reverse.dropWhile sp := by unfold trim; rw [List.reverse_reverse]
  rw [h3, dropWhile_idem, ← h3, List.reverse_reverse]
theorem trim_quo (l : List Nat) : trim (34 :: (l ++ [34])) = 34 :: (l ++ [34]) := by
  have h : ¬ sp 34 = true := by rw [sp34]; decide
  unfold trim
  rw [List.dropWhile_cons_of_neg h, ← List.cons_append, List.reverse_append, List.reverse_singleton, List.singleton_append, List.dropWhile_cons_of_neg h]
  simp
/-! lists of items -/
theorem jn_snoc (L : List (List Nat)) (e : List Nat) : jn (L ++ [e]) = (L.map (· ++ [44])).flatten ++ e := by
  induction L with
  | nil => rfl
  | cons a L ih =>
    cases L with
    | nil => simp [jn]
    | cons b L =>
      have : jn (a :: b :: L ++ [e]) = a ++ 44 :: jn (b :: L ++ [e]) := rfl
      rw [this, ih]
      simp
theorem texts_end (A : List (List Nat)) (z : List Nat) : texts (A ++ [z]) (A ++ [z]).length = A.map (item · false) ++ [item z true] := by
  unfold texts
  refine List.ext_getElem (by simp) ?_
  intro k h1 h2
  rw [List.length_map, List.length_range] at h1
  rw [List.length_append, List.length_singleton] at h1
  simp only [List.getElem_map, List.getElem_range, List.length_append, List.length_singleton]
  by_cases hk : k < A.length
  · have e1 : (A ++ [z]).getD k [] = A[k] := by
      rw [List.getD_eq_getElem?_getD, List.getElem?_append_left hk, List.getElem?_eq_getElem hk]; rfl
    rw [e1, List.getElem_append_left (by simpa using hk), List.getElem_map]
    congr 1
    exact decide_eq_false (by omega)
  · have hk' : k = A.length := by omega
    subst hk'
    have e1 : (A ++ [z]).getD A.length [] = z := by
      rw [List.getD_eq_getElem?_getD]; simp
    rw [e1]
    simp
theorem item_out {y m : List Nat} (h : item y false = some m) : trim y = y ∧ (ifold y).1 = some m := by
  unfold item at h
  split at h
  · rename_i ht; exact ⟨ht, by simpa using h⟩
  · cases h
theorem item_last {y m : List Nat} (h : item y true = some m) : trim y = y ∧ ((ifold y).1 = some m ∨ (ifold y).2 = some m) := by
  unfold item at h
  split at h
  · rename_i ht; exact ⟨ht, shorter_is (by simpa using h)⟩
  · cases h
/-- the text of items that all end outside quotes, each with its comma -/
def cm (A : List (List Nat)) : List Nat := (A.map fun y => (item y false).getD [] ++ [44]).flatten
theorem lst_snoc {A : List (List Nat)} {z m : List Nat} : lst (A ++ [z]) = some m ↔ (∀ y ∈ A, (item y false).isSome = true) ∧ (item z true).isSome = true ∧ m = cm A ++ ((item z true).getD [] ++ if z = [] then [44] else []) := by
  unfold lst
  rw [texts_end]
  have e1 : ((A.map (item · false) ++ [item z true]).map (·.getD [])) = A.map (fun y => (item y false).getD []) ++ [(item z true).getD []] := by simp
  have e2 : jn (A.map (fun y => (item y false).getD []) ++ [(item z true).getD []]) = cm A ++ (item z true).getD [] := by
    rw [jn_snoc, List.map_map]; rfl
  rw [e1, e2]
  have e3 : ((A ++ [z]).getLast? = some []) = (z = []) := by simp
  simp only [e3]
  by_cases ha : (A.map (item · false) ++ [item z true]).any (·.isNone) = true
  · rw [if_pos ha]
    refine ⟨fun h => (by cases h), fun ⟨h1, h2, h3⟩ => ?_⟩
    exfalso
    obtain ⟨o, ho, hn⟩ := List.any_eq_true.mp ha
    rcases List.mem_append.mp ho with ho | ho
    · obtain ⟨y, hy, rfl⟩ := List.mem_map.mp ho
      have := h1 y hy
      cases hx : item y false <;> simp_all
    · rw [List.mem_singleton.mp ho] at hn
      cases hx : item z true <;> simp_all
  · rw [if_neg ha]
    have hall : ∀ o ∈ (A.map (item · false) ++ [item z true]), o.isSome = true := by
      intro o ho
      cases o with
      | none => exact absurd (List.any_eq_true.mpr ⟨none, ho, rfl⟩) ha
      | some _ => rfl
    refine ⟨fun h => ⟨fun y hy => hall _ (List.mem_append_left _ (List.mem_map_of_mem hy)), hall _ (List.mem_append_right _ (List.mem_singleton.mpr rfl)), ?_⟩, fun ⟨h1, h2, h3⟩ => ?_⟩
    · rw [← Option.some.inj h, List.append_assoc]
    · rw [h3, List.append_assoc]
theorem lst_nil : lst [] = some [] := rfl
theorem cm_fold {A : List (List Nat)} (h : ∀ y ∈ A, (item y false).isSome = true) : ∀ res, (cm A).foldl pstep ⟨[], false, false, res⟩ = ⟨[], false, false, res ++ A⟩ := by
  induction A with
  | nil => intro res; simp [cm]
  | cons y A ih =>
    intro res
    obtain ⟨m, hm⟩ := Option.isSome_iff_exists.mp (h y (List.Mem.head _))
    have hr := ((ifold_reads y).1 m (item_out hm).2).fold res
    have e : cm (y :: A) = m ++ ([44] ++ cm A) := by
      simp [cm, hm]
    rw [e, List.foldl_append, hr, List.foldl_append]
    have e2 : [44].foldl pstep ⟨y, Q3.out.e, Q3.out.q, res⟩ = ⟨[], false, false, res ++ [y]⟩ := rfl
    rw [e2, ih (fun z hz => h z (List.mem_cons_of_mem _ hz)), List.append_assoc]
    rfl
theorem lst_reads {W : List (List Nat)} {m : List Nat} (h : lst W = some m) : parse m = W := by
  rcases snoc_or W with rfl | ⟨A, z, rfl⟩
  · rw [lst_nil] at h
    rw [← Option.some.inj h]; rfl
  · obtain ⟨h1, h2, h3⟩ := lst_snoc.mp h
    obtain ⟨u, hu⟩ := Option.isSome_iff_exists.mp h2
    obtain ⟨htz, hz⟩ := item_last hu
    have hA : A.map trim = A := by
      have : A.map trim = A.map id := List.map_congr_left fun y hy => by
        obtain ⟨v, hv⟩ := Option.isSome_iff_exists.mp (h1 y hy)
        exact (item_out hv).1
      rwa [List.map_id] at this
    rw [hu, Option.getD_some] at h3
    have hq : ∃ q, Rd u z q := by
      rcases hz with hz | hz
      · exact ⟨_, (ifold_reads z).1 _ hz⟩
      · exact ⟨_, (ifold_reads z).2 _ hz⟩
    obtain ⟨q, hq⟩ := hq
    unfold parse pfold
    rw [h3, List.foldl_append, cm_fold h1, List.foldl_append, hq.fold, List.nil_append]
    by_cases hz0 : z = []
    · subst hz0
      rw [if_pos rfl]
      have e0 : (ifold ([] : List Nat)) = (some [], none) := rfl
      have hu0 : u = [] := by
        rcases hz with hz | hz
        · rw [e0] at hz; exact (Option.some.inj hz).symm
        · rw [e0] at hz; cases hz
      subst hu0
      have hqo : q = .out := by
        have := hq.fold []
        cases q with
        | out => rfl
        | held => cases this
        | esc => cases this
      subst hqo
      show (A ++ [[]]).map trim = A ++ [[]]
      rw [List.map_append, hA]; rfl
    · rw [if_neg hz0]
      show (if z.isEmpty = true then A else A ++ [z]).map trim = A ++ [z]
      have hz1 : ¬ z.isEmpty = true := by simpa using hz0
      rw [if_neg hz1, List.map_append, hA, List.map_singleton, htz]
theorem cm_len {R : List (List Nat)} (h : ∀ y ∈ R, (ifold y).1.isSome = true) : (∀ y ∈ R.map trim, (item y false).isSome = true) ∧ (cm (R.map trim)).length ≤ (R.map cost).sum := by
  induction R with
  | nil => exact ⟨fun _ h => (nomatch h), Nat.le_refl _⟩
  | cons y R ih =>
    obtain ⟨i1, i2⟩ := ih fun z hz => h z (List.mem_cons_of_mem _ hz)
    obtain ⟨u, hu⟩ := Option.isSome_iff_exists.mp (h y (List.Mem.head _))
    obtain ⟨v, hv, hl⟩ := (ifold_trim y).1 u.length ⟨u, hu, Nat.le_refl _⟩
    have hi : item (trim y) false = some v := by unfold item; rw [if_pos (trim_trim y)]; simpa using hv
    refine ⟨?_, ?_⟩
    · intro z hz
      rcases List.mem_cons.mp hz with rfl | hz
      · rw [hi]; rfl
      · exact i1 z hz
    · have e : cm ((y :: R).map trim) = v ++ ([44] ++ cm (R.map trim)) := by simp [cm, hi]
      have hc : cost y = u.length + 1 := by unfold cost; rw [hu]; rfl
      rw [e, List.map_cons, List.sum_cons, hc, List.length_append, List.length_append, List.length_singleton]
      omega
theorem Rd.len {t y : List Nat} {q : Q3} (h : Rd t y q) : y.length ≤ t.length := by
  induction h <;> (try simp only [List.length_append, List.length_singleton]) <;> (first | omega | exact Nat.le_refl _)
theorem item_true {y : List Nat} {n : Nat} (h : Le (ifold y).1 n ∨ Le (ifold y).2 n) : Le (item (trim y) true) n := by
  unfold item
  rw [if_pos (trim_trim y), if_pos rfl]
  rcases h with h | h
  · exact Le.left ((ifold_trim y).1 n h)
  · exact Le.right ((ifold_trim y).2 n h)
theorem item_nil : item [] true = some [] := rfl
/-- no text that reads to these items is shorter than the listed one -/
theorem lst_least (x : List Nat) : ∃ m, lst (parse x) = some m ∧ m.length ≤ x.length := by
  obtain ⟨h1, t, q, hr, _, _, hn⟩ := pfold_cut x
  unfold parse
  generalize (pfold x).part = part at *
  generalize (pfold x).res = res at *
  by_cases hp : part.isEmpty = true
  · rw [if_pos hp]
    rcases snoc_or res with rfl | ⟨R, y, rfl⟩
    · exact ⟨[], rfl, Nat.zero_le _⟩
    · obtain ⟨i1, i2⟩ := cm_len (R := R) fun z hz => h1 z (List.mem_append_left _ hz)
      obtain ⟨u, hu⟩ := Option.isSome_iff_exists.mp (h1 y (List.mem_append_right _ (List.mem_singleton.mpr rfl)))
      have hc : cost y = u.length + 1 := by unfold cost; rw [hu]; rfl
      obtain ⟨v, hv, hl⟩ := item_true (y := y) (n := u.length) (Or.inl ⟨u, hu, Nat.le_refl _⟩)
      rw [List.map_append, List.map_singleton]
      refine ⟨_, lst_snoc.mpr ⟨i1, by rw [hv]; rfl, rfl⟩, ?_⟩
      rw [hv, List.length_append, List.length_append, Option.getD_some]
      have h6 : (if trim y = [] then [44] else []).length ≤ 1 := by split <;> simp
      rw [List.map_append, List.map_singleton, List.sum_append, List.sum_singleton, hc] at hn
      omega
  · rw [if_neg hp, List.map_append, List.map_singleton]
    obtain ⟨i1, i2⟩ := cm_len h1
    have hl0 : 1 ≤ part.length := by
      cases part with
      | nil => exact absurd rfl hp
      | cons _ _ => simp
    have hlen := hr.len
    have hlow := hr.low
    have hor : Le (ifold part).1 t.length ∨ Le (ifold part).2 t.length := by
      cases q with
      | out => exact Or.inl hlow
      | held => exact Or.inr hlow
      | esc =>
        obtain ⟨k, hk, hlow⟩ := hlow
        exact Or.inr (hlow.mono (by omega))
    obtain ⟨v, hv, hl⟩ := item_true hor
    refine ⟨_, lst_snoc.mpr ⟨i1, by rw [hv]; rfl, rfl⟩, ?_⟩
    by_cases hz : trim part = []
    · rw [if_pos hz]
      rw [hz, item_nil] at hv
      have e : [] = v := Option.some.inj hv
      rw [hz, item_nil, List.length_append, List.length_append, Option.getD_some, List.length_nil, List.length_singleton]
      omega
    · rw [if_neg hz, hv, Option.getD_some, List.length_append, List.length_append, List.length_nil]
      omega
/-! the wished items can all be written -/
theorem held_keeps (l : List Nat) : ∀ st : Option (List Nat) × Option (List Nat), st.2.isSome = true → (l.foldl istep st).2.isSome = true := by
  induction l with
  | nil => intro st h; exact h
  | cons c l ih =>
    intro st h
    rw [List.foldl_cons]
    refine ih _ ?_
    obtain ⟨a, b⟩ := st
    cases b with
    | none => cases h
    | some b =>
      unfold istep
      (repeat' split)
      · cases a <;> simp only [Option.map_some, Option.map_none, shorter]
        · rfl
        · split <;> rfl
      · rfl
      · rfl
      · rfl
theorem quo_out (l : List Nat) : (ifold (34 :: (l ++ [34]))).1.isSome = true := by
  have e : ifold (34 :: (l ++ [34])) = istep (l.foldl istep (none, some [34])) 34 := by
    unfold ifold
    rw [List.foldl_cons, List.foldl_append]
    rfl
  have h := held_keeps l (none, some [34]) rfl
  rw [e]
  generalize l.foldl istep (none, some [34]) = st at *
  unfold istep
  rw [if_pos rfl]
  simpa using h
theorem item_quo (l : List Nat) (b : Bool) : (item (34 :: (l ++ [34])) b).isSome = true := by
  obtain ⟨m, hm⟩ := Option.isSome_iff_exists.mp (quo_out l)
  unfold item
  rw [if_pos (trim_quo l)]
  cases b with
  | false => simpa using quo_out l
  | true =>
    obtain ⟨v, hv, _⟩ := Le.left (b := (ifold (34 :: (l ++ [34]))).2) ⟨m, hm, Nat.le_refl _⟩
    rw [if_pos rfl, hv]
    rfl
theorem wish_get (ts : List (List Nat)) {k : Nat} (hk : k < ts.length) : (wish ts ts.length).getD k [] = wish1 ts k := by
  unfold wish
  rw [List.getD_eq_getElem?_getD]
  simp [hk]
theorem wish_lst (ts : List (List Nat)) : ∃ wr, lst (wish ts ts.length) = some wr := by
  unfold lst
  rw [if_neg]
  · exact ⟨_, rfl⟩
  · intro ha
    obtain ⟨o, ho, hn⟩ := List.any_eq_true.mp ha
    unfold texts at ho
    obtain ⟨k, hk, rfl⟩ := List.mem_map.mp ho
    rw [List.mem_range, wish_count] at hk
    rw [wish_count, wish_get ts hk] at hn
    unfold wish1 at hn
    split at hn
    · have := item_quo (ts.getD k []) (decide (k + 1 = ts.length))
      rw [Option.isNone_iff_eq_none] at hn
      rw [hn] at this
      cases this
    · rename_i h; exact h hn
theorem plain : PL where
  a := plain_a
  b := fun x => by
    obtain ⟨m, h1, h2⟩ := lst_least x
    exact ⟨m, h1, h2, lst_reads h1⟩
  c := fun ts => by
    obtain ⟨wr, h1⟩ := wish_lst ts
    refine ⟨wr, h1, lst_reads h1, fun k hk e => ?_⟩
    obtain ⟨m, h2, h3⟩ := lst_least (wr.take k ++ wr.drop (k + 1))
    rw [e, h1] at h2
    rw [← Option.some.inj h2, List.length_append, List.length_take, List.length_drop] at h3
    omega
end Mine
namespace Mine
local macro_rules | `(tactic| walk_at "compareOp NotEq ref ref") => `(tactic| k_extra "compareOp NotEq ref ref")
local macro_rules | `(tactic| walk_at "compareOp Eq ref ref") => `(tactic| k_extra "compareOp Eq ref ref")
local macro_rules | `(tactic| walk_at "call ref") => `(tactic| k_extra "call ref")
local macro_rules | `(tactic| walk_at "call builtin:len") => `(tactic| k_extra "call builtin:len")
local macro_rules | `(tactic| walk_at "call builtin:str.join") => `(tactic| k_extra "call builtin:str.join")
local macro_rules | `(tactic| walk_at "call builtin:str.split") => `(tactic| k_extra "call builtin:str.split")
local macro_rules | `(tactic| walk_at "exec For Name Call cons nil") => `(tactic| k_extra "exec For Name Call cons nil")
local macro_rules | `(tactic| walk_at "call type:range") => `(tactic| k_extra "call type:range")
local macro_rules | `(tactic| walk_at "subscriptTail Name Slice str ref") => `(tactic| k_extra "subscriptTail Name Slice str ref")
local macro_rules | `(tactic| walk_at "binaryOp Add str str") => `(tactic| k_extra "binaryOp Add str str")
local macro_rules | `(tactic| walk_at "eval ListComp") => `(tactic| k_extra "eval ListComp")
local macro_rules | `(tactic| walk_at "pyIter ref") => `(tactic| k_extra "pyIter ref")
set_option maxRecDepth 100000 in
set_option maxHeartbeats 8000000 in
theorem t1 : PySem.Challenge.rw_dz0129_01.Holds := hd (by
  k_with_none
  w_top off
  k_go0
  (all_goals try k_fold)
  k_with "eval ListComp" => (k_dflt (refine LCg.ListComp_U (F₀ := by k_asm) (by rfl) (by decide) (by rfl) (by decide) (by rfl) ?_))
  iterate 20 (first | (k_unfold; (try dsimp only)) | (k_end; wrow_close) | walk1 | (dsimp only; walk1) | (leave1; try dsimp only))
  rename IntsAre _ _ => hI2
  have hlen := IntsAre.length hI2
  rename (¬ _ < _) => h63
  rename (List.length (List.take _ _) = min _ _) => htk
  k_dflt (refine LCg.CompSrc.ledger rfl (by assumption) (by assumption) (List.Mem.head _) (by simp only [sizeLine, List.size_toArray]; omega) ?_)
  intro g₁
  refine comp_gen (fun i ys => SignsAre i ys) .nil ?_ ?_
  · intro i ys v I oI C oC D m₂ h tk E' hi hv hG hC hx F N off ne
    obtain ⟨k, t, rfl, hk⟩ := IntsAre.at hI2 i v (by simpa using hv)
    k_with "call ref" => (k_dflt (refine' Tel.use (tel_sign _ _) ?k1 ?k2 ?k3 ?k4 ?k5 ?kK trivial ?kd ?ku ?_; (case k1 => k_asm); (case k2 => k_asm); (case k3 => k_asm); (case k4 => k_asm); (case k5 => k_asm); (case kK => first | exact rfl | assumption); (case kd => ktr_room); (case ku => ktr_units); intro r tl h' tk' F' N' hq; obtain ⟨rfl, c', t', rfl, hc'⟩ := hq; simp only [List.nil_append] at N'))
    k_steps
    exact LCg.CompEnd.intro (by assumption) (by assumption) _ (fun p hp => hp) off (Or.inr ⟨_, List.Mem.head _, rfl, _, rfl⟩) ⟨rfl, hG.snoc hc'⟩
  · intro ys hys
    unfold LCg.FinE
    intro D h tk F N o1
    dsimp only
    obtain ⟨ls, hls, hll, hl1⟩ := hys
    have hx63 : ls.flatten.length ≤ 63 := by
      have h1 := flatten_len hl1
      rw [List.size_toArray] at hll
      omega
    obtain ⟨x, hxe⟩ : ∃ x, x = ls.flatten := ⟨_, rfl⟩
    rw [← hxe] at hx63
    obtain ⟨mm, hlst1, hmlen, hmp⟩ := plain.b x
    have hp1 : (parse x).length ≤ 100 := by have := parse_count x; omega
    have hp2 : ∀ i ∈ parse x, i.length ≤ 100 := fun i hi => by have := parse_short hi; omega
    k_with "call builtin:str.join" => (k_dflt (refine' join0_led (ls := ls) ?k1 (List.Mem.head _) hls ?k4 ?k5 ?_; (case k1 => k_asm); (case k4 => (rw [List.size_toArray] at hll; omega)); (case k5 => (intro l hl; have := hl1 l hl; omega)); intro t' k'; rw [← hxe]))
    k_with "call ref" => first
      | (k_dflt (refine' Tel.use (tel_parse _ _ ?kz) ?k1 ?k2 ?k3 ?k4 ?k5 ?kK trivial ?kd ?ku ?_; (case k1 => k_asm); (case k2 => k_asm); (case k3 => k_asm); (case k4 => k_asm); (case k5 => k_asm); (case kz => first | omega | (simp only [List.length_append, List.length_take, List.length_drop]; omega)); (case kK => first | exact rfl | assumption); (case kd => ktr_room); (case ku => ktr_units); intro r tl h' tk' F' N' hq; obtain ⟨b', us', n', rfl, rfl, hus'⟩ := hq; simp only [List.cons_append, List.nil_append] at N'))
      | (k_dflt (refine' Tel.use (tel_read _ _ ?kz) ?k1 ?k2 ?k3 ?k4 ?k5 ?kK trivial ?kd ?ku ?_; (case k1 => k_asm); (case k2 => k_asm); (case k3 => k_asm); (case k4 => k_asm); (case k5 => k_asm); (case kz => first | omega | (simp only [List.length_append, List.length_take, List.length_drop]; omega)); (case kK => first | exact rfl | assumption); (case kd => ktr_room); (case ku => ktr_units); intro r tl h' tk' F' N' hq; obtain ⟨b', us', n', rfl, rfl, hus'⟩ := hq; simp only [List.cons_append, List.nil_append] at N'))
      | (k_dflt (refine' Tel.use (tel_list _ _ _ _ ?hs ?hz1 ?hz2) ?k1 ?k2 ?k3 ?k4 ?k5 ?kK ?hP ?kd ?ku ?_; (case k1 => k_asm); (case k2 => k_asm); (case k3 => k_asm); (case k4 => k_asm); (case k5 => k_asm); (case hP => (repeat' (first | exact List.Mem.head _ | refine List.mem_cons_of_mem _ ?_))); (case hs => assumption); (case hz1 => assumption); (case hz2 => assumption); (case kK => first | exact rfl | assumption); (case kd => ktr_room); (case ku => ktr_units); intro r tl h' tk' F' N' hq; obtain ⟨rfl, t', hr⟩ := hq; (first | rw [hlst1] at hr | rw [hlst2] at hr); simp only [ov] at hr; subst hr; simp only [List.nil_append] at N'))
      | (k_dflt (refine' Tel.use (tel_wished _ _ _ _ ?hs ?hz1 ?hz2) ?k1 ?k2 ?k3 ?k4 ?k5 ?kK ?hP ?kd ?ku ?_; (case k1 => k_asm); (case k2 => k_asm); (case k3 => k_asm); (case k4 => k_asm); (case k5 => k_asm); (case hP => (repeat' (first | exact List.Mem.head _ | refine List.mem_cons_of_mem _ ?_))); (case hs => assumption); (case hz1 => omega); (case hz2 => (intro i hi; have := hts2 i hi; omega)); (case kK => first | exact rfl | assumption); (case kd => ktr_room); (case ku => ktr_units); intro r tl h' tk' F' N' hq; obtain ⟨b', us', n', rfl, rfl, hus'⟩ := hq; simp only [List.cons_append, List.nil_append] at N'))
    k_with "compareOp NotEq ref ref" => (k_dflt (refine' ne_lists_f (News.isList (by k_asm) ?m1) ?s1 (News.isList (by k_asm) ?m2) ?s2 ?u ?he ?_; (case m1 => (repeat' (first | exact List.Mem.head _ | refine List.mem_cons_of_mem _ ?_))); (case s1 => assumption); (case m2 => (repeat' (first | exact List.Mem.head _ | refine List.mem_cons_of_mem _ ?_))); (case s2 => assumption); (case u => units_room); (case he => first | exact plain.a _ | exact hmp)))
    k_with "call builtin:len" => (refine len_tx_call (by omega) ?_; intro t' k')
    k_with "call builtin:str.split" => ((rename Fr _ _ _ _ => F'); (rename News _ _ _ _ => N'); (refine split_led F' N' hx63 ?_); (intro l vs n ts h' k hts hts1 hts2 F'' N''); (obtain ⟨wr, hlst2, hwp, hwk⟩ := plain.c ts); (have hw1 : (wish ts ts.length).length ≤ 100 := (by rw [wish_count]; omega)); (have hw2 : ∀ i ∈ wish ts ts.length, i.length ≤ 100 := (fun i hi => by have := wish_short hts2 hi; omega)); (have hwl : wr.length ≤ 10000 := (by have h1 := lst_len hlst2 (fun i hi => wish_short hts2 hi); rw [wish_count] at h1; have h2 := Nat.mul_le_mul_right (2 * (63 + 2)) hts1; omega)))
    k_with "exec For Name Call cons nil" => (k_here; (rename Fr _ _ _ _ => lF'); (with_unfolding_all refine' For_invVF lF' ?k1 ?k2 ?_; (case k1 => exact rfl); (case k2 => exact rfl); k_whole))
    k_with "compareOp Eq ref ref" => (k_dflt (first
      | (refine' eq_lists_t (News.isList (by k_asm) ?m1) ?s1 (News.isList (by k_asm) ?m2) ?s2 ?u ?he ?_; (case m1 => (repeat' (first | exact List.Mem.head _ | refine List.mem_cons_of_mem _ ?_))); (case s1 => assumption); (case m2 => (repeat' (first | exact List.Mem.head _ | refine List.mem_cons_of_mem _ ?_))); (case s2 => assumption); (case u => units_room); (case he => exact hwp))
      | (refine' eq_lists_f (News.isList (by k_asm) ?m1) ?s1 (News.isList (by k_asm) ?m2) ?s2 ?u ?he ?_; (case m1 => (repeat' (first | exact List.Mem.head _ | refine List.mem_cons_of_mem _ ?_))); (case s1 => assumption); (case m2 => (repeat' (first | exact List.Mem.head _ | refine List.mem_cons_of_mem _ ?_))); (case s2 => assumption); (case u => units_room); (case he => exact hwk _ hkk))))
    k_with "pyIter ref" => (fail "here")
    k_with "call type:range" => ((rename Fr _ _ _ _ => F'); (rename News _ _ _ _ => N'); (refine range3_rows F' N' (by rw [step_eq]; omega) ?_ (Or.inl (PyProof.noPylong_small (by rw [step_eq]; omega)))); intro h' tk' t₁ u₁ v₁ hR F'' N'' ho')
    repeat (first | (k_unfold; (try dsimp only)) | (k_end; wrow_close) | walk1 | (dsimp only; walk1) | (leave1; try dsimp only))
    rename IsRange _ _ _ _ _ _ _ _ => hR
    obtain ⟨nn, hn, hnk, hsm⟩ := scan_facts (len := wr.length) (c := wr.length / 6 + 1) (by omega) (by omega) (by omega)
    rw [← step_eq] at hn hsm
    refine scan_range rfl (step_eq _) hR hsm hn F'' N'' ?_ ?_
    · intro i t h tk own hi F N
      have hkk := hnk i hi
      generalize hk : i * (wr.length / 6 + 1) = kk at F hkk
      clear hR F'' N''
      simp only [List.cons_append, List.nil_append] at N
      k_with "subscriptTail Name Slice str ref" => ((with_reducible rename Fr _ _ _ _ => F'); (with_reducible rename News _ _ _ _ => N'); (first | (refine slice_tx_ns (s := ⟨_, _, _, _, _⟩) (by omega) (by omega) F' N' ?_) | (refine slice_tx_sn (a := kk + 1) (s := ⟨_, _, _, _, _⟩) (by push_cast; rfl) (by omega) (by omega) F' N' ?_)); (intro h' t' k' F4 N4))
      k_with "binaryOp Add str str" => (refine add_tx (by simp only [List.length_take, List.length_drop]; omega) ?_; intro t' k')
      repeat (first | (k_unfold; (try dsimp only)) | (k_end; wrow_close) | walk1 | (dsimp only; walk1) | (leave1; try dsimp only))
    · intro u h tk F N
      clear hR F'' N''
      dsimp only
      repeat (first | (k_unfold; (try dsimp only)) | walk1 | (dsimp only; walk1) | (leave1; try dsimp only))
      k_end
      kc_close)
end Mine
theorem PySem.Challenge.cw_dz0129_01_holds : PySem.Challenge.rw_dz0129_01.Holds :=
  Mine.t1
